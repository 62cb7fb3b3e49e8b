/-
  A NOTE IS COPIED: the walk of laws.conv.
-/
import Derived.Test.YtnnbhklkakhkkaaDoorSmallG
namespace Go.Proofs.YtnnbhklkakhkkaaDoor
open Go.RowKit Go.Lib

theorem sigs_sl (A : Option Addr) (n c : Nat) (l : List SV) (w : World) (hs : Sl w w.heap.size 3 A n (encAll SV.cells l)) (hn : n ≤ 2147483648) :
    Calls Tryd.prog 34 #[.slice A n c] w fun e w' => ∃ A' c', e = .returned (.slice A' n c') ∧ Sl w' w'.heap.size 3 A' n (encAll SV.cells l) ∧ (∀ a, A' = some a → w.heap.size ≤ a.block) ∧ Below w.heap.size w w' :=
  (sigs_any A n c l w hs hn).mono fun e w' h => by
    obtain ⟨v, rfl, hown, hb⟩ := h
    have h0 := hown
    rcases hown.2 with ⟨rfl, h1⟩ | ⟨g, cap, cur, rfl, hB, _⟩
    · exact ⟨none, 0, by rw [h1], Sl.of_own (base := w.heap.size) (e := 64) (c := 0) (by rw [h1] at h0 ⊢; exact h0), fun a h => by (cases h), hb⟩
    · exact ⟨some ⟨g, 0, none⟩, cap, rfl, Sl.of_own (base := w.heap.size) (e := 64) (c := cap) h0, fun a h => by injection h with h; rw [← h]; exact hB, hb⟩
theorem Sl.set {w : World} {B size n : Nat} {A : Option Addr} {cs : List Value} {p : Addr} {v : Value} (h : Sl w B size A n cs) (ha : ∀ a, A = some a → a.block ≠ p.block) : Sl (w.setCell p v) B size A n cs :=
  ⟨h.1, fun hn => by
    obtain ⟨b, o, e, hb, hc⟩ := h.2 hn
    refine ⟨b, o, e, hb, hc.keep fun j => ?_⟩
    unfold World.cell?
    rw [Below.heap_setCell _ _ _ _ (ha _ e)]⟩
theorem set_bs {w0 w : World} {p : Addr} {u : Value} (hp : w0.heap.size ≤ p.block) (h : Below w0.heap.size w0 w) : Below w0.heap.size w0 (w.setCell p u) := h.setCell hp u
theorem undrew' {B : Nat} {w w' : World} (h : Below B w.drew w') : Below B w w' := ⟨h.os, h.tape, h.output, h.size, h.block⟩

/-- what conv leaves -/
def CPost (w : World) (text : ByteArray) (n1 n2 : Nat) (l1 l2 : List SV) (e : Ending) (w' : World) : Prop :=
  ∃ B1 d1 B2 d2, e = .returned (.agg #[.string text, .slice B1 n1 d1, .slice B2 n2 d2]) ∧ Sl w' w'.heap.size 3 B1 n1 (encAll SV.cells l1) ∧ Sl w' w'.heap.size 3 B2 n2 (encAll SV.cells l2) ∧ Below w.heap.size w w'

set_option maxHeartbeats 4000000 in
set_option maxRecDepth 100000 in
theorem conv_any (n1 c1 n2 c2 : Nat) (A1 A2 : Option Addr) (text : ByteArray) (l1 l2 : List SV) (w : World) (hs1 : Sl w w.heap.size 3 A1 n1 (encAll SV.cells l1)) (hs2 : Sl w w.heap.size 3 A2 n2 (encAll SV.cells l2))
    (hn1 : n1 ≤ 2147483647) (hn2 : n2 ≤ 2147483647) : Calls Tryd.prog 17 #[.agg #[.string text, .slice A1 n1 c1, .slice A2 n2 c2]] w (CPost w text n1 n2 l1 l2) := by
  have hn1' : n1 ≤ 2147483648 := by omega
  have hn2' : n2 ≤ 2147483648 := by omega
  go_enter Tryd.func17, Tryd.ntmps17
  go_upto_region 1 with (fail)
  have hr1 := heap_alloc_new w (.cells #[.string text, .slice A1 n1 c1, .slice A2 n2 c2] 37)
  have hb1 : Below w.heap.size w (w.alloc (.cells #[.string text, .slice A1 n1 c1, .slice A2 n2 c2] 37)) := (Below.refl _ _).alloc (Nat.le_refl _) _
  have hsz : (w.alloc (.cells #[.string text, .slice A1 n1 c1, .slice A2 n2 c2] 37)).heap.size = w.heap.size + 1 := by simp
  rw [← hsz]
  generalize w.alloc (.cells #[.string text, .slice A1 n1 c1, .slice A2 n2 c2] 37) = w1 at *
  have hb12 : Below w1.heap.size w1 (w1.alloc (.cells #[.string ⟨#[]⟩, .slice none 0 0, .slice none 0 0] 29)) := (Below.refl _ _).alloc (Nat.le_refl _) _
  have hr2 := heap_alloc_new w1 (.cells #[.string ⟨#[]⟩, .slice none 0 0, .slice none 0 0] 29)
  have hlt1 : w.heap.size < w1.heap.size := by omega
  have hsz2 : (w1.alloc (.cells #[.string ⟨#[]⟩, .slice none 0 0, .slice none 0 0] 29)).heap.size = w1.heap.size + 1 := by simp
  have hr1' := (hb12.block _ hlt1).trans hr1
  generalize w1.alloc (.cells #[.string ⟨#[]⟩, .slice none 0 0, .slice none 0 0] 29) = w2 at *
  have hb02 := hb1.trans (hb12.mono hb1.size)
  have H1 := Lib.hid (far_b hs1 hb02)
  have H2 := Lib.hid (far_b hs2 hb02)
  have hl1 : w.heap.size < w2.heap.size := by omega
  have hl2 : w1.heap.size < w2.heap.size := by omega
  have hne : w.heap.size ≠ w1.heap.size := by omega
  have q0 : w2.cell? ⟨w.heap.size, 0, none⟩ = some (.string text) := cell_of_row _ _ 0 _ _ _ hr1'
  have q1 : w2.cell? ⟨w.heap.size, 1, none⟩ = some (.slice A1 n1 c1) := cell_of_row _ _ 1 _ _ _ hr1'
  have q2 : w2.cell? ⟨w.heap.size, 2, none⟩ = some (.slice A2 n2 c2) := cell_of_row _ _ 2 _ _ _ hr1'
  have HR1 := Lib.hid hr1'
  have HR2 := Lib.hid hr2
  have Hb02 := Lib.hid hb02
  have hS : ∀ {w'}, Below w1.heap.size w1 w' → (w'.cell? ⟨w.heap.size, 0, none⟩ = some (.string text) ∧ w'.cell? ⟨w.heap.size, 1, none⟩ = some (.slice A1 n1 c1) ∧ w'.cell? ⟨w.heap.size, 2, none⟩ = some (.slice A2 n2 c2)) ∧ Below w1.heap.size w1 w' := fun hb =>
    ⟨⟨cell_of_row _ _ 0 _ _ _ ((hb.block _ hlt1).trans hr1), cell_of_row _ _ 1 _ _ _ ((hb.block _ hlt1).trans hr1), cell_of_row _ _ 2 _ _ _ ((hb.block _ hlt1).trans hr1)⟩, hb⟩
  clear hs1 hs2 hr1' hr2 hb1 hb02 hsz hsz2
  go_region_held3 (fun w' => (w'.cell? ⟨w.heap.size, 0, none⟩ = some (.string text) ∧ w'.cell? ⟨w.heap.size, 1, none⟩ = some (.slice A1 n1 c1) ∧ w'.cell? ⟨w.heap.size, 2, none⟩ = some (.slice A2 n2 c2)) ∧ Below w1.heap.size w1 w')
    ((refine hS ?_
      repeat first | exact Below.refl _ _ | assumption | apply Below.drew | apply alloc_bs | refine set_bs (Nat.le_refl _) ?_))
    (first
    | (go_at_call 34
       with_reducible refine (sigs_sl A1 n1 c1 l1 _ ?_ hn1').mono ?_
       · exact H1.out
       rintro e wa ⟨B1, d1, rfl, hsB1, hB1, hba⟩
       first
         | have hba2 : Below w2.heap.size w2 wa := hba
         | have hba2 : Below w2.heap.size w2 wa := undrew' hba
         | have hba2 : Below w2.heap.size w2 wa := undrew' (undrew' hba)
       have ra2 := (hba2.block _ hl2).trans HR2.out
       have Ra2 := Lib.hid ra2
       have HsB1 := Lib.hid hsB1
       have HB1 : Hid (∀ a, B1 = some a → w2.heap.size ≤ a.block) := Lib.hid hB1
       have Hba2 := Lib.hid hba2
       have hla2 : w1.heap.size < wa.heap.size := Nat.lt_of_lt_of_le hl2 hba2.size
       have hwa : Below w1.heap.size w1 wa := hb12.trans (hba2.mono hb12.size)
       clear ra2 hsB1 hB1 hba)
    | (go_at_call 34
       with_reducible refine (sigs_sl A2 n2 c2 l2 _ ?_ hn2').mono ?_
       · refine far_b H2.out ?_
         repeat first | exact Below.refl _ _ | assumption | apply Below.drew | apply alloc_bs
       rintro e wb ⟨B2, d2, rfl, hsB2, hB2, hbb⟩
       first
         | have hbb2 : Below wa.heap.size wa wb := hbb
         | have hbb2 : Below wa.heap.size wa wb := undrew' hbb
         | have hbb2 : Below wa.heap.size wa wb := undrew' (undrew' hbb)
       have rb2 := (hbb2.block _ hla2).trans Ra2.out
       have HsB2 := Lib.hid hsB2
       have HB2 : Hid (∀ a, B2 = some a → wa.heap.size ≤ a.block) := Lib.hid hB2
       have t0 : wb.cell? ⟨w1.heap.size, 0, none⟩ = some (.string ⟨#[]⟩) := cell_of_row _ _ 0 _ _ _ rb2
       have t1 : wb.cell? ⟨w1.heap.size, 1, none⟩ = some (.slice none 0 0) := cell_of_row _ _ 1 _ _ _ rb2
       have t2 : wb.cell? ⟨w1.heap.size, 2, none⟩ = some (.slice none 0 0) := cell_of_row _ _ 2 _ _ _ rb2
       have z0 : wb.frozen? ⟨w1.heap.size, 0, none⟩ = false := frozen_of_row _ _ 0 _ _ rb2
       have z1 : wb.frozen? ⟨w1.heap.size, 1, none⟩ = false := frozen_of_row _ _ 1 _ _ rb2
       have z2 : wb.frozen? ⟨w1.heap.size, 2, none⟩ = false := frozen_of_row _ _ 2 _ _ rb2
       have Rb2 := Lib.hid rb2
       have hwb : Below w1.heap.size w1 wb := hwa.trans (hbb2.mono hwa.size)
       have Hbb2 := Lib.hid hbb2
       clear rb2 hsB2 hB2 hbb hbb2))
  all_goals (
    go_wp2_with (fail)
    refine bodyPost_ret (v := .agg #[.string text, .slice B1 n1 d1, .slice B2 n2 d2]) (by simp [results, Tryd.results17, go_sem, t0, t1, t2]) rfl ⟨B1, d1, B2, d2, rfl, ?_, ?_, ?_⟩
    · refine Sl.more (B := wb.heap.size) (Sl.set (Sl.set (Sl.set ((HsB1.out.below Hbb2.out).more Hbb2.out.size) ?_) ?_) ?_) (by simp [World.setCell])
      all_goals (intro a h; have := HB1.out a h; show a.block ≠ w1.heap.size; omega)
    · refine Sl.more (B := wb.heap.size) (Sl.set (Sl.set (Sl.set HsB2.out ?_) ?_) ?_) (by simp [World.setCell])
      all_goals (intro a h; have := HB2.out a h; show a.block ≠ w1.heap.size; omega)
    · have hbw := Hb02.out.trans ((Hba2.out.trans (Hbb2.out.mono Hba2.out.size)).mono Hb02.out.size)
      exact ((hbw.setCell (p := ⟨_, _, _⟩) (Nat.le_of_lt hlt1) _).setCell (p := ⟨_, _, _⟩) (Nat.le_of_lt hlt1) _).setCell (p := ⟨_, _, _⟩) (Nat.le_of_lt hlt1) _)

end Go.Proofs.YtnnbhklkakhkkaaDoor

/-
  bytes.Buffer: Write, where the buffer has a row.
-/
import Derived.Test.YtnnbhklkakhkkaaDoorSignParts
import Derived.Shelf.Bytes.WriteAny
namespace Go.Proofs.YtnnbhklkakhkkaaDoor
open Go.RowKit Go.Lib

theorem BufRow.at_ {w : World} {b g : Nat} {bs : List UInt8} (h : BufRow w b g bs) (hbg : b ≤ g) : IsBuffer 115 5 b b (byteCells bs) w := by
  obtain ⟨hgb, cap, lr, cur, hb, hg, hl, hc, hs, ht⟩ := h
  have e : (byteCells bs).length = bs.length := byteCells_length _
  exact ⟨Nat.le_refl _, .slice (some ⟨g, 0, none⟩) bs.length cap, lr, hb, ⟨by simp, .inr ⟨g, cap, cur, by rw [e], hbg, hg, by rw [e]; exact hl, hc, by omega, by rw [e, Nat.mul_one]; exact ht⟩⟩, by simpa [Value.ownBlock] using hgb⟩

set_option maxHeartbeats 2000000 in
set_option maxRecDepth 100000 in
theorem write_none (b g c : Nat) (A : Option Addr) (l : List UInt8) (w : World) (h : BufRow w b g l) (hbg : b < g) :
    Calls Tryd.prog 59 #[.pointer (some ⟨b, 0, none⟩), .slice A 0 c] w fun e w' => e = .returned (.tuple #[.int .i64 0, .nilIface]) ∧ IsBuffer 115 5 b b (byteCells l) w' ∧ Below b w w' := by
  have hI := (h.at_ (Nat.le_of_lt hbg)).setLast 0
  obtain ⟨hgb, cap, lr, cur, hbk, hg, hlc, hcm, hcs, ht⟩ := h
  have k2 : w.cell? ⟨b, 2, none⟩ = some (.int .i8 lr) := by rw [Lib.cell_of_heap hbk]; rfl
  have z2 : w.frozen? ⟨b, 2, none⟩ = false := Lib.frozen_of_heap hbk 2
  have hbk1 : (w.setCell ⟨b, 2, none⟩ (.int .i8 0)).heap[b]? = some (.cells #[.slice (some ⟨g, 0, none⟩) l.length cap, .int .i64 0, .int .i8 0] 115 (0, 0)) := by
    have h := heap_setCell_same _ b 2 _ _ (.int .i8 0) hbk
    simpa using h
  have hb1 : Below b w (w.setCell ⟨b, 2, none⟩ (.int .i8 0)) := (Below.refl b w).setCell (p := ⟨b, 2, none⟩) (Nat.le_refl _) _
  have c0 : (w.setCell ⟨b, 2, none⟩ (.int .i8 0)).cell? ⟨b, 0, none⟩ = some (.slice (some ⟨g, 0, none⟩) l.length cap) := by rw [Lib.cell_of_heap hbk1]; rfl
  have f0 : (w.setCell ⟨b, 2, none⟩ (.int .i8 0)).frozen? ⟨b, 0, none⟩ = false := Lib.frozen_of_heap hbk1 0
  have ct := Any.Buffer_tryGrow_room Tryd.laysM251 b (some ⟨g, 0, none⟩) l.length cap 0 _ c0 f0 hlc hcm (Nat.zero_le _)
  have hg1 : (w.setCell ⟨b, 2, none⟩ (.int .i8 0)).heap[g]? = some (.cells cur 5 (0, 0)) := (Below.heap_setCell _ _ _ _ hgb).trans hg
  have hI2 : IsBuffer 115 5 b b (byteCells l) ((w.setCell ⟨b, 2, none⟩ (.int .i8 0)).setCell ⟨b, 0, none⟩ (.slice (some ⟨g, 0, none⟩) l.length cap)) := by
    obtain ⟨xs, hxl, hr, _⟩ := Lib.room_end (n := 0) (bs := byteCells l) (Nat.le_refl b) (by rw [byteCells_length]; exact hbk1) (Nat.le_of_lt hbg) hg1 hcm hcs (by rw [byteCells_length]; exact ht) hgb (by rw [byteCells_length]; exact hlc)
    obtain rfl : xs = [] := List.eq_nil_of_length_eq_zero hxl
    rw [List.append_nil, byteCells_length, Nat.add_zero] at hr
    exact hr
  have hb2 := hb1.setCell (p := ⟨b, 0, none⟩) (Nat.le_refl _) (.slice (some ⟨g, 0, none⟩) l.length cap)
  rw [Nat.add_zero] at ct
  have hinfo : (Tryd.prog.info? 5).map (·.size) = some 1 := by kernel_rfl
  have hce : ∀ d dLen dCap W, (Builtin.copy_ #[68, 68] 3 #[.slice d dLen dCap, .slice A 0 c]).run Tryd.prog W = .ok (goInt 0) W := fun d dLen dCap W => run_copy_none W 68 68 3 5 d A dLen dCap 0 c Tryd.underlying68 hinfo (by simp)
  have hc2 : ((w.setCell ⟨b, 2, none⟩ (.int .i8 0)).setCell ⟨b, 0, none⟩ (.slice (some ⟨g, 0, none⟩) l.length cap)).cell? ⟨b, 0, none⟩ = some (.slice (some ⟨g, 0, none⟩) l.length cap) := by
    have h := heap_setCell_same _ b 0 _ _ (.slice (some ⟨g, 0, none⟩) l.length cap) hbk1
    rw [Lib.cell_of_heap h]; rfl
  have Hc := Lib.hid hc2
  have Ct := Lib.hid ct
  have HI := Lib.hid hI2
  have Hb1 := Lib.hid hb2
  have hcm' := hcm
  unfold maxLen at hcm'
  clear hc2 ct hI hb1 hbk hg hcs ht hbk1 f0 hI2 hb2 hg1 hinfo c0
  go_enter Tryd.func59, Tryd.ntmps59
  go_wp2_with (fail)
  refine Ct.out.mono ?_
  clear Ct
  rintro e W1 ⟨rfl, rfl⟩
  have c0 : ((w.setCell ⟨b, 2, none⟩ (.int .i8 0)).setCell ⟨b, 0, none⟩ (.slice (some ⟨g, 0, none⟩) l.length cap)).cell? ⟨b, 0, none⟩ = some (.slice (some ⟨g, 0, none⟩) l.length cap) := by
    exact Hc.out
  generalize (w.setCell ⟨b, 2, none⟩ (.int .i8 0)).setCell ⟨b, 0, none⟩ (.slice (some ⟨g, 0, none⟩) l.length cap) = W2 at *
  go_wp2
  all_goals (go_ret2; exact ⟨rfl, HI.out, Hb1.out⟩)

theorem write_buf (b g c : Nat) (A : Option Addr) (l ys : List UInt8) (w : World) (h : BufRow w b g l) (hbg : b < g) (hsl : Sl w w.heap.size 1 A ys.length (byteCells ys)) (hA : ∀ a, A = some a → a.block ≠ b) (hlim : l.length + ys.length ≤ 2147483648) :
    Calls Tryd.prog 59 #[.pointer (some ⟨b, 0, none⟩), .slice A ys.length c] w fun e w' => e = .returned (.tuple #[.int .i64 ys.length, .nilIface]) ∧ IsBuffer 115 5 b b (byteCells (l ++ ys)) w' ∧ Below b w w' := by
  rcases Nat.eq_zero_or_pos ys.length with h0 | h0
  · obtain rfl : ys = [] := List.eq_nil_of_length_eq_zero h0
    rw [List.append_nil]
    exact write_none b g c A l w h hbg
  · obtain ⟨b', o', rfl, _, hc⟩ := hsl.2 h0
    have hI := h.at_ (Nat.le_of_lt hbg)
    refine (Any.Buffer_Write_any Tryd.laysM180 b b (byteCells l) (byteCells ys) ⟨b', o', none⟩ ys.length c w hI (Nat.le_of_lt hI.lt) (byteCells_one _) (byteCells_length _) (hA _ rfl)
      (fun j v hv => by rw [Lib.addr_add]; exact hc j v hv) (byteCells_one _) (by rw [byteCells_length]; omega)).mono ?_
    rintro e w' ⟨rfl, h1, h2, _⟩
    exact ⟨rfl, by rw [show byteCells (l ++ ys) = byteCells l ++ byteCells ys by unfold byteCells; rw [List.map_append]]; exact h1, h2⟩

theorem own_slice {w : World} {base n : Nat} {e : TypeId} {v : Value} {xs : List Value} (h : w.ownsRow base e 1 v n xs) : ∃ A c, v = .slice A n c ∧ Sl w w.heap.size 1 A n xs ∧ n ≤ c ∧ ∀ a, A = some a → base ≤ a.block := by
  have h0 := h
  rcases h.2 with ⟨hv, h1⟩ | ⟨g, cap, cur, hv, hB, hh, hnc, hcm, _, ht⟩
  · subst h1
    exact ⟨none, 0, hv, Sl.of_own (base := base) (e := e) (c := 0) (by rw [← hv]; exact h0), Nat.le_refl _, fun a h => by cases h⟩
  · exact ⟨some ⟨g, 0, none⟩, cap, hv, Sl.of_own (base := base) (e := e) (c := cap) (by rw [← hv]; exact h0), hnc, fun a h => by cases h; exact hB⟩
theorem buf_bytes (b : Nat) (l : List UInt8) (w : World) (h : IsBuffer 115 5 b b (byteCells l) w) :
    Calls Tryd.prog 53 #[.pointer (some ⟨b, 0, none⟩)] w fun e w' => ∃ A c, e = .returned (.slice A l.length c) ∧ Sl w' w'.heap.size 1 A l.length (byteCells l) ∧ l.length ≤ c ∧ (∀ a, A = some a → b ≤ a.block) ∧ ∃ n, w' = w.drewN n := by
  refine (Any.Buffer_Bytes Tryd.laysM183 b b (byteCells l) w h).mono ?_
  rintro e w' ⟨v, rfl, hown, n, rfl⟩
  rw [byteCells_length] at hown
  obtain ⟨A, c, rfl, h1, h2, h3⟩ := own_slice hown
  exact ⟨A, c, rfl, h1, h2, h3, n, rfl⟩

end Go.Proofs.YtnnbhklkakhkkaaDoor

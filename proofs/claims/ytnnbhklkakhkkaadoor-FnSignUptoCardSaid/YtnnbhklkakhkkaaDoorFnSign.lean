/-
  THE WALK of laws.FnSign: whatever the note and the keys, the law answers true (where the sizes are below the bound).
-/
import Derived.Test.YtnnbhklkakhkkaaDoorSpecSign
import Derived.Test.YtnnbhklkakhkkaaDoorImplSignG
namespace Go.Proofs.YtnnbhklkakhkkaaDoor
open Go.RowKit Go.Lib

theorem makers_sl (A : Option Addr) (n c : Nat) (l : List MV) (w : World) (hs : Sl w w.heap.size 4 A n (encAll MV.cells l)) (hn : n ≤ 2147483648) :
    Calls Tryd.prog 18 #[.slice A n c] w fun e w' => ∃ A' c', e = .returned (.slice A' n c') ∧ Sl w' w'.heap.size 4 A' n (encAll MV.cells l) ∧ Below w.heap.size w w' :=
  (makers_any A n c l w hs hn).mono fun e w' h => by
    obtain ⟨v, rfl, hown, hb⟩ := h
    obtain ⟨A', c', rfl, hsl, _⟩ := own_form hown
    exact ⟨A', c', rfl, hsl, hb⟩

/-- all is below the bound -/
structure Bounds (text : ByteArray) (ms : List MV) (os : List SV) : Prop where
  keys : ∀ m ∈ ms, m.name.size ≤ 2147483647 ∧ m.sig.size ≤ 2147483647
  sigs : ∀ x ∈ os, x.name.size ≤ 2147483647 ∧ x.b64.size ≤ 2147483647
  lim : text.size + 1 + (oldLines (keysOf ms) os).length + (newLines ms).length ≤ 2147483648

/-- impl.Sign's two results against those of the reference -/
def Agree (r : Option (List UInt8)) (e : Ending) : Prop := e = .returned (.tuple #[.string (msgOf r), .bool r.isSome])
theorem ipost_agree {w w' : World} {r : Option (List UInt8)} {e : Ending} (h : IPost w r e w') : Agree r e ∧ Below w.heap.size w w' := by
  obtain ⟨hb, h⟩ := h
  refine ⟨?_, hb⟩
  unfold Agree
  cases r with
  | none => exact h
  | some x => exact h

set_option maxHeartbeats 4000000 in
theorem fnSign_any (n c n1 c1 n2 c2 : Nat) (A A1 A2 : Option Addr) (text : ByteArray) (ms : List MV) (l1 l2 os : List SV) (w : World) (hs : Sl w w.heap.size 4 A n (encAll MV.cells ms)) (hs1 : Sl w w.heap.size 3 A1 n1 (encAll SV.cells l1)) (hs2 : Sl w w.heap.size 3 A2 n2 (encAll SV.cells l2))
    (hos : os = l1 ++ l2) (hok : ∀ m ∈ ms, m.Ok) (hsk : ∀ x ∈ os, x.Ok) (hB : Bounds text ms os) (hn : n ≤ 2147483647) (hn1 : n1 ≤ 2147483647) (hn2 : n2 ≤ 2147483647) (hT : Tabs w) (hE : Errs w) :
    Calls Tryd.prog 5 #[.agg #[.string text, .slice A1 n1 c1, .slice A2 n2 c2], .slice A n c] w fun e w' => e = .returned (.bool true) ∧ Below w.heap.size w w' := by
  have hsk1 : ∀ x ∈ l1, x.Ok := fun x hx => hsk x (by rw [hos]; exact List.mem_append_left _ hx)
  have hsk2 : ∀ x ∈ l2, x.Ok := fun x hx => hsk x (by rw [hos]; exact List.mem_append_right _ hx)
  have htz : text.size ≤ 2147483647 := by have := hB.lim; omega
  have hb0 : Below w.heap.size w (w.alloc (.cells #[.string text, .slice A1 n1 c1, .slice A2 n2 c2] 37)) := (Below.refl _ _).alloc (Nat.le_refl _) _
  have hr0 := heap_alloc_new w (.cells #[.string text, .slice A1 n1 c1, .slice A2 n2 c2] 37)
  have Hb0 := Lib.hid hb0
  have Hr0 := Lib.hid hr0
  have Hs := Lib.hid hs
  have Hs1 := Lib.hid hs1
  have Hs2 := Lib.hid hs2
  have Hos := Lib.hid hos
  have Hok := Lib.hid hok
  have Hsk1 := Lib.hid hsk1
  have Hsk2 := Lib.hid hsk2
  have Hsk := Lib.hid hsk
  have HB := Lib.hid hB
  have HT := Lib.hid hT
  have HE := Lib.hid hE
  clear hb0 hr0 hs hs1 hs2 hos hok hsk1 hsk2 hsk hB hT hE
  go_enter Tryd.func5, Tryd.ntmps5
  go_upto_region 1 with (fail)
  generalize w.alloc (.cells #[.string text, .slice A1 n1 c1, .slice A2 n2 c2] 37) = w0 at *
  have hl0 : w.heap.size < w0.heap.size := (Array.getElem?_eq_some_iff.1 Hr0.out).1
  have p0 : w0.cell? ⟨w.heap.size, 0, none⟩ = some (.string text) := cell_of_row _ _ 0 _ _ _ Hr0.out
  have p1 : w0.cell? ⟨w.heap.size, 1, none⟩ = some (.slice A1 n1 c1) := cell_of_row _ _ 1 _ _ _ Hr0.out
  have p2 : w0.cell? ⟨w.heap.size, 2, none⟩ = some (.slice A2 n2 c2) := cell_of_row _ _ 2 _ _ _ Hr0.out
  have C := Lib.hid (zzFits4_any A1 A2 n1 c1 n2 c2 text l1 l2 w0 (far_b Hs1.out Hb0.out) (far_b Hs2.out Hb0.out) (by omega) (by omega) (by omega) Hsk1.out Hsk2.out)
  go_wp2_with (fail)
  refine C.out.mono ?_
  clear C
  rintro e w1 ⟨rfl, hb1⟩
  have Hb1 := Lib.hid (Hb0.out.trans (hb1.mono Hb0.out.size))
  have Hr1 := Lib.hid ((hb1.block _ hl0).trans Hr0.out)
  have hl1 : w.heap.size < w1.heap.size := Nat.lt_of_lt_of_le hl0 hb1.size
  clear hb1 p0 p1 p2
  cases hf4 : zf4 text l1 l2
  · go_wp2_with (fail)
    go_ret
    exact ⟨rfl, Hb1.out⟩
  · have C := Lib.hid (zzFits7_any A n c ms w1 (far_b Hs.out Hb1.out) (by omega) Hok.out)
    clear hf4
    go_wp2_with (fail)
    refine C.out.mono ?_
    clear C
    rintro e w2 ⟨rfl, hb2⟩
    have Hb2 := Lib.hid (Hb1.out.trans (hb2.mono Hb1.out.size))
    have Hr2 := Lib.hid ((hb2.block _ hl1).trans Hr1.out)
    have hl2 : w.heap.size < w2.heap.size := Nat.lt_of_lt_of_le hl1 hb2.size
    clear hb2
    cases hf7 : zf7 ms
    · go_wp2_with (fail)
      go_ret
      exact ⟨rfl, Hb2.out⟩
    · clear hf7
      have p0 : w2.cell? ⟨w.heap.size, 0, none⟩ = some (.string text) := cell_of_row _ _ 0 _ _ _ Hr2.out
      have p1 : w2.cell? ⟨w.heap.size, 1, none⟩ = some (.slice A1 n1 c1) := cell_of_row _ _ 1 _ _ _ Hr2.out
      have p2 : w2.cell? ⟨w.heap.size, 2, none⟩ = some (.slice A2 n2 c2) := cell_of_row _ _ 2 _ _ _ Hr2.out
      have C := Lib.hid (conv_any n1 c1 n2 c2 A1 A2 text l1 l2 w2 (far_b Hs1.out Hb2.out) (far_b Hs2.out Hb2.out) hn1 hn2)
      go_wp2_with (fail)
      refine C.out.mono ?_
      clear C
      rintro e w3 ⟨B1, d1, B2, d2, rfl, hc1, hc2, hb3⟩
      have Hc1 := Lib.hid hc1
      have Hc2 := Lib.hid hc2
      have Hb3 := Lib.hid (Hb2.out.trans (hb3.mono Hb2.out.size))
      have Hr3 := Lib.hid ((hb3.block _ hl2).trans Hr2.out)
      have hl3 : w.heap.size < w3.heap.size := Nat.lt_of_lt_of_le hl2 hb3.size
      clear hb3 p0 p1 p2 hc1 hc2
      have C := Lib.hid (makers_sl A n c ms w3 (far_b Hs.out Hb3.out) (by omega))
      go_wp2_with (fail)
      refine C.out.mono ?_
      clear C
      rintro e w4 ⟨B, d, rfl, hm, hb4⟩
      go_upto_region 4 with (fail)
      have hba : Below w4.heap.size w4 (w4.alloc (.cells #[.string text, .slice B1 n1 d1, .slice B2 n2 d2] 29)) := (Below.refl _ _).alloc (Nat.le_refl _) _
      have hra := heap_alloc_new w4 (.cells #[.string text, .slice B1 n1 d1, .slice B2 n2 d2] 29)
      generalize w4.alloc (.cells #[.string text, .slice B1 n1 d1, .slice B2 n2 d2] 29) = w5 at *
      have Hm := Lib.hid (far_b hm hba)
      have hb35 := hb4.trans (hba.mono hb4.size)
      have Hc1' := Lib.hid (far_b Hc1.out hb35)
      have Hc2' := Lib.hid (far_b Hc2.out hb35)
      have Hb5 := Lib.hid (Hb3.out.trans (hb35.mono Hb3.out.size))
      have Hr5 := Lib.hid ((hb35.block _ hl3).trans Hr3.out)
      have Hra := Lib.hid hra
      have hl5 : w.heap.size < w5.heap.size := Nat.lt_of_lt_of_le hl3 hb35.size
      have hla : w4.heap.size < w5.heap.size := (Array.getElem?_eq_some_iff.1 hra).1
      obtain ⟨G, hG⟩ : ∃ G, G = w4.heap.size := ⟨_, rfl⟩
      have hraG : w5.heap[G]? = some (.cells #[.string text, .slice B1 n1 d1, .slice B2 n2 d2] 29 (0, 0)) := by rw [hG]; exact hra
      have HraG := Lib.hid hraG
      have hGl : G < w5.heap.size := by rw [hG]; exact hla
      rw [← hG]
      clear hb4 hba hra hm hb35 Hc1 Hc2 Hra hla hraG hG
      have g0 : w5.cell? ⟨G, 0, none⟩ = some (.string text) := cell_of_row _ _ 0 _ _ _ HraG.out
      have g1 : w5.cell? ⟨G, 1, none⟩ = some (.slice B1 n1 d1) := cell_of_row _ _ 1 _ _ _ HraG.out
      have g2 : w5.cell? ⟨G, 2, none⟩ = some (.slice B2 n2 d2) := cell_of_row _ _ 2 _ _ _ HraG.out
      have C := Lib.hid (specSign_any n d n1 d1 n2 d2 B B1 B2 text ms l1 l2 os w5 Hm.out Hc1'.out Hc2'.out Hos.out Hok.out HB.out.keys HB.out.sigs hn hn1 hn2 HB.out.lim)
      go_wp2_with (fail)
      refine C.out.mono ?_
      clear C
      rintro e w6 ⟨hb6, hpost⟩
      have Hm6 := Lib.hid (far_b Hm.out hb6)
      have Hc16 := Lib.hid (far_b Hc1'.out hb6)
      have Hc26 := Lib.hid (far_b Hc2'.out hb6)
      have Hb6 := Lib.hid (Hb5.out.trans (hb6.mono Hb5.out.size))
      have Hr6 := Lib.hid ((hb6.block _ hl5).trans Hr5.out)
      have HrG6 := Lib.hid ((hb6.block _ hGl).trans HraG.out)
      have hl6 : w.heap.size < w6.heap.size := Nat.lt_of_lt_of_le hl5 hb6.size
      have hG6 : G < w6.heap.size := Nat.lt_of_lt_of_le hGl hb6.size
      clear hb6 g0 g1 g2 Hm Hc1' Hc2' HraG
      rcases hpost with ⟨x, y, rfl⟩ | ⟨hcl, rfl⟩
      · go_wp2_with (fail)
        go_ret
        exact ⟨rfl, Hb6.out⟩
      · have Hcl := Lib.hid hcl
        clear hcl
        have g0 : w6.cell? ⟨G, 0, none⟩ = some (.string text) := cell_of_row _ _ 0 _ _ _ HrG6.out
        have g1 : w6.cell? ⟨G, 1, none⟩ = some (.slice B1 n1 d1) := cell_of_row _ _ 1 _ _ _ HrG6.out
        have g2 : w6.cell? ⟨G, 2, none⟩ = some (.slice B2 n2 d2) := cell_of_row _ _ 2 _ _ _ HrG6.out
        have C := Lib.hid (smallG_any n d n1 d1 n2 d2 B B1 B2 text ms l1 l2 w6 Hm6.out Hc16.out Hc26.out hn hn1 hn2 htz Hok.out (by rw [← Hos.out]; exact Hsk.out))
        obtain ⟨r, hr⟩ : ∃ r, r = signR text ms os := ⟨_, rfl⟩
        rw [← hr]
        have Hr := Lib.hid hr
        clear hr
        go_wp2_with (fail)
        refine C.out.mono ?_
        clear C
        rintro e w7 ⟨⟨b, rfl⟩, hb7⟩
        have Hb7 := Lib.hid (Hb6.out.trans (hb7.mono Hb6.out.size))
        have Hr7 := Lib.hid ((hb7.block _ hl6).trans Hr6.out)
        clear hb7 g0 g1 g2
        cases b
        · go_wp2_with (fail)
          go_ret
          exact ⟨rfl, Hb7.out⟩
        · have p0 : w7.cell? ⟨w.heap.size, 0, none⟩ = some (.string text) := cell_of_row _ _ 0 _ _ _ Hr7.out
          have p1 : w7.cell? ⟨w.heap.size, 1, none⟩ = some (.slice A1 n1 c1) := cell_of_row _ _ 1 _ _ _ Hr7.out
          have p2 : w7.cell? ⟨w.heap.size, 2, none⟩ = some (.slice A2 n2 c2) := cell_of_row _ _ 2 _ _ _ Hr7.out
          have C := Lib.hid (implSign_any n c n1 c1 n2 c2 A A1 A2 text ms l1 l2 os w7 (far_b Hs.out Hb7.out) Hok.out (far_b Hs1.out Hb7.out) (far_b Hs2.out Hb7.out) Hos.out HB.out.sigs Hcl.out (HT.out.below Hb7.out) (HE.out.below Hb7.out) hn hn1 hn2 HB.out.lim r Hr.out)
          go_wp2_with (fail)
          refine C.out.mono ?_
          clear C
          intro e w8 hpost
          obtain ⟨rfl, hb8⟩ := ipost_agree hpost
          have Hb8 := Lib.hid (Hb7.out.trans (hb8.mono Hb7.out.size))
          clear hb8 hpost p0 p1 p2
          cases hsome : r.isSome
          · go_wp2_with (fail)
            go_ret
            exact ⟨rfl, Hb8.out⟩
          · have e1 : ((msgOf r).toList == (msgOf r).toList) = true := by simp
            go_wp2_with (fail)
            go_ret
            exact ⟨rfl, Hb8.out⟩

end Go.Proofs.YtnnbhklkakhkkaaDoor

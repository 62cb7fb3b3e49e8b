/-
  bytes.Buffer: the walks of WriteString and Write where the buffer has a row.
-/
import Derived.Test.YtnnbhklkakhkkaaDoorBuf
namespace Go.Proofs.YtnnbhklkakhkkaaDoor
open Go.RowKit Go.Lib

/-- what a write into buffer b, whose row was g, leaves alone -/
structure Fr (w w' : World) (b g : Nat) : Prop where
  os : w'.os = w.os
  tape : w'.tape = w.tape
  output : w'.output = w.output
  size : w.heap.size ≤ w'.heap.size
  block : ∀ k, k < w.heap.size → k ≠ b → k ≠ g → w'.heap[k]? = w.heap[k]?

theorem Fr.below {w w' : World} {b g B : Nat} (h : Fr w w' b g) (hb : B ≤ b) (hg : B ≤ g) (hB : B ≤ w.heap.size) : Below B w w' := ⟨h.os, h.tape, h.output, h.size, fun k hk => h.block k (by omega) (by omega) (by omega)⟩

/-- the last cells of the row are written -/
theorem bufRow_written {W : World} {b g cap : Nat} {lr : Int} {cur : Array Value} {bs : List UInt8} {s : ByteArray} (hgb : g ≠ b)
    (hb : W.heap[b]? = some (.cells #[.slice (some ⟨g, 0, none⟩) (bs.length + s.size) cap, .int .i64 0, .int .i8 lr] 115 (0, 0))) (hg : W.heap[g]? = some (.cells cur 5 (0, 0)))
    (hcap : bs.length + s.size ≤ cap) (hcm : cap ≤ maxLen) (hcs : cur.size = cap) (ht : cur.toList.take bs.length = byteCells bs) (_h : 0 ≤ s.size) :
    BufRow (W.setRow g (cur.toList.take bs.length ++ byteCells s.data.toList ++ cur.toList.drop (bs.length + s.size)).toArray) b g (bs ++ s.data.toList) ∧
      ∀ k, k ≠ g → (W.setRow g (cur.toList.take bs.length ++ byteCells s.data.toList ++ cur.toList.drop (bs.length + s.size)).toArray).heap[k]? = W.heap[k]? := by
  have hl : (cur.toList.take bs.length).length = bs.length := by have := Array.length_toList (xs := cur); rw [List.length_take]; omega
  have hsl : s.data.toList.length = s.size := by simp
  have hlen : (bs ++ s.data.toList).length = bs.length + s.size := by rw [List.length_append, hsl]
  refine ⟨⟨hgb, cap, lr, _, ?_, setRow_heap W g cur _ 5 (0, 0) hg, by rw [hlen]; exact hcap, hcm, ?_, ?_⟩, fun k hk => setRow_other _ _ _ _ hk⟩
  · rw [setRow_other _ _ _ _ (Ne.symm hgb), hlen, hb]
  · simp only [List.size_toArray, List.length_append, hl, byteCells_length, hsl, List.length_drop, Array.length_toList]; omega
  · rw [List.toList_toArray, hlen, List.take_left' (by rw [List.length_append, hl, byteCells_length, hsl]), ht]
    unfold byteCells
    rw [List.map_append]

theorem setRow_size (W : World) (g : Nat) (arr : Array Value) : (W.setRow g arr).heap.size = W.heap.size := by simp

theorem fr_of_row {w W : World} {b g : Nat} {arr : Array Value} (h : w.grownBy W (some b)) (hk : ∀ k, k ≠ g → (W.setRow g arr).heap[k]? = W.heap[k]?) : Fr w (W.setRow g arr) b g :=
  ⟨h.os, h.tape, h.output, by rw [setRow_size]; exact h.size, fun k hlt hkb hkg => (hk k hkg).trans (h.block k hlt (by simpa using hkb))⟩
theorem fr_new {w W : World} {b g : Nat} {arr : Array Value} (h : w.grownBy W (some b)) (hk : ∀ k, k ≠ w.heap.size → (W.setRow w.heap.size arr).heap[k]? = W.heap[k]?) : Fr w (W.setRow w.heap.size arr) b g :=
  ⟨h.os, h.tape, h.output, by rw [setRow_size]; exact h.size, fun k hlt hkb _ => (hk k (by omega)).trans (h.block k hlt (by simpa using hkb))⟩

set_option maxHeartbeats 6400000 in
set_option maxRecDepth 100000 in
/-- WriteString, where the buffer has a row: the row stays, or a new one is laid -/
theorem writeString_row (b g : Nat) (bs : List UInt8) (s : ByteArray) (w : World) (h : BufRow w b g bs) (hl : 1 ≤ bs.length) (hs : 1 ≤ s.size) (hlim : bs.length + s.size ≤ 2147483648) :
    Calls Tryd.prog 52 #[.pointer (some ⟨b, 0, none⟩), .string s] w fun e w' => e = .returned (.tuple #[.int .i64 s.size, .nilIface]) ∧
      ∃ g', BufRow w' b g' (bs ++ s.data.toList) ∧ Fr w w' b g ∧ (g' = g ∨ w.heap.size ≤ g') := by
  obtain ⟨hgb, cap, lr, cur, hbk, hg, hlc, hcm, hcs, ht⟩ := h
  have hsl : s.data.toList.length = s.size := by simp
  have hinfo : (Tryd.prog.info? 5).map (·.size) = some 1 := by kernel_rfl
  have k2 : w.cell? ⟨b, 2, none⟩ = some (.int .i8 lr) := by rw [Lib.cell_of_heap hbk]; rfl
  have z2 : w.frozen? ⟨b, 2, none⟩ = false := Lib.frozen_of_heap hbk 2
  have hbk1 : (w.setCell ⟨b, 2, none⟩ (.int .i8 0)).heap[b]? = some (.cells #[.slice (some ⟨g, 0, none⟩) bs.length cap, .int .i64 0, .int .i8 0] 115 (0, 0)) := by
    have h := heap_setCell_same _ b 2 _ _ (.int .i8 0) hbk
    simpa using h
  have hg1 : (w.setCell ⟨b, 2, none⟩ (.int .i8 0)).heap[g]? = some (.cells cur 5 (0, 0)) := (Below.heap_setCell _ _ _ _ hgb).trans hg
  have hgr1 : w.grownBy (w.setCell ⟨b, 2, none⟩ (.int .i8 0)) (some b) := Lib.grownBy_setCell w b 2 _
  have hgl : g < w.heap.size := (Array.getElem?_eq_some_iff.1 hg).1
  have Hbk := Lib.hid hbk
  have Hbk1 := Lib.hid hbk1
  have Hg1 := Lib.hid hg1
  have Hgr1 := Lib.hid hgr1
  have Ht := Lib.hid ht
  have Hcs := Lib.hid hcs
  have Hsl := Lib.hid hsl
  have hcm' := hcm
  unfold maxLen at hcm'
  clear hbk hbk1 hg1 hgr1 ht hcs hsl hg
  by_cases hroom : s.size ≤ cap - bs.length
  · have c0 : (w.setCell ⟨b, 2, none⟩ (.int .i8 0)).cell? ⟨b, 0, none⟩ = some (.slice (some ⟨g, 0, none⟩) bs.length cap) := by rw [Lib.cell_of_heap Hbk1.out]; rfl
    have f0 : (w.setCell ⟨b, 2, none⟩ (.int .i8 0)).frozen? ⟨b, 0, none⟩ = false := Lib.frozen_of_heap Hbk1.out 0
    have ct := Any.Buffer_tryGrow_room Tryd.laysM251 b (some ⟨g, 0, none⟩) bs.length cap s.size _ c0 f0 hlc hcm hroom
    have Ct := Lib.hid ct
    clear ct c0 f0
    go_enter Tryd.func52, Tryd.ntmps52
    go_wp2_with (fail)
    refine Ct.out.mono ?_
    clear Ct
    rintro e W1 ⟨rfl, rfl⟩
    have hb2 : ((w.setCell ⟨b, 2, none⟩ (.int .i8 0)).setCell ⟨b, 0, none⟩ (.slice (some ⟨g, 0, none⟩) (bs.length + s.size) cap)).heap[b]? = some (.cells #[.slice (some ⟨g, 0, none⟩) (bs.length + s.size) cap, .int .i64 0, .int .i8 0] 115 (0, 0)) := by
      have h := heap_setCell_same _ b 0 _ _ (.slice (some ⟨g, 0, none⟩) (bs.length + s.size) cap) Hbk1.out
      simpa using h
    have hg2 : ((w.setCell ⟨b, 2, none⟩ (.int .i8 0)).setCell ⟨b, 0, none⟩ (.slice (some ⟨g, 0, none⟩) (bs.length + s.size) cap)).heap[g]? = some (.cells cur 5 (0, 0)) := (Below.heap_setCell _ _ _ _ hgb).trans Hg1.out
    have hgr2 : w.grownBy ((w.setCell ⟨b, 2, none⟩ (.int .i8 0)).setCell ⟨b, 0, none⟩ (.slice (some ⟨g, 0, none⟩) (bs.length + s.size) cap)) (some b) := Lib.grownBy_setB Hgr1.out 0 _
    generalize (w.setCell ⟨b, 2, none⟩ (.int .i8 0)).setCell ⟨b, 0, none⟩ (.slice (some ⟨g, 0, none⟩) (bs.length + s.size) cap) = W2 at *
    have hcp := Lib.run_copy_row_string (P := Tryd.prog) W2 68 9 3 5 g bs.length s.size (cap - bs.length) s cur 5 Tryd.underlying68 hinfo hg2 (Nat.le_refl _) (by rw [Hcs.out]; omega)
    have d0 : W2.cell? ⟨b, 0, none⟩ = some (.slice (some ⟨g, 0, none⟩) (bs.length + s.size) cap) := by rw [Lib.cell_of_heap hb2]; rfl
    have hne : ¬ cap = bs.length := by omega
    have Hb2 := Lib.hid hb2
    have Hg2 := Lib.hid hg2
    have Hgr2 := Lib.hid hgr2
    clear hb2 hg2 hgr2 hinfo k2 z2
    go_wp2_with (fail)
    go_ret2
    have h := bufRow_written hgb Hb2.out Hg2.out (by omega) hcm Hcs.out Ht.out (s := s) (by omega)
    rw [List.append_assoc] at h
    exact ⟨rfl, g, h.1, fr_of_row Hgr2.out h.2, .inl rfl⟩
  · have cg := grow_row b g s.size cap 0 cur bs _ hgb Hbk1.out Hg1.out hlc hcm Hcs.out Ht.out hl hs (by omega) hlim
    have ct := Any.Buffer_tryGrow_none Tryd.laysM251 b (some ⟨g, 0, none⟩) bs.length cap s.size (w.setCell ⟨b, 2, none⟩ (.int .i8 0)) (by rw [Lib.cell_of_heap Hbk1.out]; rfl) hlc hcm (by omega)
    have Ct := Lib.hid ct
    have Cg := Lib.hid cg
    clear ct cg
    go_enter Tryd.func52, Tryd.ntmps52
    go_wp2_with (fail)
    refine Ct.out.mono ?_
    clear Ct
    rintro e W1 ⟨rfl, rfl⟩
    go_wp2_with (fail)
    refine Cg.out.mono ?_
    clear Cg
    rintro e W2 ⟨rfl, hgr, hlt, cap2, cells, hb2, hN, hcs2, ht2, hcap2, hcm2⟩
    have hws : (w.setCell ⟨b, 2, none⟩ (.int .i8 0)).heap.size = w.heap.size := by simp [World.setCell]
    rw [hws] at hb2 hN hlt
    have hgr2 : w.grownBy W2 (some b) := Lib.grownBy_trans Hgr1.out hgr
    have hgN : w.heap.size ≠ b := by have := (Array.getElem?_eq_some_iff.1 Hbk.out).1; omega
    have hcp := Lib.run_copy_row_string (P := Tryd.prog) W2 68 9 3 5 w.heap.size bs.length s.size (cap2 - bs.length) s cells 5 Tryd.underlying68 hinfo hN (Nat.le_refl _) (by omega)
    have d0 : W2.cell? ⟨b, 0, none⟩ = some (.slice (some ⟨w.heap.size, 0, none⟩) (bs.length + s.size) cap2) := by rw [Lib.cell_of_heap hb2]; rfl
    have hne : ¬ cap2 = bs.length := by omega
    have hcm2' := hcm2
    unfold maxLen at hcm2'
    have Hb2 := Lib.hid hb2
    have Hg2 := Lib.hid hN
    have Hgr2 := Lib.hid hgr2
    have Hcs2 := Lib.hid hcs2
    have Ht2 := Lib.hid ht2
    clear hb2 hN hgr2 hinfo k2 z2 hgr hcs2 ht2 hws
    go_wp2_with (fail)
    go_ret2
    have h := bufRow_written hgN Hb2.out Hg2.out hcap2 hcm2 Hcs2.out Ht2.out (s := s) (by omega)
    rw [List.append_assoc] at h
    exact ⟨rfl, w.heap.size, h.1, fr_new Hgr2.out h.2, .inr (Nat.le_refl _)⟩

end Go.Proofs.YtnnbhklkakhkkaaDoor

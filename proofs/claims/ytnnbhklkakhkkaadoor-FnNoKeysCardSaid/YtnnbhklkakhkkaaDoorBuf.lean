/-
  bytes.Buffer: the walks of grow and WriteString where the buffer has a row: where the row lies behind the call is told, so that two buffers can be kept apart.
-/
import Derived.Test.YtnnbhklkakhkkaaDoorShelfB
import Derived.Test.YtnnbhklkakhkkaaDoorBase
import Derived.Lib.BufferOwn
import Derived.Shelf.Bytes.GrowSlice
import Derived.Shelf.Bytes.GrowOwn
import Derived.Shelf.Bytes.Len
import Derived.Shelf.Bytes.TryGrow
import Derived.Deep.RegionWith
import Derived.Deep.DeepCutAuto
import Derived.BigRegion
import Derived.BigCall
import Derived.BigGuard
namespace Go.Proofs.YtnnbhklkakhkkaaDoor
open Go.RowKit Go.Lib

/-- block b is a bytes.Buffer that has a row, block g, which begins with the bytes bs -/
def BufRow (w : World) (b g : Nat) (bs : List UInt8) : Prop :=
  g ≠ b ∧ ∃ (cap : Nat) (lr : Int) (cur : Array Value), w.heap[b]? = some (.cells #[.slice (some ⟨g, 0, none⟩) bs.length cap, .int .i64 0, .int .i8 lr] 115 (0, 0)) ∧ w.heap[g]? = some (.cells cur 5 (0, 0)) ∧
    bs.length ≤ cap ∧ cap ≤ maxLen ∧ cur.size = cap ∧ cur.toList.take bs.length = byteCells bs

theorem BufRow.buffer {w : World} {b g : Nat} {bs : List UInt8} (h : BufRow w b g bs) : IsBuffer 115 5 0 b (byteCells bs) w := by
  obtain ⟨hgb, cap, lr, cur, hb, hg, hl, hc, hs, ht⟩ := h
  have e : (byteCells bs).length = bs.length := byteCells_length _
  refine ⟨Nat.zero_le _, .slice (some ⟨g, 0, none⟩) bs.length cap, lr, hb, ⟨by simp, .inr ⟨g, cap, cur, by rw [e], Nat.zero_le _, hg, by rw [e]; exact hl, hc, by omega, by rw [e, Nat.mul_one]; exact ht⟩⟩, by simpa [Value.ownBlock] using hgb⟩

set_option maxHeartbeats 12800000 in
set_option maxRecDepth 100000 in
theorem grow_row (b g n cap : Nat) (lr : Int) (cur : Array Value) (bs : List UInt8) (w : World) (hgb : g ≠ b) (hbk : w.heap[b]? = some (.cells #[.slice (some ⟨g, 0, none⟩) bs.length cap, .int .i64 0, .int .i8 lr] 115 (0, 0)))
    (hg : w.heap[g]? = some (.cells cur 5 (0, 0))) (hlc : bs.length ≤ cap) (hcm : cap ≤ maxLen) (hcs : cur.size = cap) (ht : cur.toList.take bs.length = byteCells bs) (hl : 1 ≤ bs.length) (hn : 1 ≤ n) (hroom : cap - bs.length < n)
    (hlim : bs.length + n ≤ 2147483648) :
    Calls Tryd.prog 74 #[.pointer (some ⟨b, 0, none⟩), .int .i64 n] w fun e w' => e = .returned (.int .i64 bs.length) ∧ w.grownBy w' (some b) ∧ w.heap.size < w'.heap.size ∧
      ∃ cap2 cells, w'.heap[b]? = some (.cells #[.slice (some ⟨w.heap.size, 0, none⟩) ((bs.length + n : Nat)) cap2, .int .i64 0, .int .i8 lr] 115 (0, 0)) ∧ w'.heap[w.heap.size]? = some (.cells cells 5 (0, 0)) ∧
        cells.size = cap2 ∧ cells.toList.take bs.length = byteCells bs ∧ bs.length + n ≤ cap2 ∧ cap2 ≤ maxLen := by
  have hIs : IsBuffer 115 5 0 b (byteCells bs) w := BufRow.buffer ⟨hgb, cap, lr, cur, hbk, hg, hlc, hcm, hcs, ht⟩
  have cl := Any.Buffer_Len Tryd.laysM181 0 b (byteCells bs) w hIs
  have e : (byteCells bs).length = bs.length := byteCells_length _
  rw [e] at cl
  have hcap : cap ≤ 2147483648 + cap := by omega
  have hbl : b < w.heap.size := (Array.getElem?_eq_some_iff.1 hbk).1
  have h1 : ∀ v ∈ cur.toList.take bs.length, v.oneCell' = true := by rw [ht]; exact byteCells_one _
  have hnil : ∀ W, (binOp .eql 68 (.slice (some ⟨g, 0, none⟩) bs.length cap) (.slice none 0 0)).run Tryd.prog W = .ok (.bool false) W := fun W => Lib.run_eql_slice_some_nil W _ _ _ Tryd.underlying68
  generalize hlen : bs.length = l at *
  have e0 : ((l : Int) == 0) = false := by rw [beq_eq_false_iff_ne]; omega
  have Hlen := Lib.hid hlen
  have Ht := Lib.hid ht
  have Hbk := Lib.hid hbk
  have Hg := Lib.hid hg
  have H1 := Lib.hid h1
  have Hcs := Lib.hid hcs
  have Hhalf : cap / 2 ≤ cap := Nat.div_le_self _ _
  clear hIs e hlen ht hbk hg h1 hcs hcap
  go_enter Tryd.func74, Tryd.ntmps74
  go_wp2_with (fail)
  refine cl.mono ?_
  clear cl
  rintro e W0 ⟨rfl, k, hW0⟩
  have hbk0 : W0.heap[b]? = some (.cells #[.slice (some ⟨g, 0, none⟩) l cap, .int .i64 0, .int .i8 lr] 115 (0, 0)) := by rw [hW0]; exact Hbk.out
  have hg0 : W0.heap[g]? = some (.cells cur 5 (0, 0)) := by rw [hW0]; exact Hg.out
  have hsz0 : W0.heap.size = w.heap.size := by rw [hW0]; rfl
  have hgr0 : w.grownBy W0 (some b) := by rw [hW0]; exact ⟨rfl, rfl, rfl, Nat.le_refl _, fun _ _ _ => rfl⟩
  have c0 : W0.cell? ⟨b, 0, none⟩ = some (.slice (some ⟨g, 0, none⟩) l cap) := by rw [Lib.cell_of_heap hbk0]; rfl
  have c1 : W0.cell? ⟨b, 1, none⟩ = some (.int .i64 0) := by rw [Lib.cell_of_heap hbk0]; rfl
  have f0 : W0.frozen? ⟨b, 0, none⟩ = false := Lib.frozen_of_heap hbk0 0
  have f1 : W0.frozen? ⟨b, 1, none⟩ = false := Lib.frozen_of_heap hbk0 1
  have ct := Any.Buffer_tryGrow_none Tryd.laysM251 b (some ⟨g, 0, none⟩) l cap n W0 c0 hlc hcm hroom
  have Hbk0 := Lib.hid hbk0
  have Hg0 := Lib.hid hg0
  have Hsz0 := Lib.hid hsz0
  have Hgr0 := Lib.hid hgr0
  have Ct := Lib.hid ct
  have hcm' := hcm
  unfold maxLen at hcm'
  clear hW0 hbk0 hg0 hsz0 hgr0 ct
  go_wp2_with (fail)
  refine Ct.out.mono ?_
  clear Ct
  rintro e W1 ⟨rfl, rfl⟩
  have hbig : (cap : Int) ≤ 2147483648 := by omega
  have hno : ¬(n : Int) ≤ (cap : Int) / 2 - (l : Int) := by omega
  go_upto_region 15 with (fail)
  have hwn : IntKind.i64.wrap (n : Int) = n := by rw [IntKind.wrap_i64]; omega
  have hbW : b < W1.heap.size := by rw [Hsz0.out]; exact hbl
  go_region_with (
      go_at_call 91
      refine (Any.bytes_growSlice_row Tryd.laysM290 g l cap n cur _ ?_ Hcs.out hlc hn (by omega) (by omega) H1.out).mono ?_
      exact Hg0.out
      rintro e w2 ⟨cap2, cells, rfl, hN, hcsz, htk, hcap2, hcm2, hbel⟩
      have hbk2 : w2.heap[b]? = some (.cells #[.slice (some ⟨g, 0, none⟩) l cap, .int .i64 0, .int .i8 lr] 115 (0, 0)) := (hbel.block b hbW).trans Hbk0.out
      have d0 : w2.cell? ⟨b, 0, none⟩ = some (.slice (some ⟨g, 0, none⟩) l cap) := by rw [Lib.cell_of_heap hbk2]; rfl
      have d1 : w2.cell? ⟨b, 1, none⟩ = some (.int .i64 0) := by rw [Lib.cell_of_heap hbk2]; rfl
      have e0 : w2.frozen? ⟨b, 0, none⟩ = false := Lib.frozen_of_heap hbk2 0
      have e1 : w2.frozen? ⟨b, 1, none⟩ = false := Lib.frozen_of_heap hbk2 1)
  all_goals (
    go_wp2
    go_ret
    have hsz := Hsz0.out
    have hN' : w2.heap[w.heap.size]? = some (.cells cells 5 (0, 0)) := by rw [← hsz]; exact hN
    have hnb : w.heap.size ≠ b := by omega
    have hgr : w.grownBy w2 (some b) := Lib.grownBy_below (w := W1.drew) ⟨Hgr0.out.os, Hgr0.out.tape, Hgr0.out.output, Hgr0.out.size, Hgr0.out.block⟩ hbel
    have hlt : w.heap.size < w2.heap.size := (Array.getElem?_eq_some_iff.1 hN').1
    rw [hsz]
    refine ⟨rfl, Lib.grownBy_setB (Lib.grownBy_setB (Lib.grownBy_setB hgr 0 _) 1 _) 0 _, by simpa [World.setCell] using hlt, cap2, cells, ?_, ?_, hcsz, htk.trans Ht.out, hcap2, hcm2⟩
    · have h := heap_setCell_same _ b 0 _ _ (.slice (some ⟨w.heap.size, 0, none⟩) (l + n) cap2) (heap_setCell_same _ b 1 _ _ (.int .i64 0) (heap_setCell_same _ b 0 _ _ (.slice (some ⟨w.heap.size, 0, none⟩) l cap2) hbk2))
      simpa using h
    · exact (Below.heap_setCell _ _ _ _ hnb).trans ((Below.heap_setCell _ _ _ _ hnb).trans ((Below.heap_setCell _ _ _ _ hnb).trans hN')))

end Go.Proofs.YtnnbhklkakhkkaaDoor

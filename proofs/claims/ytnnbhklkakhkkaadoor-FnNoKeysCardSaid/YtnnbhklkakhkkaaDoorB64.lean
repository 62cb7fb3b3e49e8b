/-
  base64 WITH THE STANDARD ALPHABET: the walk of NewEncoding.
-/
import Derived.Test.YtnnbhklkakhkkaaDoorBase
import Derived.Lib.BufferWrite
import Derived.Lib.SlBuf
import Derived.Laws.CopyOwn
import Derived.Deep.DeepCutAuto
import Derived.BigQuiet
import Derived.Shelf.Strings.FuncGrows
namespace Go.Proofs.YtnnbhklkakhkkaaDoor
open Go.RowKit Go.Lib

/-- the standard alphabet -/
def alphabet : List UInt8 := [65, 66, 67, 68, 69, 70, 71, 72, 73, 74, 75, 76, 77, 78, 79, 80, 81, 82, 83, 84, 85, 86, 87, 88, 89, 90, 97, 98, 99, 100, 101, 102, 103, 104, 105, 106, 107, 108, 109, 110, 111, 112, 113, 114, 115, 116, 117, 118, 119, 120, 121, 122, 48, 49, 50, 51, 52, 53, 54, 55, 56, 57, 43, 47]
/-- the table of figures, behind n of them -/
def decMap : Nat → List UInt8
  | 0 => List.replicate 256 255
  | n + 1 => (decMap n).set (alphabet.getD n 0).toNat (UInt8.ofNat n)
/-- the cells of an Encoding -/
def encRow (d : List UInt8) : List Value := byteCells alphabet ++ byteCells d ++ [.int .i32 61, .bool false]

theorem decMap_length : ∀ n, (decMap n).length = 256
  | 0 => List.length_replicate
  | n + 1 => by unfold decMap; rw [List.length_set]; exact decMap_length n
theorem alphabet_length : alphabet.length = 64 := rfl
theorem encRow_length {d : List UInt8} (h : d.length = 256) : (encRow d).length = 322 := by
  unfold encRow
  rw [List.length_append, List.length_append, byteCells_length, byteCells_length, h, alphabet_length]
  rfl
theorem drop320 {cur : Array Value} (hc : cur.size = 322) (h0 : cur[320]? = some (.int .i32 61)) (h1 : cur[321]? = some (.bool false)) : cur.toList.drop 320 = [.int .i32 61, .bool false] := by
  apply List.ext_getElem?
  intro i
  rw [List.getElem?_drop, Array.getElem?_toList]
  match i with
  | 0 => simpa using h0
  | 1 => simpa using h1
  | i + 2 => rw [Array.getElem?_eq_none (by omega)]; simp

theorem steps : ((List.range 64).all fun k => decide ((decMap k)[(alphabet.getD k 0).toNat]? = some 255) && (decide ((alphabet.getD k 0) ≠ 10) && decide ((alphabet.getD k 0) ≠ 13))) = true := by kernel_rfl
theorem step_at {k : Nat} (hk : k < 64) : (decMap k)[(alphabet.getD k 0).toNat]? = some 255 ∧ alphabet.getD k 0 ≠ 10 ∧ alphabet.getD k 0 ≠ 13 := by
  have h := List.all_eq_true.1 steps k (List.mem_range.2 hk)
  simpa using h
theorem encRow_dec {d : List UInt8} {j : Nat} {x : UInt8} (h : d[j]? = some x) : (encRow d)[64 + j]? = some (.int .u8 (x.toNat : Int)) := by
  have hj := (List.getElem?_eq_some_iff.1 h).1
  unfold encRow
  rw [List.append_assoc, List.getElem?_append_right (by rw [byteCells_length, alphabet_length]; omega), byteCells_length, alphabet_length, Nat.add_sub_cancel_left, List.getElem?_append_left (by rw [byteCells_length]; exact hj)]
  simp [byteCells, h]
theorem encRow_enc {d : List UInt8} {j : Nat} {x : UInt8} (h : alphabet[j]? = some x) : (encRow d)[j]? = some (.int .u8 (x.toNat : Int)) := by
  have hj := (List.getElem?_eq_some_iff.1 h).1
  unfold encRow
  rw [List.append_assoc, List.getElem?_append_left (by rw [byteCells_length]; exact hj)]
  simp [byteCells, h]
theorem encRow_pad {d : List UInt8} (hd : d.length = 256) : (encRow d)[320]? = some (.int .i32 61) := by
  unfold encRow
  rw [List.getElem?_append_right (by rw [List.length_append, byteCells_length, byteCells_length, hd, alphabet_length]; omega), List.length_append, byteCells_length, byteCells_length, hd, alphabet_length]
  rfl
theorem encRow_strict {d : List UInt8} (hd : d.length = 256) : (encRow d)[321]? = some (.bool false) := by
  unfold encRow
  rw [List.getElem?_append_right (by rw [List.length_append, byteCells_length, byteCells_length, hd, alphabet_length]; omega), List.length_append, byteCells_length, byteCells_length, hd, alphabet_length]
  rfl
theorem encRow_set {d : List UInt8} {j : Nat} {x : UInt8} (hj : j < d.length) : (encRow d).set (64 + j) (.int .u8 (x.toNat : Int)) = encRow (d.set j x) := by
  unfold encRow
  rw [List.append_assoc, List.append_assoc, List.set_append_right _ _ (by rw [byteCells_length, alphabet_length]; omega), byteCells_length, alphabet_length, Nat.add_sub_cancel_left, List.set_append_left _ _ (by rw [byteCells_length]; exact hj)]
  unfold byteCells
  rw [List.map_set]

set_option maxRecDepth 100000 in
theorem zero181_size : (Tryd.zeroCells181).size = 322 := by kernel_rfl
theorem zero181_last : (Tryd.zeroCells181)[321]? = some (.bool false) := by kernel_rfl

set_option maxHeartbeats 1000000 in
set_option maxRecDepth 100000 in
theorem newEnc_any (w : World) :
    Calls Tryd.prog 75 #[.string ⟨alphabet.toArray⟩] w fun e w' => e = .returned (.pointer (some ⟨w.heap.size, 0, none⟩)) ∧ Below w.heap.size w w' ∧
      w'.heap[w.heap.size]? = some (.cells (encRow (decMap 64)).toArray 181 (0, 0)) := by
  have hsz : (⟨alphabet.toArray⟩ : ByteArray).size = 64 := rfl
  have hlist : (⟨alphabet.toArray⟩ : ByteArray).data.toList = alphabet := rfl
  generalize (⟨alphabet.toArray⟩ : ByteArray) = s at *
  have Hs := Lib.hid hlist
  clear hlist
  go_enter Tryd.func75, Tryd.ntmps75
  go_upto_region 5 with (fail)
  have hb0 : Below w.heap.size w (w.alloc (.cells (Tryd.zeroCells181.setIfInBounds 320 (.int .i32 61)) 181)) := (Below.refl _ _).alloc (Nat.le_refl _) _
  have hrow := heap_alloc_new w (.cells (Tryd.zeroCells181.setIfInBounds 320 (.int .i32 61)) 181)
  have hcs : (Tryd.zeroCells181.setIfInBounds 320 (.int .i32 61)).size = 322 := by rw [Array.size_setIfInBounds]; exact zero181_size
  have h320 : (Tryd.zeroCells181.setIfInBounds 320 (.int .i32 61))[320]? = some (.int .i32 61) := by rw [Array.getElem?_setIfInBounds_self_of_lt (by rw [zero181_size]; decide)]
  have h321 : (Tryd.zeroCells181.setIfInBounds 320 (.int .i32 61))[321]? = some (.bool false) := (Array.getElem?_setIfInBounds_ne (by decide)).trans zero181_last
  generalize Tryd.zeroCells181.setIfInBounds 320 (.int .i32 61) = cur at *
  generalize w.alloc (.cells cur 181) = W1 at *
  have hr1 := run_copy_row_string (P := Tryd.prog) W1 68 9 3 5 w.heap.size 0 64 64 s cur 181 Tryd.underlying68 (by kernel_rfl) hrow (by omega) (by omega)
  rw [hsz, Hs.out] at hr1
  generalize hc1' : (cur.toList.take 0 ++ byteCells alphabet ++ cur.toList.drop (0 + 64)).toArray = cur1 at hr1
  have hc1 : cur1.toList = byteCells alphabet ++ cur.toList.drop 64 := by rw [← hc1']; simp
  clear hc1'
  go_upto_region 6 with (at_builtin; refine Lib.wpList_copy_run _ rfl _ _ _ _ rfl _ _ rfl rfl hr1 ?_)
  have hrow1 := setRow_heap W1 w.heap.size cur cur1 181 (0, 0) hrow
  have hb1 : Below w.heap.size w (W1.setRow w.heap.size cur1) := below_setRow hb0 (Nat.le_refl _) _
  generalize W1.setRow w.heap.size cur1 = W2 at *
  clear hr1 hb0 hrow
  have hs1 : cur1.size = 322 := by
    rw [← Array.length_toList, hc1, List.length_append, byteCells_length, alphabet_length, List.length_drop, Array.length_toList, hcs]
  obtain ⟨ff, hff⟩ : ∃ ff : ByteArray, ff = ⟨#[255, 255, 255, 255, 255, 255, 255, 255, 255, 255, 255, 255, 255, 255, 255, 255, 255, 255, 255, 255, 255, 255, 255, 255, 255, 255, 255, 255, 255, 255, 255, 255, 255, 255, 255, 255, 255, 255, 255, 255, 255, 255, 255, 255, 255, 255, 255, 255, 255, 255, 255, 255, 255, 255, 255, 255, 255, 255, 255, 255, 255, 255, 255, 255, 255, 255, 255, 255, 255, 255, 255, 255, 255, 255, 255, 255, 255, 255, 255, 255, 255, 255, 255, 255, 255, 255, 255, 255, 255, 255, 255, 255, 255, 255, 255, 255, 255, 255, 255, 255, 255, 255, 255, 255, 255, 255, 255, 255, 255, 255, 255, 255, 255, 255, 255, 255, 255, 255, 255, 255, 255, 255, 255, 255, 255, 255, 255, 255, 255, 255, 255, 255, 255, 255, 255, 255, 255, 255, 255, 255, 255, 255, 255, 255, 255, 255, 255, 255, 255, 255, 255, 255, 255, 255, 255, 255, 255, 255, 255, 255, 255, 255, 255, 255, 255, 255, 255, 255, 255, 255, 255, 255, 255, 255, 255, 255, 255, 255, 255, 255, 255, 255, 255, 255, 255, 255, 255, 255, 255, 255, 255, 255, 255, 255, 255, 255, 255, 255, 255, 255, 255, 255, 255, 255, 255, 255, 255, 255, 255, 255, 255, 255, 255, 255, 255, 255, 255, 255, 255, 255, 255, 255, 255, 255, 255, 255, 255, 255, 255, 255, 255, 255, 255, 255, 255, 255, 255, 255, 255, 255, 255, 255, 255, 255, 255, 255, 255, 255, 255, 255, 255, 255, 255, 255, 255, 255]⟩ := ⟨_, rfl⟩
  have Hff := Lib.hid hff
  have hr2 := run_copy_row_string (P := Tryd.prog) W2 68 9 3 5 w.heap.size 64 256 256 ff cur1 181 Tryd.underlying68 (by kernel_rfl) hrow1 (by rw [Hff.out]; decide) (by rw [hs1, Hff.out]; decide)
  have hfs : ff.size = 256 := by rw [Hff.out]; rfl
  have hfl : ff.data.toList = List.replicate 256 255 := by rw [Hff.out]; rfl
  rw [hfs, hfl] at hr2
  rw [hff] at hr2
  clear hff Hff hfs hfl
  have hd := drop320 hcs h320 h321
  generalize hc2' : (cur1.toList.take 64 ++ byteCells (List.replicate 256 255) ++ cur1.toList.drop (64 + 256)).toArray = cur2 at hr2
  have hc2 : cur2 = (encRow (decMap 0)).toArray := by
    apply Array.ext'
    rw [← hc2', hc1]
    have hl : (byteCells alphabet).length = 64 := by rw [byteCells_length, alphabet_length]
    show (byteCells alphabet ++ cur.toList.drop 64).take 64 ++ byteCells (List.replicate 256 255) ++ (byteCells alphabet ++ cur.toList.drop 64).drop (64 + 256) = encRow (decMap 0)
    rw [List.take_left' hl, List.drop_append, hl, List.drop_drop, List.drop_eq_nil_of_le (by omega), List.nil_append]
    show _ ++ _ ++ cur.toList.drop 320 = _
    rw [hd]
    rfl
  have Hc2 := Lib.hid hc2
  clear hc2 hc2' hc1 hd h320 h321 hcs hs1
  go_upto_region 7 with (simp only [hr2])
  have hrow2 := setRow_heap W2 w.heap.size cur1 cur2 181 (0, 0) hrow1
  have hb2 : Below w.heap.size w (W2.setRow w.heap.size cur2) := below_setRow hb1 (Nat.le_refl _) _
  generalize W2.setRow w.heap.size cur2 = W3 at *
  rw [Hc2.out] at hrow2
  clear Hc2 hr2 hb1 hrow1
  go_wp2_with (fail)
  go_loopw [4] (fun i wr => ∃ k : Nat, k ≤ 64 ∧ i = .int .i64 k ∧ Below w.heap.size w wr ∧ wr.heap[w.heap.size]? = some (.cells (encRow (decMap k)).toArray 181 (0, 0))) (fun i _ => 64 - (RowKit.intOf i).toNat)
  case atStart => exact ⟨0, Nat.zero_le _, rfl, hb2, hrow2⟩
  case round =>
    obtain ⟨k, hk, rfl, hbr, hrow⟩ := hrel
    have Hrow := Lib.hid hrow
    clear hrow
    by_cases hlt : k < 64
    · obtain ⟨st1, st2, st3⟩ := step_at hlt
      have hx : s[k]'(by omega) = alphabet.getD k 0 := by
        show s.data[k]'_ = _
        rw [← Array.getElem_toList, List.getElem_of_eq Hs.out, List.getD_eq_getElem?_getD, List.getElem?_eq_getElem (by rw [alphabet_length]; omega), Option.getD_some]
      have hset := encRow_set (d := decMap k) (j := (alphabet.getD k 0).toNat) (x := UInt8.ofNat k) (by rw [decMap_length]; exact (alphabet.getD k 0).toNat_lt)
      have hnext : decMap (k + 1) = (decMap k).set (alphabet.getD k 0).toNat (UInt8.ofNat k) := rfl
      have hclt := (alphabet.getD k 0).toNat_lt
      have e10 : (((alphabet.getD k 0).toNat : Int) == 10) = false := by
        rw [beq_eq_false_iff_ne]; intro e; exact st2 (UInt8.toNat_inj.1 (by simpa using Int.ofNat.inj e))
      have e13 : (((alphabet.getD k 0).toNat : Int) == 13) = false := by
        rw [beq_eq_false_iff_ne]; intro e; exact st3 (UInt8.toNat_inj.1 (by simpa using Int.ofNat.inj e))
      generalize alphabet.getD k 0 = c at *
      have hcell : wr.cell? ⟨w.heap.size, 64 + c.toNat, none⟩ = some (.int .u8 255) := by
        rw [cell_of_row wr _ _ _ _ _ Hrow.out]
        simpa using encRow_dec st1
      have hfree : wr.frozen? ⟨w.heap.size, 64 + c.toNat, none⟩ = false := frozen_of_row wr _ _ _ _ Hrow.out
      have Hset := Lib.hid hset
      have Hnext := Lib.hid hnext
      have Hst1 := Lib.hid st1
      clear hset hnext st1 st2 st3
      have hc0 : (0 : Int) ≤ (c.toNat : Int) := by omega
      have hc1 : (c.toNat : Int) < 256 := by omega
      go_upto_region 12 with (fail)
      go_quiet (fail)
      have hbq : Below wr.heap.size wr (wr.drewN nq) := below_drewNg wr nq
      have hltg : w.heap.size < wr.heap.size := (Array.getElem?_eq_some_iff.1 Hrow.out).1
      have hrowq := (hbq.block _ hltg).trans Hrow.out
      have hb3 := hbr.trans (hbq.mono hbr.size)
      clear hcell hfree
      generalize wr.drewN nq = wq at *
      have hfree : wq.frozen? ⟨w.heap.size, 64 + c.toNat, none⟩ = false := frozen_of_row wq _ _ _ _ hrowq
      have hcell : wq.cell? ⟨w.heap.size, 64 + c.toNat, none⟩ = some (.int .u8 255) := by
        rw [cell_of_row wq _ _ _ _ _ hrowq]
        simpa using encRow_dec Hst1.out
      have hst := setCell_eq_setRow wq w.heap.size (64 + c.toNat) _ _ _ (.int .u8 (k : Int)) hrowq
      have Hst := Lib.hid hst
      have Hrowq := Lib.hid hrowq
      clear hst hrowq
      go_upto_region 14 with (fail)
      go_region
      have hbn : Below w.heap.size w (wq.setCell ⟨w.heap.size, 64 + c.toNat, none⟩ (.int .u8 (k : Int))).drew := (hb3.setCell (Nat.le_refl _) _).drew
      have hrown : (wq.setCell ⟨w.heap.size, 64 + c.toNat, none⟩ (.int .u8 (k : Int))).drew.heap[w.heap.size]? = some (.cells (encRow (decMap (k + 1))).toArray 181 (0, 0)) := by
        show (wq.setCell ⟨w.heap.size, 64 + c.toNat, none⟩ (.int .u8 (k : Int))).heap[w.heap.size]? = _
        rw [Hst.out, setRow_heap wq _ _ _ _ _ Hrowq.out, Hnext.out, ← Hset.out]
        have hkk : (UInt8.ofNat k).toNat = k := by rw [UInt8.toNat_ofNat']; omega
        rw [hkk]
        simp
      have Hrown := Lib.hid hrown
      clear hrown hcell hfree
      generalize (wq.setCell ⟨w.heap.size, 64 + c.toNat, none⟩ (.int .u8 (k : Int))).drew = wn at *
      go_wp2_with (fail)
      go_roundw
      case rel => exact ⟨k + 1, by omega, by go_num, hbn, Hrown.out⟩
      case measure => simp [RowKit.intOf]; omega
    · go_wp2_with (fail)
      go_ret
      obtain rfl : k = 64 := by omega
      exact ⟨rfl, hbr, Hrow.out⟩

theorem stdEnc_any (w : World) :
    Calls Tryd.prog 55 #[] w fun e w' => e = .returned (.pointer (some ⟨w.heap.size, 0, none⟩)) ∧ Below w.heap.size w w' ∧
      w'.heap[w.heap.size]? = some (.cells (encRow (decMap 64)).toArray 181 (0, 0)) := by
  have c1 := newEnc_any w
  go_enter Tryd.func55, Tryd.ntmps55
  go_wp2_with (fail)
  refine c1.mono ?_
  clear c1
  rintro e w1 ⟨rfl, hb, hr⟩
  go_wp2_with (fail)
  go_ret
  exact ⟨rfl, hb, hr⟩

end Go.Proofs.YtnnbhklkakhkkaaDoor

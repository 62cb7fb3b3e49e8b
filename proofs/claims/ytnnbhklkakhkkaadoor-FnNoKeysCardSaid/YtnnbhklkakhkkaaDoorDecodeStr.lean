/-
  base64, READING: the walks of DecodedLen and DecodeString.
-/
import Derived.Test.YtnnbhklkakhkkaaDoorDecode
import Derived.Test.YtnnbhklkakhkkaaDoorEncodeStr
import Derived.Lib.ConvBytes
namespace Go.Proofs.YtnnbhklkakhkkaaDoor
open Go.RowKit Go.Lib

set_option maxHeartbeats 1000000 in
theorem decodedLen_any (n : Nat) (w : World) (hn : n ≤ 2147483647) :
    Calls Tryd.prog 92 #[.int .i64 n, .int .i32 61] w fun e w' => e = .returned (.int .i64 (n / 4 * 3 : Nat)) ∧ w' = w := by
  go_enter Tryd.func92, Tryd.ntmps92
  go_wp2_with (fail)
  go_ret
  exact ⟨ret_int (by omega), rfl⟩

set_option maxHeartbeats 1000000 in
theorem decLen_any (g n : Nat) (w : World) (hE : w.heap[g]? = some (.cells (encRow (decMap 64)).toArray 181 (0, 0))) (hn : n ≤ 2147483647) :
    Calls Tryd.prog 78 #[.pointer (some ⟨g, 0, none⟩), .int .i64 n] w fun e w' => e = .returned (.int .i64 (n / 4 * 3 : Nat)) ∧ w' = w := by
  have e3 := encPad hE
  clear hE
  have c1 := decodedLen_any n w hn
  go_enter Tryd.func78, Tryd.ntmps78
  go_wp2_with (fail)
  refine c1.mono ?_
  clear c1
  rintro e w1 ⟨rfl, rfl⟩
  go_wp2_with (fail)
  go_ret
  exact ⟨rfl, rfl⟩

set_option maxHeartbeats 1000000 in
set_option maxRecDepth 100000 in
theorem decode_empty (g d b o n m c2 : Nat) (w : World) (h0 : m = 0) :
    Calls Tryd.prog 79 #[.pointer (some ⟨g, 0, none⟩), .slice (some ⟨d, 0, none⟩) n n, .slice (some ⟨b, o, none⟩) m c2] w fun e w' => e = .returned (.tuple #[.int .i64 0, .nilIface]) ∧ w' = w := by
  subst h0
  go_enter Tryd.func79, Tryd.ntmps79
  go_wp2_with (fail)
  go_ret2
  exact ⟨rfl, rfl⟩

/-- what DecodeString leaves -/
def SPost (w : World) (l : List UInt8) (e : Ending) (w' : World) : Prop :=
  Below w.heap.size w w' ∧ match decL l with
  | some x => ∃ g c, e = .returned (.tuple #[.slice (some ⟨g, 0, none⟩) x.length c, .nilIface]) ∧ w.heap.size ≤ g ∧ x.length ≤ c ∧ c ≤ 2147483647 ∧ ∃ R : Array Value, w'.heap[g]? = some (.cells R 5 (0, 0)) ∧ R.toList.take x.length = byteCells x
  | none => ∃ (A : Option Addr) (n c : Nat) (ev : Value), e = .returned (.tuple #[.slice A n c, .iface 204 ev])

set_option maxHeartbeats 2000000 in
set_option maxRecDepth 100000 in
theorem decStr_any (g : Nat) (s : ByteArray) (w : World) (hE : w.heap[g]? = some (.cells (encRow (decMap 64)).toArray 181 (0, 0))) (hm : s.size ≤ 2147483647)
    (hnl : ∀ x ∈ s.data.toList, x ≠ 10 ∧ x ≠ 13) :
    Calls Tryd.prog 57 #[.pointer (some ⟨g, 0, none⟩), .string s] w (SPost w s.data.toList) := by
  have c1 := decLen_any g s.size w hE hm
  have hg : g < w.heap.size := (Array.getElem?_eq_some_iff.1 hE).1
  have hl : s.data.toList.length = s.size := by simp
  have HE := Lib.hid hE
  have hnb : s.size / 4 * 3 ≤ 2147483647 := by omega
  generalize hnd : s.size / 4 * 3 = n at c1 hnb
  have Hn := Lib.hid hnd
  have Hl := Lib.hid hl
  have Hnl := Lib.hid hnl
  clear hE hnd hl hnl
  obtain ⟨i0, hi0, hz0, hz1, hz2⟩ := info_parts byteInfo
  have hmk := run_make (P := Tryd.prog) w 68 5 i0 _ Tryd.underlying68 hi0 hz0 .i64 .i64 (n : Int) (n : Int) (by omega) (Int.le_refl _) (by rw [hz2]; omega) (by omega)
  rw [show ((n : Int)).toNat = n by omega, hz1] at hmk
  have hsz : (madeCells (Value.cells (.int .u8 0)) (n * 1)).size = n := by rw [size_madeCells]; omega
  generalize madeCells (Value.cells (.int .u8 0)) (n * 1) = cur at *
  have hb0 : Below w.heap.size w (w.alloc (.cells cur 5)) := (Below.refl _ _).alloc (Nat.le_refl _) _
  have HB0 := Lib.hid hb0
  have Hcur := Lib.hid hsz
  clear hi0 hz0 hz1 hz2 hsz hb0
  go_enter Tryd.func57, Tryd.ntmps57
  go_wp2_with (fail)
  refine c1.mono ?_
  clear c1
  rintro e w1 ⟨rfl, rfl⟩
  have hcv := Lib.run_convert_string_bytes (P := Tryd.prog) (w1.alloc (.cells cur 5)) 9 68 5 s Tryd.underlying9 Tryd.underlying68 Tryd.underlying5
  have hcap := grownCap_ge (w1.alloc (.cells cur 5)) s.size 0 5
  have hbw : Below (w1.alloc (.cells cur 5)).heap.size (w1.alloc (.cells cur 5)) (Lib.bytesWorld (w1.alloc (.cells cur 5)) 5 s) :=
    ⟨rfl, rfl, rfl, by rw [Lib.bytesWorld_size]; omega, fun k hk => Lib.bytesWorld_at_old _ _ _ _ hk⟩
  have hrow : RowAt (Lib.bytesWorld (w1.alloc (.cells cur 5)) 5 s) (w1.alloc (.cells cur 5)).heap.size 0 (byteCells s.data.toList) := by
    intro j u hu
    have hj : j < s.size := by have := (List.getElem?_eq_some_iff.1 hu).1; rw [byteCells_length, Hl.out] at this; exact this
    rw [Nat.zero_add, Lib.bytesWorld_cell _ _ _ _ hj, ← hu]
    unfold byteCells
    rw [List.getElem?_map, List.getD_eq_getElem?_getD, List.getElem?_eq_getElem (by rw [Hl.out]; exact hj), Option.getD_some]
    rfl
  have hsz := Lib.bytesWorld_size (w1.alloc (.cells cur 5)) 5 s
  have hd0 := (hbw.block w1.heap.size (by simp)).trans (heap_alloc_new w1 (.cells cur 5))
  have hb02 := HB0.out.trans (hbw.mono HB0.out.size)
  generalize Lib.bytesWorld (w1.alloc (.cells cur 5)) 5 s = w2 at *
  have hws : (w1.alloc (.cells cur 5)).heap.size = w1.heap.size + 1 := by simp
  rw [hws] at hcv hrow hsz
  generalize grownCap (w1.alloc (.cells cur 5)) s.size 0 5 = cp at *
  have hE2 := (hb02.block g hg).trans HE.out
  have Hrow := Lib.hid hrow
  have Hd0 := Lib.hid hd0
  have Hb02 := Lib.hid hb02
  have Hsz := Lib.hid hsz
  have HE2 := Lib.hid hE2
  have hcap' : s.size ≤ cp := hcap
  clear hbw hrow hsz hd0 hb02 hE2 hws hcap
  by_cases hpos : 0 < s.size
  · have C2 := Lib.hid (decode_any g w1.heap.size (w1.heap.size + 1) 0 s.size cp n s.data.toList w2 cur HE2.out Hd0.out Hcur.out Hn.out.symm Hrow.out (by have := Hsz.out; omega) Hl.out Hnl.out (by omega) (by omega) hpos hm hcap')
    go_wp2_with (fail)
    refine C2.out.mono ?_
    clear C2
    intro e w3 hpost
    unfold DPost at hpost
    cases hd : decL s.data.toList with
    | some x =>
      rw [hd] at hpost
      obtain ⟨rfl, hg3, R, hR, hRs, hRt⟩ := hpost
      have hxn : x.length ≤ n := by have := decL_length _ _ _ (Nat.le_refl _) hd; rw [Hl.out, Hn.out] at this; exact this
      have hb3 : Below w1.heap.size w1 w3 := ⟨hg3.os.trans Hb02.out.os, hg3.tape.trans Hb02.out.tape, hg3.output.trans Hb02.out.output, Nat.le_trans Hb02.out.size hg3.size,
        fun k hk => (hg3.block k (by have := Hsz.out; omega) (by simp; omega)).trans (Hb02.out.block k hk)⟩
      have Hd := Lib.hid hd
      have Hb3 := Lib.hid hb3
      have HR := Lib.hid hR
      have HRt := Lib.hid hRt
      clear hd hb3 hR hRt hg3 hRs hcv
      go_wp2_with (fail)
      go_ret2
      unfold SPost
      rw [Hd.out]
      exact ⟨Hb3.out, w1.heap.size, n, rfl, Nat.le_refl _, hxn, hnb, R, HR.out, HRt.out⟩
    | none =>
      rw [hd] at hpost
      obtain ⟨n', ev, rfl, hn', hg3, R, hR, hRs⟩ := hpost
      have hb3 : Below w1.heap.size w1 w3 := ⟨hg3.os.trans Hb02.out.os, hg3.tape.trans Hb02.out.tape, hg3.output.trans Hb02.out.output, Nat.le_trans Hb02.out.size hg3.size,
        fun k hk => (hg3.block k (by have := Hsz.out; omega) (by simp; omega)).trans (Hb02.out.block k hk)⟩
      have Hd := Lib.hid hd
      have Hb3 := Lib.hid hb3
      clear hd hb3 hR hg3 hRs hcv
      go_wp2_with (fail)
      go_ret2
      unfold SPost
      rw [Hd.out]
      exact ⟨Hb3.out, _, _, _, ev, rfl⟩
  · have h0 : s.size = 0 := by omega
    have hn0 : n = 0 := by have := Hn.out; omega
    have hnil : s.data.toList = [] := List.eq_nil_of_length_eq_zero (by have := Hl.out; omega)
    have C2 := Lib.hid (decode_empty g w1.heap.size (w1.heap.size + 1) 0 n s.size cp w2 h0)
    have Hnil := Lib.hid hnil
    have H0 := Lib.hid h0
    have hn1 : (0 : Int) ≤ (n : Int) := by omega
    clear hnil h0 hn0 hpos
    go_wp2_with (fail)
    refine C2.out.mono ?_
    clear C2
    rintro e w3 ⟨rfl, rfl⟩
    clear hcv
    go_wp2_with (fail)
    go_ret2
    unfold SPost
    rw [Hnil.out]
    exact ⟨Hb02.out, w1.heap.size, n, rfl, Nat.le_refl _, Nat.zero_le _, hnb, cur, Hd0.out, rfl⟩

end Go.Proofs.YtnnbhklkakhkkaaDoor

/-
  base64 WITH THE STANDARD ALPHABET: writing into a string.
-/
import Derived.Test.YtnnbhklkakhkkaaDoorEncode
import Derived.Laws.MakeOwn
import Derived.Laws.IdiomStrings
namespace Go.Proofs.YtnnbhklkakhkkaaDoor
open Go.RowKit Go.Lib

theorem encL_length : ∀ l : List UInt8, (encL l).length = (l.length + 2) / 3 * 4
  | [] => rfl
  | [_] => by simp [encL, enc3]
  | [_, _] => by simp [encL, enc3]
  | _ :: _ :: _ :: t => by
    simp only [encL, List.length_append, List.length_cons, encL_length t, enc3, List.length_nil]
    omega

theorem byteInfo : (Tryd.prog.info? 5).map (fun i => (i.zero, i.size, i.bytes)) = some (some (.int .u8 0), 1, 1) := by kernel_rfl

set_option maxHeartbeats 1000000 in
theorem encLen_any (g n : Nat) (w : World) (hE : w.heap[g]? = some (.cells (encRow (decMap 64)).toArray 181 (0, 0))) (hn : n ≤ 2147483647) :
    Calls Tryd.prog 76 #[.pointer (some ⟨g, 0, none⟩), .int .i64 n] w fun e w' => e = .returned (.int .i64 ((n + 2) / 3 * 4 : Nat)) ∧ w' = w := by
  have e3 := encPad hE
  clear hE
  go_enter Tryd.func76, Tryd.ntmps76
  go_wp2_with (fail)
  go_ret
  exact ⟨ret_int (by omega), rfl⟩

set_option maxHeartbeats 1000000 in
set_option maxRecDepth 100000 in
theorem encStr_any (g m c : Nat) (A : Option Addr) (src : List UInt8) (w : World) (hE : w.heap[g]? = some (.cells (encRow (decMap 64)).toArray 181 (0, 0)))
    (hs : Sl w w.heap.size 1 A m (byteCells src)) (hmc : m ≤ c) (hm : m ≤ 2147483647) (hpos : 0 < m) :
    Calls Tryd.prog 56 #[.pointer (some ⟨g, 0, none⟩), .slice A m c] w fun e w' => e = .returned (.string ⟨(encL src).toArray⟩) ∧ Below w.heap.size w w' := by
  have c1 := encLen_any g m w hE hm
  have HE := Lib.hid hE
  have hg : g < w.heap.size := (Array.getElem?_eq_some_iff.1 hE).1
  have hel : (encL src).length = (m + 2) / 3 * 4 := by
    have h1 := hs.1
    rw [byteCells_length] at h1
    rw [encL_length, show src.length = m by omega]
  have hnn : (m + 2) / 3 * 4 = (m + 2) / 3 * 4 := rfl
  generalize hnd : (m + 2) / 3 * 4 = n at c1 hel
  have Hn := Lib.hid hnd
  have Hel := Lib.hid hel
  have hnb : n ≤ 3000000000 := by omega
  clear hE hnd hel hnn
  obtain ⟨i0, hi0, hz0, hz1, hz2⟩ := info_parts byteInfo
  have hmk := run_make (P := Tryd.prog) w 68 5 i0 _ Tryd.underlying68 hi0 hz0 .i64 .i64 (n : Int) (n : Int) (by omega) (Int.le_refl _) (by rw [hz2]; omega) (by omega)
  rw [show ((n : Int)).toNat = n by omega, hz1] at hmk
  have hsz : (madeCells (Value.cells (.int .u8 0)) (n * 1)).size = n := by rw [size_madeCells]; omega
  generalize madeCells (Value.cells (.int .u8 0)) (n * 1) = cur at *
  have hb0 : Below w.heap.size w (w.alloc (.cells cur 5)) := (Below.refl _ _).alloc (Nat.le_refl _) _
  have c2 := encode_any g w.heap.size n A m c src (w.alloc (.cells cur 5)) cur ((hb0.block g hg).trans HE.out) (heap_alloc_new w _) hsz hg (hs.below hb0) hmc Hn.out.symm hm hpos
  have HB0 := Lib.hid hb0
  clear hi0 hz0 hz1 hz2 hsz hg hs
  have C2 := Lib.hid c2
  clear c2 hb0
  go_enter Tryd.func56, Tryd.ntmps56
  go_wp2_with (fail)
  refine c1.mono ?_
  clear c1
  rintro e w1 ⟨rfl, rfl⟩
  go_wp2_with (fail)
  refine C2.out.mono ?_
  clear C2
  rintro e w2 ⟨rfl, hb2, hr2⟩
  have hcv := run_convert_bytes_back (P := Tryd.prog) w2 68 9 5 ⟨w1.heap.size, 0, none⟩ n (encL src) Tryd.underlying68 Tryd.underlying5 Tryd.underlying9 (fun j hj => by
    rw [add_zero_block, cell_of_row w2 _ _ _ _ _ hr2]
    simp [byteCells, hj])
  rw [Hel.out] at hcv
  have hb02 := HB0.out.trans hb2
  clear HB0 hb2 hr2 hmk
  go_wp2_with (fail)
  go_ret
  exact ⟨rfl, hb02⟩

end Go.Proofs.YtnnbhklkakhkkaaDoor

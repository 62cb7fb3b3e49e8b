/-
  base64, READING: the walks of assemble64, assemble32, BEPutUint64, BEPutUint32.
-/
import Derived.Test.YtnnbhklkakhkkaaDoorDecL
import Derived.Laws.BitsAllLaws
import Derived.Lib.BufferOwn
namespace Go.Proofs.YtnnbhklkakhkkaaDoor
open Go.RowKit Go.Lib

theorem ors_all : ((List.range 256).all fun y => decide ((255 ||| y : Nat) = 255) && decide ((y ||| 255 : Nat) = 255)) = true := by kernel_rfl

/-- two entries of the table of figures, joined -/
theorem or_fig {x y : Nat} (hx : x < 64 ∨ x = 255) (hy : y < 64 ∨ y = 255) : ∃ a : Nat, bits .or .u8 (x : Int) (y : Int) = (a : Int) ∧ (a < 64 ∨ a = 255) ∧ (a < 64 ↔ x < 64 ∧ y < 64) := by
  refine ⟨x ||| y, u8_or_nat x y (by omega) (by omega), ?_⟩
  rcases hx with hx | rfl
  · rcases hy with hy | rfl
    · have : x ||| y < 2 ^ 6 := Nat.or_lt_two_pow (by omega) (by omega)
      omega
    · have h := List.all_eq_true.1 ors_all x (List.mem_range.2 (by omega))
      simp only [Bool.and_eq_true, decide_eq_true_eq] at h
      omega
  · have h := List.all_eq_true.1 ors_all y (List.mem_range.2 (by omega))
    simp only [Bool.and_eq_true, decide_eq_true_eq] at h
    omega

theorem or_join (i a b : Nat) (ha : a % 2 ^ i = 0) (hb : b < 2 ^ i) (h1 : a < 18446744073709551616) (h2 : b < 18446744073709551616) : bits .or .u64 (a : Int) (b : Int) = ((a + b : Nat) : Int) := by
  rw [u64_or_nat a b h1 h2, nat_join i a b ha hb]
theorem or_join32 (i a b : Nat) (ha : a % 2 ^ i = 0) (hb : b < 2 ^ i) (h1 : a < 4294967296) (h2 : b < 4294967296) : bits .or .u32 (a : Int) (b : Int) = ((a + b : Nat) : Int) := by
  rw [u32_or_nat a b h1 h2, nat_join i a b ha hb]

set_option maxHeartbeats 1000000 in
theorem asm32_ok (a b c d : Nat) (ha : a < 64) (hb : b < 64) (hc : c < 64) (hd : d < 64) (w : World) :
    Calls Tryd.prog 96 #[.int .u8 a, .int .u8 b, .int .u8 c, .int .u8 d] w fun e w' => e = .returned (.tuple #[.int .u32 ((val4 a b c d * 256 : Nat) : Int), .bool true]) ∧ w' = w := by
  obtain ⟨x, hx, hx1, hx2⟩ := or_fig (.inl ha) (.inl hb)
  obtain ⟨y, hy, hy1, hy2⟩ := or_fig (x := x) hx1 (.inl hc)
  obtain ⟨z, hz, hz1, hz2⟩ := or_fig (x := y) hy1 (.inl hd)
  have e : ((z : Int) == 255) = false := by rw [beq_eq_false_iff_ne]; omega
  have o1 := or_join32 26 (a * 67108864) (b * 1048576) (by omega) (by omega) (by omega) (by omega)
  have o2 := or_join32 20 (a * 67108864 + b * 1048576) (c * 16384) (by omega) (by omega) (by omega) (by omega)
  have o3 := or_join32 14 (a * 67108864 + b * 1048576 + c * 16384) (d * 256) (by omega) (by omega) (by omega) (by omega)
  simp only [Int.natCast_mul, Int.natCast_add, Int.cast_ofNat_Int] at o1 o2 o3
  have hv : (val4 a b c d * 256 : Nat) = a * 67108864 + b * 1048576 + c * 16384 + d * 256 := by unfold val4; omega
  have Hv := Lib.hid hv
  clear hv hx1 hx2 hy1 hy2 hz1 hz2
  go_enter Tryd.func96, Tryd.ntmps96
  go_wp2_with (fail)
  go_ret2
  exact ⟨by rw [Hv.out]; simp, rfl⟩

set_option maxHeartbeats 1000000 in
theorem asm32_no (a b c d : Nat) (ha : a < 64 ∨ a = 255) (hb : b < 64 ∨ b = 255) (hc : c < 64 ∨ c = 255) (hd : d < 64 ∨ d = 255) (hno : ¬(a < 64 ∧ b < 64 ∧ c < 64 ∧ d < 64)) (w : World) :
    Calls Tryd.prog 96 #[.int .u8 a, .int .u8 b, .int .u8 c, .int .u8 d] w fun e w' => e = .returned (.tuple #[.int .u32 0, .bool false]) ∧ w' = w := by
  obtain ⟨x, hx, hx1, hx2⟩ := or_fig ha hb
  obtain ⟨y, hy, hy1, hy2⟩ := or_fig (x := x) hx1 hc
  obtain ⟨z, hz, hz1, hz2⟩ := or_fig (x := y) hy1 hd
  have e : ((z : Int) == 255) = true := by rw [beq_iff_eq]; omega
  clear hx1 hx2 hy1 hy2 hz1 hz2 ha hb hc hd hno
  go_enter Tryd.func96, Tryd.ntmps96
  go_wp2_with (fail)
  go_ret2
  exact ⟨rfl, rfl⟩

set_option maxHeartbeats 2000000 in
theorem asm64_ok (a b c d a' b' c' d' : Nat) (ha : a < 64) (hb : b < 64) (hc : c < 64) (hd : d < 64) (ha' : a' < 64) (hb' : b' < 64) (hc' : c' < 64) (hd' : d' < 64) (w : World) :
    Calls Tryd.prog 93 #[.int .u8 a, .int .u8 b, .int .u8 c, .int .u8 d, .int .u8 a', .int .u8 b', .int .u8 c', .int .u8 d'] w fun e w' =>
      e = .returned (.tuple #[.int .u64 ((val4 a b c d * 1099511627776 + val4 a' b' c' d' * 65536 : Nat) : Int), .bool true]) ∧ w' = w := by
  obtain ⟨x, hx, hx1, hx2⟩ := or_fig (.inl ha) (.inl hb)
  obtain ⟨y, hy, hy1, hy2⟩ := or_fig (x := x) hx1 (.inl hc)
  obtain ⟨z, hz, hz1, hz2⟩ := or_fig (x := y) hy1 (.inl hd)
  obtain ⟨t, ht, ht1, ht2⟩ := or_fig (x := z) hz1 (.inl ha')
  obtain ⟨u, hu, hu1, hu2⟩ := or_fig (x := t) ht1 (.inl hb')
  obtain ⟨v, hv, hv1, hv2⟩ := or_fig (x := u) hu1 (.inl hc')
  obtain ⟨s, hs, hs1, hs2⟩ := or_fig (x := v) hv1 (.inl hd')
  have e : ((s : Int) == 255) = false := by rw [beq_eq_false_iff_ne]; omega
  have o1 := or_join 58 (a * 288230376151711744) (b * 4503599627370496) (by omega) (by omega) (by omega) (by omega)
  have o2 := or_join 52 (a * 288230376151711744 + b * 4503599627370496) (c * 70368744177664) (by omega) (by omega) (by omega) (by omega)
  have o3 := or_join 46 (a * 288230376151711744 + b * 4503599627370496 + c * 70368744177664) (d * 1099511627776) (by omega) (by omega) (by omega) (by omega)
  have o4 := or_join 40 (a * 288230376151711744 + b * 4503599627370496 + c * 70368744177664 + d * 1099511627776) (a' * 17179869184) (by omega) (by omega) (by omega) (by omega)
  have o5 := or_join 34 (a * 288230376151711744 + b * 4503599627370496 + c * 70368744177664 + d * 1099511627776 + a' * 17179869184) (b' * 268435456) (by omega) (by omega) (by omega) (by omega)
  have o6 := or_join 28 (a * 288230376151711744 + b * 4503599627370496 + c * 70368744177664 + d * 1099511627776 + a' * 17179869184 + b' * 268435456) (c' * 4194304) (by omega) (by omega) (by omega) (by omega)
  have o7 := or_join 22 (a * 288230376151711744 + b * 4503599627370496 + c * 70368744177664 + d * 1099511627776 + a' * 17179869184 + b' * 268435456 + c' * 4194304) (d' * 65536) (by omega) (by omega) (by omega) (by omega)
  simp only [Int.natCast_mul, Int.natCast_add, Int.cast_ofNat_Int] at o1 o2 o3 o4 o5 o6 o7
  have hval : (val4 a b c d * 1099511627776 + val4 a' b' c' d' * 65536 : Nat) = a * 288230376151711744 + b * 4503599627370496 + c * 70368744177664 + d * 1099511627776 + a' * 17179869184 + b' * 268435456 + c' * 4194304 + d' * 65536 := by unfold val4; omega
  have Hv := Lib.hid hval
  clear hval hx1 hx2 hy1 hy2 hz1 hz2 ht1 ht2 hu1 hu2 hv1 hv2 hs1 hs2
  go_enter Tryd.func93, Tryd.ntmps93
  go_wp2_with (fail)
  go_ret2
  exact ⟨by rw [Hv.out]; simp, rfl⟩

set_option maxHeartbeats 2000000 in
theorem asm64_no (a b c d a' b' c' d' : Nat) (ha : a < 64 ∨ a = 255) (hb : b < 64 ∨ b = 255) (hc : c < 64 ∨ c = 255) (hd : d < 64 ∨ d = 255) (ha' : a' < 64 ∨ a' = 255) (hb' : b' < 64 ∨ b' = 255) (hc' : c' < 64 ∨ c' = 255)
    (hd' : d' < 64 ∨ d' = 255) (hno : ¬((a < 64 ∧ b < 64 ∧ c < 64 ∧ d < 64) ∧ (a' < 64 ∧ b' < 64 ∧ c' < 64 ∧ d' < 64))) (w : World) :
    Calls Tryd.prog 93 #[.int .u8 a, .int .u8 b, .int .u8 c, .int .u8 d, .int .u8 a', .int .u8 b', .int .u8 c', .int .u8 d'] w fun e w' =>
      e = .returned (.tuple #[.int .u64 0, .bool false]) ∧ w' = w := by
  obtain ⟨x, hx, hx1, hx2⟩ := or_fig ha hb
  obtain ⟨y, hy, hy1, hy2⟩ := or_fig (x := x) hx1 hc
  obtain ⟨z, hz, hz1, hz2⟩ := or_fig (x := y) hy1 hd
  obtain ⟨t, ht, ht1, ht2⟩ := or_fig (x := z) hz1 ha'
  obtain ⟨u, hu, hu1, hu2⟩ := or_fig (x := t) ht1 hb'
  obtain ⟨v, hv, hv1, hv2⟩ := or_fig (x := u) hu1 hc'
  obtain ⟨s, hs, hs1, hs2⟩ := or_fig (x := v) hv1 hd'
  have e : ((s : Int) == 255) = true := by rw [beq_iff_eq]; omega
  clear hx1 hx2 hy1 hy2 hz1 hz2 ht1 ht2 hu1 hu2 hv1 hv2 hs1 hs2 ha hb hc hd ha' hb' hc' hd' hno
  go_enter Tryd.func93, Tryd.ntmps93
  go_wp2_with (fail)
  go_ret2
  exact ⟨rfl, rfl⟩

/-- a row behind stores of n cells side by side -/
theorem row_set {w : World} {d k j : Nat} {R : Array Value} {t : TypeId} {xs : List Value} (hR : w.heap[d]? = some (.cells R t (0, 0))) (hx : R.toList.take (k + j) = xs) (hk : k + j < R.size) (v : Value) :
    ∃ R' : Array Value, (w.setCell ⟨d, k + j, none⟩ v).heap[d]? = some (.cells R' t (0, 0)) ∧ R'.size = R.size ∧ R'.toList.take (k + (j + 1)) = xs ++ [v] := by
  refine ⟨_, heap_setCell_same _ d (k + j) _ t v hR, by simp, ?_⟩
  rw [Array.toList_setIfInBounds, show k + (j + 1) = k + j + 1 by omega, List.take_add_one, List.take_set_of_le (Nat.le_refl _), hx, List.getElem?_set_self (by simpa using hk)]
  rfl

set_option maxHeartbeats 2000000 in
theorem put32_any (d k n c : Nat) (v : Nat) (xs : List Value) (w : World) (R : Array Value) (hR : w.heap[d]? = some (.cells R 5 (0, 0))) (hx : R.toList.take k = xs) (hn : k + n ≤ R.size) (h4 : 4 ≤ n)
    (hv : v < 4294967296) :
    Calls Tryd.prog 97 #[.slice (some ⟨d, k, none⟩) n c, .int .u32 v] w fun e w' => e = .returned (.tuple #[]) ∧ w.grownBy w' (some d) ∧
      ∃ R' : Array Value, w'.heap[d]? = some (.cells R' 5 (0, 0)) ∧ R'.size = R.size ∧
        R'.toList.take (k + 4) = xs ++ [.int .u8 ((v : Int) / 16777216), .int .u8 ((v : Int) / 65536 % 256), .int .u8 ((v : Int) / 256 % 256), .int .u8 ((v : Int) % 256)] := by
  have hd4 : ∀ j, j < 4 → ∃ u, w.cell? ⟨d, k + j, none⟩ = some u ∧ w.frozen? ⟨d, k + j, none⟩ = false := fun j hj =>
    ⟨R[k + j]'(by omega), (cell_of_row w _ _ _ _ _ hR).trans (Array.getElem?_eq_getElem (by omega)), frozen_of_row w _ _ _ _ hR⟩
  obtain ⟨u0, d0, z0⟩ := hd4 0 (by omega)
  obtain ⟨u1, d1, z1⟩ := hd4 1 (by omega)
  obtain ⟨u2, d2, z2⟩ := hd4 2 (by omega)
  obtain ⟨u3, d3, z3⟩ := hd4 3 (by omega)
  rw [Nat.add_zero] at d0 z0
  have i0 : (0 : Int) < (n : Int) := by omega
  have i1 : (1 : Int) < (n : Int) := by omega
  have i2 : (2 : Int) < (n : Int) := by omega
  have i3 : (3 : Int) < (n : Int) := by omega
  have HR := Lib.hid hR
  have Hx := Lib.hid hx
  clear hd4 hR hx
  go_enter Tryd.func97, Tryd.ntmps97
  go_wp2_with (fail)
  go_end0
  refine ⟨rfl, grownBy_setB (grownBy_setB (grownBy_setB (grownBy_setCell w d k _) _ _) _ _) _ _, ?_⟩
  obtain ⟨R1, r1, s1, t1⟩ := row_set HR.out (k := k) (j := 0) Hx.out (by omega) (.int .u8 ((v : Int) / 16777216))
  obtain ⟨R2, r2, s2, t2⟩ := row_set r1 (k := k) (j := 1) t1 (by omega) (.int .u8 ((v : Int) / 65536 % 256))
  obtain ⟨R3, r3, s3, t3⟩ := row_set r2 (k := k) (j := 2) t2 (by omega) (.int .u8 ((v : Int) / 256 % 256))
  obtain ⟨R4, r4, s4, t4⟩ := row_set r3 (k := k) (j := 3) t3 (by omega) (.int .u8 ((v : Int) % 256))
  exact ⟨R4, r4, by omega, by rw [t4]; simp⟩

set_option maxHeartbeats 4000000 in
theorem put64_any (d k n c : Nat) (v : Nat) (xs : List Value) (w : World) (R : Array Value) (hR : w.heap[d]? = some (.cells R 5 (0, 0))) (hx : R.toList.take k = xs) (hn : k + n ≤ R.size) (h4 : 8 ≤ n)
    (hv : v < 18446744073709551616) :
    Calls Tryd.prog 94 #[.slice (some ⟨d, k, none⟩) n c, .int .u64 v] w fun e w' => e = .returned (.tuple #[]) ∧ w.grownBy w' (some d) ∧
      ∃ R' : Array Value, w'.heap[d]? = some (.cells R' 5 (0, 0)) ∧ R'.size = R.size ∧
        R'.toList.take (k + 8) = xs ++ [.int .u8 ((v : Int) / 72057594037927936), .int .u8 ((v : Int) / 281474976710656 % 256), .int .u8 ((v : Int) / 1099511627776 % 256), .int .u8 ((v : Int) / 4294967296 % 256),
          .int .u8 ((v : Int) / 16777216 % 256), .int .u8 ((v : Int) / 65536 % 256), .int .u8 ((v : Int) / 256 % 256), .int .u8 ((v : Int) % 256)] := by
  have hd4 : ∀ j, j < 8 → ∃ u, w.cell? ⟨d, k + j, none⟩ = some u ∧ w.frozen? ⟨d, k + j, none⟩ = false := fun j hj =>
    ⟨R[k + j]'(by omega), (cell_of_row w _ _ _ _ _ hR).trans (Array.getElem?_eq_getElem (by omega)), frozen_of_row w _ _ _ _ hR⟩
  obtain ⟨u0, d0, z0⟩ := hd4 0 (by omega)
  obtain ⟨u1, d1, z1⟩ := hd4 1 (by omega)
  obtain ⟨u2, d2, z2⟩ := hd4 2 (by omega)
  obtain ⟨u3, d3, z3⟩ := hd4 3 (by omega)
  obtain ⟨u4, d4, z4⟩ := hd4 4 (by omega)
  obtain ⟨u5, d5, z5⟩ := hd4 5 (by omega)
  obtain ⟨u6, d6, z6⟩ := hd4 6 (by omega)
  obtain ⟨u7, d7, z7⟩ := hd4 7 (by omega)
  rw [Nat.add_zero] at d0 z0
  have i0 : (0 : Int) < (n : Int) := by omega
  have i1 : (1 : Int) < (n : Int) := by omega
  have i2 : (2 : Int) < (n : Int) := by omega
  have i3 : (3 : Int) < (n : Int) := by omega
  have i4 : (4 : Int) < (n : Int) := by omega
  have i5 : (5 : Int) < (n : Int) := by omega
  have i6 : (6 : Int) < (n : Int) := by omega
  have i7 : (7 : Int) < (n : Int) := by omega
  have HR := Lib.hid hR
  have Hx := Lib.hid hx
  clear hd4 hR hx
  go_enter Tryd.func94, Tryd.ntmps94
  go_wp2_with (fail)
  go_end0
  refine ⟨rfl, grownBy_setB (grownBy_setB (grownBy_setB (grownBy_setB (grownBy_setB (grownBy_setB (grownBy_setB (grownBy_setCell w d k _) _ _) _ _) _ _) _ _) _ _) _ _) _ _, ?_⟩
  obtain ⟨R1, r1, s1, t1⟩ := row_set HR.out (k := k) (j := 0) Hx.out (by omega) (.int .u8 ((v : Int) / 72057594037927936))
  obtain ⟨R2, r2, s2, t2⟩ := row_set r1 (k := k) (j := 1) t1 (by omega) (.int .u8 ((v : Int) / 281474976710656 % 256))
  obtain ⟨R3, r3, s3, t3⟩ := row_set r2 (k := k) (j := 2) t2 (by omega) (.int .u8 ((v : Int) / 1099511627776 % 256))
  obtain ⟨R4, r4, s4, t4⟩ := row_set r3 (k := k) (j := 3) t3 (by omega) (.int .u8 ((v : Int) / 4294967296 % 256))
  obtain ⟨R5, r5, s5, t5⟩ := row_set r4 (k := k) (j := 4) t4 (by omega) (.int .u8 ((v : Int) / 16777216 % 256))
  obtain ⟨R6, r6, s6, t6⟩ := row_set r5 (k := k) (j := 5) t5 (by omega) (.int .u8 ((v : Int) / 65536 % 256))
  obtain ⟨R7, r7, s7, t7⟩ := row_set r6 (k := k) (j := 6) t6 (by omega) (.int .u8 ((v : Int) / 256 % 256))
  obtain ⟨R8, r8, s8, t8⟩ := row_set r7 (k := k) (j := 7) t7 (by omega) (.int .u8 ((v : Int) % 256))
  exact ⟨R8, r8, by omega, by rw [t8]; simp⟩

end Go.Proofs.YtnnbhklkakhkkaaDoor

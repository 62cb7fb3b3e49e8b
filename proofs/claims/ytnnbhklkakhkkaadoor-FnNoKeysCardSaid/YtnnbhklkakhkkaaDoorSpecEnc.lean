/-
  THE REFERENCE'S base64, WRITING: the walks of spec.Encode, spec.Bytes and spec.write.
-/
import Derived.Test.YtnnbhklkakhkkaaDoorSpecDec
import Derived.Test.YtnnbhklkakhkkaaDoorSignParts
import Derived.Test.YtnnbhklkakhkkaaDoorOlds
namespace Go.Proofs.YtnnbhklkakhkkaaDoor
open Go.RowKit Go.Lib

/-- a string out of its bytes -/
def str (l : List UInt8) : ByteArray := ⟨l.toArray⟩
theorem str_size (l : List UInt8) : (str l).size = l.length := by simp [str, ByteArray.size]
theorem str_list (l : List UInt8) : (str l).data.toList = l := by simp [str]
theorem str_of (s : ByteArray) : str s.data.toList = s := by cases s; simp [str]
theorem str_add (a b : List UInt8) : str a ++ str b = str (a ++ b) := by
  have h : ∀ x y : ByteArray, x.data.toList = y.data.toList → x = y := fun x y h => by
    rcases x with ⟨⟨x⟩⟩
    rcases y with ⟨⟨y⟩⟩
    simp at h
    subst h
    rfl
  apply h
  rw [ByteArray.data_append]
  simp [str]
theorem str_inj {a b : List UInt8} (h : str a = str b) : a = b := by
  have := congrArg (fun s : ByteArray => s.data.toList) h
  simpa [str] using this
/-- joining, as the walk meets it -/
theorem run_join {P : Program} (a b : List UInt8) (h : a.length + b.length ≤ 9223372036854775807) (w : World) : (Op.stringOp .add (str a) (str b)).run P w = .ok (.string (str (a ++ b))) w := by
  rw [run_string_add_sum w _ _ (by rw [str_size, str_size]; exact h), str_add]

/-- the figures -/
def figsS : ByteArray := ⟨#[65, 66, 67, 68, 69, 70, 71, 72, 73, 74, 75, 76, 77, 78, 79, 80, 81, 82, 83, 84, 85, 86, 87, 88, 89, 90, 97, 98, 99, 100, 101, 102, 103, 104, 105, 106, 107, 108, 109, 110, 111, 112, 113, 114, 115, 116, 117, 118, 119, 120, 121, 122, 48, 49, 50, 51, 52, 53, 54, 55, 56, 57, 43, 47]⟩
theorem figs_size : figsS.size = 64 := by rfl
theorem figs_all_cut : ((List.range 64).all fun k => (figsS.extract k (k + 1)).data == (str [alphabet.getD k 0]).data) = true := by kernel_rfl
theorem figs_cut (k : Nat) (hk : k < 64) : figsS.extract k (k + 1) = str [alphabet.getD k 0] := by
  have h1 := List.all_eq_true.1 figs_all_cut k (List.mem_range.2 hk)
  exact ByteArray.ext (eq_of_beq h1)

theorem and_63 (n : Nat) (hn : n < 16777216) : bits .and .i64 (n : Int) 63 = ((n % 64 : Nat) : Int) := by
  have h := and_i64 n 63 (by omega) (by omega)
  rw [show n &&& 63 = n % 64 from Nat.and_two_pow_sub_one_eq_mod n 6] at h
  simpa using h
theorem or_eight (n f : Nat) (hn : n < 65536) (hf : f < 256) : bits .or .i64 ((n : Int) * 256) (f : Int) = ((n * 256 + f : Nat) : Int) := by
  have h := or_i64 (n * 256) f (by omega) (by omega)
  have e := Nat.two_pow_add_eq_or_of_lt (i := 8) (b := f) (by omega) n
  rw [show 2 ^ 8 * n = n * 256 by omega] at e
  rw [← e] at h
  simpa using h

theorem bytes_ext {x y : ByteArray} (h : x.data.toList = y.data.toList) : x = y := by
  rcases x with ⟨⟨x⟩⟩
  rcases y with ⟨⟨y⟩⟩
  simp at h
  subst h
  rfl
theorem ret_str {a b : ByteArray} (h : a = b) : Ending.returned (.string a) = .returned (.string b) := by rw [h]

set_option maxHeartbeats 2000000 in
theorem specWrite_any (a b : ByteArray) (w : World) (ha : a.size ≤ 4294967296) (hb : b.size ≤ 4294967296) : Calls Tryd.prog 35 #[.string a, .string b] w fun e w' => e = .returned (.string (str (lineL a.data.toList b.data.toList))) ∧ w' = w := by
  have d4 : (⟨#[226, 128, 148, 32]⟩ : ByteArray).size = 4 := rfl
  have d1 : (⟨#[32]⟩ : ByteArray).size = 1 := rfl
  have d2 : (⟨#[10]⟩ : ByteArray).size = 1 := rfl
  go_enter Tryd.func35, Tryd.ntmps35
  go_wp2_with (fail)
  go_ret
  refine ⟨ret_str (bytes_ext ?_), rfl⟩
  rw [str_list]
  simp [ByteArray.data_append, lineL, dash]

set_option maxHeartbeats 2000000 in
set_option maxRecDepth 100000 in
theorem specBytes_any (h : Int) (h0 : 0 ≤ h) (h1 : h < 4294967296) (s : ByteArray) (w : World) (hs : s.size ≤ 4294967296) : Calls Tryd.prog 37 #[.int .u32 h, .string s] w fun e w' => e = .returned (.string (str (hash4 h.toNat ++ s.data.toList))) ∧ Below w.heap.size w w' := by
  obtain ⟨n, rfl⟩ := Int.eq_ofNat_of_zero_le h0
  have hn : n < 4294967296 := by omega
  have hc := hash4_cells hn
  have hcv := run_convert_bytes_back (P := Tryd.prog) (w.alloc (.cells #[.int .u8 ((n : Int) / 16777216), .int .u8 ((n : Int) / 65536 % 256), .int .u8 ((n : Int) / 256 % 256), .int .u8 ((n : Int) % 256)] 5)) 68 9 5 ⟨w.heap.size, 0, none⟩ 4 (hash4 n) Tryd.underlying68 Tryd.underlying5 Tryd.underlying9 (fun j hj => by
    refine new_cells rfl j _ ?_
    show [Value.int .u8 ((n : Int) / 16777216), .int .u8 ((n : Int) / 65536 % 256), .int .u8 ((n : Int) / 256 % 256), .int .u8 ((n : Int) % 256)][j]? = _
    rw [← hc]
    simp [byteCells, hj])
  have h4 : (hash4 n).length = 4 := rfl
  rw [h4] at hcv
  have hsz : (⟨(hash4 n).toArray⟩ : ByteArray).size = 4 := rfl
  generalize hR : (⟨(hash4 n).toArray⟩ : ByteArray) = R at hcv hsz
  have HR := Lib.hid hR
  clear hR hc h4
  go_enter Tryd.func37, Tryd.ntmps37
  go_wp2_with (fail)
  go_ret
  refine ⟨ret_str (bytes_ext ?_), (Below.refl _ _).alloc (Nat.le_refl _) _⟩
  rw [str_list, ← HR.out]
  simp [ByteArray.data_append]

theorem orA (x y : Nat) (hx : x < 256) (hy : y < 256) : bits .or .u32 ((x : Int) * 16777216) ((y : Int) * 65536) = (x : Int) * 16777216 + (y : Int) * 65536 := by
  have h := or_join32 24 (x * 16777216) (y * 65536) (by omega) (by omega) (by omega) (by omega)
  simpa using h
theorem orB (x y z : Nat) (hx : x < 256) (hy : y < 256) (hz : z < 256) : bits .or .u32 ((x : Int) * 16777216 + (y : Int) * 65536) ((z : Int) * 256) = (x : Int) * 16777216 + (y : Int) * 65536 + (z : Int) * 256 := by
  have h := or_join32 16 (x * 16777216 + y * 65536) (z * 256) (by omega) (by omega) (by omega) (by omega)
  simpa using h
theorem orC (x y z u : Nat) (hx : x < 256) (hy : y < 256) (hz : z < 256) (hu : u < 256) : bits .or .u32 ((x : Int) * 16777216 + (y : Int) * 65536 + (z : Int) * 256) (u : Int) = (x : Int) * 16777216 + (y : Int) * 65536 + (z : Int) * 256 + (u : Int) := by
  have h := or_join32 8 (x * 16777216 + y * 65536 + z * 256) u (by omega) (by omega) (by omega) (by omega)
  simpa using h
theorem be4_bAt (s : ByteArray) : (be4 s.data.toList : Int) = (bAt s 0 : Int) * 16777216 + (bAt s 1 : Int) * 65536 + (bAt s 2 : Int) * 256 + (bAt s 3 : Int) := by
  unfold be4 bAt
  omega

set_option maxHeartbeats 2000000 in
set_option maxRecDepth 100000 in
theorem specHash_any (s : ByteArray) (w : World) (h4 : 4 ≤ s.size) : Calls Tryd.prog 39 #[.string s] w fun e w' => e = .returned (.int .u32 (be4 s.data.toList)) ∧ ∃ n, w' = w.drewN n := by
  have hb := get_bAt s
  rw [be4_bAt]
  have o1 := orA (bAt s 0) (bAt s 1) (bAt_lt _ _) (bAt_lt _ _)
  have o2 := orB (bAt s 0) (bAt s 1) (bAt s 2) (bAt_lt _ _) (bAt_lt _ _) (bAt_lt _ _)
  have o3 := orC (bAt s 0) (bAt s 1) (bAt s 2) (bAt s 3) (bAt_lt _ _) (bAt_lt _ _) (bAt_lt _ _) (bAt_lt _ _)
  have l0 := bAt_lt s 0; have l1 := bAt_lt s 1; have l2 := bAt_lt s 2; have l3 := bAt_lt s 3
  go_enter Tryd.func39, Tryd.ntmps39
  go_wp2_with (fail)
  go_quiet (fail)
  go_wp2_with (fail)
  go_ret
  exact ⟨rfl, _, rfl⟩

theorem vOf_next {L : List UInt8} {i j : Nat} : vOf L i (j + 1) = vOf L i j * 256 + (L.getD (i + j) 0).toNat := rfl
theorem vOf_end {L : List UInt8} {i j : Nat} (h : L.length ≤ i + j) : vOf L i (j + 1) = vOf L i j * 256 := by
  rw [vOf, bOf, getD_none h]
  exact Nat.add_zero _
theorem efour_next {L : List UInt8} {i j : Nat} (hj : j < 4) : (eFour L i).take (j + 1) = (eFour L i).take j ++ [eOf L i j] := by
  rcases j with _ | _ | _ | _ | j
  · rfl
  · rfl
  · rfl
  · rfl
  · omega
theorem fig_is (n : Nat) : alphabet.getD (n % 64) 0 = fig n := rfl
/-- one figure more -/
theorem add_fig (A : List UInt8) (k n : Nat) (hk : k = n % 64) : str A ++ figsS.extract k (k + 1) = str (A ++ [fig n]) := by
  subst hk
  rw [figs_cut _ (Nat.mod_lt _ (by decide)), str_add]
  rfl
theorem add_pad (A : List UInt8) : str A ++ ⟨#[61]⟩ = str (A ++ [61]) := str_add A [61]

theorem eOf_fig {L : List UInt8} {i j k V n : Nat} (hk : k = min 3 (n - i)) (hn : L.length = n) (hV : V = vOf L i 3) (h : j ≤ k) : eOf L i j = fig (V / 2 ^ (18 - 6 * j)) := by
  unfold eOf
  rw [hn, ← hk, if_pos h, hV]
theorem eOf_pad {L : List UInt8} {i j k n : Nat} (hk : k = min 3 (n - i)) (hn : L.length = n) (h : ¬ j ≤ k) : eOf L i j = 61 := by
  unfold eOf
  rw [hn, ← hk, if_neg h]
theorem enc_add {P L : List UInt8} {S : ByteArray} {i j x n : Nat} (hS : S = str (P ++ (eFour L i).take j)) (hx : x = n % 64) (he : eOf L i j = fig n) (hj : j < 4) : S ++ figsS.extract x (x + 1) = str (P ++ (eFour L i).take (j + 1)) := by
  rw [hS, add_fig _ x n hx, efour_next hj, he, List.append_assoc]
theorem enc_pad {P L : List UInt8} {S : ByteArray} {i j : Nat} (hS : S = str (P ++ (eFour L i).take j)) (he : eOf L i j = 61) (hj : j < 4) : S ++ ⟨#[61]⟩ = str (P ++ (eFour L i).take (j + 1)) := by
  rw [hS, add_pad, efour_next hj, he, List.append_assoc]

set_option maxHeartbeats 4000000 in
set_option maxRecDepth 100000 in
theorem specEnc_any (s : ByteArray) (w : World) (hs : s.size ≤ 4294967296) : Calls Tryd.prog 36 #[.string s] w fun e w' => e = .returned (.string (str (encL s.data.toList))) ∧ Below w.heap.size w w' := by
  have hl : s.data.toList.length = s.size := by simp
  have hel := encL_length s.data.toList
  rw [hl] at hel
  have Hl := Lib.hid hl
  have hb := get_bAt s
  have hfz := figs_size
  clear hl
  have hF : figsS = ⟨#[65, 66, 67, 68, 69, 70, 71, 72, 73, 74, 75, 76, 77, 78, 79, 80, 81, 82, 83, 84, 85, 86, 87, 88, 89, 90, 97, 98, 99, 100, 101, 102, 103, 104, 105, 106, 107, 108, 109, 110, 111, 112, 113, 114, 115, 116, 117, 118, 119, 120, 121, 122, 48, 49, 50, 51, 52, 53, 54, 55, 56, 57, 43, 47]⟩ := rfl
  go_enter Tryd.func36, Tryd.ntmps36
  go_upto_block 0 with (fail)
  rw [← hF]
  clear hF
  go_wp2_with (fail)
  go_loopw [4, 5] (fun v4 v5 wr => ∃ q : Nat, 3 * q ≤ s.size + 2 ∧ v5 = .int .i64 ((3 * q : Nat) : Int) ∧ v4 = .string (str (encL (s.data.toList.take (3 * q)))) ∧ Hid (Below w.heap.size w wr)) (fun _ v _ => s.size + 2 - (intOf v).toNat)
  case atStart => exact ⟨0, by omega, rfl, rfl, Below.refl _ _⟩
  case round =>
    obtain ⟨q, hq, rfl, rfl, Hb⟩ := hrel
    by_cases hlt : 3 * q < s.size
    · obtain ⟨i, hi⟩ : ∃ i, i = 3 * q := ⟨_, rfl⟩
      obtain ⟨k, hk⟩ : ∃ k, k = min 3 (s.size - i) := ⟨_, rfl⟩
      rw [← hi]
      rw [← hi] at hlt hq
      have Hi := Lib.hid hi
      clear hi
      go_upto_region 7 with (fail)
      rw [show min 3 ((s.size : Int) - (i : Int)) = (k : Int) by omega]
      have hk3 : 1 ≤ k ∧ k ≤ 3 := by omega
      have hkl : ∀ j, j < k → i + j < s.size := by omega
      have hkg : ∀ j, ¬ j < k → j < 3 → s.size ≤ i + j := by omega
      have HK := Lib.hid hkg
      have HKk := Lib.hid hk
      clear hkg hk
      go_wp2_with (fail)
      go_loopw [6, 21] (fun v6 v21 wx => ∃ j : Nat, j ≤ 3 ∧ v21 = .int .i64 (j : Int) ∧ v6 = .int .i64 (vOf s.data.toList i j : Nat) ∧ wx = wr) (fun _ v _ => 3 - (intOf v).toNat)
      case atStart => exact ⟨0, by omega, rfl, rfl, rfl⟩
      case round =>
        obtain ⟨j, hj, rfl, rfl, hw⟩ := hrel
        obtain rfl := hw.symm
        by_cases hj3 : j < 3
        · --DEV
          have hnl : vOf s.data.toList i j < 65536 := by
            have h1 := vOf_lt s.data.toList i j
            have h2 : 256 ^ j ≤ 256 ^ 2 := Nat.pow_le_pow_right (by omega) (by omega)
            omega
          by_cases hjk : j < k
          · have hjl := hkl j hjk
            have e1 : ((i : Int) + (j : Int)).toNat = i + j := by omega
            have hor := or_eight (vOf s.data.toList i j) (bAt s (i + j)) hnl (bAt_lt _ _)
            have hbl := bAt_lt s (i + j)
            clear hkl
            go_wp2_with (fail)
            go_roundw
            case rel =>
              refine ⟨j + 1, by omega, by go_num, ?_, by trivial⟩
              rw [vOf_next]
              exact congrArg (Value.int .i64) (by show _ = ((vOf s.data.toList i j * 256 + bAt s (i + j) : Nat) : Int); omega)
            case measure => simp [intOf]; omega
          · have hjl := HK.out j hjk hj3
            clear hkl
            go_wp2_with (fail)
            go_roundw
            case rel =>
              refine ⟨j + 1, by omega, by go_num, ?_, by trivial⟩
              rw [vOf_end (by rw [Hl.out]; exact hjl)]
              exact congrArg (Value.int .i64) (by omega)
            case measure => simp [intOf]; omega
          --VED
        · obtain rfl : j = 3 := by omega
          clear hkl
          simp only [Int.cast_ofNat_Int]
          obtain ⟨V, hV⟩ : ∃ V, V = vOf s.data.toList i 3 := ⟨_, rfl⟩
          have hV3 : V < 16777216 := by rw [hV]; exact vOf_lt s.data.toList i 3
          rw [← hV]
          have HV := Lib.hid hV
          obtain ⟨P, hP⟩ : ∃ P, P = encL (s.data.toList.take i) := ⟨_, rfl⟩
          have hPl : P.length ≤ 6442450944 := by
            rw [hP, encL_length, List.length_take]
            omega
          rw [← hP]
          have HP := Lib.hid hP
          clear hV hP
          go_wp2_with (fail)
          go_loopw [4, 38] (fun v4 v38 wx => ∃ j : Nat, j ≤ 4 ∧ v38 = .int .i64 (j : Int) ∧ v4 = .string (str (P ++ (eFour s.data.toList i).take j)) ∧ Hid (Below w.heap.size w wx)) (fun _ v _ => 4 - (intOf v).toNat)
          case atStart => exact ⟨0, by omega, rfl, by simp, Hb⟩
          case round =>
            obtain ⟨j, hj, rfl, rfl, Hb2⟩ := hrel
            obtain rfl | rfl | rfl | rfl | rfl : j = 0 ∨ j = 1 ∨ j = 2 ∨ j = 3 ∨ j = 4 := by omega
            · obtain ⟨S, hS⟩ : ∃ S, S = str (P ++ (eFour s.data.toList i).take 0) := ⟨_, rfl⟩
              have hS2 : S.size ≤ 8589934592 := by rw [hS, str_size, List.length_append, List.length_take]; omega
              rw [← hS]
              have HS := Lib.hid hS
              clear hS
              obtain ⟨x, hx⟩ : ∃ x, x = (V / 262144) % 64 := ⟨_, rfl⟩
              have ha : bits .and .i64 ((V : Int) / 262144) 63 = (x : Int) := by
                have h := and_63 (V / 262144) (by omega)
                rw [show ((V / 262144 : Nat) : Int) = ((V : Int) / 262144) by omega, ← hx] at h
                exact h
              have hx64 : x < 64 := by omega
              have Hx := Lib.hid hx
              clear hx
              simp only [Int.cast_ofNat_Int]
              go_upto_region 18 with (fail)
              go_quiet (fail)
              go_wp2_with (fail)
              go_roundw
              case rel => exact ⟨1, by omega, rfl, by rw [← enc_add HS.out Hx.out (eOf_fig HKk.out Hl.out HV.out (by omega)) (by omega)], Hb2.out.trans ⟨rfl, rfl, rfl, Nat.le_refl _, fun _ _ => rfl⟩⟩
              case measure => simp [intOf]
            · obtain ⟨S, hS⟩ : ∃ S, S = str (P ++ (eFour s.data.toList i).take 1) := ⟨_, rfl⟩
              have hS2 : S.size ≤ 8589934592 := by rw [hS, str_size, List.length_append, List.length_take]; omega
              rw [← hS]
              have HS := Lib.hid hS
              clear hS
              obtain ⟨x, hx⟩ : ∃ x, x = (V / 4096) % 64 := ⟨_, rfl⟩
              have ha : bits .and .i64 ((V : Int) / 4096) 63 = (x : Int) := by
                have h := and_63 (V / 4096) (by omega)
                rw [show ((V / 4096 : Nat) : Int) = ((V : Int) / 4096) by omega, ← hx] at h
                exact h
              have hx64 : x < 64 := by omega
              have Hx := Lib.hid hx
              clear hx
              simp only [Int.cast_ofNat_Int]
              go_upto_region 18 with (fail)
              go_quiet (fail)
              go_wp2_with (fail)
              go_roundw
              case rel => exact ⟨2, by omega, rfl, by rw [← enc_add HS.out Hx.out (eOf_fig HKk.out Hl.out HV.out (by omega)) (by omega)], Hb2.out.trans ⟨rfl, rfl, rfl, Nat.le_refl _, fun _ _ => rfl⟩⟩
              case measure => simp [intOf]
            · obtain ⟨S, hS⟩ : ∃ S, S = str (P ++ (eFour s.data.toList i).take 2) := ⟨_, rfl⟩
              have hS2 : S.size ≤ 8589934592 := by rw [hS, str_size, List.length_append, List.length_take]; omega
              rw [← hS]
              have HS := Lib.hid hS
              clear hS
              by_cases hjk : 2 ≤ k
              · obtain ⟨x, hx⟩ : ∃ x, x = (V / 64) % 64 := ⟨_, rfl⟩
                have ha : bits .and .i64 ((V : Int) / 64) 63 = (x : Int) := by
                  have h := and_63 (V / 64) (by omega)
                  rw [show ((V / 64 : Nat) : Int) = ((V : Int) / 64) by omega, ← hx] at h
                  exact h
                have hx64 : x < 64 := by omega
                have Hx := Lib.hid hx
                clear hx
                simp only [Int.cast_ofNat_Int]
                go_upto_region 18 with (fail)
                go_quiet (fail)
                go_wp2_with (fail)
                go_roundw
                case rel => exact ⟨3, by omega, rfl, by rw [← enc_add HS.out Hx.out (eOf_fig HKk.out Hl.out HV.out (by omega)) (by omega)], Hb2.out.trans ⟨rfl, rfl, rfl, Nat.le_refl _, fun _ _ => rfl⟩⟩
                case measure => simp [intOf]
              · simp only [Int.cast_ofNat_Int]
                go_wp2_with (fail)
                go_roundw
                case rel => exact ⟨3, by omega, rfl, by rw [← enc_pad HS.out (eOf_pad HKk.out Hl.out hjk) (by omega)], Hb2⟩
                case measure => simp [intOf]
            · obtain ⟨S, hS⟩ : ∃ S, S = str (P ++ (eFour s.data.toList i).take 3) := ⟨_, rfl⟩
              have hS2 : S.size ≤ 8589934592 := by rw [hS, str_size, List.length_append, List.length_take]; omega
              rw [← hS]
              have HS := Lib.hid hS
              clear hS
              by_cases hjk : 3 ≤ k
              · obtain ⟨x, hx⟩ : ∃ x, x = (V) % 64 := ⟨_, rfl⟩
                have ha : bits .and .i64 (V : Int) 63 = (x : Int) := by
                  have h := and_63 (V) (by omega)
                  rw [show ((V : Nat) : Int) = (V : Int) by omega, ← hx] at h
                  exact h
                have hx64 : x < 64 := by omega
                have Hx := Lib.hid hx
                clear hx
                simp only [Int.cast_ofNat_Int]
                go_upto_region 18 with (fail)
                go_quiet (fail)
                go_wp2_with (fail)
                go_roundw
                case rel => exact ⟨4, by omega, rfl, by rw [← enc_add HS.out Hx.out (by have h := eOf_fig (j := 3) HKk.out Hl.out HV.out (by omega); simpa using h) (by omega)], Hb2.out.trans ⟨rfl, rfl, rfl, Nat.le_refl _, fun _ _ => rfl⟩⟩
                case measure => simp [intOf]
              · simp only [Int.cast_ofNat_Int]
                go_wp2_with (fail)
                go_roundw
                case rel => exact ⟨4, by omega, rfl, by rw [← enc_pad HS.out (eOf_pad HKk.out Hl.out hjk) (by omega)], Hb2⟩
                case measure => simp [intOf]
            · simp only [Int.cast_ofNat_Int]
              go_wp2_with (fail)
              go_roundw
              case rel =>
                refine ⟨q + 1, by have := Hi.out; omega, by rw [show ((3 * (q + 1) : Nat) : Int) = (i : Int) + 3 by have := Hi.out; omega], ?_, Hb2⟩
                have hi := Hi.out
                have h := enc_step (L := s.data.toList) (q := q) (by rw [Hl.out, ← hi]; exact hlt)
                rw [show 3 * (q + 1) = 3 * q + 3 by omega, h, HP.out, hi]
                rfl
              case measure => simp [intOf]; omega
    · go_wp2_with (fail)
      go_ret
      refine ⟨ret_str ?_, Hb.out⟩
      rw [List.take_of_length_le (by rw [Hl.out]; omega)]

end Go.Proofs.YtnnbhklkakhkkaaDoor

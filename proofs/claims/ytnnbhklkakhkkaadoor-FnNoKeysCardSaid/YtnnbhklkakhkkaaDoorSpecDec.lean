/-
  THE REFERENCE'S base64, READING: the walks of spec.figure, spec.Decode and spec.Hash.
-/
import Derived.Test.YtnnbhklkakhkkaaDoorSpecB
import Derived.Test.YtnnbhklkakhkkaaDoorEncodeStr
import Derived.Laws.BitsLemmas
import Derived.Lib.ConvBytes
import Derived.Lib.BufferRead
import Derived.Deep.DeepCutAuto
import Derived.Deep.CutBlock
namespace Go.Proofs.YtnnbhklkakhkkaaDoor
open Go.RowKit Go.Lib

/-! ## bits of int -/
theorem wrap_small {n : Int} (h0 : 0 ≤ n) (h1 : n < 2 ^ 62) : IntKind.i64.wrap n = n := by rw [IntKind.wrap_i64]; omega
theorem or_i64 (a b : Nat) (ha : a < 2 ^ 62) (hb : b < 2 ^ 62) : bits .or .i64 (a : Int) (b : Int) = ((a ||| b : Nat) : Int) := (bits_nat .i64 62 (by decide) (fun n => wrap_small) a b ha hb).2
theorem and_i64 (a b : Nat) (ha : a < 2 ^ 62) (hb : b < 2 ^ 62) : bits .and .i64 (a : Int) (b : Int) = ((a &&& b : Nat) : Int) := (bits_nat .i64 62 (by decide) (fun n => wrap_small) a b ha hb).1
theorem or_six (n f : Nat) (hn : n < 262144) (hf : f < 64) : bits .or .i64 ((n : Int) * 64) (f : Int) = ((n * 64 + f : Nat) : Int) := by
  have h := or_i64 (n * 64) f (by omega) (by omega)
  have e := Nat.two_pow_add_eq_or_of_lt (i := 6) (b := f) (by omega) n
  rw [show 2 ^ 6 * n = n * 64 by omega] at e
  rw [← e] at h
  simpa using h
theorem and_255 (n : Nat) (hn : n < 16777216) : bits .and .i64 (n : Int) 255 = ((n % 256 : Nat) : Int) := by
  have h := and_i64 n 255 (by omega) (by omega)
  rw [show n &&& 255 = n % 256 from Nat.and_two_pow_sub_one_eq_mod n 8] at h
  simpa using h
theorem and_65535 (n : Nat) (hn : n < 16777216) : bits .and .i64 (n : Int) 65535 = ((n % 65536 : Nat) : Int) := by
  have h := and_i64 n 65535 (by omega) (by omega)
  rw [show n &&& 65535 = n % 65536 from Nat.and_two_pow_sub_one_eq_mod n 16] at h
  simpa using h

/-! ## one figure -/
/-- the number of a figure, or -1 -/
def figI (c : UInt8) : Int := if figN c < 64 then (figN c : Int) else -1
theorem figs_rng : ((List.range 256).all fun k => decide (((decMap 64).getD k 255).toNat = if 65 ≤ k ∧ k ≤ 90 then k - 65 else if 97 ≤ k ∧ k ≤ 122 then k - 71 else if 48 ≤ k ∧ k ≤ 57 then k + 4 else if k = 43 then 62 else if k = 47 then 63 else 255)) = true := by kernel_rfl
theorem figI_eq (c : UInt8) : figI c = if 65 ≤ c.toNat ∧ c.toNat ≤ 90 then (c.toNat : Int) - 65 else if 97 ≤ c.toNat ∧ c.toNat ≤ 122 then (c.toNat : Int) - 71 else if 48 ≤ c.toNat ∧ c.toNat ≤ 57 then (c.toNat : Int) + 4 else if c.toNat = 43 then 62 else if c.toNat = 47 then 63 else -1 := by
  have h := List.all_eq_true.1 figs_rng c.toNat (List.mem_range.2 c.toNat_lt)
  rw [decide_eq_true_eq] at h
  unfold figI figN
  rw [h]
  have := c.toNat_lt
  generalize c.toNat = k at *
  repeat' split
  all_goals omega

set_option maxHeartbeats 1000000 in
theorem figure_any (c : UInt8) (w : World) : Calls Tryd.prog 61 #[.int .u8 (c.toNat : Int)] w fun e w' => e = .returned (.int .i64 (figI c)) ∧ w' = w := by
  have hlt := c.toNat_lt
  rw [figI_eq]
  generalize c.toNat = k at *
  have hc : k < 43 ∨ k = 43 ∨ (43 < k ∧ k < 47) ∨ k = 47 ∨ (48 ≤ k ∧ k ≤ 57) ∨ (57 < k ∧ k < 65) ∨ (65 ≤ k ∧ k ≤ 90) ∨ (90 < k ∧ k < 97) ∨ (97 ≤ k ∧ k ≤ 122) ∨ 122 < k := by omega
  --DEV
  rcases hc with hc | rfl | hc | rfl | hc | hc | hc | hc | hc | hc
  all_goals (
    go_enter Tryd.func61, Tryd.ntmps61
    go_wp2_with (fail)
    go_ret
    refine ⟨ret_int ?_, rfl⟩
    repeat' split
    all_goals omega)
  --VED

/-! ## reading -/
/-- what spec.Decode leaves -/
def DecPost (w : World) (l : List UInt8) (e : Ending) (w' : World) : Prop :=
  Below w.heap.size w w' ∧ match decL l with
  | some x => e = .returned (.tuple #[.string ⟨x.toArray⟩, .bool true, .bool (clearL l)])
  | none => e = .returned (.tuple #[.string ⟨#[]⟩, .bool false, .bool true])
theorem decPost_none {w w' : World} {l : List UInt8} {e : Ending} (hb : Below w.heap.size w w') (h : decL l = none) (he : e = .returned (.tuple #[.string ⟨#[]⟩, .bool false, .bool true])) : DecPost w l e w' := by
  refine ⟨hb, ?_⟩
  rw [h]
  exact he
theorem decPost_some {w w' : World} {l x : List UInt8} {c : Bool} {e : Ending} (hb : Below w.heap.size w w') (h : decL l = some x) (hc : clearL l = c) (he : e = .returned (.tuple #[.string ⟨x.toArray⟩, .bool true, .bool c])) : DecPost w l e w' := by
  refine ⟨hb, ?_⟩
  rw [h, hc]
  exact he

/-- where the loop over the fours stands -/
structure DS (L : List UInt8) (i : Nat) (X : List UInt8) (c : Bool) : Prop where
  dec : decL L = (decL (L.drop i)).map (X ++ ·)
  clear : clearL L = (c && clearL (L.drop i))
  len : X.length ≤ i
theorem DS.start (L : List UInt8) : DS L 0 [] true := ⟨by simp, by simp, by simp⟩
theorem DS.next {L X : List UInt8} {i : Nat} {c : Bool} (h : DS L i X c) (hi : i + 4 ≤ L.length) (hf : ∀ j, j < 4 → fOf L i j < 64) : DS L (i + 4) (X ++ (three (nOf L i 4)).take (kOf L i - 1)) (c && clearAt L i) := by
  refine ⟨?_, ?_, ?_⟩
  · rw [h.dec, decL_some (quant_good hi hf), List.drop_drop, Option.map_map]
    congr 1
    funext y
    simp
  · rw [h.clear, clear_step hi, Bool.and_assoc]
  · have := h.len
    have hk := kOf_le L i
    rw [List.length_append, List.length_take, three_length]
    omega
theorem DS.bad {L X : List UInt8} {i j : Nat} {c : Bool} (h : DS L i X c) (hi : i + 4 ≤ L.length) (hj : j < kOf L i) (hf : ¬ figN (L.getD (i + j) 0) < 64) : decL L = none := by
  rw [h.dec, decL_none (quant_bad hi hj hf) (fun h0 => by have := congrArg List.length h0; simp at this; omega)]
  rfl
theorem DS.done {L X : List UInt8} {c : Bool} (h : DS L L.length X c) : decL L = some X ∧ clearL L = c := by
  have hd : L.drop L.length = [] := List.drop_eq_nil_of_le (Nat.le_refl _)
  refine ⟨?_, ?_⟩
  · rw [h.dec, hd]; simp [decL]
  · rw [h.clear, hd]; simp [clearL]

theorem pads_cases (s : ByteArray) (h4 : s.size % 4 = 0) : (s.size = 0 ∧ padN s.data.toList = 0) ∨ (0 < s.size ∧ bAt s (s.size - 1) ≠ 61 ∧ padN s.data.toList = 0) ∨
    (1 < s.size ∧ bAt s (s.size - 1) = 61 ∧ bAt s (s.size - 2) ≠ 61 ∧ padN s.data.toList = 1) ∨ (1 < s.size ∧ bAt s (s.size - 1) = 61 ∧ bAt s (s.size - 2) = 61 ∧ padN s.data.toList = 2) := by
  have hl : s.data.toList.length = s.size := by simp
  unfold padN bAt
  rw [hl]
  have inj : ∀ x : UInt8, x.toNat = 61 ↔ x = 61 := fun x => ⟨fun h => UInt8.toNat_inj.1 (by simpa using h), fun h => by rw [h]; rfl⟩
  rw [Ne, Ne, inj, inj]
  rcases Nat.eq_zero_or_pos s.size with h0 | h0
  · left
    have hn : s.data.toList = [] := List.eq_nil_of_length_eq_zero (by omega)
    rw [hn]
    exact ⟨h0, rfl⟩
  · right
    by_cases h1 : s.data.toList.getD (s.size - 1) 0 = 61
    · right
      rw [if_pos h1]
      by_cases h2 : s.data.toList.getD (s.size - 2) 0 = 61
      · right; rw [if_pos h2]; exact ⟨by omega, h1, h2, rfl⟩
      · left; rw [if_neg h2]; exact ⟨by omega, h1, h2, rfl⟩
    · left
      rw [if_neg h1]
      exact ⟨h0, h1, rfl⟩

/-- the bits that stand for nothing, by the number of figures that count -/
def cl (k n : Nat) : Bool := (decide (k ≠ 3) || decide (n % 256 = 0)) && (decide (k ≠ 2) || decide (n % 65536 = 0))
theorem clearAt_cl {L : List UInt8} {i k n : Nat} (hk : k = kOf L i) (hn : n = nOf L i 4) : clearAt L i = cl k n := by rw [hk, hn]; rfl
theorem new_take {w : World} {cs : Array Value} {t : TypeId} {g m : Nat} (hg : g = w.heap.size) :
    ∀ j u, (cs.toList.take m)[j]? = some u → (w.alloc (.cells cs t)).cell? ((⟨g, 0, none⟩ : Addr).add j) = some u := fun j u hu => new_cells hg j u (by
  rw [List.getElem?_take] at hu
  split at hu
  · exact hu
  · cases hu)
theorem three_take (X : List UInt8) (V m : Nat) (hV : V < 16777216) : byteCells X ++ (#[Value.int .u8 ((V : Int) / 65536), .int .u8 ((V : Int) / 256 % 256), .int .u8 ((V : Int) % 256)] : Array Value).toList.take m = byteCells (X ++ (three V).take m) := by
  have e : byteCells (three V) = [Value.int .u8 ((V : Int) / 65536), .int .u8 ((V : Int) / 256 % 256), .int .u8 ((V : Int) % 256)] := by
    unfold three byteCells
    simp only [List.map_cons, List.map_nil, UInt8.toNat_ofNat']
    have h1 : V / 65536 % 2 ^ 8 = V / 65536 := by omega
    rw [h1]
    simp
  unfold byteCells at *
  rw [List.map_append, List.map_take, e]
theorem three_ones (V m : Nat) : ∀ u ∈ (#[Value.int .u8 ((V : Int) / 65536), .int .u8 ((V : Int) / 256 % 256), .int .u8 ((V : Int) % 256)] : Array Value).toList.take m, u.oneCell' = true := by
  intro u hu
  have := List.mem_of_mem_take hu
  simp at this
  rcases this with rfl | rfl | rfl <;> rfl
theorem ret_pads {a b : Nat} (h : a = b) : Value.int .i64 (a : Int) = .int .i64 (b : Int) := by rw [h]

set_option maxHeartbeats 4000000 in
set_option maxRecDepth 100000 in
theorem specDec_any (s : ByteArray) (w : World) (hs : s.size ≤ 2147483647) : Calls Tryd.prog 38 #[.string s] w (DecPost w s.data.toList) := by
  have hl : s.data.toList.length = s.size := by simp
  have Hl := Lib.hid hl
  clear hl
  by_cases h4 : s.size % 4 = 0
  rotate_left
  · go_enter Tryd.func38, Tryd.ntmps38
    go_wp2_with (fail)
    go_ret3
    exact decPost_none (Below.refl _ _) (decL_odd _ _ (Nat.le_refl _) (by rw [Hl.out]; exact h4)) rfl
  · have hb := get_bAt s
    go_enter Tryd.func38, Tryd.ntmps38
    go_upto_block 0 with (fail)
    have e16 : ((s.size : Int) % 4 != 0) = false := by simp; omega
    simp only [e16]
    have H4 := Lib.hid h4
    clear h4 e16
    go_cut [5] (fun v5 wc => ∃ p : Nat, v5 = .int .i64 (p : Int) ∧ Hid (p = padN s.data.toList) ∧ wc = w)
    case first =>
      --DEV
      rcases pads_cases s H4.out with ⟨h0, hp⟩ | ⟨h0, h1, hp⟩ | ⟨h0, h1, h2, hp⟩ | ⟨h0, h1, h2, hp⟩
      · have Hp := Lib.hid hp
        clear hp
        go_wp2_with (fail)
        go_loopw [5] (fun v wr => v = .int .i64 0 ∧ wr = w) (fun _ _ => 0)
        case atStart => exact ⟨rfl, rfl⟩
        case round =>
          obtain ⟨rfl, rfl⟩ := hrel
          go_wp2_with (fail)
          go_meet
          case rel => exact ⟨0, rfl, Hp.out.symm, by trivial⟩
      · have Hp := Lib.hid hp
        clear hp
        have e1 : ((s.size : Int) - 1).toNat = s.size - 1 := by omega
        go_wp2_with (fail)
        go_loopw [5] (fun v wr => v = .int .i64 0 ∧ wr = w) (fun _ _ => 0)
        case atStart => exact ⟨rfl, rfl⟩
        case round =>
          obtain ⟨rfl, rfl⟩ := hrel
          go_wp2_with (fail)
          go_meet
          case rel => exact ⟨0, rfl, Hp.out.symm, by trivial⟩
      · have Hp := Lib.hid hp
        clear hp
        have e1 : ((s.size : Int) - 1).toNat = s.size - 1 := by omega
        have e2 : ((s.size : Int) - 1 - 1).toNat = s.size - 2 := by omega
        go_wp2_with (fail)
        go_loopw [5] (fun v wr => ∃ p : Nat, p ≤ 1 ∧ v = .int .i64 (p : Int) ∧ wr = w) (fun v _ => 1 - (intOf v).toNat)
        case atStart => exact ⟨0, by omega, rfl, rfl⟩
        case round =>
          obtain ⟨p, hp1, rfl, rfl⟩ := hrel
          obtain rfl | rfl : p = 0 ∨ p = 1 := by omega
          · go_wp2_with (fail)
            go_roundw
            case rel => exact ⟨1, by omega, rfl, by trivial⟩
            case measure => simp [intOf]
          · go_wp2_with (fail)
            go_meet
            case rel => exact ⟨1, rfl, Hp.out.symm, by trivial⟩
      · have Hp := Lib.hid hp
        clear hp
        have e1 : ((s.size : Int) - 1).toNat = s.size - 1 := by omega
        have e2 : ((s.size : Int) - 1 - 1).toNat = s.size - 2 := by omega
        go_wp2_with (fail)
        go_loopw [5] (fun v wr => ∃ p : Nat, p ≤ 2 ∧ v = .int .i64 (p : Int) ∧ wr = w) (fun v _ => 2 - (intOf v).toNat)
        case atStart => exact ⟨0, by omega, rfl, rfl⟩
        case round =>
          obtain ⟨p, hp1, rfl, rfl⟩ := hrel
          obtain rfl | rfl | rfl : p = 0 ∨ p = 1 ∨ p = 2 := by omega
          · go_wp2_with (fail)
            go_roundw
            case rel => exact ⟨1, by omega, rfl, by trivial⟩
            case measure => simp [intOf]
          · go_wp2_with (fail)
            go_roundw
            case rel => exact ⟨2, by omega, rfl, by trivial⟩
            case measure => simp [intOf]
          · go_wp2_with (fail)
            go_meet
            case rel => exact ⟨2, rfl, Hp.out.symm, by trivial⟩
      --VED
    case rest =>
      obtain ⟨p, rfl, Hp, hw⟩ := hcut
      obtain rfl := hw.symm
      obtain ⟨i0, hi0, hz0, hz1, hz2⟩ := info_parts byteInfo
      have hp2 : p ≤ 2 := by rw [Hp.out]; exact padN_le _
      go_wp2_with (fail)
      go_loopw [6, 7, 8] (fun v6 v7 v8 wr => ∃ (i : Nat) (X : List UInt8) (c : Bool), i ≤ s.size ∧ i % 4 = 0 ∧ v8 = .int .i64 (i : Int) ∧ v7 = .bool c ∧ Hid (DS s.data.toList i X c) ∧ Hid (Below w.heap.size w wr) ∧ wr.ownsRow w.heap.size 5 1 v6 X.length (byteCells X)) (fun _ _ v8 _ => s.size - (intOf v8).toNat)
      case atStart => exact ⟨0, [], true, by omega, rfl, rfl, rfl, DS.start _, (Below.refl _ _).alloc (Nat.le_refl _) _, World.ownsRow_made w #[] 0 (Nat.le_refl _) (by simp [maxLen]) rfl⟩
      case round =>
        obtain ⟨i, X, c, hi, him, rfl, rfl, Hd, Hb, hown⟩ := hrel
        have Hown := Lib.hid hown
        clear hown
        by_cases hlt : i < s.size
        · have hi4 : i + 4 ≤ s.size := by have := H4.out; omega
          have him' := Lib.hid him
          clear him
          go_upto_if 48 with (fail)
          go_cut [10] (fun v10 wx => ∃ k : Nat, v10 = .int .i64 (k : Int) ∧ Hid (k = kOf s.data.toList i) ∧ wx = wr)
          case first =>
            by_cases hlast : i + 4 = s.size
            · go_wp2_with (fail)
              go_meet
              case rel => exact ⟨4 - p, by rw [Int.natCast_sub (by omega)]; rfl, Lib.hid (by unfold kOf; rw [if_pos (by rw [Hl.out]; exact hlast), Hp.out]), by trivial⟩
            · go_wp2_with (fail)
              go_meet
              case rel => exact ⟨4, rfl, Lib.hid (by unfold kOf; rw [if_neg (by rw [Hl.out]; exact hlast)]), by trivial⟩
          case rest =>
            obtain ⟨k, rfl, Hk, hw⟩ := hcut
            obtain rfl := hw.symm
            have hk4 : k ≤ 4 := by rw [Hk.out]; exact (kOf_le _ _).2
            go_wp2_with (fail)
            go_loopw [9, 51] (fun v9 v51 wx => ∃ j : Nat, j ≤ 4 ∧ v51 = .int .i64 (j : Int) ∧ v9 = .int .i64 (nOf s.data.toList i j : Nat) ∧ Hid (∀ m, m < j → fOf s.data.toList i m < 64) ∧ wx = wr) (fun _ v _ => 4 - (intOf v).toNat)
            case atStart => exact ⟨0, by omega, rfl, rfl, Lib.hid (fun m hm => absurd hm (by omega)), rfl⟩
            case round =>
              obtain ⟨j, hj, rfl, rfl, Hf, hw⟩ := hrel
              obtain rfl := hw.symm
              by_cases hj4 : j < 4
              · --DEV
                have hnl : nOf s.data.toList i j < 262144 := by
                  have h1 := nOf_lt (L := s.data.toList) (i := i) j Hf.out
                  have h2 : 64 ^ j ≤ 64 ^ 3 := Nat.pow_le_pow_right (by omega) (by omega)
                  omega
                by_cases hjk : j < k
                · have cf := figure_any (s.data.toList.getD (i + j) 0) wr
                  change Calls _ _ #[.int .u8 (bAt s (i + j) : Int)] _ _ at cf
                  have e1 : ((i : Int) + (j : Int)).toNat = i + j := by omega
                  have Cf := Lib.hid cf
                  clear cf
                  have hjl : i + j < s.size := by omega
                  go_wp2_with (fail)
                  refine Cf.out.mono ?_
                  clear Cf
                  rintro e w1 ⟨rfl, hw⟩
                  obtain rfl := hw.symm
                  by_cases hfig : figN (s.data.toList.getD (i + j) 0) < 64
                  · obtain ⟨f, hff⟩ : ∃ f, f = figN (s.data.toList.getD (i + j) 0) := ⟨_, rfl⟩
                    rw [show figI (s.data.toList.getD (i + j) 0) = (f : Int) by unfold figI; rw [if_pos hfig, hff]]
                    rw [← hff] at hfig
                    have hor := or_six (nOf s.data.toList i j) f hnl hfig
                    have HF := Lib.hid hff
                    clear hff
                    go_wp2_with (fail)
                    go_roundw
                    case rel =>
                      refine ⟨j + 1, by omega, by go_num, ?_, Lib.hid (fun m hm => ?_), by trivial⟩
                      · rw [nOf, fOf_pos (by rw [← Hk.out]; exact hjk), ← HF.out]
                        exact congrArg (Value.int .i64) (by omega)
                      · by_cases hmj : m < j
                        · exact Hf.out m hmj
                        · obtain rfl : m = j := by omega
                          rw [fOf_pos (by rw [← Hk.out]; exact hjk), ← HF.out]
                          exact hfig
                    case measure => simp [intOf]; omega
                  · rw [show figI (s.data.toList.getD (i + j) 0) = -1 by unfold figI; rw [if_neg hfig]]
                    go_wp2_with (fail)
                    go_ret3
                    exact decPost_none Hb.out (Hd.out.bad (by rw [Hl.out]; exact hi4) (by rw [← Hk.out]; exact hjk) hfig) rfl
                · have hor := or_six (nOf s.data.toList i j) 0 hnl (by omega)
                  simp only [Int.natCast_zero] at hor
                  go_wp2_with (fail)
                  go_roundw
                  case rel =>
                    refine ⟨j + 1, by omega, by go_num, ?_, Lib.hid (fun m hm => ?_), by trivial⟩
                    · rw [nOf, fOf_neg (by rw [← Hk.out]; exact hjk)]
                      exact congrArg (Value.int .i64) (by omega)
                    · by_cases hmj : m < j
                      · exact Hf.out m hmj
                      · obtain rfl : m = j := by omega
                        rw [fOf_neg (by rw [← Hk.out]; exact hjk)]
                        omega
                  case measure => simp [intOf]; omega
                --VED
              · obtain rfl : j = 4 := by omega
                simp only [Int.cast_ofNat_Int]
                obtain ⟨N, hN⟩ : ∃ N, N = nOf s.data.toList i 4 := ⟨_, rfl⟩
                have hN4 : N < 16777216 := by
                  have h1 := nOf_lt (L := s.data.toList) (i := i) 4 Hf.out
                  omega
                rw [← hN]
                have HN := Lib.hid hN
                have hk2 : 2 ≤ k := by rw [Hk.out]; exact (kOf_le _ _).1
                clear hN
                go_upto_region 24 with (fail)
                go_cut [7] (fun v7 wx => v7 = .bool (c && cl k N) ∧ wx = wr)
                case first =>
                  --DEV
                  have a1 := and_255 N hN4
                  have a2 := and_65535 N hN4
                  cases c
                  · go_wp2_with (fail)
                    go_meet
                    case rel => exact ⟨rfl, by trivial⟩
                  · obtain rfl | rfl | rfl : k = 2 ∨ k = 3 ∨ k = 4 := by omega
                    · simp only [Int.cast_ofNat_Int]
                      by_cases hz : N % 65536 = 0
                      · go_wp2_with (fail)
                        go_meet
                        case rel => exact ⟨by simp [cl, hz]; try omega, by trivial⟩
                      · go_wp2_with (fail)
                        go_meet
                        case rel => exact ⟨by simp [cl, hz]; try omega, by trivial⟩
                    · simp only [Int.cast_ofNat_Int]
                      by_cases hz : N % 256 = 0
                      · go_wp2_with (fail)
                        go_meet
                        case rel => exact ⟨by simp [cl, hz]; try omega, by trivial⟩
                      · go_wp2_with (fail)
                        go_meet
                        case rel => exact ⟨by simp [cl, hz]; try omega, by trivial⟩
                    · simp only [Int.cast_ofNat_Int]
                      go_wp2_with (fail)
                      go_meet
                      case rel => exact ⟨by simp [cl], by trivial⟩
                  --VED
                case rest =>
                  obtain ⟨rfl, hw⟩ := hcut
                  obtain rfl := hw.symm
                  have Hd' := Hd.out.next (by rw [Hl.out]; exact hi4) (fun m hm => Hf.out m (by omega))
                  rw [← Hk.out, ← HN.out, clearAt_cl Hk.out HN.out] at Hd'
                  have hxl := Hd.out.len
                  have HD := Lib.hid Hd'
                  clear Hd'
                  have hown1 := Hown.out.alloc (.cells #[.int .u8 ((N : Int) / 65536), .int .u8 ((N : Int) / 256 % 256), .int .u8 ((N : Int) % 256)] 5)
                  obtain rfl | rfl | rfl : k = 2 ∨ k = 3 ∨ k = 4 := by omega
                  · simp only [Int.cast_ofNat_Int]
                    go_wp2_with (at_builtin; refine wpList_append_own _ rfl _ _ 68 rfl w.heap.size 5 i0 _ 1 1 Tryd.underlying68 hi0 hz0 hz1 hz2 rfl (by decide) _ _ _ rfl hown1 ⟨wr.heap.size, 0, none⟩ 1 3 [.int .u8 ((N : Int) / 65536)] rfl rfl ?c1 ?c2 ?c3 ?c4 ?c5 ?_)
                    case c1 =>
                      intro j u hu
                      rcases j with _ | _ | _ | j
                      · exact hu
                      · cases hu
                      · cases hu
                      · cases hu
                    case c2 => simp [Value.oneCell']
                    case c3 => simp only [maxLen]; omega
                    case c4 => omega
                    case c5 => have := Hb.out.size; simp; omega
                    intro v' w1 hown' hgrow _
                    have hbw : Below w.heap.size w w1 := below_own (Hb.out.alloc Hb.out.size _) hown1 hgrow (Nat.le_refl _)
                    clear hown1 hgrow
                    have e3 := three_take X N 1 hN4
                    have hown2 : w1.ownsRow w.heap.size 5 1 v' (X.length + 1) (byteCells X ++ (#[Value.int .u8 ((N : Int) / 65536), .int .u8 ((N : Int) / 256 % 256), .int .u8 ((N : Int) % 256)] : Array Value).toList.take 1) := hown'
                    rw [e3] at hown2
                    have Hbw := Lib.hid hbw
                    have Hown' := Lib.hid hown2
                    clear hbw hown' hown2 e3
                    go_wp2_with (fail)
                    go_roundw
                    case rel => exact ⟨i + 4, _, _, by omega, by have := him'.out; omega, by go_num, rfl, HD, Hbw, by have h := Hown'.out; simpa [three_length] using h⟩
                    case measure => simp [intOf]; omega
                  · simp only [Int.cast_ofNat_Int]
                    go_wp2_with (at_builtin; refine wpList_append_own _ rfl _ _ 68 rfl w.heap.size 5 i0 _ 1 1 Tryd.underlying68 hi0 hz0 hz1 hz2 rfl (by decide) _ _ _ rfl hown1 ⟨wr.heap.size, 0, none⟩ 2 3 [.int .u8 ((N : Int) / 65536), .int .u8 ((N : Int) / 256 % 256)] rfl rfl ?c1 ?c2 ?c3 ?c4 ?c5 ?_)
                    case c1 =>
                      intro j u hu
                      rcases j with _ | _ | _ | j
                      · exact hu
                      · exact hu
                      · cases hu
                      · cases hu
                    case c2 => simp [Value.oneCell']
                    case c3 => simp only [maxLen]; omega
                    case c4 => omega
                    case c5 => have := Hb.out.size; simp; omega
                    intro v' w1 hown' hgrow _
                    have hbw : Below w.heap.size w w1 := below_own (Hb.out.alloc Hb.out.size _) hown1 hgrow (Nat.le_refl _)
                    clear hown1 hgrow
                    have e3 := three_take X N 2 hN4
                    have hown2 : w1.ownsRow w.heap.size 5 1 v' (X.length + 2) (byteCells X ++ (#[Value.int .u8 ((N : Int) / 65536), .int .u8 ((N : Int) / 256 % 256), .int .u8 ((N : Int) % 256)] : Array Value).toList.take 2) := hown'
                    rw [e3] at hown2
                    have Hbw := Lib.hid hbw
                    have Hown' := Lib.hid hown2
                    clear hbw hown' hown2 e3
                    go_wp2_with (fail)
                    go_roundw
                    case rel => exact ⟨i + 4, _, _, by omega, by have := him'.out; omega, by go_num, rfl, HD, Hbw, by have h := Hown'.out; simpa [three_length] using h⟩
                    case measure => simp [intOf]; omega
                  · simp only [Int.cast_ofNat_Int]
                    go_wp2_with (at_builtin; refine wpList_append_own _ rfl _ _ 68 rfl w.heap.size 5 i0 _ 1 1 Tryd.underlying68 hi0 hz0 hz1 hz2 rfl (by decide) _ _ _ rfl hown1 ⟨wr.heap.size, 0, none⟩ 3 3 [.int .u8 ((N : Int) / 65536), .int .u8 ((N : Int) / 256 % 256), .int .u8 ((N : Int) % 256)] rfl rfl ?c1 ?c2 ?c3 ?c4 ?c5 ?_)
                    case c2 => simp [Value.oneCell']
                    case c3 => simp only [maxLen]; omega
                    case c4 => omega
                    case c5 => have := Hb.out.size; simp; omega
                    intro v' w1 hown' hgrow _
                    have hbw : Below w.heap.size w w1 := below_own (Hb.out.alloc Hb.out.size _) hown1 hgrow (Nat.le_refl _)
                    clear hown1 hgrow
                    have e3 := three_take X N 3 hN4
                    have hown2 : w1.ownsRow w.heap.size 5 1 v' (X.length + 3) (byteCells X ++ (#[Value.int .u8 ((N : Int) / 65536), .int .u8 ((N : Int) / 256 % 256), .int .u8 ((N : Int) % 256)] : Array Value).toList.take 3) := hown'
                    rw [e3] at hown2
                    have Hbw := Lib.hid hbw
                    have Hown' := Lib.hid hown2
                    clear hbw hown' hown2 e3
                    go_wp2_with (fail)
                    go_roundw
                    case rel => exact ⟨i + 4, _, _, by omega, by have := him'.out; omega, by go_num, rfl, HD, Hbw, by have h := Hown'.out; simpa [three_length] using h⟩
                    case measure => simp [intOf]; omega
        · obtain rfl : i = s.size := by omega
          have hD := Hd.out
          rw [← Hl.out] at hD
          obtain ⟨hdec, hcl⟩ := hD.done
          have HD := Lib.hid hdec
          have HC := Lib.hid hcl
          clear hD hdec hcl
          obtain ⟨A, cap, rfl, hsl, _⟩ := own_form Hown.out
          have Hsl := Lib.hid hsl
          clear hsl
          rcases A with _ | a
          · have hn : X.length = 0 := by
              rcases Nat.eq_zero_or_pos X.length with h | h
              · exact h
              · obtain ⟨b, o, e, _⟩ := Hsl.out.2 h
                cases e
            obtain rfl : X = [] := List.eq_nil_of_length_eq_zero hn
            have hcv := Lib.run_convert_nil_bytes (P := Tryd.prog) wr 68 9 5 cap Tryd.underlying68 Tryd.underlying5 Tryd.underlying9
            go_wp2_with (fail)
            go_ret3
            exact decPost_some Hb.out HD.out HC.out rfl
          · have hcv := run_convert_bytes_back (P := Tryd.prog) wr 68 9 5 a cap X Tryd.underlying68 Tryd.underlying5 Tryd.underlying9 (fun j hj => by
              obtain ⟨b, o, e, _, hc⟩ := Hsl.out.2 (by omega)
              injection e with e
              subst e
              rw [Lib.addr_add]
              exact hc j _ (by unfold byteCells; rw [List.getElem?_map, List.getElem?_eq_getElem hj]; rfl))
            go_wp2_with (fail)
            go_ret3
            exact decPost_some Hb.out HD.out HC.out rfl

end Go.Proofs.YtnnbhklkakhkkaaDoor

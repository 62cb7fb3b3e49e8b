/-
  WHERE TWO NEW LINES LAST STAND: the walks of hashStrRev, LastIndexRabinKarp and bytes.LastIndex, at two new lines.
-/
import Derived.Test.YtnnbhklkakhkkaaDoorEncodeStr
import Derived.Test.YtnnbhklkakhkkaaDoorSpecB
import Derived.Laws.BitsLemmas
import Derived.BigQuiet
import Derived.Deep.QuietTactic
import Derived.Deep.DeepCutAuto
import Derived.Deep.CutBlock
namespace Go.Proofs.YtnnbhklkakhkkaaDoor
open Go.RowKit Go.Lib

set_option maxHeartbeats 2000000 in
theorem hashRev_any (b o c : Nat) (w : World) (h0 : w.cell? ⟨b, o, none⟩ = some (.int .u8 10)) (h1 : w.cell? ⟨b, o + 1, none⟩ = some (.int .u8 10)) :
    Calls Tryd.prog 98 #[.slice (some ⟨b, o, none⟩) 2 c] w fun e w' => e = .returned (.tuple #[.int .u32 167776200, .int .u32 637696617]) ∧ w' = w := by
  go_enter Tryd.func98, Tryd.ntmps98
  go_wp2_with (fail)
  go_loopw [4, 5] (fun v4 v5 wr => ((v5 = .int .i64 1 ∧ v4 = .int .u32 0) ∨ (v5 = .int .i64 0 ∧ v4 = .int .u32 10) ∨ (v5 = .int .i64 (-1) ∧ v4 = .int .u32 167776200)) ∧ wr = w) (fun _ v _ => (RowKit.intOf v + 1).toNat)
  case atStart => exact ⟨.inl ⟨rfl, rfl⟩, rfl⟩
  case round =>
    obtain ⟨⟨rfl, rfl⟩ | ⟨rfl, rfl⟩ | ⟨rfl, rfl⟩, hw⟩ := hrel
    · obtain rfl := hw.symm
      go_wp2_with (fail)
      go_roundw
      case rel => exact ⟨.inr (.inl ⟨rfl, rfl⟩), by trivial⟩
      case measure => simp [RowKit.intOf]
    · obtain rfl := hw.symm
      go_wp2_with (fail)
      go_roundw
      case rel => exact ⟨.inr (.inr ⟨rfl, rfl⟩), by trivial⟩
      case measure => simp [RowKit.intOf]
    · obtain rfl := hw.symm
      have a2 : bits .and .i64 2 1 = 0 := by decide
      have a1 : bits .and .i64 1 1 = 1 := by decide
      go_wp2_with (fail)
      go_loopw [6, 7, 8] (fun v6 v7 v8 wr => ((v8 = .int .i64 2 ∧ v6 = .int .u32 1 ∧ v7 = .int .u32 16777619) ∨ (v8 = .int .i64 1 ∧ v6 = .int .u32 1 ∧ v7 = .int .u32 637696617) ∨ (v8 = .int .i64 0 ∧ v6 = .int .u32 637696617 ∧ v7 = .int .u32 1345077009)) ∧ wr = w) (fun _ _ v _ => (RowKit.intOf v).toNat)
      case atStart => exact ⟨.inl ⟨rfl, rfl, rfl⟩, rfl⟩
      case round =>
        obtain ⟨⟨rfl, rfl, rfl⟩ | ⟨rfl, rfl, rfl⟩ | ⟨rfl, rfl, rfl⟩, hw⟩ := hrel
        · obtain rfl := hw.symm
          go_wp2_with (fail)
          go_roundw
          case rel => exact ⟨.inr (.inl ⟨rfl, rfl, rfl⟩), by trivial⟩
          case measure => simp [RowKit.intOf]
        · obtain rfl := hw.symm
          go_wp2_with (fail)
          go_roundw
          case rel => exact ⟨.inr (.inr ⟨rfl, rfl, rfl⟩), by trivial⟩
          case measure => simp [RowKit.intOf]
        · obtain rfl := hw.symm
          go_wp2_with (fail)
          go_ret2
          exact ⟨rfl, rfl⟩

/-- two new lines at place m -/
def NN (s : ByteArray) (m : Nat) : Prop := bAt s m = 10 ∧ bAt s (m + 1) = 10
/-- r is the last place of two new lines, or -1 -/
def IsLast (s : ByteArray) (r : Int) : Prop :=
  (r = -1 ∧ ∀ m, m + 1 < s.size → ¬ NN s m) ∨ (∃ k : Nat, r = (k : Int) ∧ k + 1 < s.size ∧ NN s k ∧ ∀ m, k < m → m + 1 < s.size → ¬ NN s m)

theorem hash_of {x y : Nat} (hx : x < 256) : (((y * 16777619 + x : Nat) : Int) == 167776200) = decide (x = 10 ∧ y = 10) := by
  rw [Bool.eq_iff_iff, beq_iff_eq, decide_eq_true_eq]
  omega

set_option maxHeartbeats 4000000 in
set_option maxRecDepth 100000 in
theorem lastRK_any (b o c sb so sc K : Nat) (s : ByteArray) (w : World) (hc : ∀ j, j < s.size → w.cell? ⟨b, o + j, none⟩ = some (.int .u8 (bAt s j : Int))) (hn : s.size = K + 2) (hn2 : 0 < K) (hn3 : K ≤ 2147483647) (hnc : K + 2 ≤ c)
    (h0 : w.cell? ⟨sb, so, none⟩ = some (.int .u8 10)) (h1 : w.cell? ⟨sb, so + 1, none⟩ = some (.int .u8 10)) :
    Calls Tryd.prog 83 #[.slice (some ⟨b, o, none⟩) (K + 2) c, .slice (some ⟨sb, so, none⟩) 2 sc] w fun e w' => ∃ r, e = .returned (.int .i64 r) ∧ IsLast s r ∧ Below w.heap.size w w' := by
  have ch := Lib.hid (hashRev_any sb so sc w h0 h1)
  have Hc := Lib.hid hc
  have Hn := Lib.hid hn
  have cz : ∀ k, (convert 68 9 (.slice (some ⟨sb, so, none⟩) 2 sc)).run Tryd.prog (w.drewN k) = .ok (.string ⟨#[10, 10]⟩) (w.drewN k) := fun k =>
    run_convert_bytes_back (P := Tryd.prog) (w.drewN k) 68 9 5 ⟨sb, so, none⟩ sc [10, 10] Tryd.underlying68 Tryd.underlying5 Tryd.underlying9 (fun j hj => by
      rw [Lib.addr_add]
      rcases j with _ | _ | j
      · exact h0
      · exact h1
      · simp at hj; omega)
  have Cz := Lib.hid cz
  clear hc cz hn
  have g1 := Hc.out (K + 1) (by have := Hn.out; omega)
  have g2 := Hc.out K (by have := Hn.out; omega)
  have hbw : b < w.heap.size := World.block_lt_of_cell? w _ g2
  have l1 := bAt_lt s (K + 1)
  have l2 := bAt_lt s K
  have t1 : ((K : Int) + 1).toNat = K + 1 := by omega
  go_enter Tryd.func83, Tryd.ntmps83
  go_wp2_with (fail)
  refine ch.out.mono ?_
  clear ch
  rintro e w1 ⟨rfl, hw⟩
  obtain rfl := hw.symm
  go_upto_block 0 with (fail)
  go_wp2_with (fail)
  go_loopw [9, 10] (fun v9 v10 wr => ((v10 = .int .i64 ((K : Int) + 1) ∧ v9 = .int .u32 0) ∨ (v10 = .int .i64 (K : Int) ∧ v9 = .int .u32 (bAt s (K + 1) : Int)) ∨ (v10 = .int .i64 ((K : Int) - 1) ∧ v9 = .int .u32 ((bAt s (K + 1) * 16777619 + bAt s K : Nat) : Int))) ∧ wr = w) (fun _ v _ => (RowKit.intOf v + 1 - K).toNat)
  case atStart => exact ⟨.inl ⟨congrArg (Value.int .i64) (by omega), rfl⟩, rfl⟩
  case round =>
    obtain ⟨⟨rfl, rfl⟩ | ⟨rfl, rfl⟩ | ⟨rfl, rfl⟩, hw⟩ := hrel
    · obtain rfl := hw.symm
      go_wp2_with (fail)
      go_roundw
      case rel => exact ⟨.inr (.inl ⟨by go_num, rfl⟩), by trivial⟩
      case measure => first | (simp [RowKit.intOf]; done) | (simp [RowKit.intOf]; omega)
    · obtain rfl := hw.symm
      go_wp2_with (fail)
      go_roundw
      case rel => exact ⟨.inr (.inr ⟨by go_num, by go_num⟩), by trivial⟩
      case measure => first | (simp [RowKit.intOf]; done) | (simp [RowKit.intOf]; omega)
    · obtain rfl := hw.symm
      go_upto_region 9 with (fail)
      obtain ⟨h, hh⟩ : ∃ h, h = bAt s (K + 1) * 16777619 + bAt s K := ⟨_, rfl⟩
      rw [← hh]
      have hq := hash_of (x := bAt s K) (y := bAt s (K + 1)) l2
      rw [← hh] at hq
      have Hh := Lib.hid hh
      clear hh
      by_cases hnn : bAt s K = 10 ∧ bAt s (K + 1) = 10
      · rw [decide_eq_true hnn] at hq
        have Hnn := Lib.hid hnn
        have cz := Cz.out
        have cy : ∀ cp k, (convert 68 9 (.slice (some ⟨b, o + K, none⟩) 2 cp)).run Tryd.prog (w.drewN k) = .ok (.string ⟨#[10, 10]⟩) (w.drewN k) := fun cp k =>
          run_convert_bytes_back (P := Tryd.prog) (w.drewN k) 68 9 5 ⟨b, o + K, none⟩ cp [10, 10] Tryd.underlying68 Tryd.underlying5 Tryd.underlying9 (fun j hj => by
            rw [Lib.addr_add]
            rcases j with _ | _ | j
            · have h := Hc.out K (by have := Hn.out; omega)
              rw [Hnn.out.1] at h
              exact h
            · have h := Hc.out (K + 1) (by have := Hn.out; omega)
              rw [Hnn.out.2] at h
              exact h
            · simp at hj; omega)
        have i1 : (0 : Int) ≤ (K : Int) := by omega
        have i2 : (K : Int) ≤ (K : Int) + 2 := by omega
        have i3 : (K : Int) + 2 ≤ (c : Int) := by omega
        have i4 : (K : Int) ≤ (c : Int) := by omega
        have i5 : K ≤ K + 2 := by omega
        have i6 : K ≤ c := by omega
        have i7 : ¬ c = K := by omega
        clear hnn g1 g2
        go_quiet (fail)
        go_wp2_with (fail)
        go_ret
        exact ⟨_, rfl, .inr ⟨K, rfl, by have := Hn.out; omega, Hnn.out, fun m h1 h2 => by have := Hn.out; omega⟩, rfl, rfl, rfl, Nat.le_refl _, fun _ _ => rfl⟩
      · rw [decide_eq_false hnn] at hq
        have Hnn := Lib.hid hnn
        clear hnn
        go_quiet (fail)
        go_wp2_with (fail)
        have ez : decide ((K : Int) ≤ (K : Int) - 1) = false := by rw [decide_eq_false_iff_not]; omega
        simp only [ez]
        clear ez
        go_loopw [9, 11] (fun v9 v11 wr => ∃ k : Nat, k ≤ K ∧ v11 = .int .i64 ((k : Int) - 1) ∧ v9 = .int .u32 ((bAt s (k + 1) * 16777619 + bAt s k : Nat) : Int) ∧ Hid (∀ m, k ≤ m → m + 1 < s.size → ¬ NN s m) ∧ Hid (Below w.heap.size w wr)) (fun _ v _ => (RowKit.intOf v + 1).toNat)
        case atStart => exact ⟨K, Nat.le_refl _, rfl, by rw [Hh.out], Lib.hid (fun m h1 h2 => by have := Hn.out; obtain rfl : m = K := (by omega); exact Hnn.out), Lib.hid ⟨rfl, rfl, rfl, Nat.le_refl _, fun _ _ => rfl⟩⟩
        case round =>
          obtain ⟨k, hk, rfl, rfl, Hm, Hb⟩ := hrel
          rcases Nat.eq_zero_or_pos k with rfl | hkp
          · go_wp2_with (fail)
            go_ret
            exact ⟨_, rfl, .inl ⟨rfl, fun m h => Hm.out m (Nat.zero_le _) h⟩, Hb.out⟩
          · obtain ⟨j, rfl⟩ : ∃ j, k = j + 1 := ⟨k - 1, by omega⟩
            have f0 : wr.cell? ⟨b, o + j, none⟩ = some (.int .u8 (bAt s j : Int)) := (Hb.out.cell (p := ⟨_, _, _⟩) hbw).trans (Hc.out j (by have := Hn.out; omega))
            have f2 : wr.cell? ⟨b, o + (j + 2), none⟩ = some (.int .u8 (bAt s (j + 2) : Int)) := (Hb.out.cell (p := ⟨_, _, _⟩) hbw).trans (Hc.out (j + 2) (by have := Hn.out; omega))
            have u1 : ((j : Int) + 2).toNat = j + 2 := by omega
            have m0 := bAt_lt s j
            have m1 := bAt_lt s (j + 1)
            have m2 := bAt_lt s (j + 2)
            go_upto_region 17 with (fail)
            rw [show (((((bAt s (j + 1 + 1) : Int) * 16777619 + (bAt s (j + 1) : Int)) * 16777619 + (bAt s j : Int)) % 4294967296 - 637696617 * (bAt s (j + 2) : Int) % 4294967296) % 4294967296) = ((bAt s (j + 1) * 16777619 + bAt s j : Nat) : Int) by
              rw [show j + 1 + 1 = j + 2 from rfl]
              omega]
            rw [show (((j + 1 : Nat) : Int) - 1) = (j : Int) by omega]
            obtain ⟨h', hh'⟩ : ∃ h', h' = bAt s (j + 1) * 16777619 + bAt s j := ⟨_, rfl⟩
            rw [← hh']
            have hq := hash_of (x := bAt s j) (y := bAt s (j + 1)) m0
            rw [← hh'] at hq
            have Hh' := Lib.hid hh'
            clear hh' f0 f2
            by_cases hnj : bAt s j = 10 ∧ bAt s (j + 1) = 10
            · rw [decide_eq_true hnj] at hq
              have Hnj := Lib.hid hnj
              have sb1 := World.block_lt_of_cell? w _ h0
              have cz : ∀ k, (convert 68 9 (.slice (some ⟨sb, so, none⟩) 2 sc)).run Tryd.prog (wr.drewN k) = .ok (.string ⟨#[10, 10]⟩) (wr.drewN k) := fun k =>
                run_convert_bytes_back (P := Tryd.prog) (wr.drewN k) 68 9 5 ⟨sb, so, none⟩ sc [10, 10] Tryd.underlying68 Tryd.underlying5 Tryd.underlying9 (fun j hj => by
                  rw [Lib.addr_add]
                  rcases j with _ | _ | j
                  · exact (Hb.out.cell (p := ⟨sb, so, none⟩) sb1).trans h0
                  · exact (Hb.out.cell (p := ⟨sb, so + 1, none⟩) sb1).trans h1
                  · simp at hj; omega)
              have cy : ∀ cp k, (convert 68 9 (.slice (some ⟨b, o + j, none⟩) 2 cp)).run Tryd.prog (wr.drewN k) = .ok (.string ⟨#[10, 10]⟩) (wr.drewN k) := fun cp k =>
                run_convert_bytes_back (P := Tryd.prog) (wr.drewN k) 68 9 5 ⟨b, o + j, none⟩ cp [10, 10] Tryd.underlying68 Tryd.underlying5 Tryd.underlying9 (fun i hi => by
                  rw [Lib.addr_add]
                  rcases i with _ | _ | i
                  · have h := (Hb.out.cell (p := ⟨b, o + j, none⟩) hbw).trans (Hc.out j (by have := Hn.out; omega))
                    rw [Hnj.out.1] at h
                    exact h
                  · have h := (Hb.out.cell (p := ⟨b, o + (j + 1), none⟩) hbw).trans (Hc.out (j + 1) (by have := Hn.out; omega))
                    rw [Hnj.out.2] at h
                    exact h
                  · simp at hi; omega)
              have i1 : (0 : Int) ≤ (j : Int) := by omega
              have i2 : (j : Int) ≤ (j : Int) + 2 := by omega
              have i3 : (j : Int) + 2 ≤ (c : Int) := by omega
              have i4 : (j : Int) ≤ (c : Int) := by omega
              have i5 : j ≤ j + 2 := by omega
              have i6 : j ≤ c := by omega
              have i7 : ¬ c = j := by omega
              clear hnj
              go_quiet (fail)
              go_wp2_with (fail)
              go_ret
              exact ⟨_, rfl, .inr ⟨j, rfl, by have := Hn.out; omega, Hnj.out, fun m h1 h2 => Hm.out m (by omega) h2⟩, Hb.out.trans ⟨rfl, rfl, rfl, Nat.le_refl _, fun _ _ => rfl⟩⟩
            · rw [decide_eq_false hnj] at hq
              have Hnj := Lib.hid hnj
              clear hnj
              go_quiet (fail)
              go_wp2_with (fail)
              go_roundw
              case rel =>
                refine ⟨j, by omega, rfl, by rw [Hh'.out], Lib.hid (fun m h1 h2 => ?_), Lib.hid (Hb.out.trans ⟨rfl, rfl, rfl, Nat.le_refl _, fun _ _ => rfl⟩)⟩
                by_cases hmj : m = j
                · subst hmj
                  exact Hnj.out
                · exact Hm.out m (by omega) h2
              case measure => first | (simp [RowKit.intOf]; done) | (simp [RowKit.intOf]; omega)

set_option maxHeartbeats 1000000 in
theorem equal2_any (b o c sb so sc : Nat) (s : ByteArray) (w : World) (hc : ∀ j, j < s.size → w.cell? ⟨b, o + j, none⟩ = some (.int .u8 (bAt s j : Int))) (hn : s.size = 2)
    (h0 : w.cell? ⟨sb, so, none⟩ = some (.int .u8 10)) (h1 : w.cell? ⟨sb, so + 1, none⟩ = some (.int .u8 10)) :
    Calls Tryd.prog 82 #[.slice (some ⟨b, o, none⟩) 2 c, .slice (some ⟨sb, so, none⟩) 2 sc] w fun e w' => e = .returned (.bool (decide (bAt s 0 = 10 ∧ bAt s 1 = 10))) ∧ Below w.heap.size w w' := by
  have hsl : s.data.toList.length = 2 := by simpa using hn
  have cz : (convert 68 9 (.slice (some ⟨sb, so, none⟩) 2 sc)).run Tryd.prog w = .ok (.string ⟨#[10, 10]⟩) w :=
    run_convert_bytes_back (P := Tryd.prog) w 68 9 5 ⟨sb, so, none⟩ sc [10, 10] Tryd.underlying68 Tryd.underlying5 Tryd.underlying9 (fun j hj => by
      rw [Lib.addr_add]
      rcases j with _ | _ | j
      · exact h0
      · exact h1
      · simp at hj; omega)
  have cy : (convert 68 9 (.slice (some ⟨b, o, none⟩) 2 c)).run Tryd.prog w = .ok (.string s) w := by
    have h := run_convert_bytes_back (P := Tryd.prog) w 68 9 5 ⟨b, o, none⟩ c s.data.toList Tryd.underlying68 Tryd.underlying5 Tryd.underlying9 (fun j hj => by
      rw [Lib.addr_add]
      have h := hc j (by omega)
      have e : bAt s j = (s.data.toList[j]).toNat := by
        unfold bAt
        rw [List.getD_eq_getElem?_getD, List.getElem?_eq_getElem hj]
        rfl
      rw [e] at h
      exact h)
    rw [hsl] at h
    exact h
  have he : (s.toList == [10, 10]) = decide (bAt s 0 = 10 ∧ bAt s 1 = 10) := by
    rw [ByteArray.toList_eq, Bool.eq_iff_iff, beq_iff_eq, decide_eq_true_eq]
    unfold bAt
    rcases hl : s.data.toList with _ | ⟨x, _ | ⟨y, _ | ⟨z, t⟩⟩⟩
    · rw [hl] at hsl; cases hsl
    · rw [hl] at hsl; cases hsl
    · simp only [List.getD_cons_zero, List.getD_cons_succ]
      constructor
      · intro h
        injection h with h1 h2
        injection h2 with h2
        subst h1
        subst h2
        exact ⟨rfl, rfl⟩
      · rintro ⟨h1, h2⟩
        rw [show x = 10 from UInt8.toNat_inj.1 (by simpa using h1), show y = 10 from UInt8.toNat_inj.1 (by simpa using h2)]
    · rw [hl] at hsl; simp at hsl
  have Hb := Lib.hid he
  clear hc h0 h1 hsl he
  go_enter Tryd.func82, Tryd.ntmps82
  go_wp2_with (fail)
  go_ret
  exact ⟨ret_bool Hb.out, Below.refl _ _⟩

set_option maxHeartbeats 2000000 in
theorem lastIndex_any (b o n c sb so sc : Nat) (s : ByteArray) (w : World) (hc : ∀ j, j < s.size → w.cell? ⟨b, o + j, none⟩ = some (.int .u8 (bAt s j : Int))) (hn : s.size = n) (hn3 : n ≤ 2147483647) (hnc : n ≤ c)
    (h0 : w.cell? ⟨sb, so, none⟩ = some (.int .u8 10)) (h1 : w.cell? ⟨sb, so + 1, none⟩ = some (.int .u8 10)) :
    Calls Tryd.prog 63 #[.slice (some ⟨b, o, none⟩) n c, .slice (some ⟨sb, so, none⟩) 2 sc] w fun e w' => ∃ r, e = .returned (.int .i64 r) ∧ IsLast s r ∧ Below w.heap.size w w' := by
  have Hn := Lib.hid hn
  by_cases hlt : n < 2
  · clear hc h0 h1 hn
    go_enter Tryd.func63, Tryd.ntmps63
    go_wp2_with (fail)
    go_ret
    exact ⟨_, rfl, .inl ⟨rfl, fun m h => by have := Hn.out; omega⟩, Below.refl _ _⟩
  · by_cases h2 : n = 2
    · subst h2
      have ce := Lib.hid (equal2_any b o c sb so sc s w hc hn h0 h1)
      clear hc h0 h1 hn hlt
      go_enter Tryd.func63, Tryd.ntmps63
      go_wp2_with (fail)
      refine ce.out.mono ?_
      clear ce
      rintro e w1 ⟨rfl, hb⟩
      by_cases hnn : bAt s 0 = 10 ∧ bAt s 1 = 10
      · rw [decide_eq_true hnn]
        have Hnn := Lib.hid hnn
        have Hb := Lib.hid hb
        clear hnn hb
        go_wp2_with (fail)
        go_ret
        exact ⟨_, rfl, .inr ⟨0, rfl, by have := Hn.out; omega, Hnn.out, fun m h1 h2 => by have := Hn.out; omega⟩, Hb.out⟩
      · rw [decide_eq_false hnn]
        have Hnn := Lib.hid hnn
        have Hb := Lib.hid hb
        clear hnn hb
        go_wp2_with (fail)
        go_ret
        exact ⟨_, rfl, .inl ⟨rfl, fun m h => by
          have := Hn.out
          obtain rfl : m = 0 := (by omega)
          exact Hnn.out⟩, Hb.out⟩
    · obtain ⟨K, rfl⟩ : ∃ K, n = K + 2 := ⟨n - 2, by omega⟩
      have ck := Lib.hid (lastRK_any b o c sb so sc K s w hc hn (by omega) (by omega) hnc h0 h1)
      clear hc h0 h1 hn hlt
      have e1 : ((2 : Int) == (K : Int) + 2) = false := by rw [beq_eq_false_iff_ne]; omega
      have e2 : decide ((K : Int) + 2 < 2) = false := by rw [decide_eq_false_iff_not]; omega
      go_enter Tryd.func63, Tryd.ntmps63
      go_wp2_with (fail)
      refine ck.out.mono ?_
      clear ck
      rintro e w1 ⟨r, rfl, hr, hb⟩
      have Hr := Lib.hid hr
      have Hb := Lib.hid hb
      clear hr hb
      go_wp2_with (fail)
      go_ret
      exact ⟨_, rfl, Hr.out, Hb.out⟩

end Go.Proofs.YtnnbhklkakhkkaaDoor

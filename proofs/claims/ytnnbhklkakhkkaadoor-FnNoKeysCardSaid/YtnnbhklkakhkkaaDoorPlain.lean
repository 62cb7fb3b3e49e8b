/-
  PLAIN TEXTS: the walk of spec.Plain.
-/
import Derived.Test.YtnnbhklkakhkkaaDoorNames
import Derived.Test.YtnnbhklkakhkkaaDoorSpecB
namespace Go.Proofs.YtnnbhklkakhkkaaDoor
open Go.RowKit Go.Lib

/-- no control byte but new lines -/
def ctlB (l : List UInt8) : Bool := l.all fun c => decide (32 ≤ c.toNat) || decide (c.toNat = 10)
/-- what spec.Plain says -/
def plainB (s : ByteArray) : Bool := ctlB s.data.toList && validD s.data.toList
theorem ctlB_next {s : ByteArray} {j : Nat} (h : j < s.size) : ctlB (s.data.toList.take (j + 1)) = (ctlB (s.data.toList.take j) && (decide (32 ≤ bAt s j) || decide (bAt s j = 10))) := by
  have hg : s.data.toList[j]? = some (s.data.toList.getD j 0) := by rw [List.getD_eq_getElem?_getD, List.getElem?_eq_getElem (by simpa using h)]; rfl
  unfold ctlB bAt
  rw [List.take_add_one, hg, List.all_append]
  simp
theorem ctlB_bad {s : ByteArray} {j : Nat} (h : j < s.size) (h1 : bAt s j < 32) (h2 : bAt s j ≠ 10) : plainB s = false := by
  have hg : s.data.toList[j]? = some (s.data.toList.getD j 0) := by rw [List.getD_eq_getElem?_getD, List.getElem?_eq_getElem (by simpa using h)]; rfl
  unfold plainB ctlB
  rw [show (s.data.toList.all fun c => decide (32 ≤ c.toNat) || decide (c.toNat = 10)) = false from List.all_eq_false.2 ⟨_, List.mem_of_getElem? hg, by unfold bAt at h1 h2; rw [decide_eq_false (p := 32 ≤ (s.data.toList.getD j 0).toNat) (by omega), decide_eq_false h2]; decide⟩]
  rfl

set_option maxHeartbeats 2000000 in
theorem specPlain_any (s : ByteArray) (w : World) (hs : s.size ≤ 2147483647) : Calls Tryd.prog 23 #[.string s] w fun e w' => e = .returned (.bool (plainB s)) ∧ Below w.heap.size w w' := by
  have hb := get_bAt s
  have cu := Lib.hid (utf_any s w (by omega))
  go_enter Tryd.func23, Tryd.ntmps23
  go_wp2_with (fail)
  go_loopw [6] (fun v wr => ∃ k : Nat, k ≤ s.size ∧ v = .int .i64 k ∧ Hid (ctlB (s.data.toList.take k) = true) ∧ wr = w) (fun v _ => s.size - (intOf v).toNat)
  case atStart => exact ⟨0, by omega, rfl, rfl, rfl⟩
  case round =>
    obtain ⟨k, hk, rfl, Hc, hw⟩ := hrel
    obtain rfl := hw.symm
    by_cases hlt : k < s.size
    · by_cases h1 : bAt s k < 32
      · by_cases h2 : bAt s k = 10
        · have Hn := Lib.hid (show ctlB (s.data.toList.take (k + 1)) = true by rw [ctlB_next hlt, Hc.out, decide_eq_true h2]; simp)
          go_wp2_with (fail)
          go_roundw
          case rel => exact ⟨k + 1, by omega, by go_num, Hn, by trivial⟩
          case measure => simp [intOf]; omega
        · have Hp := Lib.hid (ctlB_bad hlt h1 h2)
          have e2 : ((bAt s k : Int) != 10) = true := by simp; omega
          go_wp2_with (fail)
          go_ret
          exact ⟨ret_bool Hp.out.symm, Below.refl _ _⟩
      · have Hn := Lib.hid (show ctlB (s.data.toList.take (k + 1)) = true by rw [ctlB_next hlt, Hc.out, decide_eq_true (p := 32 ≤ bAt s k) (by omega)]; simp)
        go_wp2_with (fail)
        go_roundw
        case rel => exact ⟨k + 1, by omega, by go_num, Hn, by trivial⟩
        case measure => simp [intOf]; omega
    · obtain rfl : k = s.size := by omega
      have hh := Hc.out
      rw [List.take_of_length_le (by simp)] at hh
      have Hh := Lib.hid hh
      clear hh
      go_wp2_with (fail)
      refine cu.out.mono ?_
      clear cu
      rintro e w1 ⟨rfl, hb1⟩
      go_wp2_with (fail)
      go_ret
      exact ⟨ret_bool (by unfold plainB; rw [Hh.out]; rfl), hb1⟩

end Go.Proofs.YtnnbhklkakhkkaaDoor

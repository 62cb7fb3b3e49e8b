/-
  OPENING, small parts: the walk of zzCut (at one byte).
-/
import Derived.Test.YtnnbhklkakhkkaaDoorValidName
import Derived.BigQuiet
import Derived.Deep.QuietTactic
namespace Go.Proofs.YtnnbhklkakhkkaaDoor
open Go.RowKit Go.Lib

/-- what zzCut gives -/
def cutB (c : UInt8) (s : ByteArray) : ByteArray × ByteArray × Bool :=
  if 0 ≤ idxB c s then (s.extract 0 (idxB c s).toNat, s.extract ((idxB c s).toNat + 1) s.size, true) else (s, ⟨#[]⟩, false)

theorem idxB_lt {c : UInt8} {s : ByteArray} (h : 0 ≤ idxB c s) : ∃ k : Nat, idxB c s = (k : Int) ∧ k < s.size := by
  unfold idxB at h ⊢
  split at h
  · next hlt =>
    rw [if_pos hlt]
    exact ⟨_, rfl, hlt⟩
  · omega

set_option maxHeartbeats 1000000 in
theorem zzCut_any (s : ByteArray) (c : UInt8) (w : World) (hs : s.size ≤ 2147483647) :
    Calls Tryd.prog 66 #[.string s, .string ⟨#[c]⟩] w fun e w' => e = .returned (.tuple #[.string (cutB c s).1, .string (cutB c s).2.1, .bool (cutB c s).2.2]) ∧ Below w.heap.size w w' := by
  have ci := Lib.hid (index_any s c w (by omega))
  by_cases h : 0 ≤ idxB c s
  · obtain ⟨k, hk, hlt⟩ := idxB_lt h
    have hc : cutB c s = (s.extract 0 k, s.extract (k + 1) s.size, true) := by unfold cutB; rw [if_pos h, hk]; rfl
    rw [hc]
    dsimp only
    rw [hk] at ci
    clear h hk hc
    go_enter Tryd.func66, Tryd.ntmps66
    go_wp2_with (fail)
    refine ci.out.mono ?_
    clear ci
    rintro e w1 ⟨rfl, hw⟩
    obtain rfl := hw.symm
    go_upto_region 3 with (fail)
    go_quiet (fail)
    go_wp2_with (fail)
    go_ret3
    exact ⟨rfl, rfl, rfl, rfl, Nat.le_refl _, fun _ _ => rfl⟩
  · have hc : cutB c s = (s, ⟨#[]⟩, false) := by unfold cutB; rw [if_neg h]
    have hn : idxB c s = -1 := by unfold idxB at h ⊢; split at h <;> simp_all
    rw [hc]
    dsimp only
    rw [hn] at ci
    clear h hn hc
    go_enter Tryd.func66, Tryd.ntmps66
    go_wp2_with (fail)
    refine ci.out.mono ?_
    clear ci
    rintro e w1 ⟨rfl, hw⟩
    obtain rfl := hw.symm
    go_wp2_with (fail)
    go_ret3
    exact ⟨rfl, Below.refl _ _⟩

end Go.Proofs.YtnnbhklkakhkkaaDoor

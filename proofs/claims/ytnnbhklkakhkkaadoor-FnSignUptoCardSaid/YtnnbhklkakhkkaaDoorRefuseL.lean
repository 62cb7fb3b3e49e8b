/-
  THE LAST BYTE OF A TEXT: plain lemmas; no walk.
-/
import Derived.Test.YtnnbhklkakhkkaaDoorBase
import Derived.Lib.Strings
namespace Go.Proofs.YtnnbhklkakhkkaaDoor
open Go.RowKit

theorem suffix_one (l : List UInt8) (x : UInt8) : Lib.hasSuffix (l ++ [x]) [10] = (x == 10) := by
  unfold Lib.hasSuffix
  rw [Bool.eq_iff_iff, List.isSuffixOf_iff_suffix, beq_iff_eq]
  constructor
  · rintro ⟨t, ht⟩
    have := congrArg List.getLast? ht
    simpa using this.symm
  · rintro rfl
    exact ⟨l, rfl⟩

/-- of a text that is not empty: its last byte -/
theorem last_byte {s : ByteArray} (h : 0 < s.size) : ∃ x : UInt8, s.data.toList[s.size - 1]? = some x ∧ Lib.hasSuffix s.data.toList [10] = (x == 10) := by
  have hl : s.data.toList.length = s.size := by simp
  have hne : s.data.toList ≠ [] := by intro h0; rw [h0] at hl; simp at hl; omega
  refine ⟨s.data.toList.getLast hne, ?_, ?_⟩
  · rw [← hl, List.getElem?_eq_getElem (by omega), List.getLast_eq_getElem]
  · conv => lhs; rw [← List.dropLast_concat_getLast hne]
    exact suffix_one _ _

end Go.Proofs.YtnnbhklkakhkkaaDoor

/-
  THE SIGNATURES THAT A NOTE HAS, as plain functions: which of them Sign writes again, and what it answers. No walk.
-/
import Derived.Test.YtnnbhklkakhkkaaDoorOut
import Derived.Test.YtnnbhklkakhkkaaDoorSignParts
namespace Go.Proofs.YtnnbhklkakhkkaaDoor
open Go.RowKit Go.Lib

/-- the number that the first four bytes make -/
def be4 (l : List UInt8) : Nat := (l.getD 0 0).toNat * 16777216 + (l.getD 1 0).toNat * 65536 + (l.getD 2 0).toNat * 256 + (l.getD 3 0).toNat
/-- do the bytes begin with the hash? -/
def rawOk (raw : Option (List UInt8)) (h : Int) : Bool := match raw with
  | some r => decide (4 ≤ r.length) && decide ((be4 r : Int) = h)
  | none => false
/-- may an old signature stand? -/
def oldOk (ks : List (ByteArray × Int)) (s : SV) : Bool := nameOk s.name && (hasKey ks s.name s.hash || rawOk (decL s.b64.data.toList) s.hash)
/-- its line; nothing, if its key signs anew -/
def oldLine (ks : List (ByteArray × Int)) (s : SV) : List UInt8 := if hasKey ks s.name s.hash then [] else lineL s.name.data.toList s.b64.data.toList
def oldLines (ks : List (ByteArray × Int)) (l : List SV) : List UInt8 := l.flatMap (oldLine ks)
/-- what Sign answers -/
def signR (text : ByteArray) (ms : List MV) (os : List SV) : Option (List UInt8) :=
  if endsNl text && (ms.all signs && os.all (oldOk (keysOf ms))) then some (text.data.toList ++ [10] ++ oldLines (keysOf ms) os ++ newLines ms) else none
/-- no new line inside a text of base64 -/
def noNl (l : List UInt8) : Prop := ∀ x ∈ l, x ≠ 10 ∧ x ≠ 13
/-- of the old signatures that are reached and read, none has a new line inside -/
def Clean (ks : List (ByteArray × Int)) (os : List SV) : Prop :=
  ∀ (i : Nat) (s : SV), os[i]? = some s → (os.take i).all (oldOk ks) = true → nameOk s.name = true → hasKey ks s.name s.hash = false → noNl s.b64.data.toList

section
variable {ks : List (ByteArray × Int)} {l : List SV} {i : Nat} {s : SV}
theorem oldLines_next (h : l[i]? = some s) : oldLines ks (l.take (i + 1)) = oldLines ks (l.take i) ++ oldLine ks s := by
  unfold oldLines
  rw [List.take_add_one, h, List.flatMap_append]
  simp
theorem oldOks_next (h : l[i]? = some s) : (l.take (i + 1)).all (oldOk ks) = ((l.take i).all (oldOk ks) && oldOk ks s) := by
  rw [List.take_add_one, h, List.all_append]
  simp
theorem oldLines_le (i : Nat) : (oldLines ks (l.take i)).length ≤ (oldLines ks l).length := by
  conv => rhs; rw [← List.take_append_drop i l]
  unfold oldLines
  rw [List.flatMap_append, List.length_append]
  omega
theorem oldLine_skip (h : hasKey ks s.name s.hash = true) : oldLine ks s = [] := by unfold oldLine; rw [if_pos h]
theorem oldLine_line (h : hasKey ks s.name s.hash = false) : oldLine ks s = lineL s.name.data.toList s.b64.data.toList := by unfold oldLine; rw [if_neg (by rw [h]; decide)]
theorem oldOk_name (h : nameOk s.name = false) : oldOk ks s = false := by unfold oldOk; rw [h, Bool.false_and]
theorem oldOk_skip (h1 : nameOk s.name = true) (h : hasKey ks s.name s.hash = true) : oldOk ks s = true := by unfold oldOk; rw [h1, h]; rfl
theorem oldOk_raw (h1 : nameOk s.name = true) (h : hasKey ks s.name s.hash = false) : oldOk ks s = rawOk (decL s.b64.data.toList) s.hash := by unfold oldOk; rw [h1, h]; rfl
theorem olds_no (h : l[i]? = some s) (hs : oldOk ks s = false) : l.all (oldOk ks) = false := by
  rw [List.all_eq_false]
  exact ⟨s, List.mem_of_getElem? h, by simp [hs]⟩
theorem rawOk_ne (h : rawOk (decL s.b64.data.toList) s.hash = true) : 1 ≤ s.b64.size := by
  rcases Nat.eq_zero_or_pos s.b64.size with h0 | h0
  · have hn : s.b64.data.toList = [] := List.eq_nil_of_length_eq_zero (by simpa using h0)
    rw [hn] at h
    exact absurd h (by simp [decL, rawOk])
  · exact h0
end

/-- four bytes and the number that they make -/
theorem be4_hash4 (h : Nat) (hh : h < 4294967296) (t : List UInt8) : be4 (hash4 h ++ t) = h := by
  unfold be4 hash4
  simp only [List.cons_append, List.nil_append, List.getD_cons_zero, List.getD_cons_succ, UInt8.toNat_ofNat']
  omega

end Go.Proofs.YtnnbhklkakhkkaaDoor

/-
  The walks of laws.keys, spec.Find and spec.Good: a list of keys is copied, searched, looked through.
-/
import Derived.Test.YtnnbhklkakhkkaaDoorKeys
namespace Go.Proofs.YtnnbhklkakhkkaaDoor
open Go.RowKit

theorem specKeyInfo : (Tryd.prog.info? 94).map (fun i => (i.zero, i.size, i.bytes)) = some (some (.agg #[.string .empty, .int .u32 0, .slice none 0 0, .slice none 0 0]), 4, 72) := by kernel_rfl

theorem KV.oneCells (k : KV) : ∀ u ∈ k.cells, u.oneCell' = true := by
  intro u hu
  simp [KV.cells] at hu
  rcases hu with rfl | rfl | rfl | rfl <;> rfl

/-- the place of a key in a list, or its length -/
def findIdx (l : List KV) (name : ByteArray) (hash : Int) : Nat := l.findIdx fun k => decide (k.name = name ∧ k.hash = hash)
/-- what spec.Find gives -/
def find (l : List KV) (name : ByteArray) (hash : Int) : Int := if findIdx l name hash < l.length then (findIdx l name hash : Int) else -1

theorem find_at {l : List KV} {name : ByteArray} {hash : Int} {k : Nat} {x : KV} (h : l[k]? = some x) (hk : findIdx (l.take k) name hash = k) (hx : x.name = name ∧ x.hash = hash) : find l name hash = k := by
  obtain ⟨hlt, hget⟩ := List.getElem?_eq_some_iff.1 h
  have hi : findIdx l name hash = k := by
    have e : l = l.take k ++ x :: l.drop (k + 1) := by
      conv => lhs; rw [← List.take_append_drop k l, List.drop_eq_getElem_cons hlt, hget]
    unfold findIdx at hk ⊢
    have hl : (l.take k).length = k := by rw [List.length_take]; omega
    rw [e, List.findIdx_append, List.findIdx_cons]
    simp only [hx, and_self, decide_true, cond_true, hl, hk]
    simp
  simp [find, hi, hlt]

theorem find_step {l : List KV} {name : ByteArray} {hash : Int} {k : Nat} {x : KV} (h : l[k]? = some x) (hk : findIdx (l.take k) name hash = k) (hx : ¬(x.name = name ∧ x.hash = hash)) : findIdx (l.take (k + 1)) name hash = k + 1 := by
  obtain ⟨hlt, hget⟩ := List.getElem?_eq_some_iff.1 h
  have hl : (l.take k).length = k := by rw [List.length_take]; omega
  unfold findIdx at hk ⊢
  rw [List.take_add_one, h, Option.toList_some, List.findIdx_append]
  simp only [hl, hk, List.findIdx_singleton]
  simp [hx]
  omega

theorem find_none {l : List KV} {name : ByteArray} {hash : Int} (hk : findIdx l name hash = l.length) : find l name hash = -1 := by simp [find, hk]


end Go.Proofs.YtnnbhklkakhkkaaDoor

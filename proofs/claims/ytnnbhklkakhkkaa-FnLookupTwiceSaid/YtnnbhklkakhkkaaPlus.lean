/-
  A REGION THAT DRAWS ITS ORDER, whose operations only read old memory and whose callees may make memory of their own but answer a value that does not hang on it: one walk in the order of the text serves every order (the library's wp_region_quiet, at the class 'this world with more blocks behind it').
-/
import Derived.Test.YtnnbhklkakhkkaaBase
import Derived.Deep.Quiet
import Derived.Deep.QuietTactic
import Derived.BigQuiet
namespace Go.Proofs.Ytnnbhklkakhkkaa
open Go.RowKit

/-- the world w with the blocks of u behind its own, and u's count of draws -/
def plus (w u : World) : World := { w with heap := w.heap ++ u.heap, drawn := u.drawn }

theorem plus_below (w u : World) : Below w.heap.size w (plus w u) :=
  ⟨rfl, rfl, rfl, by simp [plus], fun k hk => by simp [plus, Array.getElem?_append_left hk]⟩

theorem below_plus {w w' : World} (h : Below w.heap.size w w') : ∃ u, w' = plus w u := by
  refine ⟨{ w' with heap := w'.heap.extract w.heap.size w'.heap.size }, ?_⟩
  obtain ⟨hp, t, d, o, out⟩ := w'
  have h1 := h.os; have h2 := h.tape; have h3 := h.output; have h4 := h.size; have h5 := h.block
  simp only at h1 h2 h3 h4 h5
  unfold plus
  subst h1 h2 h3
  simp only [World.mk.injEq, and_true]
  apply Array.ext_getElem?
  intro i
  by_cases hi : i < w.heap.size
  · rw [h5 i hi, Array.getElem?_append_left hi]
  · rw [Array.getElem?_append_right (by omega)]
    by_cases hj : i < hp.size
    · simp [hj, Array.getElem?_extract]
      rw [show w.heap.size + (i - w.heap.size) = i by omega, Array.getElem?_eq_getElem hj]
      exact ⟨by omega, rfl⟩
    · rw [Array.getElem?_eq_none (by omega), Array.getElem?_eq_none (by simp; omega)]

theorem plus_cell {w u : World} {p : Addr} {v : Value} (h : w.cell? p = some v) : (plus w u).cell? p = some v := by
  rw [(plus_below w u).cell (World.block_lt_of_cell? w p h), h]

theorem wp_region_below {P : Program} {id : Nat} {Q : Exit → Act → World → Prop} {a : Act} {w : World} {l : List Oper} (hm : P.follows .mixedOrders = true) (hB : Region.lexB .any l.toArray = true)
    (h : wpQuiet P l.toArray (fun w' => ∃ u, w' = plus w u) (fun a' => ∀ w', (∃ u, w' = plus w u) → Q .normal a' w') l a) : (Code.region id l.toArray true).wp P Q a w :=
  wp_region_quiet (C := fun w' => ∃ u, w' = plus w u) hm hB ⟨{ w with heap := #[], drawn := w.drawn + 1 }, by simp [plus]⟩ (by simpa using h)

theorem quiet_below {P : Program} {f : FuncId} {args : Array Value} {w u : World} {v : Value}
    (h : Calls P f args (plus w u) fun e w' => e = .returned v ∧ Below (plus w u).heap.size (plus w u) w') : Calls P f args (plus w u) fun e w'' => e = .returned v ∧ ∃ u', w'' = plus w u' :=
  h.mono fun _ _ ⟨he, hb⟩ => ⟨he, below_plus ((plus_below w u).trans (hb.mono (plus_below w u).size))⟩

end Go.Proofs.Ytnnbhklkakhkkaa

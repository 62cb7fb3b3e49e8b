/-
  WHAT THE ROWS LIST OF THE ERRORS' VARIABLES, as the walks ask it (Errs); the two variables' own readings.
-/
import Derived.Test.YtnnbhklkakhkkaaDoorLaid
import Derived.Test.YtnnbhklkakhkkaaDoorNoteSign
import Derived.Stop.LaidErr
import Derived.RowKitTokens
import Derived.Lib.SmallJoins
import Derived.WalkSmall
namespace Go.Proofs.YtnnbhklkakhkkaaDoor
open Go.ChangeShapes Go.WideShapes Go.ChangeAt Go.RowKit Go.Stop

theorem gMal : Tryd.prog.globalNamed "loop.example/pub-notesandsignatures/pub/sumdbnote.errMalformedNote" = some 0 := by kernel_rfl
theorem gInv : Tryd.prog.globalNamed "loop.example/pub-notesandsignatures/pub/sumdbnote.errInvalidSigner" = some 1 := by kernel_rfl
theorem gMalT : (Tryd.prog.globals[0]?).map (·.type) = some 70 := by kernel_rfl
theorem gInvT : (Tryd.prog.globals[1]?).map (·.type) = some 70 := by kernel_rfl
theorem strCells1 : Tryd.prog.cellsOf 223 = 1 := by kernel_rfl
theorem strCells2 : Tryd.prog.cellsOf 9 = 1 := by kernel_rfl
theorem errStar : "*" ++ "errors.errorString" = "*errors.errorString" := by decide
theorem errRow (u : TypeId) (h : Tryd.prog.typeName? 3 u = some "*errors.errorString") : u = 207 :=
  typeName_ptr_named (nm := "errors.errorString") (by rw [errStar]; kernel_rfl) (by kernel_rfl) (by decide) u (by rw [errStar]; exact h)

/-- an error's variable that a row lists: it holds a pointer to a text -/
theorem err_of_laid {n : String} {g : Nat} {text : List UInt8} {r : List (String × DataW Unit)} {W : World} (h : laidMet Tryd.prog ((n, .iface "*errors.errorString" (.ptr (.agg [.lit (.string text)]))) :: r) W)
    (hg : Tryd.prog.globalNamed n = some g) (ht : (Tryd.prog.globals[g]?).map (·.type) = some 70) : ∃ a : Addr, W.var? Tryd.prog n = some #[.iface 207 (.pointer (some a))] := by
  obtain ⟨a, s, hv, _⟩ := laid_sentinel h hg ht Tryd.underlying70 errRow Tryd.underlying207 Tryd.underlying223 rfl rfl Tryd.underlying9 strCells1 strCells2
  exact ⟨a, hv⟩
theorem errs_of_vars {W : World} {a b : Addr} (h1 : W.var? Tryd.prog "loop.example/pub-notesandsignatures/pub/sumdbnote.errMalformedNote" = some #[.iface 207 (.pointer (some a))])
    (h2 : W.var? Tryd.prog "loop.example/pub-notesandsignatures/pub/sumdbnote.errInvalidSigner" = some #[.iface 207 (.pointer (some b))]) : Errs W :=
  ⟨⟨_, _, by simpa using World.var?_cell gMal h1 0⟩, ⟨_, _, by simpa using World.var?_cell gInv h2 0⟩⟩

def isHeld {H : Type} : DataW H → Bool
  | .held _ => true
  | _ => false
theorem held_of {H : Type} {d : DataW H} (h : isHeld d = true) : ∃ x, d = .held x := by
  cases d <;> first | exact ⟨_, rfl⟩ | cases h
theorem held_two {H : Type} {o : Option (List (DataW H) × List (DataW H) × List MemPlace)} {l : List (DataW H)} (h : o.map (fun x => (x.1, x.2.1.map isHeld)) = some (l, [true, true])) : ∃ x1 x2 places, o = some (l, [.held x1, .held x2], places) := by
  obtain ⟨⟨a, b, c⟩, rfl, hx⟩ := Option.map_eq_some_iff.1 h
  simp only [Prod.mk.injEq] at hx
  obtain ⟨rfl, hb⟩ := hx
  obtain ⟨d1, t, rfl, h1, ht⟩ := List.map_eq_cons_iff.1 hb
  obtain ⟨d2, t2, rfl, h2, ht2⟩ := List.map_eq_cons_iff.1 ht
  obtain rfl : t2 = [] := List.map_eq_nil_iff.1 ht2
  obtain ⟨x1, rfl⟩ := held_of h1
  obtain ⟨x2, rfl⟩ := held_of h2
  exact ⟨x1, x2, c, rfl⟩

end Go.Proofs.YtnnbhklkakhkkaaDoor

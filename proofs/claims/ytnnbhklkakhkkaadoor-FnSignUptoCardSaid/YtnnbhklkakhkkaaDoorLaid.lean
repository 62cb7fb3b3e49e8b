/-
  WHAT THE ROWS LIST OF PACKAGE-LEVEL VARIABLES, as the walks ask it (Tabs); closed facts of this program.
-/
import Derived.Test.YtnnbhklkakhkkaaDoorNames
import Derived.Test.YtnnbhklkakhkkaaDoorCards
import Derived.Test.YtnnbhklkakhkkaaDoorTie
import Derived.WalkKit
import Derived.ProofKit
import Derived.OpenShut
import Derived.Deep.DeepHandedRow
import Derived.Deep.DeepWitnessRowRef
import Derived.Lib.LaidTab
import Derived.Lib.LaidU8T
import Derived.Lay
namespace Go.Proofs.YtnnbhklkakhkkaaDoor
open Go.ChangeShapes Go.WideShapes Go.ChangeAt Go.RowKit
open Go.ChangeMaps (open_string shut_string)

theorem own : ownKnob Tryd.prog.godebug = none := by kernel_rfl
theorem laidOut : laidOutB Tryd.prog = true := by kernel_rfl

/-- an argument reads as it did, behind a call that left all old memory alone -/
theorem again {H : Type} {enc : TypeId × Value → H} {t : TypeId} (hr : Tryd.prog.readableRec t = true) (hrow : t < Tryd.prog.types.size) {W W' : World} {v : Value} {d : DataW H} {ps : List MemPlace}
    (h : DataW.Trod enc Tryd.prog W 0 (fun _ => true) true t v d ps) (hb : Below W.heap.size W W') (hlt : ∀ x ∈ ps, x.block < W.heap.size) :
    DataW.Trod enc Tryd.prog W' 0 (fun b => decide (b < W.heap.size)) true t v d ps := Below.trod laidOut hr hrow h hb hlt

theorem first_eq : Rows.laid_unicode_utf8_first = Lib.firstData := by kernel_rfl
theorem accept_eq : (Rows.laid_unicode_utf8_acceptRanges : DataW Unit) = Lib.acceptData := by kernel_rfl
theorem white_eq : (Rows.laid_unicode_White_Space : DataW Unit) = Lib.whiteData := by kernel_rfl

/-- a list without handles: the condition is the plain one -/
theorem plainLaid {P : Program} {l : List (String × DataW Unit)} {W : World} (h : laidMetH P l W) (hn : (l.all fun x => x.2.handleName?.isNone) = true) : laidMet P l W := by
  have hf : (l.filter fun x => x.2.handleName?.isSome) = [] := List.filter_eq_nil_iff.2 fun x hx hs => by
    have := List.all_eq_true.1 hn x hx
    rw [Option.isNone_iff_eq_none] at this
    rw [this] at hs
    cases hs
  unfold laidMetH at h
  rw [hf] at h
  exact h

theorem tabs_of_laid {l : List (String × DataW Unit)} {W : World} (h : laidMet Tryd.prog l W) (h1 : ("unicode/utf8.first", Rows.laid_unicode_utf8_first) ∈ l)
    (h2 : ("unicode/utf8.acceptRanges", Rows.laid_unicode_utf8_acceptRanges) ∈ l) (h3 : ("unicode.White_Space", Rows.laid_unicode_White_Space) ∈ l) : Tabs W := by
  rw [first_eq] at h1
  rw [accept_eq] at h2
  rw [white_eq] at h3
  exact ⟨utf8Tabs_of_readsT (ρ := Tryd.lays196_ren) (.of196 Tryd.lays196) ⟨by kernel_rfl, by kernel_rfl, by kernel_rfl, by kernel_rfl, by kernel_rfl, by kernel_rfl, by kernel_rfl⟩ (Lib.laidMet.reads h h1) (Lib.laidMet.reads h h2),
    whiteTab_of_reads (ρ := Tryd.lays199_ren) Tryd.lays199 ⟨by kernel_rfl, by kernel_rfl, by kernel_rfl, by kernel_rfl, by kernel_rfl, by kernel_rfl, by kernel_rfl, by kernel_rfl⟩ (Lib.laidMet.reads h h3)⟩

end Go.Proofs.YtnnbhklkakhkkaaDoor

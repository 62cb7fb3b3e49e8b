/-
  OPENING THE ARGUMENTS: a key that signs, as data. No walk.
-/
import Derived.Test.YtnnbhklkakhkkaaDoorMakers
import Derived.ProofKit
import Derived.Deep.Slices
import Derived.Deep.Fields
import Derived.Lib.SmallJoins
import Derived.OpenShut
namespace Go.Proofs.YtnnbhklkakhkkaaDoor
open Go.ChangeShapes Go.WideShapes Go.RowKit Go.Deep Go.Joins

theorem makerCells : Tryd.prog.cellsOf 25 = 4 := by kernel_rfl
theorem makerFields : ∃ f0 f1 f2 f3 : Field, Tryd.prog.underlying 25 = some (.struct #[f0, f1, f2, f3]) ∧ f0.type = 9 ∧ f1.type = 23 ∧ f2.type = 9 ∧ f3.type = 4 :=
  ⟨_, _, _, _, Tryd.underlying25, rfl, rfl, rfl, rfl⟩

set_option maxRecDepth 100000 in
/-- one key that came in -/
theorem open_maker {H : Type} {enc : TypeId × Value → H} {W : World} {base : Nat} {v : Value} {d : DataW H} {p : List MemPlace} (hv : Value.okWide Tryd.prog W .any base 25 v) (h : DataW.Trod enc Tryd.prog W 0 (fun _ => true) true 25 v d p) :
    ∃ m : MV, v = m.val ∧ m.Ok := by
  obtain ⟨f0, f1, f2, f3, hu, t0, t1, t2, t3⟩ := makerFields
  have hone : oneCellFields Tryd.prog #[f0, f1, f2, f3] = true := by
    have h1 : (match Tryd.prog.underlying 25 with | some (.struct fs) => oneCellFields Tryd.prog fs | _ => false) = true := by kernel_rfl
    rw [hu] at h1
    exact h1
  obtain ⟨v0, v1, v2, v3, y0, y1, y2, y3, n, rfl, rfl, rfl, h0, h1, h2, h3⟩ := open_agg4 hu hone makerCells hv h
  rw [t0] at h0
  rw [t1] at h1
  rw [t2] at h2
  rw [t3] at h3
  obtain ⟨s0, e0, _, w0⟩ := DataW.trod_string Tryd.underlying9 h0
  obtain ⟨x1, e1, _, w1⟩ := DataW.trod_int Tryd.underlying23 h1
  obtain ⟨s2, e2, _, w2⟩ := DataW.trod_string Tryd.underlying9 h2
  obtain ⟨b3, e3, _⟩ := DataW.trod_bool Tryd.underlying4 h3
  obtain rfl : v0 = .string s0 := by simpa using e0
  obtain rfl : v1 = .int .u32 x1 := by simpa using e1
  obtain rfl : v2 = .string s2 := by simpa using e2
  obtain rfl : v3 = .bool b3 := by simpa using e3
  have hb := bounds_u32 w1
  unfold maxLen at w0 w2
  exact ⟨⟨s0, x1, s2, b3⟩, rfl, ⟨by show s0.size ≤ _; omega, by show s2.size ≤ _; omega, hb.1, by show x1 < _; omega⟩⟩

end Go.Proofs.YtnnbhklkakhkkaaDoor

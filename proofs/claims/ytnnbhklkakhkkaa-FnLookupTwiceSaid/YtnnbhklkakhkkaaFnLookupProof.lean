/-
  PROVED: laws.FnLookup answers true, whatever the keys, the name and the hash that come in (FnLookupSaid): no condition.
-/
import Derived.Test.YtnnbhklkakhkkaaFnLookup
import Derived.Test.YtnnbhklkakhkkaaOpen
namespace Go.Proofs.Ytnnbhklkakhkkaa
open Go.ChangeShapes Go.WideShapes Go.ChangeAt Go.RowKit
open Go.ChangeMaps (open_string shut_string)

theorem own : ownKnob Try.prog.godebug = none := by kernel_rfl
theorem laidOut : laidOutB Try.prog = true := by kernel_rfl

/-- an argument reads as it did, behind a call that left all old memory alone -/
theorem again {H : Type} {enc : TypeId × Value → H} {t : TypeId} (hr : Try.prog.readableRec t = true) (hrow : t < Try.prog.types.size) {W W' : World} {v : Value} {d : DataW H} {ps : List MemPlace}
    (h : DataW.Trod enc Try.prog W 0 (fun _ => true) true t v d ps) (hb : Below W.heap.size W W') (hlt : ∀ x ∈ ps, x.block < W.heap.size) :
    DataW.Trod enc Try.prog W' 0 (fun b => decide (b < W.heap.size)) true t v d ps := Below.trod laidOut hr hrow h hb hlt

set_option maxRecDepth 100000 in
theorem fnLookup_lifted (os : Os) (started : os.Started) (H : Type) (enc : TypeId × Value → H) :
    ReturnsInHanded {} Try.checked os 3 .any (Rows.fnLookupSpec.pre6 enc Try.prog Try.f3 Rows.fnLookupRow.domain false) (Rows.fnLookupSpec.post enc Try.prog Try.f3 false true false false) := by
  refine returnsInHanded_of_change (C := Try.checked) own started (by kernel_rfl) Try.func3
    (ChangeSpec.witness6 (enc := enc) (C := Try.checked) false ⟨#[], #[.slice none 0 0, .string .empty, .int .u32 0], []⟩ 8 (by kernel_rfl) (by kernel_rfl) (by kernel_rfl) (by kernel_rfl)) ?_
  intro W base args ds gs before hval0 hW _ _
  have hval : ∀ (j : Nat) t v, Try.f3.params[j]? = some t → args[j]? = some v → Value.okWide Try.prog W .any base t v := hval0
  have hW' := hW
  obtain ⟨p, q, hA0, hV, rfl, _, _⟩ := hW
  have hA : DataW.TrodAll enc Try.prog W 0 (fun _ => true) true Try.f3.params.toList args.toList ds p := hA0
  rw [Try.params3] at hA hval
  obtain ⟨v0, v1, v2, d0, d1, d2, p0, p1, p2, rfl, rfl, rfl, h0, h1, h2⟩ := trodAll_three hA
  obtain ⟨rfl, rfl⟩ := trodVars_none hV
  obtain ⟨a, rfl, rfl, rfl, wa⟩ := open_string Try.underlying9 (hval 1 9 v1 rfl rfl) h1
  obtain ⟨x, rfl, rfl, rfl, wx⟩ := open_int Try.underlying23 (hval 2 23 v2 rfl rfl) h2
  clear hA0 hval0
  simp only [List.append_nil] at hW'
  have hlt : ∀ x ∈ p0, x.block < W.heap.size := fun x hx => by simpa using hW'.lt x (by simp [hx])
  obtain ⟨A, n, c, l, rfl, hs, hnc, hcm, hat, hok⟩ := open_keys h0 (okWide_slice Try.underlying22 (hval 0 22 v0 rfl rfl))
  refine (fnLookup_any A n c l a x W hs (by omega) hat hok).mono fun e W' ⟨he, hb⟩ => ?_
  subst he
  refine ⟨_, rfl, _, _, _, [], p0 ++ ([] ++ []), [], hW', trodAll_mk1 (shut_bool Try.underlying4 _), ?_, rfl, hb.frame _, fun h => by cases h⟩
  exact trodAll_mk3 (again (by kernel_rfl) (of_decide_eq_true (by kernel_rfl)) h0 hb hlt) (shut_string Try.underlying9 wa) (shut_int Try.underlying23 wx)

theorem fnLookup_holds : Rows.FnLookupSaid :=
  OpenClaim.holds_of_wide 3 Try.f3 rfl rfl rfl rfl rfl rfl rfl ⟨rfl, rfl, rfl, rfl, rfl⟩ rfl rfl rfl rfl rfl (by kernel_rfl) Try.func3 (by kernel_rfl)
    (of_decide_eq_true (by kernel_rfl)) (by unfold Func.isWrapper; first | (rw [if_pos (by decide +kernel)]; kernel_rfl) | (rw [if_neg (by decide +kernel)]; exact ⟨rfl, rfl⟩))
    (fun os started H enc _ => fnLookup_lifted os started H enc)
#print axioms fnLookup_holds
end Go.Proofs.Ytnnbhklkakhkkaa

/-
  PROVED: laws.FnLookupTwice answers true, whatever the keys and the key that come in (FnLookupTwiceSaid): no condition.
-/
import Derived.Test.YtnnbhklkakhkkaaTwice
import Derived.Test.YtnnbhklkakhkkaaFnLookupProof
namespace Go.Proofs.Ytnnbhklkakhkkaa
open Go.ChangeShapes Go.WideShapes Go.ChangeAt Go.RowKit
open Go.ChangeMaps (open_string shut_string)

set_option maxRecDepth 100000 in
theorem fnTwice_lifted (os : Os) (started : os.Started) (H : Type) (enc : TypeId × Value → H) :
    ReturnsInHanded {} Try.checked os 4 .any (Rows.fnLookupTwiceSpec.pre6 enc Try.prog Try.f4 Rows.fnLookupTwiceRow.domain false) (Rows.fnLookupTwiceSpec.post enc Try.prog Try.f4 false true false false) := by
  refine returnsInHanded_of_change (C := Try.checked) own started (by kernel_rfl) Try.func4
    (ChangeSpec.witness6 (enc := enc) (C := Try.checked) false ⟨#[], #[.slice none 0 0, .agg #[.string .empty, .int .u32 0, .slice none 0 0, .slice none 0 0]], []⟩ 8 (by kernel_rfl) (by kernel_rfl) (by kernel_rfl) (by kernel_rfl)) ?_
  intro W base args ds gs before hval0 hW _ _
  have hval : ∀ (j : Nat) t v, Try.f4.params[j]? = some t → args[j]? = some v → Value.okWide Try.prog W .any base t v := hval0
  have hW' := hW
  obtain ⟨p, q, hA0, hV, rfl, _, _⟩ := hW
  have hA : DataW.TrodAll enc Try.prog W 0 (fun _ => true) true Try.f4.params.toList args.toList ds p := hA0
  rw [Try.params4] at hA hval
  obtain ⟨v0, v1, d0, d1, p0, p1, rfl, rfl, rfl, h0, h1⟩ := trodAll_two hA
  obtain ⟨rfl, rfl⟩ := trodVars_none hV
  clear hA0 hval0
  simp only [List.append_nil] at hW'
  have hlt0 : ∀ x ∈ p0, x.block < W.heap.size := fun x hx => by simpa using hW'.lt x (by simp [hx])
  have hlt1 : ∀ x ∈ p1, x.block < W.heap.size := fun x hx => by simpa using hW'.lt x (by simp [hx])
  obtain ⟨A, n, c, l, rfl, hs, hnc, hcm, hat, hok⟩ := open_keys h0 (okWide_slice Try.underlying22 (hval 0 22 v0 rfl rfl))
  obtain ⟨cs, rfl, hcs⟩ := okWide_struct Try.underlying30 (hval 1 30 v1 rfl rfl)
  obtain ⟨fuel, hf⟩ := id h1
  obtain ⟨k, hk, hkat, hkok⟩ := open_key hf
  obtain rfl : cs = k.cells.toArray := by
    apply Array.ext'
    simpa [Value.cells] using hk
  refine (fnTwice_any A n c l k W hs (by omega) hat hok hkat hkok).mono fun e W' ⟨he, hb⟩ => ?_
  subst he
  refine ⟨_, rfl, _, _, _, [], p0 ++ p1, [], hW', trodAll_mk1 (shut_bool Try.underlying4 _), ?_, rfl, hb.frame _, fun h => by cases h⟩
  exact trodAll_mk2 (again (by kernel_rfl) (of_decide_eq_true (by kernel_rfl)) h0 hb hlt0) (again (by kernel_rfl) (of_decide_eq_true (by kernel_rfl)) h1 hb hlt1)

theorem fnTwice_holds : Rows.FnLookupTwiceSaid :=
  OpenClaim.holds_of_wide 4 Try.f4 rfl rfl rfl rfl rfl rfl rfl ⟨rfl, rfl, rfl, rfl, rfl⟩ rfl rfl rfl rfl rfl (by kernel_rfl) Try.func4 (by kernel_rfl)
    (of_decide_eq_true (by kernel_rfl)) (by unfold Func.isWrapper; first | (rw [if_pos (by decide +kernel)]; kernel_rfl) | (rw [if_neg (by decide +kernel)]; exact ⟨rfl, rfl⟩))
    (fun os started H enc _ => fnTwice_lifted os started H enc)
#print axioms fnTwice_holds
end Go.Proofs.Ytnnbhklkakhkkaa

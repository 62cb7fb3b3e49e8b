/-
  PROVED: laws.FnOther answers true, whatever the two texts and the key that come in: the tied card (FnOtherCardSaid): no condition.
-/
import Derived.Test.YtnnbhklkakhkkaaDoorTopOther
namespace Go.Proofs.YtnnbhklkakhkkaaDoor.fnOther
open Go.ChangeShapes Go.WideShapes Go.ChangeAt Go.RowKit Go.Joins Go.Stop
open Go.ChangeMaps (open_string shut_string)

set_option maxRecDepth 100000 in
theorem contract (H : Type) (enc : TypeId × Value → H) (W : World) (base : Nat) (args : Array Value) (ds gs : List (DataW H)) (before : List MemPlace)
    (hval : ∀ (j : Nat) t v, Tryd.f7.params[j]? = some t → args[j]? = some v → Value.okWide Tryd.prog W .any base t v)
    (hW : DataW.Whole enc Tryd.prog Tryd.f7.params.toList Rows.fnOtherSpec.vars false W args.toList ds gs before) (hL : laidMetH Tryd.prog Rows.fnOtherRow.laid W) :
    Calls Tryd.prog 7 args W fun e W' => ∃ v, e = .returned v ∧ Rows.fnOtherSpec.post enc Tryd.prog Tryd.f7 false true false false W args v W' := by
  have hW' := hW
  obtain ⟨p, q, hA0, hV, rfl, hfz, hnd⟩ := hW
  have hA : DataW.TrodAll enc Tryd.prog W 0 (fun _ => true) true Tryd.f7.params.toList args.toList ds p := hA0
  rw [Tryd.params7] at hA hval
  obtain ⟨v0, v1, v2, d0, d1, d2, p0, p1, p2, rfl, rfl, rfl, h0, h1, h2⟩ := trodAll_three hA
  have hp := plainLaid hL (by kernel_rfl)
  obtain ⟨a, hva⟩ := err_of_laid hp.tail.tail.tail gMal gMalT
  obtain ⟨b, hvb⟩ := err_of_laid hp.tail.tail.tail.tail gInv gInvT
  obtain ⟨c, hvc⟩ := err_of_laid hp.tail.tail.tail.tail.tail gMis gMisT
  obtain ⟨rfl, rfl⟩ := hV.unique (vars_read3 enc gMal gMalT Tryd.underlying70 hva trivial gInv gInvT Tryd.underlying70 hvb trivial gMis gMisT Tryd.underlying70 hvc trivial _)
  have hE : Errs W := errs_of_vars hva hvb
  have hEO : ErrsO W := errsO_of_var hva
  have hT : Tabs W := tabs_of_laid hp (.tail _ (.tail _ (.tail _ (.tail _ (.tail _ (.tail _ (.head _))))))) (.head _) (.tail _ (.head _))
  obtain ⟨s, rfl, rfl, rfl, ws⟩ := open_string Tryd.underlying9 (hval 0 9 v0 rfl rfl) h0
  obtain ⟨s2, rfl, rfl, rfl, ws2⟩ := open_string Tryd.underlying9 (hval 1 9 v1 rfl rfl) h1
  obtain ⟨m, rfl, ok⟩ := open_maker (hval 2 25 v2 rfl rfl) h2
  clear hA0
  have hlt : ∀ x ∈ p2, x.block < W.heap.size := fun x hx => by simpa using hW'.lt x (by simp [hx])
  have hs : s.size ≤ 9223372036854775807 := by unfold maxLen at ws; omega
  have hs2 : s2.size ≤ 9223372036854775807 := by unfold maxLen at ws2; omega
  refine (fnOther_any s s2 m W hs hs2 ok hT hE hEO).mono fun e W' ⟨he, hb⟩ => ?_
  subst he
  have hva' := Go.Joins.var_stays gMal hva hb (Nat.le_refl _)
  have hvb' := Go.Joins.var_stays gInv hvb hb (Nat.le_refl _)
  have hvc' := Go.Joins.var_stays gMis hvc hb (Nat.le_refl _)
  exact ⟨_, rfl, _, _, _, [], [] ++ ([] ++ p2), _, hW', trodAll_mk1 (shut_bool Tryd.underlying4 _), trodAll_mk3 (shut_string Tryd.underlying9 ws) (shut_string Tryd.underlying9 ws2) (again (by kernel_rfl) (of_decide_eq_true (by kernel_rfl)) h2 hb hlt),
    vars_read3 enc gMal gMalT Tryd.underlying70 hva' trivial gInv gInvT Tryd.underlying70 hvb' trivial gMis gMisT Tryd.underlying70 hvc' trivial _, hb.frame _, fun h => by cases h⟩

theorem laid_met (os : Os) : laidMet Tryd.prog Rows.fnOtherRow.laid ((World.laidAll Tryd.prog os Rows.fnOtherRow.laid).forCall (fun _ _ => 0) ⟨#[], #[.string .empty, .string .empty, .agg #[.string .empty, .int .u32 0, .string .empty, .bool false]], []⟩).memory :=
  laidMet_laidAll _ (by kernel_rfl) (by kernel_rfl)
theorem reads (os : Os) {H : Type} (enc : TypeId × Value → H) : ∃ x1 x2 x3 places, DataW.whole enc Tryd.prog ((World.laidAll Tryd.prog os Rows.fnOtherRow.laid).forCall (fun _ _ => 0) ⟨#[], #[.string .empty, .string .empty, .agg #[.string .empty, .int .u32 0, .string .empty, .bool false]], []⟩).memory Tryd.f7.params.toList Rows.fnOtherSpec.vars false #[Value.string .empty, .string .empty, .agg #[.string .empty, .int .u32 0, .string .empty, .bool false]].toList 8 = some ([.lit (.string []), .lit (.string []), .agg [.lit (.string []), .lit (.int .u32 0), .lit (.string []), .lit (.bool false)]], [.held x1, .held x2, .held x3], places) := by
  have h : (DataW.whole enc Tryd.prog ((World.laidAll Tryd.prog os Rows.fnOtherRow.laid).forCall (fun _ _ => 0) ⟨#[], #[.string .empty, .string .empty, .agg #[.string .empty, .int .u32 0, .string .empty, .bool false]], []⟩).memory Tryd.f7.params.toList Rows.fnOtherSpec.vars false #[Value.string .empty, .string .empty, .agg #[.string .empty, .int .u32 0, .string .empty, .bool false]].toList 8).map (fun x => (x.1, x.2.1.map isHeld)) = some ([.lit (.string []), .lit (.string []), .agg [.lit (.string []), .lit (.int .u32 0), .lit (.string []), .lit (.bool false)]], [true, true, true]) := by kernel_rfl
  exact held_three h

set_option maxRecDepth 100000 in
theorem lifted (os : Os) (started : os.Started) (H : Type) (enc : TypeId × Value → H) (F : Stop.Interp) :
    ReturnsInHanded {} Tryd.checked os 7 .any ((OpenSpec.ofChange Rows.fnOtherSpec).preRow enc Tryd.prog Tryd.f7 Rows.fnOtherRow.domain false Rows.fnOtherRow.laid) (((OpenSpec.ofChange Rows.fnOtherSpec).at F).post enc Tryd.prog Tryd.f7 false true false false) := by
  obtain ⟨x1, x2, x3, places, hx⟩ := reads os enc
  refine returnsInHanded_of_row (C := Tryd.checked) (s := OpenSpec.ofChange Rows.fnOtherSpec) own started (by kernel_rfl) Tryd.func7
    (witness_row_atRef (enc := enc) (C := Tryd.checked) false (World.laidAll Tryd.prog os Rows.fnOtherRow.laid) #[.string .empty, .string .empty, .agg #[.string .empty, .int .u32 0, .string .empty, .bool false]] (World.laidAll_os _ _ _) (by kernel_rfl) (by kernel_rfl) (by kernel_rfl)
      (OpenSpec.preRow_of_cond 8 hx (by kernel_rfl) (fun k hk => by cases hk) (by kernel_rfl) (laid_met os))) ?_
  intro W base args ds gs before hval hW _ _ _ hL _ _
  exact contract H enc W base args ds gs before hval hW hL

theorem said : Rows.FnOtherSaid :=
  OpenClaim.holds_of_cond 7 Tryd.f7 rfl rfl rfl rfl rfl rfl rfl ⟨rfl, rfl, rfl, rfl, rfl⟩ rfl rfl rfl rfl rfl (by kernel_rfl) Tryd.func7 (by kernel_rfl)
    (of_decide_eq_true (by kernel_rfl)) (by unfold Func.isWrapper; first | (rw [if_pos (by decide +kernel)]; kernel_rfl) | (rw [if_neg (by decide +kernel)]; exact ⟨rfl, rfl⟩))
    (fun os started H enc _ F => by rw [OpenClaim.pre_eq_preRow]; exact lifted os started H enc F)

theorem plain (f : FuncId) (fn : Func) (hf : Tryd.pinned.checked.prog.funcNamed "loop.example/pub-notesandsignatures/laws.FnOther" = some f) (hfn : Tryd.pinned.checked.prog.funcs[f]? = some fn) :
    true = Tryd.pinned.checked.prog.looks [] ∧ ∀ (j : Nat) t, fn.params[j]? = some t → Tryd.pinned.checked.prog.wantsStandIn t = false := by
  obtain rfl : f = 7 := Option.some.inj ((show Tryd.prog.funcNamed "loop.example/pub-notesandsignatures/laws.FnOther" = some 7 by kernel_rfl).symm.trans hf) |>.symm
  obtain rfl : fn = Tryd.f7 := (Option.some.inj (Tryd.func7.symm.trans hfn)).symm
  refine ⟨by kernel_rfl, fun j t ht => ?_⟩
  rw [Tryd.params7] at ht
  have hm : t = 9 ∨ t = 25 := by simpa [or_assoc, or_self_left] using Array.mem_of_getElem? ht
  rcases hm with rfl | rfl
  · exact (show Tryd.prog.wantsStandIn 9 = false by kernel_rfl)
  · exact (show Tryd.prog.wantsStandIn 25 = false by kernel_rfl)

/-- ████ THE CARD ████ -/
theorem card : Rows.FnOtherCardSaid :=
  Claim7.holds_tied_plain_at .later [] _ _ _ _ said (fun _ h => by cases h) (by kernel_rfl) (fun _ h => by cases h) fnOther_row_tie rfl ⟨rfl, rfl⟩ (by kernel_rfl) rfl plain (by kernel_rfl)
#print axioms card
end Go.Proofs.YtnnbhklkakhkkaaDoor.fnOther

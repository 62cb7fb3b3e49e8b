/-
  PROVED: laws.FnRefuse answers true, whatever the text and the key that come in: the tied card (FnRefuseCardSaid): no condition.
-/
import Derived.Test.YtnnbhklkakhkkaaDoorFnRefuse
import Derived.Test.YtnnbhklkakhkkaaDoorLaidErrs
import Derived.Test.YtnnbhklkakhkkaaDoorOpenM
namespace Go.Proofs.YtnnbhklkakhkkaaDoor.fnRefuse
open Go.ChangeShapes Go.WideShapes Go.ChangeAt Go.RowKit Go.Joins Go.Stop
open Go.ChangeMaps (open_string shut_string)

set_option maxRecDepth 100000 in
theorem contract (H : Type) (enc : TypeId × Value → H) (W : World) (base : Nat) (args : Array Value) (ds gs : List (DataW H)) (before : List MemPlace)
    (hval : ∀ (j : Nat) t v, Tryd.f4.params[j]? = some t → args[j]? = some v → Value.okWide Tryd.prog W .any base t v)
    (hW : DataW.Whole enc Tryd.prog Tryd.f4.params.toList Rows.fnRefuseSpec.vars false W args.toList ds gs before) (hL : laidMetH Tryd.prog Rows.fnRefuseRow.laid W) :
    Calls Tryd.prog 4 args W fun e W' => ∃ v, e = .returned v ∧ Rows.fnRefuseSpec.post enc Tryd.prog Tryd.f4 false true false false W args v W' := by
  have hW' := hW
  obtain ⟨p, q, hA0, hV, rfl, hfz, hnd⟩ := hW
  have hA : DataW.TrodAll enc Tryd.prog W 0 (fun _ => true) true Tryd.f4.params.toList args.toList ds p := hA0
  rw [Tryd.params4] at hA hval
  obtain ⟨v0, v1, d0, d1, p0, p1, rfl, rfl, rfl, h0, h1⟩ := trodAll_two hA
  have hp := plainLaid hL (by kernel_rfl)
  obtain ⟨a, hva⟩ := err_of_laid hp.tail.tail.tail gMal gMalT
  obtain ⟨b, hvb⟩ := err_of_laid hp.tail.tail.tail.tail gInv gInvT
  obtain ⟨rfl, rfl⟩ := hV.unique (vars_read2 enc gMal gMalT Tryd.underlying70 hva trivial gInv gInvT Tryd.underlying70 hvb trivial _)
  have hE : Errs W := errs_of_vars hva hvb
  have hT : Tabs W := tabs_of_laid hp (.tail _ (.tail _ (.tail _ (.tail _ (.tail _ (.head _)))))) (.head _) (.tail _ (.head _))
  obtain ⟨s, rfl, rfl, rfl, ws⟩ := open_string Tryd.underlying9 (hval 0 9 v0 rfl rfl) h0
  obtain ⟨m, rfl, ok⟩ := open_maker (hval 1 25 v1 rfl rfl) h1
  clear hA0
  have hlt : ∀ x ∈ p1, x.block < W.heap.size := fun x hx => by simpa using hW'.lt x (by simp [hx])
  have hs : s.size ≤ 9223372036854775807 := by unfold maxLen at ws; omega
  refine (fnRefuse_any s m W hs ok hT hE).mono fun e W' ⟨he, hb⟩ => ?_
  subst he
  have hva' := Go.Joins.var_stays gMal hva hb (Nat.le_refl _)
  have hvb' := Go.Joins.var_stays gInv hvb hb (Nat.le_refl _)
  exact ⟨_, rfl, _, _, _, [], [] ++ p1, _, hW', trodAll_mk1 (shut_bool Tryd.underlying4 _), trodAll_mk2 (shut_string Tryd.underlying9 ws) (again (by kernel_rfl) (of_decide_eq_true (by kernel_rfl)) h1 hb hlt),
    vars_read2 enc gMal gMalT Tryd.underlying70 hva' trivial gInv gInvT Tryd.underlying70 hvb' trivial _, hb.frame _, fun h => by cases h⟩

theorem laid_met (os : Os) : laidMet Tryd.prog Rows.fnRefuseRow.laid ((World.laidAll Tryd.prog os Rows.fnRefuseRow.laid).forCall (fun _ _ => 0) ⟨#[], #[.string .empty, .agg #[.string .empty, .int .u32 0, .string .empty, .bool false]], []⟩).memory :=
  laidMet_laidAll _ (by kernel_rfl) (by kernel_rfl)
theorem reads (os : Os) {H : Type} (enc : TypeId × Value → H) : ∃ x1 x2 places, DataW.whole enc Tryd.prog ((World.laidAll Tryd.prog os Rows.fnRefuseRow.laid).forCall (fun _ _ => 0) ⟨#[], #[.string .empty, .agg #[.string .empty, .int .u32 0, .string .empty, .bool false]], []⟩).memory Tryd.f4.params.toList Rows.fnRefuseSpec.vars false #[Value.string .empty, .agg #[.string .empty, .int .u32 0, .string .empty, .bool false]].toList 8 = some ([.lit (.string []), .agg [.lit (.string []), .lit (.int .u32 0), .lit (.string []), .lit (.bool false)]], [.held x1, .held x2], places) := by
  have h : (DataW.whole enc Tryd.prog ((World.laidAll Tryd.prog os Rows.fnRefuseRow.laid).forCall (fun _ _ => 0) ⟨#[], #[.string .empty, .agg #[.string .empty, .int .u32 0, .string .empty, .bool false]], []⟩).memory Tryd.f4.params.toList Rows.fnRefuseSpec.vars false #[Value.string .empty, .agg #[.string .empty, .int .u32 0, .string .empty, .bool false]].toList 8).map (fun x => (x.1, x.2.1.map isHeld)) = some ([.lit (.string []), .agg [.lit (.string []), .lit (.int .u32 0), .lit (.string []), .lit (.bool false)]], [true, true]) := by kernel_rfl
  exact held_two h

set_option maxRecDepth 100000 in
theorem lifted (os : Os) (started : os.Started) (H : Type) (enc : TypeId × Value → H) (F : Stop.Interp) :
    ReturnsInHanded {} Tryd.checked os 4 .any ((OpenSpec.ofChange Rows.fnRefuseSpec).preRow enc Tryd.prog Tryd.f4 Rows.fnRefuseRow.domain false Rows.fnRefuseRow.laid) (((OpenSpec.ofChange Rows.fnRefuseSpec).at F).post enc Tryd.prog Tryd.f4 false true false false) := by
  obtain ⟨x1, x2, places, hx⟩ := reads os enc
  refine returnsInHanded_of_row (C := Tryd.checked) (s := OpenSpec.ofChange Rows.fnRefuseSpec) own started (by kernel_rfl) Tryd.func4
    (witness_row_atRef (enc := enc) (C := Tryd.checked) false (World.laidAll Tryd.prog os Rows.fnRefuseRow.laid) #[.string .empty, .agg #[.string .empty, .int .u32 0, .string .empty, .bool false]] (World.laidAll_os _ _ _) (by kernel_rfl) (by kernel_rfl) (by kernel_rfl)
      (OpenSpec.preRow_of_cond 8 hx (by kernel_rfl) (fun k hk => by cases hk) (by kernel_rfl) (laid_met os))) ?_
  intro W base args ds gs before hval hW _ _ _ hL _ _
  exact contract H enc W base args ds gs before hval hW hL

theorem said : Rows.FnRefuseSaid :=
  OpenClaim.holds_of_cond 4 Tryd.f4 rfl rfl rfl rfl rfl rfl rfl ⟨rfl, rfl, rfl, rfl, rfl⟩ rfl rfl rfl rfl rfl (by kernel_rfl) Tryd.func4 (by kernel_rfl)
    (of_decide_eq_true (by kernel_rfl)) (by unfold Func.isWrapper; first | (rw [if_pos (by decide +kernel)]; kernel_rfl) | (rw [if_neg (by decide +kernel)]; exact ⟨rfl, rfl⟩))
    (fun os started H enc _ F => by rw [OpenClaim.pre_eq_preRow]; exact lifted os started H enc F)

theorem plain (f : FuncId) (fn : Func) (hf : Tryd.pinned.checked.prog.funcNamed "loop.example/pub-notesandsignatures/laws.FnRefuse" = some f) (hfn : Tryd.pinned.checked.prog.funcs[f]? = some fn) :
    true = Tryd.pinned.checked.prog.looks [] ∧ ∀ (j : Nat) t, fn.params[j]? = some t → Tryd.pinned.checked.prog.wantsStandIn t = false := by
  obtain rfl : f = 4 := Option.some.inj ((show Tryd.prog.funcNamed "loop.example/pub-notesandsignatures/laws.FnRefuse" = some 4 by kernel_rfl).symm.trans hf) |>.symm
  obtain rfl : fn = Tryd.f4 := (Option.some.inj (Tryd.func4.symm.trans hfn)).symm
  refine ⟨by kernel_rfl, fun j t ht => ?_⟩
  rw [Tryd.params4] at ht
  have hm : t = 9 ∨ t = 25 := by simpa using Array.mem_of_getElem? ht
  rcases hm with rfl | rfl
  · exact (show Tryd.prog.wantsStandIn 9 = false by kernel_rfl)
  · exact (show Tryd.prog.wantsStandIn 25 = false by kernel_rfl)

/-- ████ THE CARD ████ -/
theorem card : Rows.FnRefuseCardSaid :=
  Claim7.holds_tied_plain_at .later [] _ _ _ _ said (fun _ h => by cases h) (by kernel_rfl) (fun _ h => by cases h) fnRefuse_row_tie rfl ⟨rfl, rfl⟩ (by kernel_rfl) rfl plain (by kernel_rfl)
#print axioms card
end Go.Proofs.YtnnbhklkakhkkaaDoor.fnRefuse

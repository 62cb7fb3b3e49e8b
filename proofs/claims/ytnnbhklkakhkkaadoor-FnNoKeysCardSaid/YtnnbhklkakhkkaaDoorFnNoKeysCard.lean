/-
  PROVED: laws.FnNoKeys answers true, whatever the message that comes in: the tied card (FnNoKeysCardSaid): no condition.
-/
import Derived.Test.YtnnbhklkakhkkaaDoorTopNoKeys
namespace Go.Proofs.YtnnbhklkakhkkaaDoor.fnNoKeys
open Go.ChangeShapes Go.WideShapes Go.ChangeAt Go.RowKit Go.Joins Go.Stop
open Go.ChangeMaps (open_string shut_string)

set_option maxRecDepth 100000 in
theorem contract (H : Type) (enc : TypeId × Value → H) (W : World) (base : Nat) (args : Array Value) (ds gs : List (DataW H)) (before : List MemPlace)
    (hval : ∀ (j : Nat) t v, Tryd.f6.params[j]? = some t → args[j]? = some v → Value.okWide Tryd.prog W .any base t v)
    (hW : DataW.Whole enc Tryd.prog Tryd.f6.params.toList Rows.fnNoKeysSpec.vars false W args.toList ds gs before) (hL : laidMetH Tryd.prog Rows.fnNoKeysRow.laid W) :
    Calls Tryd.prog 6 args W fun e W' => ∃ v, e = .returned v ∧ Rows.fnNoKeysSpec.post enc Tryd.prog Tryd.f6 false true false false W args v W' := by
  have hW' := hW
  obtain ⟨p, q, hA0, hV, rfl, hfz, hnd⟩ := hW
  have hA : DataW.TrodAll enc Tryd.prog W 0 (fun _ => true) true Tryd.f6.params.toList args.toList ds p := hA0
  rw [Tryd.params6] at hA hval
  obtain ⟨v0, d0, rfl, rfl, h0⟩ := trodAll_one hA
  have hp := plainLaid hL (by kernel_rfl)
  obtain ⟨a, hva⟩ := err_of_laid hp.tail.tail gMal gMalT
  obtain ⟨b, hvb⟩ := err_of_laid hp.tail.tail.tail gMis gMisT
  obtain ⟨rfl, rfl⟩ := hV.unique (vars_read2 enc gMal gMalT Tryd.underlying70 hva trivial gMis gMisT Tryd.underlying70 hvb trivial _)
  have hEO : ErrsO W := errsO_of_var hva
  have hT : Tabs W := tabs_of_laid hp (.tail _ (.tail _ (.tail _ (.tail _ (.head _))))) (.head _) (.tail _ (.head _))
  obtain ⟨s, rfl, rfl, rfl, ws⟩ := open_string Tryd.underlying9 (hval 0 9 v0 rfl rfl) h0
  clear hA0
  have hs : s.size ≤ 9223372036854775807 := by unfold maxLen at ws; omega
  refine (fnNoKeys_any s W hs hT hEO).mono fun e W' ⟨he, hb⟩ => ?_
  subst he
  have hva' := Go.Joins.var_stays gMal hva hb (Nat.le_refl _)
  have hvb' := Go.Joins.var_stays gMis hvb hb (Nat.le_refl _)
  exact ⟨_, rfl, _, _, _, [], [], _, hW', trodAll_mk1 (shut_bool Tryd.underlying4 _), trodAll_mk1 (shut_string Tryd.underlying9 ws),
    vars_read2 enc gMal gMalT Tryd.underlying70 hva' trivial gMis gMisT Tryd.underlying70 hvb' trivial _, hb.frame _, fun h => by cases h⟩

theorem laid_met (os : Os) : laidMet Tryd.prog Rows.fnNoKeysRow.laid ((World.laidAll Tryd.prog os Rows.fnNoKeysRow.laid).forCall (fun _ _ => 0) ⟨#[], #[.string .empty], []⟩).memory :=
  laidMet_laidAll _ (by kernel_rfl) (by kernel_rfl)
theorem reads (os : Os) {H : Type} (enc : TypeId × Value → H) : ∃ x1 x2 places, DataW.whole enc Tryd.prog ((World.laidAll Tryd.prog os Rows.fnNoKeysRow.laid).forCall (fun _ _ => 0) ⟨#[], #[.string .empty], []⟩).memory Tryd.f6.params.toList Rows.fnNoKeysSpec.vars false #[Value.string .empty].toList 8 = some ([.lit (.string [])], [.held x1, .held x2], places) := by
  have h : (DataW.whole enc Tryd.prog ((World.laidAll Tryd.prog os Rows.fnNoKeysRow.laid).forCall (fun _ _ => 0) ⟨#[], #[.string .empty], []⟩).memory Tryd.f6.params.toList Rows.fnNoKeysSpec.vars false #[Value.string .empty].toList 8).map (fun x => (x.1, x.2.1.map isHeld)) = some ([.lit (.string [])], [true, true]) := by kernel_rfl
  exact held_two h

set_option maxRecDepth 100000 in
theorem lifted (os : Os) (started : os.Started) (H : Type) (enc : TypeId × Value → H) (F : Stop.Interp) :
    ReturnsInHanded {} Tryd.checked os 6 .any ((OpenSpec.ofChange Rows.fnNoKeysSpec).preRow enc Tryd.prog Tryd.f6 Rows.fnNoKeysRow.domain false Rows.fnNoKeysRow.laid) (((OpenSpec.ofChange Rows.fnNoKeysSpec).at F).post enc Tryd.prog Tryd.f6 false true false false) := by
  obtain ⟨x1, x2, places, hx⟩ := reads os enc
  refine returnsInHanded_of_row (C := Tryd.checked) (s := OpenSpec.ofChange Rows.fnNoKeysSpec) own started (by kernel_rfl) Tryd.func6
    (witness_row_atRef (enc := enc) (C := Tryd.checked) false (World.laidAll Tryd.prog os Rows.fnNoKeysRow.laid) #[.string .empty] (World.laidAll_os _ _ _) (by kernel_rfl) (by kernel_rfl) (by kernel_rfl)
      (OpenSpec.preRow_of_cond 8 hx (by kernel_rfl) (fun k hk => by cases hk) (by kernel_rfl) (laid_met os))) ?_
  intro W base args ds gs before hval hW _ _ _ hL _ _
  exact contract H enc W base args ds gs before hval hW hL

theorem said : Rows.FnNoKeysSaid :=
  OpenClaim.holds_of_cond 6 Tryd.f6 rfl rfl rfl rfl rfl rfl rfl ⟨rfl, rfl, rfl, rfl, rfl⟩ rfl rfl rfl rfl rfl (by kernel_rfl) Tryd.func6 (by kernel_rfl)
    (of_decide_eq_true (by kernel_rfl)) (by unfold Func.isWrapper; first | (rw [if_pos (by decide +kernel)]; kernel_rfl) | (rw [if_neg (by decide +kernel)]; exact ⟨rfl, rfl⟩))
    (fun os started H enc _ F => by rw [OpenClaim.pre_eq_preRow]; exact lifted os started H enc F)

theorem plain (f : FuncId) (fn : Func) (hf : Tryd.pinned.checked.prog.funcNamed "loop.example/pub-notesandsignatures/laws.FnNoKeys" = some f) (hfn : Tryd.pinned.checked.prog.funcs[f]? = some fn) :
    true = Tryd.pinned.checked.prog.looks [] ∧ ∀ (j : Nat) t, fn.params[j]? = some t → Tryd.pinned.checked.prog.wantsStandIn t = false := by
  obtain rfl : f = 6 := Option.some.inj ((show Tryd.prog.funcNamed "loop.example/pub-notesandsignatures/laws.FnNoKeys" = some 6 by kernel_rfl).symm.trans hf) |>.symm
  obtain rfl : fn = Tryd.f6 := (Option.some.inj (Tryd.func6.symm.trans hfn)).symm
  refine ⟨by kernel_rfl, fun j t ht => ?_⟩
  rw [Tryd.params6] at ht
  have hm : t = 9 := by simpa using Array.mem_of_getElem? ht
  subst hm
  exact (show Tryd.prog.wantsStandIn 9 = false by kernel_rfl)

/-- ████ THE CARD ████ -/
theorem card : Rows.FnNoKeysCardSaid :=
  Claim7.holds_tied_plain_at .later [] _ _ _ _ said (fun _ h => by cases h) (by kernel_rfl) (fun _ h => by cases h) fnNoKeys_row_tie rfl ⟨rfl, rfl⟩ (by kernel_rfl) rfl plain (by kernel_rfl)
#print axioms card
end Go.Proofs.YtnnbhklkakhkkaaDoor.fnNoKeys

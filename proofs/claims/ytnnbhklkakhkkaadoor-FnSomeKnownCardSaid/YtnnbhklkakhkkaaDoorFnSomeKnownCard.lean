/-
  PROVED: laws.FnSomeKnown answers true, whatever the text, the keys and the number that come in: the tied card (FnSomeKnownCardSaid): no condition.
-/
import Derived.Test.YtnnbhklkakhkkaaDoorTopSome
namespace Go.Proofs.YtnnbhklkakhkkaaDoor.fnSomeKnown
open Go.ChangeShapes Go.WideShapes Go.ChangeAt Go.RowKit Go.Joins Go.Stop Go.Deep
open Go.ChangeMaps (open_string shut_string)

/-- a slice that came in has a length -/
theorem slice_len {H : Type} {enc : TypeId × Value → H} {W : World} {te ts : TypeId} (ht : Tryd.prog.underlying ts = some (.slice te)) {fuel : Nat} {xa : Option Addr} {xn xc : Nat} {y : DataW H × List MemPlace}
    (hf : DataW.trod enc Tryd.prog W 0 (fun _ => true) true fuel ts [.slice xa xn xc] = some y) : xn ≤ 9223372036854775807 := by
  rcases open_slice ht hf with ⟨h, _⟩ | ⟨a, len, cap, m, q, D, Pl, h, _, hlc, hcm, _⟩
  · injection h with h
    injection h with _ h
    omega
  · injection h with h
    injection h with _ h1 h2
    unfold maxLen at hcm
    omega

set_option maxRecDepth 100000 in
theorem contract (H : Type) (enc : TypeId × Value → H) (W : World) (base : Nat) (args : Array Value) (ds gs : List (DataW H)) (before : List MemPlace)
    (hval : ∀ (j : Nat) t v, Tryd.f9.params[j]? = some t → args[j]? = some v → Value.okWide Tryd.prog W .any base t v)
    (hW : DataW.Whole enc Tryd.prog Tryd.f9.params.toList Rows.fnSomeKnownSpec.vars false W args.toList ds gs before) (hL : laidMetH Tryd.prog Rows.fnSomeKnownRow.laid W) :
    Calls Tryd.prog 9 args W fun e W' => ∃ v, e = .returned v ∧ Rows.fnSomeKnownSpec.post enc Tryd.prog Tryd.f9 false true false false W args v W' := by
  have hW' := hW
  obtain ⟨p, q, hA0, hV, rfl, hfz, hnd⟩ := hW
  have hA : DataW.TrodAll enc Tryd.prog W 0 (fun _ => true) true Tryd.f9.params.toList args.toList ds p := hA0
  rw [Tryd.params9] at hA hval
  obtain ⟨v0, v1, v2, d0, d1, d2, p0, p1, p2, rfl, rfl, rfl, h0, h1, h2⟩ := trodAll_three hA
  have hp := plainLaid hL (by kernel_rfl)
  obtain ⟨a, hva⟩ := err_of_laid hp.tail.tail.tail gMal gMalT
  obtain ⟨b, hvb⟩ := err_of_laid hp.tail.tail.tail.tail gInv gInvT
  obtain ⟨c3, hvc⟩ := err_of_laid hp.tail.tail.tail.tail.tail gMis gMisT
  obtain ⟨rfl, rfl⟩ := hV.unique (vars_read3 enc gMal gMalT Tryd.underlying70 hva trivial gInv gInvT Tryd.underlying70 hvb trivial gMis gMisT Tryd.underlying70 hvc trivial _)
  have hE : Errs W := errs_of_vars hva hvb
  have hEO : ErrsO W := errsO_of_var hva
  have hT : Tabs W := tabs_of_laid hp (.tail _ (.tail _ (.tail _ (.tail _ (.tail _ (.tail _ (.head _))))))) (.head _) (.tail _ (.head _))
  obtain ⟨s, rfl, rfl, rfl, ws⟩ := open_string Tryd.underlying9 (hval 0 9 v0 rfl rfl) h0
  obtain ⟨xa, xn, xc, rfl⟩ := okWide_slice Tryd.underlying38 (hval 1 38 v1 rfl rfl)
  obtain ⟨z, rfl, rfl, rfl, _⟩ := open_int Tryd.underlying3 (hval 2 3 v2 rfl rfl) h2
  have h1' := h1
  obtain ⟨fuel, hf⟩ := h1'
  obtain ⟨A, n, c, ms, ev, hsl, _, hok, _⟩ := open_list MV.cells_length (by omega) Tryd.underlying38 makerCells wtM MV.Ok open_mk (cs := [.slice xa xn xc]) (by simpa [Value.cells] using hf)
  have hxn := slice_len Tryd.underlying38 (fuel := fuel) (xa := xa) (xn := xn) (xc := xc) (by simpa [Value.cells] using hf)
  obtain ⟨rfl, rfl, rfl⟩ : xa = A ∧ xn = n ∧ xc = c := by simpa using ev
  clear hA0
  have hlt : ∀ x ∈ p1, x.block < W.heap.size := fun x hx => by simpa using hW'.lt x (by simp [hx])
  have hs : s.size ≤ 9223372036854775807 := by unfold maxLen at ws; omega
  refine (fnSomeKnown_any s xa xn xc z ms W hs hsl hxn hok hT hE hEO).mono fun e W' ⟨he, hb⟩ => ?_
  subst he
  have hva' := Go.Joins.var_stays gMal hva hb (Nat.le_refl _)
  have hvb' := Go.Joins.var_stays gInv hvb hb (Nat.le_refl _)
  have hvc' := Go.Joins.var_stays gMis hvc hb (Nat.le_refl _)
  exact ⟨_, rfl, _, _, _, [], [] ++ (p1 ++ []), _, hW', trodAll_mk1 (shut_bool Tryd.underlying4 _), trodAll_mk3 (shut_string Tryd.underlying9 ws) (again (by kernel_rfl) (of_decide_eq_true (by kernel_rfl)) h1 hb hlt) (again (by kernel_rfl) (of_decide_eq_true (by kernel_rfl)) h2 hb (fun x hx => by cases hx)),
    vars_read3 enc gMal gMalT Tryd.underlying70 hva' trivial gInv gInvT Tryd.underlying70 hvb' trivial gMis gMisT Tryd.underlying70 hvc' trivial _, hb.frame _, fun h => by cases h⟩

theorem laid_met (os : Os) : laidMet Tryd.prog Rows.fnSomeKnownRow.laid ((World.laidAll Tryd.prog os Rows.fnSomeKnownRow.laid).forCall (fun _ _ => 0) ⟨#[], #[.string .empty, .slice none 0 0, .int .i64 0], []⟩).memory :=
  laidMet_laidAll _ (by kernel_rfl) (by kernel_rfl)
theorem reads (os : Os) {H : Type} (enc : TypeId × Value → H) : ∃ x1 x2 x3 places, DataW.whole enc Tryd.prog ((World.laidAll Tryd.prog os Rows.fnSomeKnownRow.laid).forCall (fun _ _ => 0) ⟨#[], #[.string .empty, .slice none 0 0, .int .i64 0], []⟩).memory Tryd.f9.params.toList Rows.fnSomeKnownSpec.vars false #[Value.string .empty, .slice none 0 0, .int .i64 0].toList 8 = some ([.lit (.string []), .nil, .lit (.int .i64 0)], [.held x1, .held x2, .held x3], places) := by
  have h : (DataW.whole enc Tryd.prog ((World.laidAll Tryd.prog os Rows.fnSomeKnownRow.laid).forCall (fun _ _ => 0) ⟨#[], #[.string .empty, .slice none 0 0, .int .i64 0], []⟩).memory Tryd.f9.params.toList Rows.fnSomeKnownSpec.vars false #[Value.string .empty, .slice none 0 0, .int .i64 0].toList 8).map (fun x => (x.1, x.2.1.map isHeld)) = some ([.lit (.string []), .nil, .lit (.int .i64 0)], [true, true, true]) := by kernel_rfl
  exact held_three h

set_option maxRecDepth 100000 in
theorem lifted (os : Os) (started : os.Started) (H : Type) (enc : TypeId × Value → H) (F : Stop.Interp) :
    ReturnsInHanded {} Tryd.checked os 9 .any ((OpenSpec.ofChange Rows.fnSomeKnownSpec).preRow enc Tryd.prog Tryd.f9 Rows.fnSomeKnownRow.domain false Rows.fnSomeKnownRow.laid) (((OpenSpec.ofChange Rows.fnSomeKnownSpec).at F).post enc Tryd.prog Tryd.f9 false true false false) := by
  obtain ⟨x1, x2, x3, places, hx⟩ := reads os enc
  refine returnsInHanded_of_row (C := Tryd.checked) (s := OpenSpec.ofChange Rows.fnSomeKnownSpec) own started (by kernel_rfl) Tryd.func9
    (witness_row_atRef (enc := enc) (C := Tryd.checked) false (World.laidAll Tryd.prog os Rows.fnSomeKnownRow.laid) #[.string .empty, .slice none 0 0, .int .i64 0] (World.laidAll_os _ _ _) (by kernel_rfl) (by kernel_rfl) (by kernel_rfl)
      (OpenSpec.preRow_of_cond 8 hx (by kernel_rfl) (fun k hk => by cases hk) (by kernel_rfl) (laid_met os))) ?_
  intro W base args ds gs before hval hW _ _ _ hL _ _
  exact contract H enc W base args ds gs before hval hW hL

theorem said : Rows.FnSomeKnownSaid :=
  OpenClaim.holds_of_cond 9 Tryd.f9 rfl rfl rfl rfl rfl rfl rfl ⟨rfl, rfl, rfl, rfl, rfl⟩ rfl rfl rfl rfl rfl (by kernel_rfl) Tryd.func9 (by kernel_rfl)
    (of_decide_eq_true (by kernel_rfl)) (by unfold Func.isWrapper; first | (rw [if_pos (by decide +kernel)]; kernel_rfl) | (rw [if_neg (by decide +kernel)]; exact ⟨rfl, rfl⟩))
    (fun os started H enc _ F => by rw [OpenClaim.pre_eq_preRow]; exact lifted os started H enc F)

theorem plain (f : FuncId) (fn : Func) (hf : Tryd.pinned.checked.prog.funcNamed "loop.example/pub-notesandsignatures/laws.FnSomeKnown" = some f) (hfn : Tryd.pinned.checked.prog.funcs[f]? = some fn) :
    true = Tryd.pinned.checked.prog.looks [] ∧ ∀ (j : Nat) t, fn.params[j]? = some t → Tryd.pinned.checked.prog.wantsStandIn t = false := by
  obtain rfl : f = 9 := Option.some.inj ((show Tryd.prog.funcNamed "loop.example/pub-notesandsignatures/laws.FnSomeKnown" = some 9 by kernel_rfl).symm.trans hf) |>.symm
  obtain rfl : fn = Tryd.f9 := (Option.some.inj (Tryd.func9.symm.trans hfn)).symm
  refine ⟨by kernel_rfl, fun j t ht => ?_⟩
  rw [Tryd.params9] at ht
  have hm : t = 9 ∨ t = 38 ∨ t = 3 := by simpa using Array.mem_of_getElem? ht
  rcases hm with rfl | rfl | rfl
  · exact (show Tryd.prog.wantsStandIn 9 = false by kernel_rfl)
  · exact (show Tryd.prog.wantsStandIn 38 = false by kernel_rfl)
  · exact (show Tryd.prog.wantsStandIn 3 = false by kernel_rfl)

/-- ████ THE CARD ████ -/
theorem card : Rows.FnSomeKnownCardSaid :=
  Claim7.holds_tied_plain_at .later [] _ _ _ _ said (fun _ h => by cases h) (by kernel_rfl) (fun _ h => by cases h) fnSomeKnown_row_tie rfl ⟨rfl, rfl⟩ (by kernel_rfl) rfl plain (by kernel_rfl)
#print axioms card
end Go.Proofs.YtnnbhklkakhkkaaDoor.fnSomeKnown

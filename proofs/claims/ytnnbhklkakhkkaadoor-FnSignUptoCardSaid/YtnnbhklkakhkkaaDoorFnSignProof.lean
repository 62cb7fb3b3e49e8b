/-
  PROVED: laws.FnSign answers true, whatever the note and the keys that come in, where these are together of bulk at most 1048576: the tied card (FnSignUptoCardSaid).
-/
import Derived.Test.YtnnbhklkakhkkaaDoorFnSign
import Derived.Test.YtnnbhklkakhkkaaDoorLaidErrs
import Derived.Test.YtnnbhklkakhkkaaDoorOpenS
namespace Go.Proofs.YtnnbhklkakhkkaaDoor.fnSign
open Go.ChangeShapes Go.WideShapes Go.ChangeAt Go.RowKit Go.Joins Go.Stop Go.Deep
open Go.ChangeMaps (open_string shut_string)

theorem noteFields : ∃ f0 f1 f2 : Field, Tryd.prog.underlying 37 = some (.struct #[f0, f1, f2]) ∧ f0.type = 9 ∧ f1.type = 35 ∧ f2.type = 35 :=
  ⟨_, _, _, Tryd.underlying37, rfl, rfl, rfl⟩
theorem noteCells : Tryd.prog.cellsOf 37 = 3 := by kernel_rfl

theorem bounds_of {text : ByteArray} {ms : List MV} {os : List SV} (ht : text.size ≤ 1048576) (hm : (ms.map wtM).sum ≤ 4194304) (ho : (os.map wtS).sum ≤ 8388608) : Bounds text ms os := by
  refine ⟨fun m h => ?_, fun x h => ?_, ?_⟩
  · have h1 := wtM_mem h
    have h2 : wtM m = m.name.size + m.sig.size + 5 := rfl
    omega
  · have h1 := wtS_mem h
    have h2 : wtS x = x.name.size + x.b64.size + 4 := rfl
    omega
  · have h1 := newLines_wt ms
    have h2 := oldLines_wt (keysOf ms) os
    omega

set_option maxRecDepth 100000 in
/-- a note that came in -/
theorem open_note {H : Type} {enc : TypeId × Value → H} {W : World} {base : Nat} {v : Value} {d : DataW H} {p : List MemPlace} (hv : Value.okWide Tryd.prog W .any base 37 v) (h : DataW.Trod enc Tryd.prog W 0 (fun _ => true) true 37 v d p) :
    ∃ (text : ByteArray) (A1 A2 : Option Addr) (n1 c1 n2 c2 : Nat) (l1 l2 : List SV), v = .agg #[.string text, .slice A1 n1 c1, .slice A2 n2 c2] ∧ Sl W W.heap.size 3 A1 n1 (encAll SV.cells l1) ∧ Sl W W.heap.size 3 A2 n2 (encAll SV.cells l2) ∧
      (∀ x ∈ l1, x.Ok) ∧ (∀ x ∈ l2, x.Ok) ∧ text.size + 1 ≤ Rows.uptoBulk d ∧ (l1.map wtS).sum + n1 ≤ 2 * Rows.uptoBulk d ∧ (l2.map wtS).sum + n2 ≤ 2 * Rows.uptoBulk d := by
  obtain ⟨f0, f1, f2, hu, t0, t1, t2⟩ := noteFields
  have hone : oneCellFields Tryd.prog #[f0, f1, f2] = true := by
    have h1 : (match Tryd.prog.underlying 37 with | some (.struct fs) => oneCellFields Tryd.prog fs | _ => false) = true := by kernel_rfl
    rw [hu] at h1
    exact h1
  obtain ⟨v0, v1, v2, y0, y1, y2, n, rfl, rfl, rfl, h0, h1, h2⟩ := open_agg3 hu hone noteCells hv h
  rw [t0] at h0
  rw [t1] at h1
  rw [t2] at h2
  obtain ⟨s0, e0, z0, w0⟩ := DataW.trod_string Tryd.underlying9 h0
  obtain ⟨A1, n1, c1, l1, e1, hs1, _, hok1, hb1⟩ := open_list SV.cells_length (by omega) Tryd.underlying35 sigCells wtS SV.Ok open_sig h1
  obtain ⟨A2, n2, c2, l2, e2, hs2, _, hok2, hb2⟩ := open_list SV.cells_length (by omega) Tryd.underlying35 sigCells wtS SV.Ok open_sig h2
  obtain rfl : v0 = .string s0 := by simpa using e0
  obtain rfl : v1 = .slice A1 n1 c1 := by simpa using e1
  obtain rfl : v2 = .slice A2 n2 c2 := by simpa using e2
  have hs : s0.data.toList.length = s0.size := by simp
  refine ⟨s0, A1, A2, n1, c1, n2, c2, l1, l2, rfl, hs1, hs2, hok1, hok2, ?_, ?_, ?_⟩
  · rw [z0]
    simp only [Rows.uptoBulk, Rows.uptoBulkAll, hs]
    omega
  · simp only [Rows.uptoBulk, Rows.uptoBulkAll]
    omega
  · simp only [Rows.uptoBulk, Rows.uptoBulkAll]
    omega

set_option maxRecDepth 100000 in
theorem contract (H : Type) (enc : TypeId × Value → H) (W : World) (base : Nat) (args : Array Value) (ds gs : List (DataW H)) (before : List MemPlace)
    (hval : ∀ (j : Nat) t v, Tryd.f5.params[j]? = some t → args[j]? = some v → Value.okWide Tryd.prog W .any base t v)
    (hW : DataW.Whole enc Tryd.prog Tryd.f5.params.toList Rows.fnSignSpec.vars false W args.toList ds gs before) (hL : laidMetH Tryd.prog Rows.fnSignUptoRow.laid W) (hk : Rows.uptoSmall H (ds ++ gs) = true) :
    Calls Tryd.prog 5 args W fun e W' => ∃ v, e = .returned v ∧ Rows.fnSignSpec.post enc Tryd.prog Tryd.f5 false true false false W args v W' := by
  have hW' := hW
  obtain ⟨p, q, hA0, hV, rfl, hfz, hnd⟩ := hW
  have hA : DataW.TrodAll enc Tryd.prog W 0 (fun _ => true) true Tryd.f5.params.toList args.toList ds p := hA0
  rw [Tryd.params5] at hA hval
  obtain ⟨v0, v1, d0, d1, p0, p1, rfl, rfl, rfl, h0, h1⟩ := trodAll_two hA
  have hb : Rows.uptoBulkAll ([d0, d1] ++ gs) ≤ 1048576 := of_decide_eq_true hk
  rw [bulkAll_append] at hb
  simp only [Rows.uptoBulkAll] at hb
  have hp := plainLaid hL (by kernel_rfl)
  obtain ⟨a, hva⟩ := err_of_laid hp.tail.tail.tail gMal gMalT
  obtain ⟨b, hvb⟩ := err_of_laid hp.tail.tail.tail.tail gInv gInvT
  obtain ⟨rfl, rfl⟩ := hV.unique (vars_read2 enc gMal gMalT Tryd.underlying70 hva trivial gInv gInvT Tryd.underlying70 hvb trivial _)
  have hE : Errs W := errs_of_vars hva hvb
  have hT : Tabs W := tabs_of_laid hp (.tail _ (.tail _ (.tail _ (.tail _ (.tail _ (.head _)))))) (.head _) (.tail _ (.head _))
  obtain ⟨text, A1, A2, n1, c1, n2, c2, l1, l2, rfl, hs1, hs2, hok1, hok2, hbt, hb1, hb2⟩ := open_note (hval 0 37 v0 rfl rfl) h0
  obtain ⟨xa, xn, xc, rfl⟩ := okWide_slice Tryd.underlying38 (hval 1 38 v1 rfl rfl)
  have h1' := h1
  obtain ⟨fuel, hf⟩ := h1'
  obtain ⟨A, n, c, ms, ev, hs, _, hok, hbm⟩ := open_list MV.cells_length (by omega) Tryd.underlying38 makerCells wtM MV.Ok open_mk (cs := [.slice xa xn xc]) (by simpa [Value.cells] using hf)
  obtain ⟨rfl, rfl, rfl⟩ : xa = A ∧ xn = n ∧ xc = c := by simpa using ev
  clear hA0
  have hlt0 : ∀ x ∈ p0, x.block < W.heap.size := fun x hx => by simpa using hW'.lt x (by simp [hx])
  have hlt1 : ∀ x ∈ p1, x.block < W.heap.size := fun x hx => by simpa using hW'.lt x (by simp [hx])
  have hB : Bounds text ms (l1 ++ l2) := bounds_of (by omega) (by dsimp only at hbm; omega) (by rw [List.map_append, List.sum_append]; omega)
  refine (fnSign_any xn xc n1 c1 n2 c2 xa A1 A2 text ms l1 l2 (l1 ++ l2) W hs hs1 hs2 rfl hok (fun x hx => (List.mem_append.1 hx).elim (hok1 x) (hok2 x)) hB (by dsimp only at hbm; omega) (by omega) (by omega) hT hE).mono fun e W' ⟨he, hb⟩ => ?_
  subst he
  have hva' := Go.Joins.var_stays gMal hva hb (Nat.le_refl _)
  have hvb' := Go.Joins.var_stays gInv hvb hb (Nat.le_refl _)
  exact ⟨_, rfl, _, _, _, [], p0 ++ p1, _, hW', trodAll_mk1 (shut_bool Tryd.underlying4 _), trodAll_mk2 (again (by kernel_rfl) (of_decide_eq_true (by kernel_rfl)) h0 hb hlt0) (again (by kernel_rfl) (of_decide_eq_true (by kernel_rfl)) h1 hb hlt1),
    vars_read2 enc gMal gMalT Tryd.underlying70 hva' trivial gInv gInvT Tryd.underlying70 hvb' trivial _, hb.frame _, fun h => by cases h⟩

theorem laid_met (os : Os) : laidMet Tryd.prog Rows.fnSignUptoRow.laid ((World.laidAll Tryd.prog os Rows.fnSignUptoRow.laid).forCall (fun _ _ => 0) ⟨#[], #[.agg #[.string .empty, .slice none 0 0, .slice none 0 0], .slice none 0 0], []⟩).memory :=
  laidMet_laidAll _ (by kernel_rfl) (by kernel_rfl)
theorem reads (os : Os) {H : Type} (enc : TypeId × Value → H) : ∃ x1 x2 places, DataW.whole enc Tryd.prog ((World.laidAll Tryd.prog os Rows.fnSignUptoRow.laid).forCall (fun _ _ => 0) ⟨#[], #[.agg #[.string .empty, .slice none 0 0, .slice none 0 0], .slice none 0 0], []⟩).memory Tryd.f5.params.toList Rows.fnSignSpec.vars false #[Value.agg #[.string .empty, .slice none 0 0, .slice none 0 0], .slice none 0 0].toList 8 = some ([.agg [.lit (.string []), .nil, .nil], .nil], [.held x1, .held x2], places) := by
  have h : (DataW.whole enc Tryd.prog ((World.laidAll Tryd.prog os Rows.fnSignUptoRow.laid).forCall (fun _ _ => 0) ⟨#[], #[.agg #[.string .empty, .slice none 0 0, .slice none 0 0], .slice none 0 0], []⟩).memory Tryd.f5.params.toList Rows.fnSignSpec.vars false #[Value.agg #[.string .empty, .slice none 0 0, .slice none 0 0], .slice none 0 0].toList 8).map (fun x => (x.1, x.2.1.map isHeld)) = some ([.agg [.lit (.string []), .nil, .nil], .nil], [true, true]) := by kernel_rfl
  exact held_two h

set_option maxRecDepth 100000 in
theorem lifted (os : Os) (started : os.Started) (H : Type) (enc : TypeId × Value → H) (F : Stop.Interp) :
    ReturnsInHanded {} Tryd.checked os 5 .any ((Rows.OpenSpec.upto Rows.fnSignSpec).preRow enc Tryd.prog Tryd.f5 Rows.fnSignUptoRow.domain false Rows.fnSignUptoRow.laid) (((Rows.OpenSpec.upto Rows.fnSignSpec).at F).post enc Tryd.prog Tryd.f5 false true false false) := by
  obtain ⟨x1, x2, places, hx⟩ := reads os enc
  refine returnsInHanded_of_row (C := Tryd.checked) (s := Rows.OpenSpec.upto Rows.fnSignSpec) own started (by kernel_rfl) Tryd.func5
    (witness_row_atRef (enc := enc) (C := Tryd.checked) false (World.laidAll Tryd.prog os Rows.fnSignUptoRow.laid) #[.agg #[.string .empty, .slice none 0 0, .slice none 0 0], .slice none 0 0] (World.laidAll_os _ _ _) (by kernel_rfl) (by kernel_rfl) (by kernel_rfl)
      (OpenSpec.preRow_of_cond 8 hx (by kernel_rfl) (fun k hk => by cases hk; kernel_rfl) (by kernel_rfl) (laid_met os))) ?_
  intro W base args ds gs before hval hW _ hcond _ hL _ _
  exact contract H enc W base args ds gs before hval hW hL (hcond _ rfl)

theorem said : Rows.FnSignUptoSaid :=
  OpenClaim.holds_of_cond 5 Tryd.f5 rfl rfl rfl rfl rfl rfl rfl ⟨rfl, rfl, rfl, rfl, rfl⟩ rfl rfl rfl rfl rfl (by kernel_rfl) Tryd.func5 (by kernel_rfl)
    (of_decide_eq_true (by kernel_rfl)) (by unfold Func.isWrapper; first | (rw [if_pos (by decide +kernel)]; kernel_rfl) | (rw [if_neg (by decide +kernel)]; exact ⟨rfl, rfl⟩))
    (fun os started H enc _ F => by rw [OpenClaim.pre_eq_preRow]; exact lifted os started H enc F)

theorem plain (f : FuncId) (fn : Func) (hf : Tryd.pinned.checked.prog.funcNamed "loop.example/pub-notesandsignatures/laws.FnSign" = some f) (hfn : Tryd.pinned.checked.prog.funcs[f]? = some fn) :
    true = Tryd.pinned.checked.prog.looks [] ∧ ∀ (j : Nat) t, fn.params[j]? = some t → Tryd.pinned.checked.prog.wantsStandIn t = false := by
  obtain rfl : f = 5 := Option.some.inj ((show Tryd.prog.funcNamed "loop.example/pub-notesandsignatures/laws.FnSign" = some 5 by kernel_rfl).symm.trans hf) |>.symm
  obtain rfl : fn = Tryd.f5 := (Option.some.inj (Tryd.func5.symm.trans hfn)).symm
  refine ⟨by kernel_rfl, fun j t ht => ?_⟩
  rw [Tryd.params5] at ht
  have hm : t = 37 ∨ t = 38 := by simpa using Array.mem_of_getElem? ht
  rcases hm with rfl | rfl
  · exact (show Tryd.prog.wantsStandIn 37 = false by kernel_rfl)
  · exact (show Tryd.prog.wantsStandIn 38 = false by kernel_rfl)

/-- ████ THE CARD ████ -/
theorem card : Rows.FnSignUptoCardSaid :=
  Claim7.holds_tied_plain_at .later [] _ _ _ _ said (fun _ h => by cases h) (by kernel_rfl) (fun _ h => by cases h) fnSignUpto_row_tie rfl ⟨rfl, rfl⟩ (by kernel_rfl) rfl plain (by kernel_rfl)
#print axioms card
end Go.Proofs.YtnnbhklkakhkkaaDoor.fnSign

/-
  THE WALK of laws.FnRefuse: whatever the text and the key, the law answers true.
-/
import Derived.Test.YtnnbhklkakhkkaaDoorImplSign
import Derived.Test.YtnnbhklkakhkkaaDoorRefuseL
import Derived.Test.YtnnbhklkakhkkaaDoorNames
import Derived.Test.YtnnbhklkakhkkaaDoorSpecB
namespace Go.Proofs.YtnnbhklkakhkkaaDoor
open Go.RowKit Go.Lib

/-- what is small is far below all bounds -/
theorem small_lim {text : ByteArray} {m : MV} (h : small text [m] = true) : text.size + 1 + (newLines [m]).length ≤ 2147483648 := by
  unfold small at h
  simp only [Bool.and_eq_true, decide_eq_true_eq, List.all_cons, List.all_nil, Bool.and_true, small1] at h
  obtain ⟨h1, h2, h3, h4⟩ := h
  have e : newLines [m] = lineL m.name.data.toList (newB64 m) := by simp [newLines]
  have hn : m.name.data.toList.length = m.name.size := by simp
  have hg : m.sig.data.toList.length = m.sig.size := by simp
  have hl : (newB64 m).length = (4 + m.sig.size + 2) / 3 * 4 := by
    unfold newB64
    rw [encL_length, List.length_append, hg]
    rfl
  rw [e]
  unfold lineL dash
  simp only [List.length_append, hn, hl]
  simp
  omega
theorem small_name {text : ByteArray} {m : MV} (h : small text [m] = true) : m.name.size ≤ 70368744177664 := by
  unfold small at h
  simp only [Bool.and_eq_true, decide_eq_true_eq, List.all_cons, List.all_nil, Bool.and_true, small1] at h
  omega
theorem endsNl_at {s : ByteArray} (h : 0 < s.size) : endsNl s = decide (bAt s (s.size - 1) = 10) := by
  obtain ⟨x, hx, hs⟩ := last_byte h
  unfold endsNl bAt
  rw [hs, List.getD_eq_getElem?_getD, hx, Option.getD_some, Bool.eq_iff_iff, beq_iff_eq, decide_eq_true_eq]
  exact ⟨fun h => by rw [h]; rfl, fun h => UInt8.toNat_inj.1 (by simpa using h)⟩
/-- what comes of it -/
def refuseB (text : ByteArray) (m : MV) : Bool := endsNl text && (nameOk m.name && !m.fails)
theorem refuse_res {text : ByteArray} {m : MV} {r : Option (List UInt8)} {e : Ending} (h : match r with
    | some x => e = .returned (.tuple #[.string ⟨x.toArray⟩, .bool true])
    | none => e = .returned (.tuple #[.string ⟨#[]⟩, .bool false])) (hr : r = if endsNl text && [m].all signs then some (text.data.toList ++ [10] ++ newLines [m]) else none) :
    ∃ o : ByteArray, e = .returned (.tuple #[.string o, .bool (refuseB text m)]) ∧ True := by
  have e1 : [m].all signs = (nameOk m.name && !m.fails) := by simp [signs]
  rw [e1] at hr
  unfold refuseB
  cases hb : endsNl text && (nameOk m.name && !m.fails)
  · rw [hb] at hr
    subst hr
    exact ⟨_, h, trivial⟩
  · rw [hb] at hr
    subst hr
    exact ⟨_, h, trivial⟩

set_option maxHeartbeats 4000000 in
theorem fnRefuse_any (text : ByteArray) (m : MV) (w : World) (ht : text.size ≤ 9223372036854775807) (ok : m.Ok) (hT : Tabs w) (hE : Errs w) :
    Calls Tryd.prog 4 #[.string text, m.val] w fun e w' => e = .returned (.bool true) ∧ Below w.heap.size w w' := by
  obtain ⟨nm, hs, sg, fl⟩ := m
  have hb0 : Below w.heap.size w (w.alloc (.cells #[.string nm, .int .u32 hs, .string sg, .bool fl] 25)) := (Below.refl _ _).alloc (Nat.le_refl _) _
  have Hb0 := Lib.hid hb0
  have c1 := fun W => zzFits8_any ⟨nm, hs, sg, fl⟩ W ok
  have Hok := Lib.hid ok
  have HT := Lib.hid hT
  have HE := Lib.hid hE
  clear hb0 ok hT hE
  dsimp only [MV.val] at *
  by_cases h1 : 2147483647 < text.size
  · go_enter Tryd.func4, Tryd.ntmps4
    go_wp2_with (fail)
    go_ret
    exact ⟨rfl, Hb0.out⟩
  · go_enter Tryd.func4, Tryd.ntmps4
    go_wp2_with (fail)
    refine (c1 _).mono ?_
    clear c1
    rintro e w1 ⟨rfl, hb1⟩
    have hrow := (hb1.block w.heap.size (by simp)).trans (heap_alloc_new w (.cells #[.string nm, .int .u32 hs, .string sg, .bool fl] 25))
    have q0 : w1.cell? ⟨w.heap.size, 0, none⟩ = some (.string nm) := cell_of_row _ _ 0 _ _ _ hrow
    have q1 : w1.cell? ⟨w.heap.size, 1, none⟩ = some (.int .u32 hs) := cell_of_row _ _ 1 _ _ _ hrow
    have q2 : w1.cell? ⟨w.heap.size, 2, none⟩ = some (.string sg) := cell_of_row _ _ 2 _ _ _ hrow
    have q3 : w1.cell? ⟨w.heap.size, 3, none⟩ = some (.bool fl) := cell_of_row _ _ 3 _ _ _ hrow
    have Hb1 := Lib.hid (Hb0.out.trans (hb1.mono Hb0.out.size))
    have hlt : w.heap.size < w1.heap.size := (Array.getElem?_eq_some_iff.1 hrow).1
    have hne : w.heap.size ≠ w1.heap.size := by omega
    have hne' : w1.heap.size ≠ w.heap.size := by omega
    clear hrow hb1
    cases hf : fits8 ⟨nm, hs, sg, fl⟩
    · go_wp2_with (fail)
      go_ret
      exact ⟨rfl, Hb1.out⟩
    · go_upto_region 5 with (fail)
      have hb2 : Below w1.heap.size w1 ((w1.alloc (.cells #[.string text, .slice none 0 0, .slice none 0 0] 29)).alloc (.cells #[.string nm, .int .u32 hs, .string sg, .bool fl] 30)) :=
        ((Below.refl _ _).alloc (Nat.le_refl _) _).alloc (by simp) _
      have hsz1 : (w1.alloc (.cells #[.string text, .slice none 0 0, .slice none 0 0] 29)).heap.size = w1.heap.size + 1 := by simp
      have hr2 := heap_alloc_new (w1.alloc (.cells #[.string text, .slice none 0 0, .slice none 0 0] 29)) (.cells #[.string nm, .int .u32 hs, .string sg, .bool fl] 30)
      have hr1 := (Below.heap_alloc (w1.alloc (.cells #[.string text, .slice none 0 0, .slice none 0 0] 29)) (.cells #[.string nm, .int .u32 hs, .string sg, .bool fl] 30) w1.heap.size (by omega)).trans (heap_alloc_new w1 _)
      rw [hsz1] at hr2
      generalize (w1.alloc (.cells #[.string text, .slice none 0 0, .slice none 0 0] 29)).alloc (.cells #[.string nm, .int .u32 hs, .string sg, .bool fl] 30) = w2 at *
      have n0 : w2.cell? ⟨w1.heap.size, 0, none⟩ = some (.string text) := cell_of_row _ _ 0 _ _ _ hr1
      have n1 : w2.cell? ⟨w1.heap.size, 1, none⟩ = some (.slice none 0 0) := cell_of_row _ _ 1 _ _ _ hr1
      have n2 : w2.cell? ⟨w1.heap.size, 2, none⟩ = some (.slice none 0 0) := cell_of_row _ _ 2 _ _ _ hr1
      have hsl : Sl w2 w2.heap.size 4 (some ⟨w1.heap.size + 1, 0, none⟩) 1 (encAll MV.cells [⟨nm, hs, sg, fl⟩]) :=
        ⟨rfl, fun _ => ⟨_, 0, rfl, (Array.getElem?_eq_some_iff.1 hr2).1, fun j u hu => by rw [Nat.zero_add, cell_of_row _ _ j _ _ _ hr2]; simpa [encAll, MV.cells] using hu⟩⟩
      have c2 := small_any 1 1 (some ⟨w1.heap.size + 1, 0, none⟩) text [⟨nm, hs, sg, fl⟩] w2 hsl (by omega) ht (fun m hm => by simp at hm; rw [hm]; exact Hok.out)
      have C2 := Lib.hid c2
      clear c2 hsl hr1 hr2 hsz1
      go_wp2_with (fail)
      refine C2.out.mono ?_
      clear C2
      rintro e w3 ⟨rfl, hb3⟩
      have hb13 : Below w1.heap.size w1 w3 := hb2.trans (hb3.mono hb2.size)
      have p0 := (hb13.cell (p := ⟨w.heap.size, 0, none⟩) hlt).trans q0
      have p1 := (hb13.cell (p := ⟨w.heap.size, 1, none⟩) hlt).trans q1
      have p2 := (hb13.cell (p := ⟨w.heap.size, 2, none⟩) hlt).trans q2
      have p3 := (hb13.cell (p := ⟨w.heap.size, 3, none⟩) hlt).trans q3
      have Hb3 := Lib.hid (Hb1.out.trans (hb13.mono Hb1.out.size))
      clear n0 n1 n2 hb3 hb2 hb13 q0 q1 q2 q3
      cases hsm : small text [⟨nm, hs, sg, fl⟩]
      · go_wp2_with (fail)
        go_ret
        exact ⟨rfl, Hb3.out⟩
      · have Hsm := Lib.hid hsm
        clear hsm
        have hlim : text.size + 1 + (newLines [⟨nm, hs, sg, fl⟩]).length ≤ 2147483648 := small_lim Hsm.out
        obtain ⟨r, hr⟩ : ∃ r, r = (if endsNl text && [(⟨nm, hs, sg, fl⟩ : MV)].all signs then some (text.data.toList ++ [10] ++ newLines [⟨nm, hs, sg, fl⟩]) else none) := ⟨_, rfl⟩
        have ht3 := HT.out.below Hb3.out
        have he3 := HE.out.below Hb3.out
        have hlt3 : w.heap.size < w3.heap.size := World.block_lt_of_cell? w3 _ p0
        have hb4 : Below w3.heap.size w3 (w3.alloc (.cells #[.string nm, .int .u32 hs, .string sg, .bool fl] 25)) := (Below.refl _ _).alloc (Nat.le_refl _) _
        have hsl : Sl (w3.alloc (.cells #[.string nm, .int .u32 hs, .string sg, .bool fl] 25)) (w3.alloc (.cells #[.string nm, .int .u32 hs, .string sg, .bool fl] 25)).heap.size 4 (some ⟨w3.heap.size, 0, none⟩) 1 (encAll MV.cells [⟨nm, hs, sg, fl⟩]) :=
          ⟨rfl, fun _ => ⟨_, 0, rfl, by simp, fun j u hu => by rw [Nat.zero_add, cell_of_row _ _ j _ _ _ (heap_alloc_new w3 _)]; simpa [encAll, MV.cells] using hu⟩⟩
        have ci := implSign_new 1 1 0 0 (some ⟨w3.heap.size, 0, none⟩) none none text [⟨nm, hs, sg, fl⟩] _ hsl (fun m hm => by simp at hm; rw [hm]; exact Hok.out) (ht3.below hb4) (he3.below hb4) (by omega) hlim r hr
        have Ci := Lib.hid ci
        have Hr := Lib.hid hr
        have Hb4 := Lib.hid hb4
        clear ci hr hsl hb4 ht3 he3 hlim
        go_wp2_with (fail)
        refine Ci.out.mono ?_
        clear Ci
        rintro e w4 ⟨hb5, hpost⟩
        have hbw : Below w3.heap.size w3 w4 := Hb4.out.trans (hb5.mono Hb4.out.size)
        have q0 := (hbw.cell (p := ⟨w.heap.size, 0, none⟩) hlt3).trans p0
        have q3 := (hbw.cell (p := ⟨w.heap.size, 3, none⟩) hlt3).trans p3
        have Hb5 := Lib.hid (Hb3.out.trans (hbw.mono Hb3.out.size))
        clear p0 p1 p2 p3 hb5 hbw Hb4
        obtain ⟨o, hpe, hro⟩ := refuse_res hpost Hr.out
        subst hpe
        have Hro := Lib.hid hro
        clear hpost hro Hr
        have hgb := get_bAt text
        rcases Nat.eq_zero_or_pos text.size with h0 | h0
        · have hF : refuseB text ⟨nm, hs, sg, fl⟩ = false := by
            unfold refuseB endsNl
            rw [show text.data.toList = [] from List.eq_nil_of_length_eq_zero (by simpa using h0)]
            rfl
          rw [hF]
          have ht0 : text.toList = [] := by rw [ByteArray.toList_eq]; exact List.eq_nil_of_length_eq_zero (by simpa using h0)
          clear hF
          go_wp2_with (fail)
          go_ret
          exact ⟨rfl, Hb5.out⟩
        · have ht0 : (text.toList == []) = false := by
            rw [ByteArray.toList_eq, beq_eq_false_iff_ne]
            intro h
            have h2 : text.data.toList.length = text.size := by simp
            rw [h] at h2
            exact absurd (show 0 = text.size from h2) (by omega)
          have e1 : ((text.size : Int) - 1).toNat = text.size - 1 := by omega
          have hnl := endsNl_at h0
          by_cases hx : bAt text (text.size - 1) = 10
          · have hnl2 : endsNl text = true := by rw [hnl, decide_eq_true hx]
            have cn := name_any nm w4 (small_name Hsm.out)
            have Cn := Lib.hid cn
            have Hnl := Lib.hid hnl2
            clear cn hnl hnl2
            go_wp2_with (fail)
            refine Cn.out.mono ?_
            clear Cn
            rintro e w5 ⟨rfl, hb6⟩
            have hlt4 : w.heap.size < w4.heap.size := World.block_lt_of_cell? w4 _ q0
            have r3 := (hb6.cell (p := ⟨w.heap.size, 3, none⟩) hlt4).trans q3
            have Hb6 := Lib.hid (Hb5.out.trans (hb6.mono Hb5.out.size))
            clear q0 q3 hb6
            cases hv : nameOk nm
            · have hF : refuseB text ⟨nm, hs, sg, fl⟩ = false := by unfold refuseB; simp [hv]
              rw [hF]
              clear hF
              go_wp2_with (fail)
              go_ret
              exact ⟨rfl, Hb6.out⟩
            · have hF : refuseB text ⟨nm, hs, sg, fl⟩ = !fl := by unfold refuseB; simp [hv, Hnl.out]
              rw [hF]
              clear hF
              cases fl
              · go_wp2_with (fail)
                go_ret
                exact ⟨rfl, Hb6.out⟩
              · go_wp2_with (fail)
                go_ret
                exact ⟨rfl, Hb6.out⟩
          · have hF : refuseB text ⟨nm, hs, sg, fl⟩ = false := by unfold refuseB; rw [hnl, decide_eq_false hx]; rfl
            rw [hF]
            clear hF hnl
            go_wp2_with (fail)
            go_ret
            exact ⟨rfl, Hb5.out⟩

end Go.Proofs.YtnnbhklkakhkkaaDoor

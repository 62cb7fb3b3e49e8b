/-
  THE SIZES: the walk of spec.Small, of a note that may have signatures: it answers something.
-/
import Derived.Test.YtnnbhklkakhkkaaDoorAppendG
import Derived.Test.YtnnbhklkakhkkaaDoorConvNote
import Derived.Deep.DeepCutAuto
import Derived.Deep.CutBlock
namespace Go.Proofs.YtnnbhklkakhkkaaDoor
open Go.RowKit Go.Lib

theorem encAll_ones {l : List SV} : ∀ u ∈ encAll SV.cells l, u.oneCell' = true := by
  intro u hu
  unfold encAll at hu
  obtain ⟨x, _, hx⟩ := List.mem_flatMap.1 hu
  exact SV.oneCells x u hx
theorem far_b {w0 w : World} {size n : Nat} {A : Option Addr} {cs : List Value} (h : Sl w0 w0.heap.size size A n cs) (hb : Below w0.heap.size w0 w) : Sl w w.heap.size size A n cs := (h.below hb).more hb.size
theorem alloc_bs {w0 w : World} {o : Obj} (h : Below w0.heap.size w0 w) : Below w0.heap.size w0 (w.alloc o) := h.alloc h.size o
/-- an empty slice that has just been made -/
theorem own_made {w0 w : World} {e : TypeId} {size g : Nat} (hg : g = w.heap.size) (hb : Below w0.heap.size w0 w) : (w.alloc (.cells #[] e)).ownsRow w0.heap.size e size (.slice (some ⟨g, 0, none⟩) 0 0) 0 [] := by
  subst hg
  exact World.ownsRow_made w #[] 0 hb.size (by simp [maxLen]) (by simp)

/-- it answers -/
def SomeB (e : Ending) : Prop := ∃ b, e = .returned (.bool b)
/-- what the two lists come to, one behind the other -/
def Both (w0 wx : World) (l1 l2 : List SV) (v : Value) : Prop := ∃ A cap, v = .slice A (l1.length + l2.length) cap ∧ wx.ownsRow w0.heap.size 64 3 v (l1.length + l2.length) (encAll SV.cells (l1 ++ l2)) ∧ Below w0.heap.size w0 wx

theorem both_of {w0 wb : World} {l1 l2 : List SV} {B2 : Option Addr} {n1 n2 cap2 : Nat} (h : wb.ownsRow w0.heap.size 64 3 (.slice B2 (0 + n1 + n2) cap2) (0 + n1 + n2) ([] ++ encAll SV.cells l1 ++ encAll SV.cells l2)) (hb : Below w0.heap.size w0 wb)
    (hl1 : l1.length = n1) (hl2 : l2.length = n2) : Both w0 wb l1 l2 (.slice B2 (0 + n1 + n2) cap2) := by
  subst hl1
  subst hl2
  rw [Nat.zero_add, List.nil_append, ← encAll_append] at h
  rw [Nat.zero_add]
  exact ⟨B2, cap2, rfl, h, hb⟩
theorem both_drew {w0 wb : World} {l1 l2 : List SV} {v : Value} (h : Both w0 wb l1 l2 v) : Both w0 wb.drew l1 l2 v := by
  obtain ⟨A, cap, e, h1, h2⟩ := h
  exact ⟨A, cap, e, h1, h2.drew⟩

set_option maxHeartbeats 4000000 in
set_option maxRecDepth 100000 in
theorem smallG_any (n c n1 c1 n2 c2 : Nat) (A A1 A2 : Option Addr) (text : ByteArray) (ms : List MV) (l1 l2 : List SV) (w : World) (hs : Sl w w.heap.size 4 A n (encAll MV.cells ms)) (hs1 : Sl w w.heap.size 3 A1 n1 (encAll SV.cells l1)) (hs2 : Sl w w.heap.size 3 A2 n2 (encAll SV.cells l2))
    (hn : n ≤ 2147483647) (hn1 : n1 ≤ 2147483647) (hn2 : n2 ≤ 2147483647) (ht : text.size ≤ 2147483647) (hok : ∀ m ∈ ms, m.Ok) (hsk : ∀ x ∈ l1 ++ l2, x.Ok) :
    Calls Tryd.prog 13 #[.agg #[.string text, .slice A1 n1 c1, .slice A2 n2 c2], .slice A n c] w fun e w' => SomeB e ∧ Below w.heap.size w w' := by
  have hl1 := hs1.count SV.cells_length (by omega)
  have hl2 := hs2.count SV.cells_length (by omega)
  have Hl := Lib.hid (hs.count MV.cells_length (by omega))
  have Hs := Lib.hid hs
  have Hok := Lib.hid hok
  have Hsk := Lib.hid hsk
  have hb0 : Below w.heap.size w (w.alloc (.cells #[.string text, .slice A1 n1 c1, .slice A2 n2 c2] 29)) := (Below.refl _ _).alloc (Nat.le_refl _) _
  have hr0 := heap_alloc_new w (.cells #[.string text, .slice A1 n1 c1, .slice A2 n2 c2] 29)
  have Hb0 := Lib.hid hb0
  have H1 := Lib.hid (far_b hs1 hb0)
  have H2 := Lib.hid (far_b hs2 hb0)
  have Hr0 := Lib.hid hr0
  clear hs hok hb0 hs1 hs2 hsk hr0
  by_cases h1 : 2000 < text.size
  · go_enter Tryd.func13, Tryd.ntmps13
    go_wp2
    go_ret
    exact ⟨⟨_, rfl⟩, Hb0.out⟩
  · by_cases h3 : 8 < n1
    · go_enter Tryd.func13, Tryd.ntmps13
      go_wp2
      go_ret
      exact ⟨⟨_, rfl⟩, Hb0.out⟩
    · by_cases h4 : 8 < n2
      · go_enter Tryd.func13, Tryd.ntmps13
        go_wp2
        go_ret
        exact ⟨⟨_, rfl⟩, Hb0.out⟩
      · by_cases h2 : 8 < n
        · go_enter Tryd.func13, Tryd.ntmps13
          go_wp2
          go_ret
          exact ⟨⟨_, rfl⟩, Hb0.out⟩
        · obtain ⟨i0, hi0, hz0, hz1, hz2⟩ := info_parts specSigInfo
          go_enter Tryd.func13, Tryd.ntmps13
          go_upto_region 3 with (fail)
          generalize w.alloc (.cells #[.string text, .slice A1 n1 c1, .slice A2 n2 c2] 29) = w0 at *
          have hlt0 : w.heap.size < w0.heap.size := (Array.getElem?_eq_some_iff.1 Hr0.out).1
          go_cut [36, 37, 38] (fun v36 v37 v38 wx => Both w0 wx l1 l2 v36 ∧ v37 = .int .i64 ((l1.length + l2.length : Nat) : Int) ∧ v38 = .int .i64 0)
          case first =>
            have q1 : w0.cell? ⟨w.heap.size, 1, none⟩ = some (.slice A1 n1 c1) := cell_of_row _ _ 1 _ _ _ Hr0.out
            have q2 : w0.cell? ⟨w.heap.size, 2, none⟩ = some (.slice A2 n2 c2) := cell_of_row _ _ 2 _ _ _ Hr0.out
            have hS : ∀ {w'}, Below w0.heap.size w0 w' → (w'.cell? ⟨w.heap.size, 1, none⟩ = some (.slice A1 n1 c1) ∧ w'.cell? ⟨w.heap.size, 2, none⟩ = some (.slice A2 n2 c2)) ∧ Below w0.heap.size w0 w' := fun hb =>
              ⟨⟨(hb.cell (p := ⟨_, _, _⟩) hlt0).trans q1, (hb.cell (p := ⟨_, _, _⟩) hlt0).trans q2⟩, hb⟩
            go_region_held3 (fun w' => (w'.cell? ⟨w.heap.size, 1, none⟩ = some (.slice A1 n1 c1) ∧ w'.cell? ⟨w.heap.size, 2, none⟩ = some (.slice A2 n2 c2)) ∧ Below w0.heap.size w0 w')
              ((refine hS ?_
                repeat first | exact Below.refl _ _ | assumption | apply Below.drew | apply alloc_bs))
              (first
                | (refine step_append_any (by rfl) _ _ _ (by rfl) w0 64 i0 _ 3 40 Tryd.underlying27 hi0 hz0 hz1 hz2 rfl (by decide) (.slice (some ⟨w0.heap.size, 0, none⟩) 0 0) 0 [] (by rfl) A1 n1 c1 (encAll SV.cells l1) (by rfl) encAll_ones (by simp only [maxLen]; omega) (by omega) ?_ ?_ ?_ ?_
                   · repeat first | exact Below.refl _ _ | apply Below.drew | apply alloc_bs
                   · refine own_made (by rfl) ?_
                     repeat first | exact Below.refl _ _ | apply Below.drew | apply alloc_bs
                   · refine far_b H1.out ?_
                     repeat first | exact Below.refl _ _ | apply Below.drew | apply alloc_bs
                   intro B1 cap1 wa hown1 hba)
                | (refine step_append_any (by rfl) _ _ _ (by rfl) w0 64 i0 _ 3 40 Tryd.underlying27 hi0 hz0 hz1 hz2 rfl (by decide) (.slice B1 (0 + n1) cap1) (0 + n1) ([] ++ encAll SV.cells l1) (by rfl) A2 n2 c2 (encAll SV.cells l2) (by rfl) encAll_ones (by simp only [maxLen]; omega) (by omega) ?_ ?_ ?_ ?_
                   · repeat first | exact Below.refl _ _ | assumption | apply Below.drew | apply alloc_bs
                   · repeat first | exact hown1 | apply own_drew | apply own_alloc
                   · refine far_b H2.out ?_
                     repeat first | exact Below.refl _ _ | assumption | apply Below.drew | apply alloc_bs
                   intro B2 cap2 wb hown2 hbb))
            all_goals (
              go_wp2_with (fail)
              go_meet
              case rel => exact ⟨both_of hown2 hbb hl1 hl2, by rw [hl1, hl2]; simp, rfl⟩)
          case rest =>
            obtain ⟨⟨B, cap, rfl, hown, hb1⟩, rfl, rfl⟩ := hcut
            obtain ⟨B', cap', e, hslB, _⟩ := own_form hown
            injection e with e1 e2 e3
            subst e1
            subst e3
            obtain ⟨N, hN⟩ : ∃ N, N = l1.length + l2.length := ⟨_, rfl⟩
            rw [← hN] at hslB ⊢
            have HslB := Lib.hid hslB
            have Hb1 := Lib.hid (Hb0.out.trans (hb1.mono Hb0.out.size))
            have hN2 : N ≤ 16 := by omega
            clear hown hb1 hslB
            go_wp2_with (fail)
            go_loopw [38] (fun v wr => ∃ k : Nat, k ≤ N ∧ v = .int .i64 (k : Int) ∧ Hid (Below wc.heap.size wc wr)) (fun v _ => N - (intOf v).toNat)
            case atStart => exact ⟨0, by omega, rfl, Below.refl _ _⟩
            case round =>
              obtain ⟨k, hk, rfl, Hbk⟩ := hrel
              by_cases hlt : k < N
              · obtain ⟨b, o, x, rfl, hblt, hx, f0, f1, f2⟩ := SV.elem (HslB.out.below Hbk.out) hlt
                have hxk := Hsk.out x (List.mem_of_getElem? hx)
                have hxn := hxk.name
                have hxb := hxk.b64
                have hbw : Below wc.heap.size wc (wr.alloc (.cells #[.string x.name, .int .u32 x.hash, .string x.b64] 64)) := Hbk.out.alloc Hbk.out.size _
                have Hbw := Lib.hid hbw
                clear hx hxk hbw
                by_cases g1 : 60 < x.name.size
                · go_wp2_with (fail)
                  go_ret
                  exact ⟨⟨_, rfl⟩, Hb1.out.trans (Hbw.out.mono Hb1.out.size)⟩
                · by_cases g2 : 120 < x.b64.size
                  · go_wp2_with (fail)
                    go_ret
                    exact ⟨⟨_, rfl⟩, Hb1.out.trans (Hbw.out.mono Hb1.out.size)⟩
                  · go_wp2_with (fail)
                    go_roundw
                    case rel => exact ⟨k + 1, by omega, by go_num, Hbw⟩
                    case measure => simp [intOf]; omega
              · have Hb2 := Lib.hid (Hb1.out.trans (Hbk.out.mono Hb1.out.size))
                go_wp2_with (fail)
                go_loopw [55] (fun i wx => ∃ k : Nat, k ≤ n ∧ i = .int .i64 k ∧ Hid (Below w.heap.size w wx)) (fun i _ => n - (RowKit.intOf i).toNat)
                case atStart => exact ⟨0, Nat.zero_le _, rfl, Hb2⟩
                case round =>
                  obtain ⟨j, hj, rfl, Hbj⟩ := hrel
                  by_cases hlj : j < n
                  · obtain ⟨b, o, x, rfl, hblt, hx, c0, c1, c2, c3⟩ := MV.elem (Hs.out.below Hbj.out) hlj
                    have hbn := (Hok.out x (List.mem_of_getElem? hx)).name
                    have hbs := (Hok.out x (List.mem_of_getElem? hx)).sig
                    have hbw : Below w.heap.size w (wr.alloc (.cells #[.string x.name, .int .u32 x.hash, .string x.sig, .bool x.fails] 30)) := Hbj.out.alloc Hbj.out.size _
                    have Hbw := Lib.hid hbw
                    clear hx hbw
                    by_cases g1 : 60 < x.name.size
                    · go_wp2_with (fail)
                      go_ret
                      exact ⟨⟨_, rfl⟩, Hbw.out⟩
                    · by_cases g2 : 60 < x.sig.size
                      · go_wp2_with (fail)
                        go_ret
                        exact ⟨⟨_, rfl⟩, Hbw.out⟩
                      · go_wp2_with (fail)
                        go_roundw
                        case rel => exact ⟨j + 1, by omega, by go_num, Hbw⟩
                        case measure => simp [RowKit.intOf]; omega
                  · go_wp2_with (fail)
                    go_ret
                    exact ⟨⟨_, rfl⟩, Hbj.out⟩

end Go.Proofs.YtnnbhklkakhkkaaDoor

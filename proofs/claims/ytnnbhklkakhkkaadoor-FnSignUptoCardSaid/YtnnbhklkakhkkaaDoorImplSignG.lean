/-
  SIGNING: the walk of impl.Sign, of a note that may have signatures.
-/
import Derived.Test.YtnnbhklkakhkkaaDoorNoteSignG
import Derived.Test.YtnnbhklkakhkkaaDoorImplSign
namespace Go.Proofs.YtnnbhklkakhkkaaDoor
open Go.RowKit Go.Lib

/-- impl.out, its result's form written out -/
theorem out_sl (A : Option Addr) (n c : Nat) (l : List SV) (w : World) (hs : Sl w w.heap.size 3 A n (encAll SV.cells l)) (hn : n ≤ 2147483648) :
    Calls Tryd.prog 32 #[.slice A n c] w fun e w' => ∃ A' c', e = .returned (.slice A' n c') ∧ Sl w' w'.heap.size 3 A' n (encAll SV.cells l) ∧ Below w.heap.size w w' :=
  (out_any A n c l w hs hn).mono fun e w' h => by
    obtain ⟨v, rfl, hown, hb⟩ := h
    obtain ⟨A', c', rfl, hsl, _⟩ := own_form hown
    exact ⟨A', c', rfl, hsl, hb⟩
theorem signR_pos {text : ByteArray} {ms : List MV} {os : List SV} {x : List UInt8} (h : some x = signR text ms os) : 0 < x.length := by
  unfold signR at h
  split at h
  · injection h with h
    rw [h, List.length_append, List.length_append, List.length_append]
    show 0 < _ + 1 + _ + _
    omega
  · cases h

theorem noteSign_formG (nb k c n1 d1 n2 d2 : Nat) (SA B1 B2 : Option Addr) (text : ByteArray) (ms : List MV) (l1 l2 os : List SV) (w0 wa wb w : World) (r : Option (List UInt8)) (hr : r = signR text ms os)
    (hb : Below w0.heap.size w0 w) (hba : Below wa.heap.size wa w) (hbb : Below wb.heap.size wb w)
    (q0 : w.cell? ⟨nb, 0, none⟩ = some (.string text)) (q1 : w.cell? ⟨nb, 1, none⟩ = some (.slice B1 n1 d1)) (q2 : w.cell? ⟨nb, 2, none⟩ = some (.slice B2 n2 d2))
    (hs : Sl w0 w0.heap.size 1 SA k (ms.map MV.iface)) (hok : ∀ m ∈ ms, m.Ok) (hs1 : Sl wa wa.heap.size 3 B1 n1 (encAll SV.cells l1)) (hs2 : Sl wb wb.heap.size 3 B2 n2 (encAll SV.cells l2)) (hos : os = l1 ++ l2)
    (hsz : ∀ x ∈ os, x.name.size ≤ 2147483647 ∧ x.b64.size ≤ 2147483647) (hcl : endsNl text = true → ms.all signs = true → Clean (keysOf ms) os) (hT : Tabs w0) (hE : Errs w0) (hk : k ≤ 2147483647) (hn1 : n1 ≤ 2147483647) (hn2 : n2 ≤ 2147483647)
    (hlim : text.size + 1 + (oldLines (keysOf ms) os).length + (newLines ms).length ≤ 2147483648) :
    Calls Tryd.prog 31 #[.pointer (some ⟨nb, 0, none⟩), .slice SA k c] w fun e w' => ∃ v ev, e = .returned (.tuple #[v, ev]) ∧ NForm w0 r v ev w' :=
  (noteSign_any nb k c n1 d1 n2 d2 SA B1 B2 text ms l1 l2 os w q0 q1 q2 (sl_far hs hb) hok (sl_far hs1 hba) (sl_far hs2 hbb) hos hsz hcl (hT.below hb) (hE.below hb) hk hn1 hn2 hlim r hr).mono fun _ _ h => npost_form hb h

set_option maxHeartbeats 4000000 in
set_option maxRecDepth 100000 in
theorem implSign_any (n c n1 c1 n2 c2 : Nat) (A A1 A2 : Option Addr) (text : ByteArray) (ms : List MV) (l1 l2 os : List SV) (w : World) (hs : Sl w w.heap.size 4 A n (encAll MV.cells ms)) (hok : ∀ m ∈ ms, m.Ok)
    (hs1 : Sl w w.heap.size 3 A1 n1 (encAll SV.cells l1)) (hs2 : Sl w w.heap.size 3 A2 n2 (encAll SV.cells l2)) (hos : os = l1 ++ l2)
    (hsz : ∀ x ∈ os, x.name.size ≤ 2147483647 ∧ x.b64.size ≤ 2147483647) (hcl : endsNl text = true → ms.all signs = true → Clean (keysOf ms) os) (hT : Tabs w) (hE : Errs w) (hn : n ≤ 2147483647) (hn1 : n1 ≤ 2147483647) (hn2 : n2 ≤ 2147483647)
    (hlim : text.size + 1 + (oldLines (keysOf ms) os).length + (newLines ms).length ≤ 2147483648) (r : Option (List UInt8)) (hr : r = signR text ms os) :
    Calls Tryd.prog 14 #[.agg #[.string text, .slice A1 n1 c1, .slice A2 n2 c2], .slice A n c] w (IPost w r) := by
  obtain ⟨i0, hi, hz0, hz1, hz2⟩ := info_parts signerInfo
  have Hl := Lib.hid (hs.count MV.cells_length (by omega))
  have Hr := Lib.hid hr
  have HT := Lib.hid hT
  have HE := Lib.hid hE
  have Hok := Lib.hid hok
  have hb0 : Below w.heap.size w (w.alloc (.cells #[.string text, .slice A1 n1 c1, .slice A2 n2 c2] 37)) := (Below.refl _ _).alloc (Nat.le_refl _) _
  have hr0 := heap_alloc_new w (.cells #[.string text, .slice A1 n1 c1, .slice A2 n2 c2] 37)
  have Hs1 := Lib.hid hs1
  have Hs2 := Lib.hid hs2
  have Hos := Lib.hid hos
  have Hsz := Lib.hid hsz
  have Hcl := Lib.hid hcl
  have Hlim := Lib.hid hlim
  have hn1' : n1 ≤ 2147483648 := by omega
  have hn2' : n2 ≤ 2147483648 := by omega
  clear hr hT hE hok hs1 hs2 hos hsz hcl hlim
  go_enter Tryd.func14, Tryd.ntmps14
  go_upto_region 1 with (fail)
  generalize w.alloc (.cells #[.string text, .slice A1 n1 c1, .slice A2 n2 c2] 37) = w0 at *
  have Hb0 := Lib.hid hb0
  have Hr0 := Lib.hid hr0
  have hlt0 : w.heap.size < w0.heap.size := (Array.getElem?_eq_some_iff.1 hr0).1
  clear hb0 hr0
  go_wp2
  go_loopw [6, 14] (fun v i wr => ∃ k : Nat, k ≤ n ∧ i = .int .i64 k ∧ Below w0.heap.size w0 wr ∧ wr.ownsRow w0.heap.size 121 1 v k ((ms.take k).map MV.iface)) (fun _ i _ => n - (RowKit.intOf i).toNat)
  case atStart => exact ⟨0, Nat.zero_le _, rfl, (Below.refl _ _).alloc (Nat.le_refl _) _, World.ownsRow_made w0 #[] 0 (Nat.le_refl _) (by simp [maxLen]) rfl⟩
  case round =>
    obtain ⟨k, hk, rfl, hb, hown⟩ := hrel
    by_cases hlt : k < n
    · obtain ⟨b, o, x, rfl, hblt, hx, c0', c1', c2', c3'⟩ := MV.elem ((hs.below Hb0.out).more Hb0.out.size |>.below hb) hlt
      have Hx := Lib.hid hx
      clear hx hs
      have hown1 := (hown.alloc (.cells #[.string x.name, .int .u32 x.hash, .string x.sig, .bool x.fails] 25)).alloc (.cells #[.iface 67 (.agg #[.string x.name, .int .u32 x.hash, .string x.sig, .bool x.fails])] 121)
      go_wp2_with (at_builtin; refine wpList_append_own _ rfl _ _ 65 rfl w0.heap.size 121 i0 _ 1 16 Tryd.underlying65 hi hz0 hz1 hz2 rfl (by decide) _ _ _ rfl hown1 ⟨wr.heap.size + 1, 0, none⟩ 1 1 [x.iface] rfl rfl ?c1 ?c2 ?c3 ?c4 ?c5 ?_)
      case c1 => exact new_cells (by simp)
      case c2 => simp [MV.iface, Value.oneCell']
      case c3 => simp only [maxLen]; omega
      case c4 => omega
      case c5 => have := hb.size; simp; omega
      intro v' w1 hown' hgrow _
      have hbw : Below w0.heap.size w0 w1 := below_own ((hb.alloc hb.size _).alloc (by have := hb.size; simp; omega) _) hown1 hgrow (Nat.le_refl _)
      clear hown1 hown hgrow
      go_wp2
      go_roundw
      case rel => exact ⟨k + 1, by omega, by go_num, hbw, by rw [List.take_add_one, Hx.out, Option.toList_some, List.map_append]; simpa [List.map_take] using hown'⟩
      case measure => simp [RowKit.intOf]; omega
    · clear hs
      obtain rfl : k = n := by omega
      rw [List.take_of_length_le (by have := Hl.out; omega)] at hown
      obtain ⟨A6, c6, rfl, hsl6, hc6, _⟩ := own_slice hown
      have hbr : Below w.heap.size w wr := Hb0.out.trans (hb.mono Hb0.out.size)
      have hrw := (hb.block _ hlt0).trans Hr0.out
      have q0 : wr.cell? ⟨w.heap.size, 0, none⟩ = some (.string text) := cell_of_row _ _ 0 _ _ _ hrw
      have q1 : wr.cell? ⟨w.heap.size, 1, none⟩ = some (.slice A1 n1 c1) := cell_of_row _ _ 1 _ _ _ hrw
      have q2 : wr.cell? ⟨w.heap.size, 2, none⟩ = some (.slice A2 n2 c2) := cell_of_row _ _ 2 _ _ _ hrw
      have hltw : w.heap.size < wr.heap.size := Nat.lt_of_lt_of_le hlt0 hb.size
      have Hsl6 := Lib.hid hsl6
      have Hbr := Lib.hid hbr
      have Htr := Lib.hid (HT.out.below hbr)
      have Her := Lib.hid (HE.out.below hbr)
      have Hz1 := Lib.hid (sl_far Hs1.out hbr)
      have Hz2 := Lib.hid (sl_far Hs2.out hbr)
      clear hown hsl6 hbr hrw hb
      go_upto_region 7 with (fail)
      go_cut [9, 10] (fun v9 v10 wx => NForm wr r v9 v10 wx)
      case first =>
        have hS : ∀ {w'}, Below wr.heap.size wr w' → (w'.cell? ⟨w.heap.size, 0, none⟩ = some (.string text) ∧ w'.cell? ⟨w.heap.size, 1, none⟩ = some (.slice A1 n1 c1) ∧ w'.cell? ⟨w.heap.size, 2, none⟩ = some (.slice A2 n2 c2)) ∧ Below wr.heap.size wr w' := fun hb =>
          ⟨⟨(hb.cell (p := ⟨_, _, _⟩) hltw).trans q0, (hb.cell (p := ⟨_, _, _⟩) hltw).trans q1, (hb.cell (p := ⟨_, _, _⟩) hltw).trans q2⟩, hb⟩
        go_region_held3 (fun w' => (w'.cell? ⟨w.heap.size, 0, none⟩ = some (.string text) ∧ w'.cell? ⟨w.heap.size, 1, none⟩ = some (.slice A1 n1 c1) ∧ w'.cell? ⟨w.heap.size, 2, none⟩ = some (.slice A2 n2 c2)) ∧ Below wr.heap.size wr w')
          ((refine hS ?_
            repeat first | exact Below.refl _ _ | assumption | apply Below.drew | apply alloc_bb))
          (first
            | (go_at_call 32
               with_reducible refine (out_sl A1 n1 c1 l1 _ ?_ hn1').mono ?_
               · refine sl_far Hz1.out ?_
                 repeat first | exact Below.refl _ _ | assumption | apply Below.drew | apply alloc_bb
               rintro e wa ⟨B1, d1, rfl, hsB1, hba0⟩
               first
                 | have hba : Below wr.heap.size wr wa := hba0
                 | have hba : Below wr.heap.size wr wa := undrew hba0
                 | have hba : Below wr.heap.size wr wa := undrew (undrew hba0))
            | (go_at_call 32
               with_reducible refine (out_sl A2 n2 c2 l2 _ ?_ hn2').mono ?_
               · refine sl_far Hz2.out ?_
                 repeat first | exact Below.refl _ _ | assumption | apply Below.drew | apply alloc_bb
               rintro e wb ⟨B2, d2, rfl, hsB2, hbb0⟩
               first
                 | have hab : Below wa.heap.size wa wb := hbb0
                 | have hab : Below wa.heap.size wa wb := undrew hbb0
                 | have hab : Below wa.heap.size wa wb := undrew (undrew hbb0)
               have hbb : Below wr.heap.size wr wb := hba.trans (hab.mono hba.size))
            | (go_at_call 31
               refine (noteSign_formG _ k c6 n1 d1 n2 d2 A6 B1 B2 text ms l1 l2 os wr wa wb _ r Hr.out ?_ ?_ ?_ ?_ ?_ ?_ Hsl6.out Hok.out hsB1 hsB2 Hos.out Hsz.out Hcl.out Htr.out Her.out hn hn1 hn2 Hlim.out).mono ?_
               · repeat first | exact Below.refl _ _ | assumption | apply Below.drew | apply alloc_bb
               · repeat first | exact Below.refl _ _ | assumption | apply Below.drew | apply alloc_bb
               · repeat first | exact Below.refl _ _ | assumption | apply Below.drew | apply alloc_bb
               · exact cell_of_row _ _ 0 _ _ _ (heap_alloc_new _ _)
               · exact cell_of_row _ _ 1 _ _ _ (heap_alloc_new _ _)
               · exact cell_of_row _ _ 2 _ _ _ (heap_alloc_new _ _)
               rintro e w9 ⟨v9, ev9, rfl, hform⟩
               have hb9 := hform.1))
        all_goals (
          go_wp2_with (fail)
          go_meet
          case rel => exact hform)
      case rest =>
        have hform := hcut
        rcases r with _ | x
        · obtain ⟨hb9, t9, p9, rfl, rfl⟩ := hform
          have hbw := Hbr.out.trans (hb9.mono Hbr.out.size)
          clear hcut hb9
          have hcv := fun (W : World) => Lib.run_convert_nil_bytes (P := Tryd.prog) W 68 9 5 0 Tryd.underlying68 Tryd.underlying5 Tryd.underlying9
          go_upto_region 8 with (fail)
          go_quiet (fail)
          go_wp2_with (fail)
          go_ret2
          exact ⟨⟨hbw.os, hbw.tape, hbw.output, hbw.size, hbw.block⟩, rfl⟩
        · obtain ⟨hb9, A9, c9, rfl, rfl, hsl9, hc9⟩ := hform
          have hbw := Hbr.out.trans (hb9.mono Hbr.out.size)
          have hx : 0 < x.length := signR_pos Hr.out
          obtain ⟨b9, o9, rfl, _, hcell9⟩ := hsl9.2 hx
          have hcv := fun (k : Nat) => run_convert_bytes_back (P := Tryd.prog) (wc.drewN k) 68 9 5 ⟨b9, o9, none⟩ c9 x Tryd.underlying68 Tryd.underlying5 Tryd.underlying9 (fun j hj => by
            rw [Lib.addr_add]
            exact hcell9 j _ (by unfold byteCells; rw [List.getElem?_map, List.getElem?_eq_getElem hj]; rfl))
          clear hcut hb9 hsl9 hcell9
          go_upto_region 8 with (fail)
          go_quiet (fail)
          go_wp2_with (fail)
          go_ret2
          exact ⟨⟨hbw.os, hbw.tape, hbw.output, hbw.size, hbw.block⟩, rfl⟩

end Go.Proofs.YtnnbhklkakhkkaaDoor

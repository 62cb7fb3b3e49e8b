/-
  SIGNING: the walk of impl.Sign, of a note without signatures.
-/
import Derived.Test.YtnnbhklkakhkkaaDoorNoteSign
import Derived.Test.YtnnbhklkakhkkaaDoorOut
import Derived.Test.YtnnbhklkakhkkaaDoorSmall
import Derived.Deep.RegionHeld3
namespace Go.Proofs.YtnnbhklkakhkkaaDoor
open Go.RowKit Go.Lib

theorem signerInfo : (Tryd.prog.info? 121).map (fun i => (i.zero, i.size, i.bytes)) = some (some .nilIface, 1, 16) := by kernel_rfl

theorem alloc_bb {w0 w : World} {o : Obj} (h : Below w0.heap.size w0 w) : Below w0.heap.size w0 (w.alloc o) := h.alloc h.size o
set_option maxHeartbeats 1000000 in
theorem out_none (A : Option Addr) (c : Nat) (w : World) : Calls Tryd.prog 32 #[.slice A 0 c] w fun e w' => e = .returned (.slice (some ⟨w.heap.size, 0, none⟩) 0 0) ∧ w' = w.alloc (.cells #[] 134) := by
  go_enter Tryd.func32, Tryd.ntmps32
  go_wp2
  go_loopw [3, 9] (fun v i wr => v = .slice (some ⟨w.heap.size, 0, none⟩) 0 0 ∧ i = .int .i64 0 ∧ wr = w.alloc (.cells #[] 134)) (fun _ _ _ => 0)
  case atStart => exact ⟨rfl, rfl, rfl⟩
  case round =>
    obtain ⟨rfl, rfl, rfl⟩ := hrel
    go_wp2
    go_ret
    exact ⟨rfl, rfl⟩

/-- Sign's two results, whatever comes of it -/
def NForm (w : World) (r : Option (List UInt8)) (v ev : Value) (w' : World) : Prop :=
  Below w.heap.size w w' ∧ match r with
  | some x => ∃ A c, v = .slice A x.length c ∧ ev = .nilIface ∧ Sl w' w'.heap.size 1 A x.length (byteCells x) ∧ x.length ≤ c
  | none => ∃ t p, v = .slice none 0 0 ∧ ev = .iface t (.pointer p)
theorem npost_form {w0 w w' : World} {r : Option (List UInt8)} {e : Ending} (hb : Below w0.heap.size w0 w) (h : NPost w r e w') : ∃ v ev, e = .returned (.tuple #[v, ev]) ∧ NForm w0 r v ev w' := by
  obtain ⟨h1, h2⟩ := h
  have hb2 := hb.trans (h1.mono hb.size)
  cases r with
  | some x =>
    obtain ⟨A, c, rfl, h3, h4⟩ := h2
    exact ⟨_, _, rfl, hb2, A, c, rfl, rfl, h3, h4⟩
  | none =>
    obtain ⟨t, p, rfl⟩ := h2
    exact ⟨_, _, rfl, hb2, t, p, rfl, rfl⟩
theorem sl_far {w0 w : World} {size n : Nat} {A : Option Addr} {cs : List Value} (h : Sl w0 w0.heap.size size A n cs) (hb : Below w0.heap.size w0 w) : Sl w w.heap.size size A n cs := (h.below hb).more hb.size

theorem noteSign_form (nb k c c1 c2 : Nat) (SA A1 A2 : Option Addr) (text : ByteArray) (ms : List MV) (w0 w : World) (r : Option (List UInt8)) (hr : r = if endsNl text && ms.all signs then some (text.data.toList ++ [10] ++ newLines ms) else none) (hb : Below w0.heap.size w0 w)
    (q0 : w.cell? ⟨nb, 0, none⟩ = some (.string text)) (q1 : w.cell? ⟨nb, 1, none⟩ = some (.slice A1 0 c1)) (q2 : w.cell? ⟨nb, 2, none⟩ = some (.slice A2 0 c2))
    (hs : Sl w0 w0.heap.size 1 SA k (ms.map MV.iface)) (hok : ∀ m ∈ ms, m.Ok) (hT : Tabs w0) (hE : Errs w0) (hk : k ≤ 2147483647) (hlim : text.size + 1 + (newLines ms).length ≤ 2147483648) :
    Calls Tryd.prog 31 #[.pointer (some ⟨nb, 0, none⟩), .slice SA k c] w fun e w' => ∃ v ev, e = .returned (.tuple #[v, ev]) ∧ NForm w0 r v ev w' := by
  rw [hr]
  exact (noteSign_new nb k c c1 c2 SA A1 A2 text ms w q0 q1 q2 (sl_far hs hb) hok (hT.below hb) (hE.below hb) hk hlim).mono fun e w' h => npost_form hb h

theorem boxed_cell (w : World) (a b : Obj) (cs : Array Value) (t : TypeId) (j : Nat) (v : Value) (h : cs[j]? = some v) : ((((w.alloc a).alloc b).alloc (.cells cs t)).drew).cell? ⟨w.heap.size + 1 + 1, j, none⟩ = some v := by
  have h0 := heap_alloc_new ((w.alloc a).alloc b) (.cells cs t)
  have hs : ((w.alloc a).alloc b).heap.size = w.heap.size + 1 + 1 := by simp
  rw [hs] at h0
  exact (cell_of_row _ _ j cs t _ h0).trans h

/-- what impl.Sign leaves -/
def IPost (w : World) (r : Option (List UInt8)) (e : Ending) (w' : World) : Prop :=
  Below w.heap.size w w' ∧ match r with
  | some x => e = .returned (.tuple #[.string ⟨x.toArray⟩, .bool true])
  | none => e = .returned (.tuple #[.string ⟨#[]⟩, .bool false])

set_option maxHeartbeats 4000000 in
set_option maxRecDepth 100000 in
theorem implSign_new (n c c1 c2 : Nat) (A A1 A2 : Option Addr) (text : ByteArray) (ms : List MV) (w : World) (hs : Sl w w.heap.size 4 A n (encAll MV.cells ms)) (hok : ∀ m ∈ ms, m.Ok) (hT : Tabs w) (hE : Errs w) (hn : n ≤ 2147483647)
    (hlim : text.size + 1 + (newLines ms).length ≤ 2147483648) (r : Option (List UInt8)) (hr : r = if endsNl text && ms.all signs then some (text.data.toList ++ [10] ++ newLines ms) else none) :
    Calls Tryd.prog 14 #[.agg #[.string text, .slice A1 0 c1, .slice A2 0 c2], .slice A n c] w (IPost w r) := by
  obtain ⟨i0, hi, hz0, hz1, hz2⟩ := info_parts signerInfo
  have Hl := Lib.hid (hs.count MV.cells_length (by omega))
  have Hr := Lib.hid hr
  have HT := Lib.hid hT
  have HE := Lib.hid hE
  have Hok := Lib.hid hok
  have hb0 : Below w.heap.size w (w.alloc (.cells #[.string text, .slice A1 0 c1, .slice A2 0 c2] 37)) := (Below.refl _ _).alloc (Nat.le_refl _) _
  have hr0 := heap_alloc_new w (.cells #[.string text, .slice A1 0 c1, .slice A2 0 c2] 37)
  clear hr hT hE hok
  go_enter Tryd.func14, Tryd.ntmps14
  go_upto_region 1 with (fail)
  generalize w.alloc (.cells #[.string text, .slice A1 0 c1, .slice A2 0 c2] 37) = w0 at *
  have Hb0 := Lib.hid hb0
  have Hr0 := Lib.hid hr0
  have hlt0 : w.heap.size < w0.heap.size := (Array.getElem?_eq_some_iff.1 hr0).1
  clear hb0 hr0
  go_wp2
  go_loopw [6, 14] (fun v i wr => ∃ k : Nat, k ≤ n ∧ i = .int .i64 k ∧ Below w0.heap.size w0 wr ∧ wr.ownsRow w0.heap.size 121 1 v k ((ms.take k).map MV.iface)) (fun _ i _ => n - (RowKit.intOf i).toNat)
  case atStart => exact ⟨0, Nat.zero_le _, rfl, (Below.refl _ _).alloc (Nat.le_refl _) _, World.ownsRow_made w0 #[] 0 (Nat.le_refl _) (by simp [maxLen]) rfl⟩
  case round =>
    obtain ⟨k, hk, rfl, hb, hown⟩ := hrel
    by_cases hlt : k < n
    · obtain ⟨b, o, x, rfl, hblt, hx, c0', c1', c2', c3'⟩ := MV.elem ((hs.below Hb0.out).more Hb0.out.size |>.below hb) hlt
      have Hx := Lib.hid hx
      clear hx hs
      have hown1 := (hown.alloc (.cells #[.string x.name, .int .u32 x.hash, .string x.sig, .bool x.fails] 25)).alloc (.cells #[.iface 67 (.agg #[.string x.name, .int .u32 x.hash, .string x.sig, .bool x.fails])] 121)
      go_wp2_with (at_builtin; refine wpList_append_own _ rfl _ _ 65 rfl w0.heap.size 121 i0 _ 1 16 Tryd.underlying65 hi hz0 hz1 hz2 rfl (by decide) _ _ _ rfl hown1 ⟨wr.heap.size + 1, 0, none⟩ 1 1 [x.iface] rfl rfl ?c1 ?c2 ?c3 ?c4 ?c5 ?_)
      case c1 => exact new_cells (by simp)
      case c2 => simp [MV.iface, Value.oneCell']
      case c3 => simp only [maxLen]; omega
      case c4 => omega
      case c5 => have := hb.size; simp; omega
      intro v' w1 hown' hgrow _
      have hbw : Below w0.heap.size w0 w1 := below_own ((hb.alloc hb.size _).alloc (by have := hb.size; simp; omega) _) hown1 hgrow (Nat.le_refl _)
      clear hown1 hown hgrow
      go_wp2
      go_roundw
      case rel => exact ⟨k + 1, by omega, by go_num, hbw, by rw [List.take_add_one, Hx.out, Option.toList_some, List.map_append]; simpa [List.map_take] using hown'⟩
      case measure => simp [RowKit.intOf]; omega
    · clear hs
      obtain rfl : k = n := by omega
      rw [List.take_of_length_le (by have := Hl.out; omega)] at hown
      obtain ⟨A6, c6, rfl, hsl6, hc6, _⟩ := own_slice hown
      have hbr : Below w.heap.size w wr := Hb0.out.trans (hb.mono Hb0.out.size)
      have hrw := (hb.block _ hlt0).trans Hr0.out
      have q0 : wr.cell? ⟨w.heap.size, 0, none⟩ = some (.string text) := cell_of_row _ _ 0 _ _ _ hrw
      have q1 : wr.cell? ⟨w.heap.size, 1, none⟩ = some (.slice A1 0 c1) := cell_of_row _ _ 1 _ _ _ hrw
      have q2 : wr.cell? ⟨w.heap.size, 2, none⟩ = some (.slice A2 0 c2) := cell_of_row _ _ 2 _ _ _ hrw
      have hltw : w.heap.size < wr.heap.size := Nat.lt_of_lt_of_le hlt0 hb.size
      have Hsl6 := Lib.hid hsl6
      have Hbr := Lib.hid hbr
      have Htr := Lib.hid (HT.out.below hbr)
      have Her := Lib.hid (HE.out.below hbr)
      clear hown hsl6 hbr hrw hb
      go_upto_region 7 with (fail)
      go_cut [9, 10] (fun v9 v10 wx => NForm wr r v9 v10 wx)
      case first =>
        have hS : ∀ {w'}, Below wr.heap.size wr w' → (w'.cell? ⟨w.heap.size, 0, none⟩ = some (.string text) ∧ w'.cell? ⟨w.heap.size, 1, none⟩ = some (.slice A1 0 c1) ∧ w'.cell? ⟨w.heap.size, 2, none⟩ = some (.slice A2 0 c2)) ∧ Below wr.heap.size wr w' := fun hb =>
          ⟨⟨(hb.cell (p := ⟨_, _, _⟩) hltw).trans q0, (hb.cell (p := ⟨_, _, _⟩) hltw).trans q1, (hb.cell (p := ⟨_, _, _⟩) hltw).trans q2⟩, hb⟩
        go_region_held3 (fun w' => (w'.cell? ⟨w.heap.size, 0, none⟩ = some (.string text) ∧ w'.cell? ⟨w.heap.size, 1, none⟩ = some (.slice A1 0 c1) ∧ w'.cell? ⟨w.heap.size, 2, none⟩ = some (.slice A2 0 c2)) ∧ Below wr.heap.size wr w')
          ((refine hS ?_
            repeat first | exact Below.refl _ _ | assumption | apply Below.drew | apply alloc_bb))
          (first
            | (go_at_call 32
               refine (out_none _ _ _).mono ?_
               rintro e wo ⟨rfl, rfl⟩)
            | (go_at_call 31
               refine (noteSign_form (wr.heap.size + 1 + 1) k c6 0 0 A6 (some ⟨wr.heap.size, 0, none⟩) (some ⟨wr.heap.size + 1, 0, none⟩) text ms wr _ r Hr.out ?_ ?_ ?_ ?_ Hsl6.out Hok.out Htr.out Her.out hn hlim).mono ?_
               · repeat first | exact Below.refl _ _ | apply Below.drew | apply alloc_bb
               · exact boxed_cell wr _ _ _ _ 0 _ rfl
               · exact boxed_cell wr _ _ _ _ 1 _ rfl
               · exact boxed_cell wr _ _ _ _ 2 _ rfl
               rintro e w9 ⟨v9, ev9, rfl, hform⟩
               have hb9 := hform.1))
        all_goals (
          go_wp2_with (fail)
          go_meet
          case rel => exact hform)
      case rest =>
        have hform := hcut
        rcases r with _ | x
        · obtain ⟨hb9, t9, p9, rfl, rfl⟩ := hform
          have hbw := Hbr.out.trans (hb9.mono Hbr.out.size)
          clear hcut hb9
          have hcv := fun (W : World) => Lib.run_convert_nil_bytes (P := Tryd.prog) W 68 9 5 0 Tryd.underlying68 Tryd.underlying5 Tryd.underlying9
          go_upto_region 8 with (fail)
          go_quiet (fail)
          go_wp2_with (fail)
          go_ret2
          exact ⟨⟨hbw.os, hbw.tape, hbw.output, hbw.size, hbw.block⟩, rfl⟩
        · obtain ⟨hb9, A9, c9, rfl, rfl, hsl9, hc9⟩ := hform
          have hbw := Hbr.out.trans (hb9.mono Hbr.out.size)
          have hx : 0 < x.length := by
            have h := Hr.out
            split at h
            · injection h with h
              rw [h, List.length_append, List.length_append]
              show 0 < _ + 1 + _
              omega
            · cases h
          obtain ⟨b9, o9, rfl, _, hcell9⟩ := hsl9.2 hx
          have hcv := fun (k : Nat) => run_convert_bytes_back (P := Tryd.prog) (wc.drewN k) 68 9 5 ⟨b9, o9, none⟩ c9 x Tryd.underlying68 Tryd.underlying5 Tryd.underlying9 (fun j hj => by
            rw [Lib.addr_add]
            exact hcell9 j _ (by unfold byteCells; rw [List.getElem?_map, List.getElem?_eq_getElem hj]; rfl))
          clear hcut hb9 hsl9 hcell9
          go_upto_region 8 with (fail)
          go_quiet (fail)
          go_wp2_with (fail)
          go_ret2
          exact ⟨⟨hbw.os, hbw.tape, hbw.output, hbw.size, hbw.block⟩, rfl⟩

end Go.Proofs.YtnnbhklkakhkkaaDoor

/-
  THE SIZES: the walk of spec.Small, of a note without signatures.
-/
import Derived.Test.YtnnbhklkakhkkaaDoorMakers
namespace Go.Proofs.YtnnbhklkakhkkaaDoor
open Go.RowKit Go.Lib

theorem MV.elem {w : World} {B n k : Nat} {A : Option Addr} {l : List MV} (h : Sl w B 4 A n (encAll MV.cells l)) (hk : k < n) :
    ∃ b o x, A = some ⟨b, o, none⟩ ∧ b < B ∧ l[k]? = some x ∧ w.cell? ⟨b, o + k * 4, none⟩ = some (.string x.name) ∧ w.cell? ⟨b, o + k * 4 + 1, none⟩ = some (.int .u32 x.hash) ∧ w.cell? ⟨b, o + k * 4 + 2, none⟩ = some (.string x.sig) ∧
      w.cell? ⟨b, o + k * 4 + 3, none⟩ = some (.bool x.fails) := by
  obtain ⟨b, o, x, e, hb, hx, hc⟩ := h.elem MV.cells_length (by omega) hk
  exact ⟨b, o, x, e, hb, hx, hc 0 _ rfl, hc 1 _ rfl, hc 2 _ rfl, hc 3 _ rfl⟩

def small1 (m : MV) : Bool := decide (m.name.size ≤ 60) && decide (m.sig.size ≤ 60)
/-- what spec.Small says of a text and keys -/
def small (text : ByteArray) (ms : List MV) : Bool := decide (text.size ≤ 2000) && (decide (ms.length ≤ 8) && ms.all small1)

theorem append_none (g : Nat) (ty : TypeId) (w : World) : (Builtin.append_ #[27, 27] ty #[.slice (some ⟨g, 0, none⟩) 0 0, .slice none 0 0]).run Tryd.prog w = .ok (.slice (some ⟨g, 0, none⟩) 0 0) w := by
  have hi : ∃ i, Tryd.prog.info? 64 = some i := Option.isSome_iff_exists.1 (by kernel_rfl)
  obtain ⟨i, hi⟩ := hi
  simp [Builtin.append_, run_underlying Tryd.underlying27, sizeOf, typeInfo, hi, Builtin.lenOf, Builtin.firstCells, storeCells]

set_option maxHeartbeats 4000000 in
theorem small_any (n c : Nat) (A : Option Addr) (text : ByteArray) (ms : List MV) (w : World) (hs : Sl w w.heap.size 4 A n (encAll MV.cells ms)) (hn : n ≤ 9223372036854775807) (ht : text.size ≤ 9223372036854775807) (hok : ∀ m ∈ ms, m.Ok) :
    Calls Tryd.prog 13 #[.agg #[.string text, .slice none 0 0, .slice none 0 0], .slice A n c] w fun e w' => e = .returned (.bool (small text ms)) ∧ Below w.heap.size w w' := by
  have Hl := Lib.hid (hs.count MV.cells_length (by omega))
  have Hs := Lib.hid hs
  have Hok := Lib.hid hok
  have hb0 : Below w.heap.size w (w.alloc (.cells #[.string text, .slice none 0 0, .slice none 0 0] 29)) := (Below.refl _ _).alloc (Nat.le_refl _) _
  have Hb0 := Lib.hid hb0
  clear hs hok hb0
  by_cases h1 : 2000 < text.size
  · go_enter Tryd.func13, Tryd.ntmps13
    go_wp2
    go_ret
    exact ⟨ret_bool (by unfold small; rw [decide_eq_false (by omega), Bool.false_and]), Hb0.out⟩
  · by_cases h2 : 8 < n
    · go_enter Tryd.func13, Tryd.ntmps13
      go_wp2
      go_ret
      exact ⟨ret_bool (by unfold small; rw [decide_eq_false (p := ms.length ≤ 8) (by have := Hl.out; omega), Bool.false_and, Bool.and_false]), Hb0.out⟩
    · have happ := append_none
      go_enter Tryd.func13, Tryd.ntmps13
      go_upto_region 3 with (fail)
      go_region
      have hbW : Below w.heap.size w ((w.alloc (.cells #[.string text, .slice none 0 0, .slice none 0 0] 29)).alloc (.cells #[] 64)).drew := (Hb0.out.alloc Hb0.out.size _).drew
      generalize ((w.alloc (.cells #[.string text, .slice none 0 0, .slice none 0 0] 29)).alloc (.cells #[] 64)).drew = W at *
      have HbW := Lib.hid hbW
      clear hbW happ
      go_wp2_with (fail)
      go_loopw [38] (fun v wx => v = .int .i64 0 ∧ wx = W) (fun _ _ => 0)
      case atStart => exact ⟨rfl, rfl⟩
      case round =>
        obtain ⟨rfl, rfl⟩ := hrel
        go_wp2_with (fail)
        go_loopw [55] (fun i wr => ∃ k : Nat, k ≤ n ∧ i = .int .i64 k ∧ Below w.heap.size w wr ∧ (ms.take k).all small1 = true) (fun i _ => n - (RowKit.intOf i).toNat)
        case atStart => exact ⟨0, Nat.zero_le _, rfl, HbW.out, rfl⟩
        case round =>
          obtain ⟨k, hk, rfl, hb, hall⟩ := hrel
          have Hall := Lib.hid hall
          clear hall
          by_cases hlt : k < n
          · obtain ⟨b, o, x, rfl, hblt, hx, c0, c1, c2, c3⟩ := MV.elem (Hs.out.below hb) hlt
            have Hx := Lib.hid hx
            have hbn := (Hok.out x (List.mem_of_getElem? hx)).name
            have hbs := (Hok.out x (List.mem_of_getElem? hx)).sig
            have hbw : Below w.heap.size w (wr.alloc (.cells #[.string x.name, .int .u32 x.hash, .string x.sig, .bool x.fails] 30)) := hb.alloc hb.size _
            clear hx
            by_cases g1 : 60 < x.name.size
            · go_wp2_with (fail)
              go_ret
              refine ⟨ret_bool ?_, hbw⟩
              unfold small
              rw [show ms.all small1 = false from List.all_eq_false.2 ⟨x, List.mem_of_getElem? Hx.out, by simp [small1]; omega⟩, Bool.and_false, Bool.and_false]
            · by_cases g2 : 60 < x.sig.size
              · go_wp2_with (fail)
                go_ret
                refine ⟨ret_bool ?_, hbw⟩
                unfold small
                rw [show ms.all small1 = false from List.all_eq_false.2 ⟨x, List.mem_of_getElem? Hx.out, by simp [small1]; omega⟩, Bool.and_false, Bool.and_false]
              · go_wp2_with (fail)
                go_roundw
                case rel => exact ⟨k + 1, by omega, by go_num, hbw, by rw [List.take_add_one, Hx.out, List.all_append, Hall.out]; simp [small1]; omega⟩
                case measure => simp [RowKit.intOf]; omega
          · go_wp2_with (fail)
            go_ret
            refine ⟨ret_bool ?_, hb⟩
            have hh := Hall.out
            rw [List.take_of_length_le (by have := Hl.out; omega)] at hh
            unfold small
            rw [hh, Bool.and_true, decide_eq_true (p := ms.length ≤ 8) (by have := Hl.out; omega), decide_eq_true (by omega)]
            rfl

end Go.Proofs.YtnnbhklkakhkkaaDoor

/-
  The walks of impl.verifiers and of the methods of impl.verifier.
-/
import Derived.Test.YtnnbhklkakhkkaaDoorConvKeys
namespace Go.Proofs.YtnnbhklkakhkkaaDoor
open Go.RowKit

theorem ifaceInfo : (Tryd.prog.info? 150).map (fun i => (i.zero, i.size, i.bytes)) = some (some .nilIface, 1, 16) := by kernel_rfl

/-- a key as the interface value that impl.verifiers makes of it -/
def KV.iface (k : KV) : Value := .iface 158 k.val
def vCells (l : List KV) : List Value := l.map KV.iface

set_option maxHeartbeats 400000 in
theorem verifiers_any (A : Option Addr) (n c : Nat) (l : List KV) (w : World) (hs : Sl w w.heap.size 4 A n (encAll KV.cells l)) (hn : n ≤ 2147483660) :
    Calls Tryd.prog 47 #[.slice A n c] w fun e w' => ∃ v, e = .returned v ∧ w'.ownsRow w.heap.size 150 1 v n (vCells l) ∧ Below w.heap.size w w' := by
  obtain ⟨i0, hi, hz0, hz1, hz2⟩ := info_parts ifaceInfo
  have Hl := Lib.hid (hs.count KV.cells_length (by omega))
  go_enter Tryd.func47, Tryd.ntmps47
  go_wp2
  go_loopw [3, 9] (fun v i wr => ∃ k : Nat, k ≤ n ∧ i = .int .i64 k ∧ Below w.heap.size w wr ∧ wr.ownsRow w.heap.size 150 1 v k (vCells (l.take k))) (fun _ i _ => n - (intOf i).toNat)
  case atStart => exact ⟨0, Nat.zero_le _, rfl, (Below.refl _ _).alloc (Nat.le_refl _) _, World.ownsRow_made w #[] 0 (Nat.le_refl _) (by simp [maxLen]) rfl⟩
  case round =>
    obtain ⟨k, hk, rfl, hb, hown⟩ := hrel
    by_cases hlt : k < n
    · obtain ⟨b, o, x, rfl, hblt, hx, c0, c1, c2, c3⟩ := KV.elem (hs.below hb) hlt
      have Hx := Lib.hid hx
      clear hx hs
      have hown1 := (hown.alloc (.cells #[.string x.name, .int .u32 x.hash, .slice x.ta x.tn x.tc, .slice x.sa x.sn x.sc] 110)).alloc (.cells #[.iface 158 (.agg #[.string x.name, .int .u32 x.hash, .slice x.ta x.tn x.tc, .slice x.sa x.sn x.sc])] 150)
      go_wp2_with (at_builtin; refine wpList_append_own _ rfl _ _ 100 rfl w.heap.size 150 i0 _ 1 16 Tryd.underlying100 hi hz0 hz1 hz2 rfl (by decide) _ _ _ rfl hown1 ⟨wr.heap.size + 1, 0, none⟩ 1 1 [x.iface] rfl rfl ?c1 ?c2 ?c3 ?c4 ?c5 ?_)
      case c1 => exact new_cells (by simp)
      case c2 => simp [KV.iface, Value.oneCell']
      case c3 => simp only [maxLen]; omega
      case c4 => omega
      case c5 => have := hb.size; simp; omega
      intro v' w1 hown' hgrow _
      have hbw : Below w.heap.size w w1 := below_own ((hb.alloc hb.size _).alloc (by have := hb.size; simp; omega) _) hown1 hgrow (Nat.le_refl _)
      clear hown1 hown hgrow
      go_wp2
      go_roundw
      case rel => exact ⟨k + 1, by omega, by go_num, hbw, by rw [List.take_add_one, Hx.out, Option.toList_some]; simpa [vCells] using hown'⟩
      case measure => simp [intOf]; omega
    · clear hs
      go_wp2
      go_ret
      obtain rfl : k = n := by omega
      rw [List.take_of_length_le (by have := Hl.out; omega)] at hown
      exact ⟨u3, rfl, hown, hb⟩

set_option maxHeartbeats 400000 in
theorem vName_any (k : KV) (w : World) :
    Calls Tryd.prog 126 #[k.val] w fun e w' => e = .returned (.string k.name) ∧ Below w.heap.size w w' := by
  obtain ⟨nm, hs, ta, tn, tc, sa, sn, sc, ts, ss⟩ := k
  dsimp only [KV.val]
  go_enter Tryd.func126, Tryd.ntmps126
  go_wp2
  go_ret
  exact ⟨rfl, (Below.refl _ _).alloc (Nat.le_refl _) _⟩

set_option maxHeartbeats 400000 in
theorem vHash_any (k : KV) (w : World) :
    Calls Tryd.prog 125 #[k.val] w fun e w' => e = .returned (.int .u32 k.hash) ∧ Below w.heap.size w w' := by
  obtain ⟨nm, hs, ta, tn, tc, sa, sn, sc, ts, ss⟩ := k
  dsimp only [KV.val]
  go_enter Tryd.func125, Tryd.ntmps125
  go_wp2
  go_ret
  exact ⟨rfl, (Below.refl _ _).alloc (Nat.le_refl _) _⟩

/-- a method of impl.verifier, called through the interface -/
theorem vName_method (v : Value) (w : World) : (method 330 158 v "Name").run Tryd.prog w = .ok (126, v) w := by kernel_rfl
theorem vHash_method (v : Value) (w : World) : (method 330 158 v "KeyHash").run Tryd.prog w = .ok (125, v) w := by kernel_rfl

end Go.Proofs.YtnnbhklkakhkkaaDoor

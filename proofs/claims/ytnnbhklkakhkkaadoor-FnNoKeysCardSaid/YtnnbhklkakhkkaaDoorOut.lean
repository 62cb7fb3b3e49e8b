/-
  SIGNATURES as data, and the walk of impl.out: a list of them is copied.
-/
import Derived.Test.YtnnbhklkakhkkaaDoorBase
namespace Go.Proofs.YtnnbhklkakhkkaaDoor
open Go.RowKit

structure SV where
  name : ByteArray
  hash : Int
  b64 : ByteArray
def SV.cells (s : SV) : List Value := [.string s.name, .int .u32 s.hash, .string s.b64]
theorem SV.cells_length (s : SV) : s.cells.length = 3 := rfl
theorem SV.oneCells (s : SV) : ∀ u ∈ s.cells, u.oneCell' = true := by
  intro u hu
  simp [SV.cells] at hu
  rcases hu with rfl | rfl | rfl <;> rfl
theorem SV.elem {w : World} {B n k : Nat} {A : Option Addr} {l : List SV} (h : Sl w B 3 A n (encAll SV.cells l)) (hk : k < n) :
    ∃ b o x, A = some ⟨b, o, none⟩ ∧ b < B ∧ l[k]? = some x ∧ w.cell? ⟨b, o + k * 3, none⟩ = some (.string x.name) ∧ w.cell? ⟨b, o + k * 3 + 1, none⟩ = some (.int .u32 x.hash) ∧ w.cell? ⟨b, o + k * 3 + 2, none⟩ = some (.string x.b64) := by
  obtain ⟨b, o, x, e, hb, hx, hc⟩ := h.elem SV.cells_length (by omega) hk
  exact ⟨b, o, x, e, hb, hx, hc 0 _ rfl, hc 1 _ rfl, hc 2 _ rfl⟩

theorem noteSigInfo : (Tryd.prog.info? 134).map (fun i => (i.zero, i.size, i.bytes)) = some (some (.agg #[.string .empty, .int .u32 0, .string .empty]), 3, 40) := by kernel_rfl

set_option maxHeartbeats 1000000 in
theorem out_any (A : Option Addr) (n c : Nat) (l : List SV) (w : World) (hs : Sl w w.heap.size 3 A n (encAll SV.cells l)) (hn : n ≤ 2147483648) :
    Calls Tryd.prog 32 #[.slice A n c] w fun e w' => ∃ v, e = .returned v ∧ w'.ownsRow w.heap.size 134 3 v n (encAll SV.cells l) ∧ Below w.heap.size w w' := by
  obtain ⟨i0, hi, hz0, hz1, hz2⟩ := info_parts noteSigInfo
  have Hl := Lib.hid (hs.count SV.cells_length (by omega))
  go_enter Tryd.func32, Tryd.ntmps32
  go_wp2
  go_loopw [3, 9] (fun v i wr => ∃ k : Nat, k ≤ n ∧ i = .int .i64 k ∧ Below w.heap.size w wr ∧ wr.ownsRow w.heap.size 134 3 v k (encAll SV.cells (l.take k))) (fun _ i _ => n - (intOf i).toNat)
  case atStart => exact ⟨0, Nat.zero_le _, rfl, (Below.refl _ _).alloc (Nat.le_refl _) _, World.ownsRow_made w #[] 0 (Nat.le_refl _) (by simp [maxLen]) rfl⟩
  case round =>
    obtain ⟨k, hk, rfl, hb, hown⟩ := hrel
    by_cases hlt : k < n
    · obtain ⟨b, o, x, rfl, hblt, hx, c0, c1, c2⟩ := SV.elem (hs.below hb) hlt
      have Hx := Lib.hid hx
      clear hx hs
      have hown1 := (hown.alloc (.cells #[.string x.name, .int .u32 x.hash, .string x.b64] 106)).alloc (.cells #[.string x.name, .int .u32 x.hash, .string x.b64] 134)
      go_wp2_with (at_builtin; refine wpList_append_own _ rfl _ _ 74 rfl w.heap.size 134 i0 _ 3 40 Tryd.underlying74 hi hz0 hz1 hz2 rfl (by decide) _ _ _ rfl hown1 ⟨wr.heap.size + 1, 0, none⟩ 1 1 x.cells rfl rfl ?c1 ?c2 ?c3 ?c4 ?c5 ?_)
      case c1 => exact new_cells (by simp)
      case c2 => exact SV.oneCells x
      case c3 => simp only [maxLen]; omega
      case c4 => omega
      case c5 => have := hb.size; simp; omega
      intro v' w1 hown' hgrow _
      have hbw : Below w.heap.size w w1 := below_own ((hb.alloc hb.size _).alloc (by have := hb.size; simp; omega) _) hown1 hgrow (Nat.le_refl _)
      clear hown1 hown hgrow
      go_wp2
      go_roundw
      case rel => exact ⟨k + 1, by omega, by go_num, hbw, by rw [List.take_add_one, Hx.out, Option.toList_some, encAll_append, encAll_one]; exact hown'⟩
      case measure => simp [intOf]; omega
    · clear hs
      go_wp2
      go_ret
      obtain rfl : k = n := by omega
      rw [List.take_of_length_le (by have := Hl.out; omega)] at hown
      exact ⟨u3, rfl, hown, hb⟩

end Go.Proofs.YtnnbhklkakhkkaaDoor

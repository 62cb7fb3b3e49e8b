/-
  NOTES AND KEYS THAT SIGN, copied and measured: the walks of laws.sigs, makers, conv, zzFits6, zzFits5, zzFits7, zzFits4.
-/
import Derived.Test.YtnnbhklkakhkkaaDoorSmall
import Derived.Test.YtnnbhklkakhkkaaDoorOut
namespace Go.Proofs.YtnnbhklkakhkkaaDoor
open Go.RowKit Go.Lib

theorem specSigInfo : (Tryd.prog.info? 64).map (fun i => (i.zero, i.size, i.bytes)) = some (some (.agg #[.string .empty, .int .u32 0, .string .empty]), 3, 40) := by kernel_rfl
theorem specMakerInfo : (Tryd.prog.info? 30).map (fun i => (i.zero, i.size, i.bytes)) = some (some (.agg #[.string .empty, .int .u32 0, .string .empty, .bool false]), 4, 48) := by kernel_rfl
theorem MV.oneCells (s : MV) : ∀ u ∈ s.cells, u.oneCell' = true := by
  intro u hu
  simp [MV.cells] at hu
  rcases hu with rfl | rfl | rfl | rfl <;> rfl

set_option maxHeartbeats 1000000 in
theorem sigs_any (A : Option Addr) (n c : Nat) (l : List SV) (w : World) (hs : Sl w w.heap.size 3 A n (encAll SV.cells l)) (hn : n ≤ 2147483648) :
    Calls Tryd.prog 34 #[.slice A n c] w fun e w' => ∃ v, e = .returned v ∧ w'.ownsRow w.heap.size 64 3 v n (encAll SV.cells l) ∧ Below w.heap.size w w' := by
  obtain ⟨i0, hi, hz0, hz1, hz2⟩ := info_parts specSigInfo
  have Hl := Lib.hid (hs.count SV.cells_length (by omega))
  go_enter Tryd.func34, Tryd.ntmps34
  go_wp2
  go_loopw [3, 9] (fun v i wr => ∃ k : Nat, k ≤ n ∧ i = .int .i64 k ∧ Below w.heap.size w wr ∧ wr.ownsRow w.heap.size 64 3 v k (encAll SV.cells (l.take k))) (fun _ i _ => n - (intOf i).toNat)
  case atStart => exact ⟨0, Nat.zero_le _, rfl, (Below.refl _ _).alloc (Nat.le_refl _) _, World.ownsRow_made w #[] 0 (Nat.le_refl _) (by simp [maxLen]) rfl⟩
  case round =>
    obtain ⟨k, hk, rfl, hb, hown⟩ := hrel
    by_cases hlt : k < n
    · obtain ⟨b, o, x, rfl, hblt, hx, c0, c1, c2⟩ := SV.elem (hs.below hb) hlt
      have Hx := Lib.hid hx
      clear hx hs
      have hown1 := (hown.alloc (.cells #[.string x.name, .int .u32 x.hash, .string x.b64] 106)).alloc (.cells #[.string x.name, .int .u32 x.hash, .string x.b64] 64)
      go_wp2_with (at_builtin; refine wpList_append_own _ rfl _ _ 27 rfl w.heap.size 64 i0 _ 3 40 Tryd.underlying27 hi hz0 hz1 hz2 rfl (by decide) _ _ _ rfl hown1 ⟨wr.heap.size + 1, 0, none⟩ 1 1 x.cells rfl rfl ?c1 ?c2 ?c3 ?c4 ?c5 ?_)
      case c1 => exact new_cells (by simp)
      case c2 => exact SV.oneCells x
      case c3 => simp only [maxLen]; omega
      case c4 => omega
      case c5 => have := hb.size; simp; omega
      intro v' w1 hown' hgrow _
      have hbw : Below w.heap.size w w1 := below_own ((hb.alloc hb.size _).alloc (by have := hb.size; simp; omega) _) hown1 hgrow (Nat.le_refl _)
      clear hown1 hown hgrow
      go_wp2
      go_roundw
      case rel => exact ⟨k + 1, by omega, by go_num, hbw, by rw [List.take_add_one, Hx.out, Option.toList_some, encAll_append, encAll_one]; exact hown'⟩
      case measure => simp [intOf]; omega
    · clear hs
      go_wp2
      go_ret
      obtain rfl : k = n := by omega
      rw [List.take_of_length_le (by have := Hl.out; omega)] at hown
      exact ⟨u3, rfl, hown, hb⟩

set_option maxHeartbeats 1000000 in
theorem makers_any (A : Option Addr) (n c : Nat) (l : List MV) (w : World) (hs : Sl w w.heap.size 4 A n (encAll MV.cells l)) (hn : n ≤ 2147483648) :
    Calls Tryd.prog 18 #[.slice A n c] w fun e w' => ∃ v, e = .returned v ∧ w'.ownsRow w.heap.size 30 4 v n (encAll MV.cells l) ∧ Below w.heap.size w w' := by
  obtain ⟨i0, hi, hz0, hz1, hz2⟩ := info_parts specMakerInfo
  have Hl := Lib.hid (hs.count MV.cells_length (by omega))
  go_enter Tryd.func18, Tryd.ntmps18
  go_wp2
  go_loopw [3, 9] (fun v i wr => ∃ k : Nat, k ≤ n ∧ i = .int .i64 k ∧ Below w.heap.size w wr ∧ wr.ownsRow w.heap.size 30 4 v k (encAll MV.cells (l.take k))) (fun _ i _ => n - (intOf i).toNat)
  case atStart => exact ⟨0, Nat.zero_le _, rfl, (Below.refl _ _).alloc (Nat.le_refl _) _, World.ownsRow_made w #[] 0 (Nat.le_refl _) (by simp [maxLen]) rfl⟩
  case round =>
    obtain ⟨k, hk, rfl, hb, hown⟩ := hrel
    by_cases hlt : k < n
    · obtain ⟨b, o, x, rfl, hblt, hx, c0, c1, c2, c3⟩ := MV.elem (hs.below hb) hlt
      have Hx := Lib.hid hx
      clear hx hs
      have hown1 := (hown.alloc (.cells #[.string x.name, .int .u32 x.hash, .string x.sig, .bool x.fails] 25)).alloc (.cells #[.string x.name, .int .u32 x.hash, .string x.sig, .bool x.fails] 30)
      go_wp2_with (at_builtin; refine wpList_append_own _ rfl _ _ 31 rfl w.heap.size 30 i0 _ 4 48 Tryd.underlying31 hi hz0 hz1 hz2 rfl (by decide) _ _ _ rfl hown1 ⟨wr.heap.size + 1, 0, none⟩ 1 1 x.cells rfl rfl ?c1 ?c2 ?c3 ?c4 ?c5 ?_)
      case c1 => exact new_cells (by simp)
      case c2 => exact MV.oneCells x
      case c3 => simp only [maxLen]; omega
      case c4 => omega
      case c5 => have := hb.size; simp; omega
      intro v' w1 hown' hgrow _
      have hbw : Below w.heap.size w w1 := below_own ((hb.alloc hb.size _).alloc (by have := hb.size; simp; omega) _) hown1 hgrow (Nat.le_refl _)
      clear hown1 hown hgrow
      go_wp2
      go_roundw
      case rel => exact ⟨k + 1, by omega, by go_num, hbw, by rw [List.take_add_one, Hx.out, Option.toList_some, encAll_append, encAll_one]; exact hown'⟩
      case measure => simp [intOf]; omega
    · clear hs
      go_wp2
      go_ret
      obtain rfl : k = n := by omega
      rw [List.take_of_length_le (by have := Hl.out; omega)] at hown
      exact ⟨u3, rfl, hown, hb⟩

/-- its numbers are numbers -/
structure SV.Ok (s : SV) : Prop where
  name : s.name.size ≤ 9223372036854775807
  b64 : s.b64.size ≤ 9223372036854775807
  lo : 0 ≤ s.hash
  hi : s.hash < 4294967296
def zf6 (s : SV) : Bool := decide (s.name.size ≤ 2147483647) && decide (s.b64.size ≤ 2147483647)
def zf5 (l : List SV) : Bool := decide (l.length ≤ 2147483647) && l.all zf6
def zf7 (l : List MV) : Bool := decide (l.length ≤ 2147483647) && l.all fits8
def zf4 (text : ByteArray) (l1 l2 : List SV) : Bool := decide (text.size ≤ 2147483647) && (zf5 l1 && zf5 l2)

set_option maxHeartbeats 400000 in
theorem zzFits6_any (s : SV) (w : World) (ok : s.Ok) : Calls Tryd.prog 60 #[.agg #[.string s.name, .int .u32 s.hash, .string s.b64]] w fun e w' => e = .returned (.bool (zf6 s)) ∧ Below w.heap.size w w' := by
  obtain ⟨nm, hs, sg⟩ := s
  have h1 := ok.name
  have h2 := ok.b64
  clear ok
  dsimp only at *
  by_cases hbig : 2147483647 < nm.size
  · go_enter Tryd.func60, Tryd.ntmps60
    go_wp2
    go_ret
    exact ⟨ret_bool (by unfold zf6; rw [decide_eq_false (by simp; omega), Bool.false_and]), (Below.refl _ _).alloc (Nat.le_refl _) _⟩
  · by_cases hbig2 : 2147483647 < sg.size
    · go_enter Tryd.func60, Tryd.ntmps60
      go_wp2
      go_ret
      exact ⟨ret_bool (by unfold zf6; rw [Bool.and_comm, decide_eq_false (by simp; omega), Bool.false_and]), (Below.refl _ _).alloc (Nat.le_refl _) _⟩
    · go_enter Tryd.func60, Tryd.ntmps60
      go_wp2
      go_ret
      exact ⟨ret_bool (by unfold zf6; simp; omega), (Below.refl _ _).alloc (Nat.le_refl _) _⟩

theorem all_false_cn {α : Type} {p : α → Bool} {l : List α} {k : Nat} {x : α} (h : l[k]? = some x) (hp : p x = false) : l.all p = false := by
  rw [List.all_eq_false]
  exact ⟨x, List.mem_of_getElem? h, by simp [hp]⟩
theorem all_next_cn {α : Type} {p : α → Bool} {l : List α} {k : Nat} {x : α} (h : l[k]? = some x) : (l.take (k + 1)).all p = ((l.take k).all p && p x) := by
  rw [List.take_add_one, h, List.all_append]
  simp

set_option maxHeartbeats 400000 in
theorem zzFits5_any (A : Option Addr) (n c : Nat) (l : List SV) (w : World) (hs : Sl w w.heap.size 3 A n (encAll SV.cells l)) (hn : n ≤ 9223372036854775807) (hok : ∀ x ∈ l, x.Ok) :
    Calls Tryd.prog 33 #[.slice A n c] w fun e w' => e = .returned (.bool (zf5 l)) ∧ Below w.heap.size w w' := by
  have Hl := Lib.hid (hs.count SV.cells_length (by omega))
  by_cases hbig : 2147483647 < n
  · go_enter Tryd.func33, Tryd.ntmps33
    go_wp2
    go_ret
    exact ⟨ret_bool (by have := Hl.out; simp [zf5]; omega), Below.refl _ _⟩
  · go_enter Tryd.func33, Tryd.ntmps33
    go_wp2
    go_loopw [10] (fun i wr => ∃ k : Nat, k ≤ n ∧ i = .int .i64 k ∧ Below w.heap.size w wr ∧ (l.take k).all zf6 = true) (fun i _ => n - (intOf i).toNat)
    case atStart => exact ⟨0, Nat.zero_le _, rfl, Below.refl _ _, by simp⟩
    case round =>
      obtain ⟨k, hk, rfl, hb, hall⟩ := hrel
      have Hall := Lib.hid hall
      clear hall
      by_cases hlt : k < n
      · obtain ⟨b, o, x, rfl, hblt, hx, c0, c1, c2⟩ := SV.elem (hs.below hb) hlt
        have hok' := hok x (List.mem_of_getElem? hx)
        have Hx := Lib.hid hx
        have hwa : Below wr.heap.size wr (wr.alloc (.cells #[.string x.name, .int .u32 x.hash, .string x.b64] 106)) := (Below.refl _ _).alloc (Nat.le_refl _) _
        have c := zzFits6_any x (wr.alloc (.cells #[.string x.name, .int .u32 x.hash, .string x.b64] 106)) hok'
        clear hx hs hok hok'
        go_wp2_with (fail)
        refine c.mono ?_
        rintro e w1 ⟨rfl, hb1⟩
        have hbw : Below w.heap.size w w1 := hb.trans ((hwa.mono hb.size).trans (hb1.mono (by have := hb.size; simp; omega)))
        clear c
        cases hf : zf6 x
        · go_wp2_with (fail)
          go_ret
          exact ⟨ret_bool (by unfold zf5; rw [all_false_cn Hx.out hf, Bool.and_false]), hbw⟩
        · go_wp2_with (fail)
          go_roundw
          case rel => exact ⟨k + 1, by omega, by go_num, hbw, by rw [all_next_cn Hx.out, Hall.out, hf]; rfl⟩
          case measure => simp [intOf]; omega
      · clear hs hok
        go_wp2
        go_ret
        refine ⟨ret_bool ?_, hb⟩
        have hh := Hall.out
        rw [List.take_of_length_le (by have := Hl.out; omega)] at hh
        unfold zf5
        rw [hh, Bool.and_true]
        have := Hl.out
        simp; omega

set_option maxHeartbeats 400000 in
theorem zzFits7_any (A : Option Addr) (n c : Nat) (l : List MV) (w : World) (hs : Sl w w.heap.size 4 A n (encAll MV.cells l)) (hn : n ≤ 9223372036854775807) (hok : ∀ x ∈ l, x.Ok) :
    Calls Tryd.prog 16 #[.slice A n c] w fun e w' => e = .returned (.bool (zf7 l)) ∧ Below w.heap.size w w' := by
  have Hl := Lib.hid (hs.count MV.cells_length (by omega))
  by_cases hbig : 2147483647 < n
  · go_enter Tryd.func16, Tryd.ntmps16
    go_wp2
    go_ret
    exact ⟨ret_bool (by have := Hl.out; simp [zf7]; omega), Below.refl _ _⟩
  · go_enter Tryd.func16, Tryd.ntmps16
    go_wp2
    go_loopw [10] (fun i wr => ∃ k : Nat, k ≤ n ∧ i = .int .i64 k ∧ Below w.heap.size w wr ∧ (l.take k).all fits8 = true) (fun i _ => n - (intOf i).toNat)
    case atStart => exact ⟨0, Nat.zero_le _, rfl, Below.refl _ _, by simp⟩
    case round =>
      obtain ⟨k, hk, rfl, hb, hall⟩ := hrel
      have Hall := Lib.hid hall
      clear hall
      by_cases hlt : k < n
      · obtain ⟨b, o, x, rfl, hblt, hx, c0, c1, c2, c3⟩ := MV.elem (hs.below hb) hlt
        have hok' := hok x (List.mem_of_getElem? hx)
        have Hx := Lib.hid hx
        have hwa : Below wr.heap.size wr (wr.alloc (.cells #[.string x.name, .int .u32 x.hash, .string x.sig, .bool x.fails] 25)) := (Below.refl _ _).alloc (Nat.le_refl _) _
        have c := zzFits8_any x (wr.alloc (.cells #[.string x.name, .int .u32 x.hash, .string x.sig, .bool x.fails] 25)) hok'
        dsimp only [MV.val] at c
        clear hx hs hok hok'
        go_wp2_with (fail)
        refine c.mono ?_
        rintro e w1 ⟨rfl, hb1⟩
        have hbw : Below w.heap.size w w1 := hb.trans ((hwa.mono hb.size).trans (hb1.mono (by have := hb.size; simp; omega)))
        clear c
        cases hf : fits8 x
        · go_wp2_with (fail)
          go_ret
          exact ⟨ret_bool (by unfold zf7; rw [all_false_cn Hx.out hf, Bool.and_false]), hbw⟩
        · go_wp2_with (fail)
          go_roundw
          case rel => exact ⟨k + 1, by omega, by go_num, hbw, by rw [all_next_cn Hx.out, Hall.out, hf]; rfl⟩
          case measure => simp [intOf]; omega
      · clear hs hok
        go_wp2
        go_ret
        refine ⟨ret_bool ?_, hb⟩
        have hh := Hall.out
        rw [List.take_of_length_le (by have := Hl.out; omega)] at hh
        unfold zf7
        rw [hh, Bool.and_true]
        have := Hl.out
        simp; omega

set_option maxHeartbeats 1000000 in
theorem zzFits4_any (A1 A2 : Option Addr) (n1 c1 n2 c2 : Nat) (text : ByteArray) (l1 l2 : List SV) (w : World) (hs1 : Sl w w.heap.size 3 A1 n1 (encAll SV.cells l1)) (hs2 : Sl w w.heap.size 3 A2 n2 (encAll SV.cells l2))
    (hn1 : n1 ≤ 9223372036854775807) (hn2 : n2 ≤ 9223372036854775807) (ht : text.size ≤ 9223372036854775807) (hok1 : ∀ x ∈ l1, x.Ok) (hok2 : ∀ x ∈ l2, x.Ok) :
    Calls Tryd.prog 15 #[.agg #[.string text, .slice A1 n1 c1, .slice A2 n2 c2]] w fun e w' => e = .returned (.bool (zf4 text l1 l2)) ∧ Below w.heap.size w w' := by
  have hw : Below w.heap.size w (w.alloc (.cells #[.string text, .slice A1 n1 c1, .slice A2 n2 c2] 37)) := (Below.refl _ _).alloc (Nat.le_refl _) _
  by_cases hbig : 2147483647 < text.size
  · go_enter Tryd.func15, Tryd.ntmps15
    go_wp2
    go_ret
    exact ⟨ret_bool (by unfold zf4; rw [decide_eq_false (by omega), Bool.false_and]), hw⟩
  · have d1 := Lib.hid (zzFits5_any A1 n1 c1 l1 (w.alloc (.cells #[.string text, .slice A1 n1 c1, .slice A2 n2 c2] 37)) ((hs1.below hw).more (by simp)) hn1 hok1)
    go_enter Tryd.func15, Tryd.ntmps15
    go_wp2_with (fail)
    refine d1.out.mono ?_
    clear d1
    rintro e w1 ⟨rfl, hb1⟩
    have f2 : w1.cell? ⟨w.heap.size, 2, none⟩ = some (.slice A2 n2 c2) := by rw [hb1.cell (by simp)]; simp
    have hbw : Below w.heap.size w w1 := hw.trans (hb1.mono (by simp))
    have d2 := Lib.hid (zzFits5_any A2 n2 c2 l2 w1 ((hs2.below hbw).more hbw.size) hn2 hok2)
    cases hf : zf5 l1
    · go_wp2_with (fail)
      go_ret
      exact ⟨ret_bool (by unfold zf4; rw [hf, Bool.false_and, Bool.and_false]), hbw⟩
    · go_wp2_with (fail)
      refine d2.out.mono ?_
      clear d2
      rintro e w2 ⟨rfl, hb2⟩
      have hbw2 : Below w.heap.size w w2 := hbw.trans (hb2.mono hbw.size)
      cases hg : zf5 l2
      · go_wp2_with (fail)
        go_ret
        exact ⟨ret_bool (by unfold zf4; rw [hg, Bool.and_false, Bool.and_false]), hbw2⟩
      · go_wp2_with (fail)
        go_ret
        exact ⟨ret_bool (by unfold zf4; rw [hf, hg, decide_eq_true (by omega)]; rfl), hbw2⟩

end Go.Proofs.YtnnbhklkakhkkaaDoor

/-
  The walks of laws.keys, spec.Find and spec.Good: a list of keys is copied, searched, looked through.
-/
import Derived.Test.YtnnbhklkakhkkaaKeys
import Derived.Test.YtnnbhklkakhkkaaPlus
namespace Go.Proofs.Ytnnbhklkakhkkaa
open Go.RowKit

theorem specKeyInfo : (Try.prog.info? 37).map (fun i => (i.zero, i.size, i.bytes)) = some (some (.agg #[.string .empty, .int .u32 0, .slice none 0 0, .slice none 0 0]), 4, 72) := by kernel_rfl

theorem KV.oneCells (k : KV) : ∀ u ∈ k.cells, u.oneCell' = true := by
  intro u hu
  simp [KV.cells] at hu
  rcases hu with rfl | rfl | rfl | rfl <;> rfl

set_option maxHeartbeats 400000 in
theorem keys_any (A : Option Addr) (n c : Nat) (l : List KV) (w : World) (hs : Sl w w.heap.size 4 A n (encAll KV.cells l)) (hn : n ≤ 2147483648) :
    Calls Try.prog 6 #[.slice A n c] w fun e w' => ∃ v, e = .returned v ∧ w'.ownsRow w.heap.size 37 4 v n (encAll KV.cells l) ∧ Below w.heap.size w w' := by
  obtain ⟨i0, hi, hz0, hz1, hz2⟩ := info_parts specKeyInfo
  have Hl := Lib.hid (hs.count KV.cells_length (by omega))
  go_enter Try.func6, Try.ntmps6
  go_wp2
  go_loopw [3, 9] (fun v i wr => ∃ k : Nat, k ≤ n ∧ i = .int .i64 k ∧ Below w.heap.size w wr ∧ wr.ownsRow w.heap.size 37 4 v k (encAll KV.cells (l.take k))) (fun _ i _ => n - (intOf i).toNat)
  case atStart => exact ⟨0, Nat.zero_le _, rfl, (Below.refl _ _).alloc (Nat.le_refl _) _, World.ownsRow_made w #[] 0 (Nat.le_refl _) (by simp [maxLen]) rfl⟩
  case round =>
    obtain ⟨k, hk, rfl, hb, hown⟩ := hrel
    by_cases hlt : k < n
    · obtain ⟨b, o, x, rfl, hblt, hx, c0, c1, c2, c3⟩ := KV.elem (hs.below hb) hlt
      have Hx := Lib.hid hx
      clear hx hs
      have hown1 := (hown.alloc (.cells #[.string x.name, .int .u32 x.hash, .slice x.ta x.tn x.tc, .slice x.sa x.sn x.sc] 30)).alloc (.cells #[.string x.name, .int .u32 x.hash, .slice x.ta x.tn x.tc, .slice x.sa x.sn x.sc] 37)
      go_wp2_with (at_builtin; refine wpList_append_own _ rfl _ _ 25 rfl w.heap.size 37 i0 _ 4 72 Try.underlying25 hi hz0 hz1 hz2 rfl (by decide) _ _ _ rfl hown1 ⟨wr.heap.size + 1, 0, none⟩ 1 1 x.cells rfl rfl ?c1 ?c2 ?c3 ?c4 ?c5 ?_)
      case c1 => exact new_cells (by simp)
      case c2 => exact KV.oneCells x
      case c3 => simp only [maxLen]; omega
      case c4 => omega
      case c5 => have := hb.size; simp; omega
      intro v' w1 hown' hgrow _
      have hbw : Below w.heap.size w w1 := below_own ((hb.alloc hb.size _).alloc (by have := hb.size; simp; omega) _) hown1 hgrow (Nat.le_refl _)
      clear hown1 hown hgrow
      go_wp2
      go_roundw
      case rel => exact ⟨k + 1, by omega, by go_num, hbw, by rw [List.take_add_one, Hx.out, Option.toList_some, encAll_append, encAll_one]; exact hown'⟩
      case measure => simp [intOf]; omega
    · clear hs
      go_wp2
      go_ret
      obtain rfl : k = n := by omega
      rw [List.take_of_length_le (by have := Hl.out; omega)] at hown
      exact ⟨u3, rfl, hown, hb⟩


/-- the place of a key in a list, or its length -/
def findIdx (l : List KV) (name : ByteArray) (hash : Int) : Nat := l.findIdx fun k => decide (k.name = name ∧ k.hash = hash)
/-- what spec.Find gives -/
def find (l : List KV) (name : ByteArray) (hash : Int) : Int := if findIdx l name hash < l.length then (findIdx l name hash : Int) else -1

theorem find_at {l : List KV} {name : ByteArray} {hash : Int} {k : Nat} {x : KV} (h : l[k]? = some x) (hk : findIdx (l.take k) name hash = k) (hx : x.name = name ∧ x.hash = hash) : find l name hash = k := by
  obtain ⟨hlt, hget⟩ := List.getElem?_eq_some_iff.1 h
  have hi : findIdx l name hash = k := by
    have e : l = l.take k ++ x :: l.drop (k + 1) := by
      conv => lhs; rw [← List.take_append_drop k l, List.drop_eq_getElem_cons hlt, hget]
    unfold findIdx at hk ⊢
    have hl : (l.take k).length = k := by rw [List.length_take]; omega
    rw [e, List.findIdx_append, List.findIdx_cons]
    simp only [hx, and_self, decide_true, cond_true, hl, hk]
    simp
  simp [find, hi, hlt]

theorem find_step {l : List KV} {name : ByteArray} {hash : Int} {k : Nat} {x : KV} (h : l[k]? = some x) (hk : findIdx (l.take k) name hash = k) (hx : ¬(x.name = name ∧ x.hash = hash)) : findIdx (l.take (k + 1)) name hash = k + 1 := by
  obtain ⟨hlt, hget⟩ := List.getElem?_eq_some_iff.1 h
  have hl : (l.take k).length = k := by rw [List.length_take]; omega
  unfold findIdx at hk ⊢
  rw [List.take_add_one, h, Option.toList_some, List.findIdx_append]
  simp only [hl, hk, List.findIdx_singleton]
  simp [hx]
  omega

theorem find_none {l : List KV} {name : ByteArray} {hash : Int} (hk : findIdx l name hash = l.length) : find l name hash = -1 := by simp [find, hk]

set_option maxHeartbeats 400000 in
theorem find_any (A : Option Addr) (n c : Nat) (l : List KV) (name : ByteArray) (hash : Int) (w : World) (hs : Sl w w.heap.size 4 A n (encAll KV.cells l)) (hn : n ≤ 9223372036854775807) :
    Calls Try.prog 9 #[.slice A n c, .string name, .int .u32 hash] w fun e w' => e = .returned (.int .i64 (find l name hash)) ∧ Below w.heap.size w w' := by
  have Hl := Lib.hid (hs.count KV.cells_length (by omega))
  go_enter Try.func9, Try.ntmps9
  go_wp2
  go_loopw [11] (fun i wr => ∃ k : Nat, k ≤ n ∧ i = .int .i64 k ∧ Below w.heap.size w wr ∧ Hid (findIdx (l.take k) name hash = k)) (fun i _ => n - (intOf i).toNat)
  case atStart => exact ⟨0, Nat.zero_le _, rfl, Below.refl _ _, rfl⟩
  case round =>
    obtain ⟨k, hk, rfl, hb, hf⟩ := hrel
    by_cases hlt : k < n
    · obtain ⟨b, o, x, rfl, hblt, hx, c0, c1, c2, c3⟩ := KV.elem (hs.below hb) hlt
      have Hx := Lib.hid hx
      clear hx hs
      have hbn : ∀ o, Below w.heap.size w (wr.alloc o) := fun o => hb.alloc hb.size o
      go_wp2
      · have h1 : x.name.toList = name.toList := by assumption
        have h2 : (x.hash == hash) = true := by assumption
        go_ret
        exact ⟨ret_int (find_at Hx.out hf.out ⟨(str_eq_iff _ _).1 h1, by simpa using h2⟩).symm, hbn _⟩
      · have h2 : (x.hash == hash) = false := by assumption
        go_roundw
        case rel => exact ⟨k + 1, by omega, by go_num, hbn _, find_step Hx.out hf.out fun h => by simp [h.2] at h2⟩
        case measure => simp [intOf]; omega
      · have h1 : ¬x.name.toList = name.toList := by assumption
        go_roundw
        case rel => exact ⟨k + 1, by omega, by go_num, hbn _, find_step Hx.out hf.out fun h => h1 (by rw [h.1])⟩
        case measure => simp [intOf]; omega
    · clear hs
      go_wp2
      go_ret
      have hf' := hf.out
      obtain rfl : k = n := by omega
      rw [List.take_of_length_le (by have := Hl.out; omega)] at hf'
      exact ⟨ret_int (find_none (hf'.trans Hl.out.symm)).symm, hb⟩


/-- what spec.Good asks of the key at place i -/
def good1 (l : List KV) (i : Nat) (x : KV) : Bool := decide (find (l.take i) x.name x.hash < 0) && (decide (x.tn ≤ 8) && decide (x.sn = x.tn))
def goodTo (l : List KV) : Nat → Bool
  | 0 => true
  | k + 1 => goodTo l k && (match l[k]? with | some x => good1 l k x | none => true)
def good (l : List KV) : Bool := goodTo l l.length && decide (l.length ≤ 8)

theorem goodTo_false {l : List KV} {k : Nat} {x : KV} (h : l[k]? = some x) (hx : good1 l k x = false) : ∀ m, k < m → goodTo l m = false
  | 0, hm => absurd hm (by omega)
  | m + 1, hm => by
    unfold goodTo
    rcases Nat.lt_or_ge k m with hlt | hge
    · rw [goodTo_false h hx m hlt, Bool.false_and]
    · obtain rfl : k = m := by omega
      rw [h]
      simp [hx]
theorem goodTo_step {l : List KV} {k : Nat} {x : KV} (h : l[k]? = some x) (hk : goodTo l k = true) (hx : good1 l k x = true) : goodTo l (k + 1) = true := by
  unfold goodTo
  rw [h, hk]
  simp [hx]

theorem encAll_take {α : Type} {enc : α → List Value} {size : Nat} (he : ∀ x, (enc x).length = size) : ∀ (l : List α) (k : Nat), (encAll enc l).take (k * size) = encAll enc (l.take k)
  | [], k => by simp [encAll]
  | x :: l, 0 => by simp [encAll]
  | x :: l, k + 1 => by
    have ih := encAll_take he l k
    simp only [encAll, List.flatMap_cons, List.take_succ_cons] at ih ⊢
    rw [List.take_append, List.take_of_length_le (by rw [he, Nat.succ_mul]; omega), ← ih, he]
    congr 2
    rw [Nat.succ_mul]; omega
/-- the first k elements of a slice -/
theorem Sl.upTo {α : Type} {enc : α → List Value} {size : Nat} (he : ∀ x, (enc x).length = size) {w : World} {B n k : Nat} {A : Option Addr} {l : List α}
    (h : Sl w B size A n (encAll enc l)) (hsz : 0 < size) (hk : k ≤ n) : Sl w B size A k (encAll enc (l.take k)) := by
  have hn := h.count he hsz
  refine ⟨by rw [encAll_length he, List.length_take]; congr 1; omega, fun h0 => ?_⟩
  obtain ⟨b, o, e, hb, hc⟩ := h.2 (by omega)
  refine ⟨b, o, e, hb, fun j u hu => hc j u ?_⟩
  rw [← encAll_take he, List.getElem?_take] at hu
  split at hu
  · exact hu
  · cases hu

theorem find_cases (l : List KV) (name : ByteArray) (hash : Int) : find l name hash = -1 ∨ ∃ p : Nat, find l name hash = p := by
  unfold find
  split
  · exact .inr ⟨_, rfl⟩
  · exact .inl rfl

set_option maxHeartbeats 8000000 in
theorem good_any (A : Option Addr) (n c : Nat) (l : List KV) (w : World) (hs : Sl w w.heap.size 4 A n (encAll KV.cells l)) (hn : n ≤ 2147483648) (hc : n ≤ c) (hc2 : c ≤ 9223372036854775807) :
    Calls Try.prog 7 #[.slice A n c] w fun e w' => e = .returned (.bool (good l)) ∧ Below w.heap.size w w' := by
  have Hl := Lib.hid (hs.count KV.cells_length (by omega))
  go_enter Try.func7, Try.ntmps7
  go_wp2
  go_loopw [7] (fun i wr => ∃ k : Nat, k ≤ n ∧ i = .int .i64 k ∧ Below w.heap.size w wr ∧ Hid (goodTo l k = true)) (fun i _ => n - (intOf i).toNat)
  case atStart => exact ⟨0, Nat.zero_le _, rfl, Below.refl _ _, rfl⟩
  case round =>
    obtain ⟨k, hk, rfl, hb, hf⟩ := hrel
    by_cases hlt : k < n
    · have hsk := (hs.below hb).upTo KV.cells_length (by omega) hk
      obtain ⟨b, o, x, rfl, hblt, hx, c0, c1, c2, c3⟩ := KV.elem (hs.below hb) hlt
      have Hx := Lib.hid hx
      clear hx hs
      have hbn : ∀ o, Below w.heap.size w (wr.alloc o) := fun o => hb.alloc hb.size o
      have hW0 := hbn (.cells #[.string x.name, .int .u32 x.hash, .slice x.ta x.tn x.tc, .slice x.sa x.sn x.sc] 37)
      have k0 : (wr.alloc (.cells #[.string x.name, .int .u32 x.hash, .slice x.ta x.tn x.tc, .slice x.sa x.sn x.sc] 37)).heap[wr.heap.size]? = some (.cells #[.string x.name, .int .u32 x.hash, .slice x.ta x.tn x.tc, .slice x.sa x.sn x.sc] 37) := heap_alloc_new _ _
      have hW1 : Below wr.heap.size wr (wr.alloc (.cells #[.string x.name, .int .u32 x.hash, .slice x.ta x.tn x.tc, .slice x.sa x.sn x.sc] 37)) := (Below.refl _ _).alloc (Nat.le_refl _) _
      have hbs := hb.size
      go_wp2_with (fail)
      generalize wr.alloc (.cells #[.string x.name, .int .u32 x.hash, .slice x.ta x.tn x.tc, .slice x.sa x.sn x.sc] 37) = W at *
      have hbW : Below w.heap.size w W := hb.trans (hW1.mono hbs)
      have cF : ∀ u, Calls Try.prog 9 #[.slice (some ⟨b, o, none⟩) k c, .string x.name, .int .u32 x.hash] (plus W u) fun e w' => e = .returned (.int .i64 (find (l.take k) x.name x.hash)) ∧ Below (plus W u).heap.size (plus W u) w' := fun u =>
        find_any (some ⟨b, o, none⟩) k c (l.take k) x.name x.hash (plus W u) (((hsk.below (hW1.mono hbs)).below ((plus_below W u).mono hbW.size)).more (Nat.le_trans hbW.size (plus_below W u).size)) (by omega)
      clear hsk
      have hcell : ∀ j v, #[Value.string x.name, .int .u32 x.hash, .slice x.ta x.tn x.tc, .slice x.sa x.sn x.sc][j]? = some v → ∀ u, (plus W u).cell? ⟨wr.heap.size, j, none⟩ = some v := fun j v hv u => plus_cell ((cell_of_row _ _ j _ _ _ k0).trans hv)
      have k00 := hcell 0 _ rfl
      have k01 := hcell 1 _ rfl
      have k02 := hcell 2 _ rfl
      have k03 := hcell 3 _ rfl
      clear k0 hcell
      have hbu : ∀ u, Below w.heap.size w (plus W u) := fun u => hbW.trans ((plus_below W u).mono hbW.size)
      have hkc : k ≤ c := by omega
      have Hfc := Lib.hid (find_cases (l.take k) x.name x.hash)
      have CF := Lib.hid cF
      clear cF hW1 hbs hb c0 c1 c2 c3
      rcases Hfc.out with hfd | ⟨p, hfd⟩
      · have Hfd := Lib.hid hfd
        have cF := CF.out
        rw [hfd] at cF
        have CG := Lib.hid cF
        clear cF hfd CF
        by_cases h8 : (8 : Int) < (x.tn : Int)
        · have Hg : Hid (good1 l k x = false) := by simp [Hid, good1]; omega
          clear k03
          refine wp_region_below (by kernel_rfl) (by kernel_rfl) ?_
          repeat (go_big_quiet_step ((go_at_call 9; exact quiet_below (CG.out _))))
          refine wpQuiet_nil ?_
          rintro _ ⟨u, rfl⟩
          go_wp2
          go_ret
          exact ⟨ret_bool (by unfold good; rw [goodTo_false Hx.out Hg.out _ (List.getElem?_eq_some_iff.1 Hx.out).1]; rfl), hbu u⟩
        · by_cases hst : (x.sn : Int) = (x.tn : Int)
          · have hst1 : ((x.sn : Int) != (x.tn : Int)) = false := by simp [hst]
            have Hg : Hid (good1 l k x = true) := by have := Hfd.out; simp [Hid, good1, this]; omega
            clear hst
            refine wp_region_below (by kernel_rfl) (by kernel_rfl) ?_
            repeat (go_big_quiet_step ((go_at_call 9; exact quiet_below (CG.out _))))
            refine wpQuiet_nil ?_
            rintro _ ⟨u, rfl⟩
            go_wp2
            go_roundw
            case rel => exact ⟨k + 1, by omega, by go_num, hbu u, goodTo_step Hx.out hf.out Hg.out⟩
            case measure => simp [intOf]; omega
          · have hst1 : ((x.sn : Int) != (x.tn : Int)) = true := by simp; omega
            have Hg : Hid (good1 l k x = false) := by simp [Hid, good1]; omega
            clear hst
            refine wp_region_below (by kernel_rfl) (by kernel_rfl) ?_
            repeat (go_big_quiet_step ((go_at_call 9; exact quiet_below (CG.out _))))
            refine wpQuiet_nil ?_
            rintro _ ⟨u, rfl⟩
            go_wp2
            go_ret
            exact ⟨ret_bool (by unfold good; rw [goodTo_false Hx.out Hg.out _ (List.getElem?_eq_some_iff.1 Hx.out).1]; rfl), hbu u⟩
      · have Hg : Hid (good1 l k x = false) := by simp [Hid, good1, hfd]; omega
        have cF := CF.out
        rw [hfd] at cF
        have CG := Lib.hid cF
        clear cF hfd CF k02 k03
        refine wp_region_below (by kernel_rfl) (by kernel_rfl) ?_
        repeat (go_big_quiet_step ((go_at_call 9; exact quiet_below (CG.out _))))
        refine wpQuiet_nil ?_
        rintro _ ⟨u, rfl⟩
        go_wp2
        go_ret
        exact ⟨ret_bool (by unfold good; rw [goodTo_false Hx.out Hg.out _ (List.getElem?_eq_some_iff.1 Hx.out).1]; rfl), hbu u⟩
    · clear hs
      obtain rfl : k = n := by omega
      have Hf : Hid (goodTo l l.length = true) := by rw [Hl.out]; exact hf
      by_cases h8 : (k : Int) ≤ 8
      · go_wp2
        go_ret
        exact ⟨ret_bool (by unfold good; rw [Hf.out, Hl.out]; simp; omega), hb⟩
      · go_wp2
        go_ret
        exact ⟨ret_bool (by unfold good; rw [Hf.out, Hl.out]; simp; omega), hb⟩

end Go.Proofs.Ytnnbhklkakhkkaa

/-
  KEYS AS DATA, and the walks over lists of keys: laws.zzFits3, zzFits2, zzFits1, laws.keys, spec.Find, spec.Good.
-/
import Derived.Test.YtnnbhklkakhkkaaBase
namespace Go.Proofs.Ytnnbhklkakhkkaa
open Go.RowKit

/-- a key as it lies in a cell row: its name, its hash, and the two slices of strings -/
structure KV where
  name : ByteArray
  hash : Int
  ta : Option Addr
  tn : Nat
  tc : Nat
  sa : Option Addr
  sn : Nat
  sc : Nat
  texts : List ByteArray
  sigs : List ByteArray

def KV.cells (k : KV) : List Value := [.string k.name, .int .u32 k.hash, .slice k.ta k.tn k.tc, .slice k.sa k.sn k.sc]
theorem KV.cells_length (k : KV) : k.cells.length = 4 := rfl
/-- the key's two lists lie below block B -/
def KV.At (w : World) (B : Nat) (k : KV) : Prop := Sl w B 1 k.ta k.tn (strCells k.texts) ∧ Sl w B 1 k.sa k.sn (strCells k.sigs)
theorem KV.At.below {w w' : World} {B : Nat} {k : KV} (h : k.At w B) (hb : Below B w w') : k.At w' B := ⟨h.1.below hb, h.2.below hb⟩
theorem KV.At.more {w : World} {B B' : Nat} {k : KV} (h : k.At w B) (hB : B ≤ B') : k.At w B' := ⟨h.1.more hB, h.2.more hB⟩

def fits3 (l : List ByteArray) : Bool := decide (l.length ≤ 2147483647) && l.all fun s => decide (s.size ≤ 2147483647)
def fits2 (k : KV) : Bool := decide (k.name.size ≤ 2147483647) && (fits3 k.texts && fits3 k.sigs)
def fits1 (l : List KV) : Bool := decide (l.length ≤ 2147483647) && l.all fits2

theorem all_take_succ {α : Type} (p : α → Bool) (l : List α) (k : Nat) (x : α) (h : l[k]? = some x) : (l.take (k + 1)).all p = ((l.take k).all p && p x) := by
  rw [List.take_add_one, h]
  simp

theorem all_false_of {α : Type} {p : α → Bool} {l : List α} {k : Nat} {x : α} (h : l[k]? = some x) (hp : p x = false) : l.all p = false := by
  rw [List.all_eq_false]
  exact ⟨x, List.mem_of_getElem? h, by simp [hp]⟩

theorem fits3_long {l : List ByteArray} (h : 2147483647 < l.length) : fits3 l = false := by simp [fits3]; omega
theorem fits3_bad {l : List ByteArray} {k : Nat} {s : ByteArray} (h : l[k]? = some s) (hs : 2147483647 < s.size) : fits3 l = false := by
  unfold fits3
  rw [all_false_of h (by simp; omega), Bool.and_false]
theorem fits3_good {l : List ByteArray} (h : l.length ≤ 2147483647) (ha : l.all (fun s => decide (s.size ≤ 2147483647)) = true) : fits3 l = true := by
  unfold fits3
  rw [ha, Bool.and_true]
  simpa using h

set_option maxHeartbeats 400000 in
theorem zzFits3_any (A : Option Addr) (n c : Nat) (l : List ByteArray) (w : World) (hs : Sl w w.heap.size 1 A n (strCells l)) (hn : n ≤ 9223372036854775807) :
    Calls Try.prog 13 #[.slice A n c] w fun e w' => e = .returned (.bool (fits3 l)) ∧ Below w.heap.size w w' := by
  have hl : l.length = n := by have := hs.1; rw [strCells_length] at this; omega
  have Hl := Lib.hid hl
  clear hl
  by_cases hbig : 2147483647 < n
  · go_enter Try.func13, Try.ntmps13
    go_wp2
    go_ret
    exact ⟨ret_bool (fits3_long (by have := Hl.out; omega)).symm, Below.refl _ _⟩
  · go_enter Try.func13, Try.ntmps13
    go_wp2
    go_loopw [10] (fun i wr => ∃ k : Nat, k ≤ n ∧ i = .int .i64 k ∧ Below w.heap.size w wr ∧ (l.take k).all (fun s => decide (s.size ≤ 2147483647)) = true) (fun i _ => n - (intOf i).toNat)
    case atStart => exact ⟨0, Nat.zero_le _, rfl, Below.refl _ _, by simp⟩
    case round =>
      obtain ⟨k, hk, rfl, hb, hall⟩ := hrel
      have Hall := Lib.hid hall
      clear hall
      by_cases hlt : k < n
      · obtain ⟨b, o, s, rfl, hblt, hx, hc⟩ := (hs.below hb).str hlt
        have Hx := Lib.hid hx
        clear hx hs
        by_cases hsz : 2147483647 < s.size
        · go_wp2
          go_ret
          exact ⟨ret_bool (fits3_bad Hx.out hsz).symm, hb⟩
        · go_wp2
          go_roundw
          case rel => exact ⟨k + 1, by omega, by go_num, hb, by rw [all_take_succ _ _ _ _ Hx.out, Hall.out]; simp; omega⟩
          case measure => simp [intOf]; omega
      · go_wp2
        go_ret
        refine ⟨ret_bool (fits3_good (by have := Hl.out; omega) ?_).symm, hb⟩
        rw [← Hall.out, List.take_of_length_le (by have := Hl.out; omega)]


/-- a key handed on by value -/
def KV.val (k : KV) : Value := .agg #[.string k.name, .int .u32 k.hash, .slice k.ta k.tn k.tc, .slice k.sa k.sn k.sc]

/-- the lengths of a key's slices are lengths -/
structure KV.Ok (k : KV) : Prop where
  tn : k.tn ≤ 9223372036854775807
  sn : k.sn ≤ 9223372036854775807
  ts : k.name.size ≤ 9223372036854775807

set_option maxHeartbeats 400000 in
theorem zzFits2_any (k : KV) (w : World) (ha : k.At w w.heap.size) (ok : k.Ok) :
    Calls Try.prog 10 #[k.val] w fun e w' => e = .returned (.bool (fits2 k)) ∧ Below w.heap.size w w' := by
  obtain ⟨nm, hs, ta, tn, tc, sa, sn, sc, ts, ss⟩ := k
  obtain ⟨h1, h2⟩ := ha
  have ho := ok.tn; have ho2 := ok.sn; have ho3 := ok.ts
  dsimp only [KV.val] at *
  clear ok
  by_cases hbig : 2147483647 < nm.size
  · go_enter Try.func10, Try.ntmps10
    go_wp2
    go_ret
    refine ⟨ret_bool ?_, (Below.refl _ _).alloc (Nat.le_refl _) _⟩
    simp [fits2]; omega
  · have hw : ∀ o, Below w.heap.size w (w.alloc o) := fun o => (Below.refl _ _).alloc (Nat.le_refl _) _
    have c1 := zzFits3_any ta tn tc ts (w.alloc (.cells #[.string nm, .int .u32 hs, .slice ta tn tc, .slice sa sn sc] 30)) ((h1.below (hw _)).more (by simp)) ho
    go_enter Try.func10, Try.ntmps10
    go_wp2_with (fail)
    refine c1.mono ?_
    rintro e w1 ⟨rfl, hb1⟩
    have f3 : w1.cell? ⟨w.heap.size, 3, none⟩ = some (.slice sa sn sc) := by rw [hb1.cell (by simp)]; simp
    have hbw : Below w.heap.size w w1 := (hw _).trans (hb1.mono (by simp))
    have c2 := zzFits3_any sa sn sc ss w1 ((h2.below hbw).more hbw.size) ho2
    clear c1
    cases hf : fits3 ts
    · go_wp2_with (fail)
      go_ret
      exact ⟨ret_bool (by simp [fits2, hf]), hbw⟩
    · go_wp2_with (fail)
      refine c2.mono ?_
      rintro e w2 ⟨rfl, hb2⟩
      have hbw2 : Below w.heap.size w w2 := hbw.trans (hb2.mono hbw.size)
      clear c2
      cases hg : fits3 ss
      · go_wp2_with (fail)
        go_ret
        exact ⟨ret_bool (by simp [fits2, hg]), hbw2⟩
      · go_wp2_with (fail)
        go_ret
        exact ⟨ret_bool (by simp [fits2, hf, hg]; omega), hbw2⟩

theorem KV.elem {w : World} {B n k : Nat} {A : Option Addr} {l : List KV} (h : Sl w B 4 A n (encAll KV.cells l)) (hk : k < n) :
    ∃ b o x, A = some ⟨b, o, none⟩ ∧ b < B ∧ l[k]? = some x ∧ w.cell? ⟨b, o + k * 4, none⟩ = some (.string x.name) ∧ w.cell? ⟨b, o + k * 4 + 1, none⟩ = some (.int .u32 x.hash) ∧
      w.cell? ⟨b, o + k * 4 + 2, none⟩ = some (.slice x.ta x.tn x.tc) ∧ w.cell? ⟨b, o + k * 4 + 3, none⟩ = some (.slice x.sa x.sn x.sc) := by
  obtain ⟨b, o, x, e, hb, hx, hc⟩ := h.elem KV.cells_length (by omega) hk
  exact ⟨b, o, x, e, hb, hx, hc 0 _ rfl, hc 1 _ rfl, hc 2 _ rfl, hc 3 _ rfl⟩

set_option maxHeartbeats 400000 in
theorem zzFits1_any (A : Option Addr) (n c : Nat) (l : List KV) (w : World) (hs : Sl w w.heap.size 4 A n (encAll KV.cells l)) (hn : n ≤ 9223372036854775807)
    (hat : ∀ x ∈ l, x.At w w.heap.size) (hok : ∀ x ∈ l, x.Ok) :
    Calls Try.prog 5 #[.slice A n c] w fun e w' => e = .returned (.bool (fits1 l)) ∧ Below w.heap.size w w' := by
  have Hl := Lib.hid (hs.count KV.cells_length (by omega))
  by_cases hbig : 2147483647 < n
  · go_enter Try.func5, Try.ntmps5
    go_wp2
    go_ret
    exact ⟨ret_bool (by have := Hl.out; simp [fits1]; omega), Below.refl _ _⟩
  · go_enter Try.func5, Try.ntmps5
    go_wp2
    go_loopw [10] (fun i wr => ∃ k : Nat, k ≤ n ∧ i = .int .i64 k ∧ Below w.heap.size w wr ∧ (l.take k).all fits2 = true) (fun i _ => n - (intOf i).toNat)
    case atStart => exact ⟨0, Nat.zero_le _, rfl, Below.refl _ _, by simp⟩
    case round =>
      obtain ⟨k, hk, rfl, hb, hall⟩ := hrel
      have Hall := Lib.hid hall
      clear hall
      by_cases hlt : k < n
      · obtain ⟨b, o, x, rfl, hblt, hx, c0, c1, c2, c3⟩ := KV.elem (hs.below hb) hlt
        have hm := List.mem_of_getElem? hx
        have Hx := Lib.hid hx
        have hat' := hat x hm
        have hok' := hok x hm
        have hwa : Below wr.heap.size wr (wr.alloc (.cells #[.string x.name, .int .u32 x.hash, .slice x.ta x.tn x.tc, .slice x.sa x.sn x.sc] 30)) := (Below.refl _ _).alloc (Nat.le_refl _) _
        have c := zzFits2_any x _ ((hat'.below (hb.trans (hwa.mono hb.size))).more (by have := hb.size; simp; omega)) hok'
        dsimp only [KV.val] at c
        clear hx hs hat hok hat' hok' hm
        go_wp2_with (fail)
        refine c.mono ?_
        rintro e w1 ⟨rfl, hb1⟩
        have hbw : Below w.heap.size w w1 := hb.trans ((hwa.mono hb.size).trans (hb1.mono (by have := hb.size; simp; omega)))
        clear c
        cases hf : fits2 x
        · go_wp2_with (fail)
          go_ret
          exact ⟨ret_bool (by unfold fits1; rw [all_false_of Hx.out hf, Bool.and_false]), hbw⟩
        · go_wp2_with (fail)
          go_roundw
          case rel => exact ⟨k + 1, by omega, by go_num, hbw, by rw [all_take_succ _ _ _ _ Hx.out, Hall.out, hf]; rfl⟩
          case measure => simp [intOf]; omega
      · clear hs hat hok
        go_wp2
        go_ret
        refine ⟨ret_bool ?_, hb⟩
        have hh := Hall.out
        rw [List.take_of_length_le (by have := Hl.out; omega)] at hh
        unfold fits1
        rw [hh, Bool.and_true]
        have := Hl.out
        simp; omega
end Go.Proofs.Ytnnbhklkakhkkaa

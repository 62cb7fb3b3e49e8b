/-
  THE REFERENCE'S base64, as plain lemmas: one round of its reading and of its writing. No walk.
-/
import Derived.Test.YtnnbhklkakhkkaaDoorDecL
namespace Go.Proofs.YtnnbhklkakhkkaaDoor
open Go.RowKit Go.Lib

/-- a byte of a string, as a number -/
def bAt (s : ByteArray) (k : Nat) : Nat := (s.data.toList.getD k 0).toNat
theorem get_bAt (s : ByteArray) : ∀ (n : Nat) (h : n < s.size), (s[n]'h).toNat = bAt s n := fun n h => by
  unfold bAt
  rw [List.getD_eq_getElem?_getD, List.getElem?_eq_getElem (by simpa using h)]
  rfl
theorem bAt_lt (s : ByteArray) (k : Nat) : bAt s k < 256 := (s.data.toList.getD k 0).toNat_lt
/-- how many pads end a text -/
def padN (L : List UInt8) : Nat := if L.getD (L.length - 1) 0 = 61 then (if L.getD (L.length - 2) 0 = 61 then 2 else 1) else 0
/-- how many figures count in the four at place i -/
def kOf (L : List UInt8) (i : Nat) : Nat := if i + 4 = L.length then 4 - padN L else 4
/-- the number of the figure at place i + j; 0 behind the last one that counts -/
def fOf (L : List UInt8) (i j : Nat) : Nat := if j < kOf L i then figN (L.getD (i + j) 0) else 0
/-- the number that the first j make -/
def nOf (L : List UInt8) (i : Nat) : Nat → Nat
  | 0 => 0
  | j + 1 => nOf L i j * 64 + fOf L i j

theorem padN_le (L : List UInt8) : padN L ≤ 2 := by unfold padN; split <;> (try split) <;> omega
theorem kOf_le (L : List UInt8) (i : Nat) : 2 ≤ kOf L i ∧ kOf L i ≤ 4 := by have := padN_le L; unfold kOf; split <;> omega

theorem drop_four {L : List UInt8} {i : Nat} (h : i + 4 ≤ L.length) : L.drop i = L.getD i 0 :: L.getD (i + 1) 0 :: L.getD (i + 2) 0 :: L.getD (i + 3) 0 :: L.drop (i + 4) := by
  rw [List.drop_eq_getElem_cons (by omega), List.drop_eq_getElem_cons (by omega), List.drop_eq_getElem_cons (by omega), List.drop_eq_getElem_cons (by omega)]
  simp only [List.getD_eq_getElem?_getD]
  rw [List.getElem?_eq_getElem (by omega), List.getElem?_eq_getElem (by omega), List.getElem?_eq_getElem (by omega), List.getElem?_eq_getElem (by omega)]
  rfl

theorem fOf_pos {L : List UInt8} {i j : Nat} (h : j < kOf L i) : fOf L i j = figN (L.getD (i + j) 0) := by unfold fOf; rw [if_pos h]
theorem fOf_neg {L : List UInt8} {i j : Nat} (h : ¬ j < kOf L i) : fOf L i j = 0 := by unfold fOf; rw [if_neg h]
theorem nOf4 (L : List UInt8) (i : Nat) : nOf L i 4 = val4 (fOf L i 0) (fOf L i 1) (fOf L i 2) (fOf L i 3) := by unfold val4; simp only [nOf]; omega
theorem nOf_lt {L : List UInt8} {i : Nat} : ∀ (j : Nat), (∀ k, k < j → fOf L i k < 64) → nOf L i j < 64 ^ j
  | 0, _ => by simp [nOf]
  | j + 1, h => by
    have h1 := nOf_lt j fun k hk => h k (by omega)
    have h2 := h j (by omega)
    simp only [nOf, Nat.pow_succ]
    omega

theorem kOf_cases {L : List UInt8} {i : Nat} (h : i + 4 ≤ L.length) :
    (L.drop (i + 4) ≠ [] ∧ i + 4 < L.length ∧ kOf L i = 4) ∨
    (L.drop (i + 4) = [] ∧ i + 4 = L.length ∧ L.getD (i + 3) 0 ≠ 61 ∧ kOf L i = 4) ∨
    (L.drop (i + 4) = [] ∧ i + 4 = L.length ∧ L.getD (i + 3) 0 = 61 ∧ L.getD (i + 2) 0 ≠ 61 ∧ kOf L i = 3) ∨
    (L.drop (i + 4) = [] ∧ i + 4 = L.length ∧ L.getD (i + 3) 0 = 61 ∧ L.getD (i + 2) 0 = 61 ∧ kOf L i = 2) := by
  by_cases he : i + 4 = L.length
  · right
    have h3 : L.length - 1 = i + 3 := by omega
    have h2 : L.length - 2 = i + 2 := by omega
    have hd : L.drop (i + 4) = [] := List.drop_eq_nil_of_le (by omega)
    unfold kOf padN
    rw [if_pos he, h3, h2]
    by_cases hx : L.getD (i + 3) 0 = 61
    · rw [if_pos hx]
      by_cases hy : L.getD (i + 2) 0 = 61
      · rw [if_pos hy]; exact .inr (.inr ⟨hd, he, hx, hy, rfl⟩)
      · rw [if_neg hy]; exact .inr (.inl ⟨hd, he, hx, hy, rfl⟩)
    · rw [if_neg hx]; exact .inl ⟨hd, he, hx, rfl⟩
  · left
    refine ⟨fun hd => ?_, by omega, ?_⟩
    · have := congrArg List.length hd
      simp at this
      omega
    · unfold kOf; rw [if_neg he]

/-- one round of reading: all figures are fine -/
theorem quant_good {L : List UInt8} {i : Nat} (h : i + 4 ≤ L.length) (hf : ∀ j, j < 4 → fOf L i j < 64) : quant (L.drop i) = some ((three (nOf L i 4)).take (kOf L i - 1)) := by
  have h0 := hf 0 (by omega); have h1 := hf 1 (by omega); have h2 := hf 2 (by omega); have h3 := hf 3 (by omega)
  rw [nOf4]
  rw [drop_four h]
  rcases kOf_cases h with ⟨hd, _, hk⟩ | ⟨hd, _, hx, hk⟩ | ⟨hd, _, hx, hy, hk⟩ | ⟨hd, _, hx, hy, hk⟩
  · rw [fOf_pos (by omega)] at h0 h1 h2 h3 ⊢
    rw [fOf_pos (by omega), fOf_pos (by omega), fOf_pos (by omega)]
    show (if L.drop (i + 4) = [] then _ else quad _ _ _ _) = _
    rw [if_neg hd, hk]
    unfold quad
    rw [if_pos ⟨h0, h1, h2, h3⟩]
    rfl
  · rw [fOf_pos (by omega)] at h0 h1 h2 h3 ⊢
    rw [fOf_pos (by omega), fOf_pos (by omega), fOf_pos (by omega)]
    show (if L.drop (i + 4) = [] then quadLast _ _ _ _ else _) = _
    rw [if_pos hd, hk]
    unfold quadLast quad
    rw [if_neg hx, if_pos ⟨h0, h1, h2, h3⟩]
    rfl
  · rw [fOf_pos (by omega)] at h0 h1 h2 ⊢
    rw [fOf_pos (by omega), fOf_pos (by omega), fOf_neg (by omega)]
    show (if L.drop (i + 4) = [] then quadLast _ _ _ _ else _) = _
    rw [if_pos hd, hk]
    unfold quadLast
    rw [if_pos hx, if_neg hy, if_pos ⟨h0, h1, h2⟩]
    rfl
  · rw [fOf_pos (by omega)] at h0 h1 ⊢
    rw [fOf_pos (by omega), fOf_neg (by omega), fOf_neg (by omega)]
    show (if L.drop (i + 4) = [] then quadLast _ _ _ _ else _) = _
    rw [if_pos hd, hk]
    unfold quadLast
    rw [if_pos hx, if_pos hy, if_pos ⟨h0, h1⟩]
    rfl

/-- .. one of them is none -/
theorem quant_bad {L : List UInt8} {i j : Nat} (h : i + 4 ≤ L.length) (hj : j < kOf L i) (hf : ¬ figN (L.getD (i + j) 0) < 64) : quant (L.drop i) = none := by
  rw [drop_four h]
  have four : (j = 0 ∨ j = 1 ∨ j = 2 ∨ j = 3) → ¬(figN (L.getD i 0) < 64 ∧ figN (L.getD (i + 1) 0) < 64 ∧ figN (L.getD (i + 2) 0) < 64 ∧ figN (L.getD (i + 3) 0) < 64) := by
    rintro (rfl | rfl | rfl | rfl) ⟨h0, h1, h2, h3⟩ <;> contradiction
  have three : (j = 0 ∨ j = 1 ∨ j = 2) → ¬(figN (L.getD i 0) < 64 ∧ figN (L.getD (i + 1) 0) < 64 ∧ figN (L.getD (i + 2) 0) < 64) := by
    rintro (rfl | rfl | rfl) ⟨h0, h1, h2⟩ <;> contradiction
  have two : (j = 0 ∨ j = 1) → ¬(figN (L.getD i 0) < 64 ∧ figN (L.getD (i + 1) 0) < 64) := by
    rintro (rfl | rfl) ⟨h0, h1⟩ <;> contradiction
  rcases kOf_cases h with ⟨hd, _, hk⟩ | ⟨hd, _, hx, hk⟩ | ⟨hd, _, hx, hy, hk⟩ | ⟨hd, _, hx, hy, hk⟩
  · show (if L.drop (i + 4) = [] then _ else quad _ _ _ _) = _
    rw [if_neg hd]
    unfold quad
    rw [if_neg (four (by omega))]
  · show (if L.drop (i + 4) = [] then quadLast _ _ _ _ else _) = _
    rw [if_pos hd]
    unfold quadLast quad
    rw [if_neg hx, if_neg (four (by omega))]
  · show (if L.drop (i + 4) = [] then quadLast _ _ _ _ else _) = _
    rw [if_pos hd]
    unfold quadLast
    rw [if_pos hx, if_neg hy, if_neg (three (by omega))]
  · show (if L.drop (i + 4) = [] then quadLast _ _ _ _ else _) = _
    rw [if_pos hd]
    unfold quadLast
    rw [if_pos hx, if_pos hy, if_neg (two (by omega))]

/-- the bits that stand for nothing, in the four at place i -/
def clearAt (L : List UInt8) (i : Nat) : Bool := (decide (kOf L i ≠ 3) || decide (nOf L i 4 % 256 = 0)) && (decide (kOf L i ≠ 2) || decide (nOf L i 4 % 65536 = 0))
theorem clear_step {L : List UInt8} {i : Nat} (h : i + 4 ≤ L.length) : clearL (L.drop i) = (clearAt L i && clearL (L.drop (i + 4))) := by
  unfold clearAt
  rw [nOf4, drop_four h]
  rcases kOf_cases h with ⟨hd, _, hk⟩ | ⟨hd, _, hx, hk⟩ | ⟨hd, _, hx, hy, hk⟩ | ⟨hd, _, hx, hy, hk⟩
  · rw [hk]
    rcases ht : L.drop (i + 4) with _ | ⟨x, r⟩
    · exact absurd ht hd
    · rw [clearL]
      · rfl
      · intro h'; cases h'
  · rw [hk, hd]
    simp only [clearL]
    rw [if_neg hx]
    rfl
  · rw [hk, hd, fOf_pos (by omega), fOf_pos (by omega), fOf_pos (by omega), fOf_neg (by omega)]
    simp only [clearL]
    rw [if_pos hx, if_neg hy]
    simp
  · rw [hk, hd, fOf_pos (by omega), fOf_pos (by omega), fOf_neg (by omega), fOf_neg (by omega)]
    simp only [clearL]
    rw [if_pos hx, if_pos hy]
    simp

theorem decL_odd : ∀ (k : Nat) (l : List UInt8), l.length ≤ k → l.length % 4 ≠ 0 → decL l = none
  | 0, l, hk, h => by
    obtain rfl : l = [] := List.eq_nil_of_length_eq_zero (by omega)
    simp at h
  | k + 1, l, hk, h => by
    have hne : l ≠ [] := by rintro rfl; simp at h
    cases hq : quant l with
    | none => exact decL_none hq hne
    | some y =>
      rw [decL_some hq]
      have hl := quant_length hq
      rw [decL_odd k (l.drop 4) (by rw [List.length_drop]; omega) (by rw [List.length_drop]; omega)]
      rfl

/-! ## writing -/
/-- the byte at place i + j; 0 behind the end -/
def bOf (L : List UInt8) (i j : Nat) : Nat := (L.getD (i + j) 0).toNat
def vOf (L : List UInt8) (i : Nat) : Nat → Nat
  | 0 => 0
  | j + 1 => vOf L i j * 256 + bOf L i j
theorem vOf_lt (L : List UInt8) (i : Nat) : ∀ j, vOf L i j < 256 ^ j
  | 0 => by simp [vOf]
  | j + 1 => by
    have h := vOf_lt L i j
    have := (L.getD (i + j) 0).toNat_lt
    simp only [vOf, Nat.pow_succ, bOf]
    omega
/-- the j'th figure of the four for the bytes at place i -/
def eOf (L : List UInt8) (i j : Nat) : UInt8 := if j ≤ min 3 (L.length - i) then fig (vOf L i 3 / 2 ^ (18 - 6 * j)) else 61
def eFour (L : List UInt8) (i : Nat) : List UInt8 := [eOf L i 0, eOf L i 1, eOf L i 2, eOf L i 3]
theorem getD_none {L : List UInt8} {i : Nat} (h : L.length ≤ i) : L.getD i 0 = 0 := by rw [List.getD_eq_getElem?_getD, List.getElem?_eq_none h]; rfl
theorem drop_get {L : List UInt8} {i : Nat} (h : i < L.length) : L.drop i = L.getD i 0 :: L.drop (i + 1) := by
  rw [List.drop_eq_getElem_cons h, List.getD_eq_getElem?_getD, List.getElem?_eq_getElem h]; rfl
theorem vOf3 (L : List UInt8) (i : Nat) : vOf L i 3 = bOf L i 0 * 65536 + bOf L i 1 * 256 + bOf L i 2 := by simp only [vOf]; omega

theorem enc_step {L : List UInt8} {q : Nat} (h : 3 * q < L.length) : encL (L.take (3 * q + 3)) = encL (L.take (3 * q)) ++ eFour L (3 * q) := by
  have e : L.take (3 * q + 3) = L.take (3 * q) ++ (L.drop (3 * q)).take 3 := by rw [List.take_add]
  rw [e, encL_append q _ _ (by rw [List.length_take]; omega)]
  congr 1
  generalize 3 * q = i at *
  unfold eFour eOf
  rw [vOf3]
  unfold bOf
  rw [Nat.add_zero]
  have h3 : L.length - i = 1 ∨ L.length - i = 2 ∨ 3 ≤ L.length - i := by omega
  rcases h3 with h3 | h3 | h3
  · rw [getD_none (show L.length ≤ i + 1 by omega), getD_none (show L.length ≤ i + 2 by omega), drop_get h, List.drop_eq_nil_of_le (by omega), h3]
    simp [encL, enc3]
  · rw [getD_none (show L.length ≤ i + 2 by omega), drop_get h, drop_get (show i + 1 < L.length by omega), List.drop_eq_nil_of_le (by omega), h3]
    simp [encL, enc3]
  · rw [drop_get h, drop_get (show i + 1 < L.length by omega), drop_get (show i + 1 + 1 < L.length by omega), Nat.min_eq_left h3]
    simp [encL, enc3]

end Go.Proofs.YtnnbhklkakhkkaaDoor

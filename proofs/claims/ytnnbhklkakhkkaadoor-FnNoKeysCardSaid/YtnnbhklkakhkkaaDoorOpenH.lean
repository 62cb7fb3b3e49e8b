/-
  OPENING: the library's functions as the code's own Open calls them: the next new line, the dash ahead, one character.
-/
import Derived.Test.YtnnbhklkakhkkaaDoorVerify
import Derived.Test.YtnnbhklkakhkkaaDoorShelfD
namespace Go.Proofs.YtnnbhklkakhkkaaDoor
open Go.RowKit Go.Lib

theorem row_get {w : World} {b o : Nat} {l : List UInt8} (h : RowAt w b o (byteCells l)) {i : Nat} (hi : i < l.length) : w.cell? ⟨b, o + i, none⟩ = some (.int .u8 ((l.getD i 0).toNat : Int)) := by
  refine h i _ ?_
  unfold byteCells
  rw [List.getElem?_map, List.getD_eq_getElem?_getD, List.getElem?_eq_getElem hi]
  rfl
theorem row_drop {w : World} {b o : Nat} {l : List UInt8} (h : RowAt w b o (byteCells l)) (k : Nat) : RowAt w b (o + k) (byteCells (l.drop k)) := fun j u hu => by
  rw [Nat.add_assoc]
  refine h (k + j) u ?_
  unfold byteCells at hu ⊢
  rw [List.getElem?_map, List.getElem?_drop] at hu
  rw [List.getElem?_map]
  exact hu
theorem row_take {w : World} {b o : Nat} {l : List UInt8} (h : RowAt w b o (byteCells l)) (k : Nat) : RowAt w b o (byteCells (l.take k)) := fun j u hu => by
  refine h j u ?_
  unfold byteCells at hu ⊢
  rw [List.getElem?_map, List.getElem?_take] at hu
  rw [List.getElem?_map]
  split at hu
  · exact hu
  · cases hu
theorem row_lt {w : World} {b o : Nat} {l : List UInt8} (h : RowAt w b o (byteCells l)) (hl : 0 < l.length) : b < w.heap.size := by
  cases l with
  | nil => simp at hl
  | cons a t => exact World.block_lt_of_cell? w ⟨b, o + 0, none⟩ (h 0 _ rfl)

def intsOf (l : List UInt8) : List Int := l.map fun b => (b.toNat : Int)
theorem intsOf_bytes (l : List UInt8) : Lib.bytesOf (intsOf l) = l := by
  unfold intsOf Lib.bytesOf
  rw [List.map_map]
  conv => rhs; rw [← List.map_id l]
  refine List.map_congr_left fun b _ => ?_
  simp
theorem intsOf_get (l : List UInt8) (i : Nat) : (intsOf l).getD i 0 = ((l.getD i 0).toNat : Int) := by
  unfold intsOf
  rw [List.getD_eq_getElem?_getD, List.getElem?_map, List.getD_eq_getElem?_getD]
  cases l[i]? <;> rfl

/-- the place of the next new line -/
theorem nl_ex : ∀ l : List UInt8, (∃ i, i < l.length ∧ l.getD i 0 = 10) → ∃ k : Nat, Lib.indexByte l 10 = (k : Int) ∧ k < l.length ∧ l.getD k 0 = 10 ∧ ∀ j, j < k → l.getD j 0 ≠ 10
  | [], h => by obtain ⟨i, hi, _⟩ := h; simp at hi
  | b :: l, h => by
    unfold Lib.indexByte
    by_cases hb : b = 10
    · subst hb
      exact ⟨0, rfl, by simp, rfl, fun j hj => by omega⟩
    · obtain ⟨k, h1, h2, h3, h4⟩ := nl_ex l (by
        obtain ⟨i, hi, h0⟩ := h
        cases i with
        | zero => simp at h0; exact absurd h0 hb
        | succ i => exact ⟨i, by simpa using hi, by simpa using h0⟩)
      refine ⟨k + 1, ?_, by simpa using h2, by simpa using h3, fun j hj => ?_⟩
      · rw [if_neg (by simpa using hb), h1, if_neg (by simp)]
        simp
      · cases j with
        | zero => simpa using hb
        | succ j => simpa using h4 j (by omega)

theorem nl_any (b o c k : Nat) (l : List UInt8) (w : World) (h : RowAt w b o (byteCells l)) (hk : Lib.indexByte l 10 = (k : Int)) :
    Calls Tryd.prog 64 #[.slice (some ⟨b, o, none⟩) l.length c, .int .u8 10] w fun e w' => e = .returned (.int .i64 (k : Int)) ∧ w' = w := by
  have h1 := Any.bytes_IndexByte Tryd.lays187 b o l.length c (intsOf l) 10 w (by simp [intsOf]) (fun i hi => by rw [intsOf_get]; exact row_get h hi)
  rw [intsOf_bytes] at h1
  refine h1.mono ?_
  rintro e w' ⟨rfl, rfl⟩
  exact ⟨ret_int hk, rfl⟩

theorem pre_any (b o c db dc : Nat) (l : List UInt8) (w : World) (h : RowAt w b o (byteCells l)) (hd : RowAt w db 0 (byteCells dash)) (hc : l.length ≤ c) :
    Calls Tryd.prog 65 #[.slice (some ⟨b, o, none⟩) l.length c, .slice (some ⟨db, 0, none⟩) 4 dc] w fun e w' => e = .returned (.bool (decide (l.take 4 = dash))) ∧ w' = w := by
  have h1 := Any.bytes_HasPrefix_all Tryd.laysb116 (some ⟨b, o, none⟩) (some ⟨db, 0, none⟩) l.length c 4 dc (intsOf l) (intsOf dash) w (by simp [intsOf]) rfl hc
    (fun _ => ⟨b, o, rfl, fun i hi => by rw [intsOf_get]; exact row_get h hi⟩) (fun _ => ⟨db, 0, rfl, fun i hi => by rw [intsOf_get]; exact row_get hd hi⟩)
  rw [intsOf_bytes, intsOf_bytes] at h1
  refine h1.mono ?_
  rintro e w' ⟨rfl, rfl⟩
  refine ⟨ret_bool ?_, rfl⟩
  rw [← Lib.hasPrefix_of_take, show dash.length = 4 from rfl]
  by_cases h4 : l.take 4 = dash
  · have hl : 4 ≤ l.length := by have := congrArg List.length h4; rw [List.length_take] at this; simp [dash] at this; omega
    rw [decide_eq_true h4, decide_eq_true hl, h4]
    rfl
  · rw [decide_eq_false h4]
    have : (l.take 4 == dash) = false := by rw [beq_eq_false_iff_ne]; exact h4
    rw [this, Bool.and_false]

theorem rune_any (b o c : Nat) (l : List UInt8) (w : World) (h : RowAt w b o (byteCells l)) (hl : 0 < l.length) (hT : Tabs w) :
    Calls Tryd.prog 62 #[.slice (some ⟨b, o, none⟩) l.length c] w fun e w' => e = .returned (.tuple #[.int .i32 ((decodeL l).1 : Int), .int .i64 ((decodeL l).2 : Int)]) ∧ Below w.heap.size w w' := by
  have h1 := Any7.utf8_DecodeRune Tryd.lays7n32 (str l) b o c w hT.1 (fun j hj => by
    rw [str_size] at hj
    rw [row_get h hj]
    have : (str l).get! j = l.getD j 0 := by
      show (str l).data[j]! = _
      rw [List.getD_eq_getElem?_getD, List.getElem?_eq_getElem hj]
      simp [str, hj]
    rw [this])
  have hd : decodeGo (str l) = decodeL l := by
    unfold decodeGo
    rw [if_neg (by rw [str_size]; omega)]
    rfl
  rw [hd, str_size] at h1
  exact h1

end Go.Proofs.YtnnbhklkakhkkaaDoor

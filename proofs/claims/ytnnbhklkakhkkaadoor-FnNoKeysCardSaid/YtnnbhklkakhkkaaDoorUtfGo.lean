/-
  THE FIRST LOOP OF THE CODE's Open, as a plain function: characters one behind the other, none of them a control character but new lines, none of them broken. No walk.
-/
import Derived.Test.YtnnbhklkakhkkaaDoorPlain
namespace Go.Proofs.YtnnbhklkakhkkaaDoor
open Go.RowKit Go.Lib

/-- is the first character one that Open refuses? -/
def badHead (l : List UInt8) : Bool := (decide ((decodeL l).1 < 32) && decide ((decodeL l).1 ≠ 10)) || (decide ((decodeL l).1 = 65533) && decide ((decodeL l).2 = 1))
def okGo : Nat → List UInt8 → Bool
  | 0, _ => true
  | f + 1, l => if l = [] then true else !badHead l && okGo f (l.drop (decodeL l).2)

theorem ctlB_append (a b : List UInt8) : ctlB (a ++ b) = (ctlB a && ctlB b) := by unfold ctlB; rw [List.all_append]

/-- the bytes of one whole character -/
theorem ctl_head {l : List UInt8} (hl : l ≠ []) (hv : ¬ ((decodeL l).1 = 65533 ∧ (decodeL l).2 = 1)) : ctlB (l.take (decodeL l).2) = !(decide ((decodeL l).1 < 32) && decide ((decodeL l).1 ≠ 10)) := by
  rw [← encode_decode l hl hv]
  have hr := decodeL_rune l
  generalize (decodeL l).1 = r at hr
  by_cases h : r < 128
  · have he : encodeRune (r : Int) = [UInt8.ofNat r] := by
      unfold encodeRune encodeRuneZ
      repeat' split
      all_goals first | (exfalso; omega) | skip
      all_goals simp
    rw [he]
    unfold ctlB
    have ht : (UInt8.ofNat r).toNat = r := by rw [UInt8.toNat_ofNat']; omega
    simp only [List.all_cons, List.all_nil, Bool.and_true, ht]
    by_cases h1 : r < 32
    · by_cases h2 : r = 10
      · subst h2; rfl
      · rw [decide_eq_true h1, decide_eq_true h2, decide_eq_false (by omega), decide_eq_false h2]; rfl
    · rw [decide_eq_false h1, decide_eq_true (show 32 ≤ r by omega)]; rfl
  · have h0 : (decide (r < 32) && decide (r ≠ 10)) = false := by rw [decide_eq_false (by omega)]; rfl
    rw [h0]
    unfold ctlB
    rw [Bool.not_false, List.all_eq_true]
    intro c hc
    unfold encodeRune at hc
    rw [List.mem_map] at hc
    obtain ⟨x, hx, rfl⟩ := hc
    have hb := encodeRuneZ_byte (r : Int) x hx
    have hx2 : 128 ≤ x := by
      unfold encodeRuneZ at hx
      repeat' split at hx
      all_goals simp at hx
      all_goals omega
    have h32 : 32 ≤ (UInt8.ofNat x.toNat).toNat := by rw [UInt8.toNat_ofNat']; omega
    simpa using Or.inl h32

theorem okGo_eq : ∀ (f : Nat) (l : List UInt8), l.length ≤ f → okGo f l = (ctlB l && validGoD f l)
  | 0, l, h => by
    obtain rfl : l = [] := List.eq_nil_of_length_eq_zero (by omega)
    rfl
  | f + 1, l, h => by
    unfold okGo validGoD
    by_cases hl : l = []
    · rw [if_pos hl, if_pos hl, hl]; rfl
    · rw [if_neg hl, if_neg hl]
      have hpos : 0 < l.length := List.length_pos_iff.2 hl
      have hw := decodeL_width l
      by_cases hv : (decodeL l).1 = 65533 ∧ (decodeL l).2 = 1
      · rw [if_pos hv, Bool.and_false]
        unfold badHead
        rw [decide_eq_true hv.1, decide_eq_true hv.2]
        simp
      · rw [if_neg hv, okGo_eq f (l.drop (decodeL l).2) (by rw [List.length_drop]; omega)]
        have hb : badHead l = !ctlB (l.take (decodeL l).2) := by
          rw [ctl_head hl hv]
          unfold badHead
          have : (decide ((decodeL l).1 = 65533) && decide ((decodeL l).2 = 1)) = false := by
            rw [Bool.eq_false_iff]
            intro h
            rw [Bool.and_eq_true, decide_eq_true_eq, decide_eq_true_eq] at h
            exact hv h
          rw [this, Bool.or_false, Bool.not_not]
        rw [hb, Bool.not_not]
        conv => rhs; rw [← List.take_append_drop (decodeL l).2 l, ctlB_append]
        rw [List.take_append_drop, Bool.and_assoc]

theorem okGo_plain (s : ByteArray) : okGo s.size s.data.toList = plainB s := by
  rw [okGo_eq _ _ (by simp)]
  rfl

end Go.Proofs.YtnnbhklkakhkkaaDoor

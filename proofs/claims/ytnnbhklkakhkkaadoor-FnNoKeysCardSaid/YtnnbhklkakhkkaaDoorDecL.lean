/-
  base64 WITH THE STANDARD ALPHABET: reading, as a plain function on lists of bytes; what was written is read back. No walk.
-/
import Derived.Test.YtnnbhklkakhkkaaDoorEncode
namespace Go.Proofs.YtnnbhklkakhkkaaDoor
open Go.RowKit Go.Lib

/-- the number of a figure; 255, if it is none -/
def figN (c : UInt8) : Nat := ((decMap 64).getD c.toNat 255).toNat
/-- four figures' number -/
def val4 (a b c d : Nat) : Nat := a * 262144 + b * 4096 + c * 64 + d
/-- its three bytes -/
def three (n : Nat) : List UInt8 := [UInt8.ofNat (n / 65536), UInt8.ofNat (n / 256), UInt8.ofNat n]
/-- four figures -/
def quad (a b c d : UInt8) : Option (List UInt8) :=
  if figN a < 64 ∧ figN b < 64 ∧ figN c < 64 ∧ figN d < 64 then some (three (val4 (figN a) (figN b) (figN c) (figN d))) else none
/-- the last four, which may be padded -/
def quadLast (a b c d : UInt8) : Option (List UInt8) :=
  if d = 61 then
    if c = 61 then if figN a < 64 ∧ figN b < 64 then some ((three (val4 (figN a) (figN b) 0 0)).take 1) else none
    else if figN a < 64 ∧ figN b < 64 ∧ figN c < 64 then some ((three (val4 (figN a) (figN b) (figN c) 0)).take 2) else none
  else quad a b c d
/-- the first four bytes of a text -/
def quant : List UInt8 → Option (List UInt8)
  | a :: b :: c :: d :: t => if t = [] then quadLast a b c d else quad a b c d
  | _ => none
/-- the bytes of a text of base64 -/
def decL : List UInt8 → Option (List UInt8)
  | [] => some []
  | [_] => none
  | [_, _] => none
  | [_, _, _] => none
  | a :: b :: c :: d :: t => (quant (a :: b :: c :: d :: t)).bind fun x => (decL t).map (x ++ ·)
/-- the bits that stand for nothing are 0 -/
def clearL : List UInt8 → Bool
  | [a, b, c, d] => if d = 61 then (if c = 61 then decide (val4 (figN a) (figN b) 0 0 % 65536 = 0) else decide (val4 (figN a) (figN b) (figN c) 0 % 256 = 0)) else true
  | _ :: _ :: _ :: _ :: t => clearL t
  | _ => true

theorem figs_all : ((List.range 256).all fun k => (decide (((decMap 64).getD k 255).toNat < 64) && decide (alphabet.getD ((decMap 64).getD k 255).toNat 0 = UInt8.ofNat k)) || decide (((decMap 64).getD k 255).toNat = 255)) = true := by kernel_rfl
theorem figN_or (c : UInt8) : figN c < 64 ∨ figN c = 255 := by
  have h := List.all_eq_true.1 figs_all c.toNat (List.mem_range.2 c.toNat_lt)
  simp only [Bool.or_eq_true, Bool.and_eq_true, decide_eq_true_eq] at h
  rcases h with h | h
  · exact .inl h.1
  · exact .inr h
theorem fig_figN {c : UInt8} (h : figN c < 64) : fig (figN c) = c := by
  have k := List.all_eq_true.1 figs_all c.toNat (List.mem_range.2 c.toNat_lt)
  simp only [Bool.or_eq_true, Bool.and_eq_true, decide_eq_true_eq] at k
  rcases k with k | k
  · unfold fig figN
    rw [Nat.mod_eq_of_lt k.1, k.2]
    simp
  · unfold figN at h; omega
theorem figs_back : ((List.range 64).all fun k => decide (figN (alphabet.getD k 0) = k) && decide (alphabet.getD k 0 ≠ 61) && decide (32 < (alphabet.getD k 0).toNat) && decide ((alphabet.getD k 0).toNat < 128)) = true := by kernel_rfl
theorem figN_fig (n : Nat) : figN (fig n) = n % 64 := by
  have h := List.all_eq_true.1 figs_back (n % 64) (List.mem_range.2 (Nat.mod_lt _ (by decide)))
  simp only [Bool.and_eq_true, decide_eq_true_eq] at h
  exact h.1.1.1
theorem fig_ne (n : Nat) : fig n ≠ 61 := by
  have h := List.all_eq_true.1 figs_back (n % 64) (List.mem_range.2 (Nat.mod_lt _ (by decide)))
  simp only [Bool.and_eq_true, decide_eq_true_eq] at h
  exact h.1.1.2
theorem fig_seen (n : Nat) : 32 < (fig n).toNat ∧ (fig n).toNat < 128 := by
  have h := List.all_eq_true.1 figs_back (n % 64) (List.mem_range.2 (Nat.mod_lt _ (by decide)))
  simp only [Bool.and_eq_true, decide_eq_true_eq] at h
  exact ⟨h.1.2, h.2⟩
theorem figN_pad : figN 61 = 255 := by kernel_rfl

theorem three_length (n : Nat) : (three n).length = 3 := rfl
theorem quad_length {a b c d : UInt8} {x : List UInt8} (h : quad a b c d = some x) : x.length = 3 := by
  unfold quad at h
  split at h
  · cases h; rfl
  · cases h
theorem quad_ne {a b c d : UInt8} {x : List UInt8} (h : quad a b c d = some x) : d ≠ 61 := by
  unfold quad at h
  split at h
  · next hc => rintro rfl; rw [figN_pad] at hc; omega
  · cases h
theorem quadLast_length {a b c d : UInt8} {x : List UInt8} (h : quadLast a b c d = some x) : 1 ≤ x.length ∧ x.length ≤ 3 := by
  unfold quadLast at h
  split at h
  · split at h
    · split at h
      · cases h; simp [three]
      · cases h
    · split at h
      · cases h; simp [three]
      · cases h
  · rw [quad_length h]; omega
theorem quad_quadLast {a b c d : UInt8} {x : List UInt8} (h : quad a b c d = some x) : quadLast a b c d = some x := by
  unfold quadLast
  rw [if_neg (quad_ne h), h]
theorem quant_quad {a b c d : UInt8} {t x : List UInt8} (h : quad a b c d = some x) : quant (a :: b :: c :: d :: t) = some x := by
  show (if t = [] then quadLast a b c d else quad a b c d) = some x
  by_cases ht : t = []
  · rw [if_pos ht]; exact quad_quadLast h
  · rw [if_neg ht]; exact h
theorem quant_length {l x : List UInt8} (h : quant l = some x) : 4 ≤ l.length ∧ 1 ≤ x.length ∧ x.length ≤ 3 ∧ (4 < l.length → x.length = 3) := by
  rcases l with _ | ⟨a, _ | ⟨b, _ | ⟨c, _ | ⟨d, t⟩⟩⟩⟩
  · cases h
  · cases h
  · cases h
  · cases h
  · change (if t = [] then quadLast a b c d else quad a b c d) = some x at h
    by_cases ht : t = []
    · rw [if_pos ht] at h; subst ht; have := quadLast_length h; simp; omega
    · rw [if_neg ht] at h; have := quad_length h; simp; omega

/-- one step of reading -/
theorem decL_some {l x : List UInt8} (h : quant l = some x) : decL l = (decL (l.drop 4)).map (x ++ ·) := by
  rcases l with _ | ⟨a, _ | ⟨b, _ | ⟨c, _ | ⟨d, t⟩⟩⟩⟩
  · cases h
  · cases h
  · cases h
  · cases h
  · rw [decL, h]; rfl
theorem decL_none {l : List UInt8} (h : quant l = none) (hne : l ≠ []) : decL l = none := by
  rcases l with _ | ⟨a, _ | ⟨b, _ | ⟨c, _ | ⟨d, t⟩⟩⟩⟩
  · exact absurd rfl hne
  · rfl
  · rfl
  · rfl
  · rw [decL, h]; rfl

theorem decL_length : ∀ (k : Nat) (l x : List UInt8), l.length ≤ k → decL l = some x → x.length ≤ l.length / 4 * 3
  | 0, l, x, hk, h => by
    obtain rfl : l = [] := List.eq_nil_of_length_eq_zero (by omega)
    cases h; simp
  | k + 1, l, x, hk, h => by
    by_cases hne : l = []
    · subst hne; cases h; simp
    · cases hq : quant l with
      | none => rw [decL_none hq hne] at h; cases h
      | some y =>
        rw [decL_some hq] at h
        have hl := quant_length hq
        cases hd : decL (l.drop 4) with
        | none => rw [hd] at h; cases h
        | some z =>
          rw [hd] at h
          cases h
          have := decL_length k (l.drop 4) z (by rw [List.length_drop]; omega) hd
          rw [List.length_drop] at this
          rw [List.length_append]
          omega

theorem dec3 (a b c : UInt8) : quad (fig ((a.toNat * 65536 + b.toNat * 256 + c.toNat) / 262144)) (fig ((a.toNat * 65536 + b.toNat * 256 + c.toNat) / 4096)) (fig ((a.toNat * 65536 + b.toNat * 256 + c.toNat) / 64)) (fig (a.toNat * 65536 + b.toNat * 256 + c.toNat)) = some [a, b, c] := by
  have ha := a.toNat_lt; have hb := b.toNat_lt; have hc := c.toNat_lt
  unfold quad
  rw [figN_fig, figN_fig, figN_fig, figN_fig, if_pos ⟨Nat.mod_lt _ (by decide), Nat.mod_lt _ (by decide), Nat.mod_lt _ (by decide), Nat.mod_lt _ (by decide)⟩]
  have hv : val4 ((a.toNat * 65536 + b.toNat * 256 + c.toNat) / 262144 % 64) ((a.toNat * 65536 + b.toNat * 256 + c.toNat) / 4096 % 64) ((a.toNat * 65536 + b.toNat * 256 + c.toNat) / 64 % 64) ((a.toNat * 65536 + b.toNat * 256 + c.toNat) % 64) = a.toNat * 65536 + b.toNat * 256 + c.toNat := by
    unfold val4; omega
  rw [hv]
  unfold three
  have e1 : UInt8.ofNat ((a.toNat * 65536 + b.toNat * 256 + c.toNat) / 65536) = a := by apply UInt8.toNat_inj.1; rw [UInt8.toNat_ofNat']; omega
  have e2 : UInt8.ofNat ((a.toNat * 65536 + b.toNat * 256 + c.toNat) / 256) = b := by apply UInt8.toNat_inj.1; rw [UInt8.toNat_ofNat']; omega
  have e3 : UInt8.ofNat (a.toNat * 65536 + b.toNat * 256 + c.toNat) = c := by apply UInt8.toNat_inj.1; rw [UInt8.toNat_ofNat']; omega
  rw [e1, e2, e3]

/-- WHAT WAS WRITTEN IS READ BACK -/
theorem decL_encL : ∀ l : List UInt8, decL (encL l) = some l ∧ clearL (encL l) = true
  | [] => ⟨rfl, rfl⟩
  | [a] => by
    have ha := a.toNat_lt
    constructor
    · show decL ((enc3 a 0 0).take 2 ++ [61, 61]) = _
      unfold enc3
      simp only [List.take_succ_cons, List.take_zero, List.cons_append, List.nil_append, decL, quant, if_true, quadLast, figN_fig]
      rw [if_pos ⟨Nat.mod_lt _ (by decide), Nat.mod_lt _ (by decide)⟩]
      have hv : val4 ((a.toNat * 65536 + (0 : UInt8).toNat * 256 + (0 : UInt8).toNat) / 262144 % 64) ((a.toNat * 65536 + (0 : UInt8).toNat * 256 + (0 : UInt8).toNat) / 4096 % 64) 0 0 = a.toNat * 65536 := by
        unfold val4; simp; omega
      rw [hv]
      unfold three
      have e1 : UInt8.ofNat (a.toNat * 65536 / 65536) = a := by apply UInt8.toNat_inj.1; rw [UInt8.toNat_ofNat']; omega
      rw [e1]; rfl
    · show clearL ((enc3 a 0 0).take 2 ++ [61, 61]) = _
      unfold enc3
      simp only [List.take_succ_cons, List.take_zero, List.cons_append, List.nil_append, clearL, if_true, figN_fig]
      unfold val4; simp; omega
  | [a, b] => by
    have ha := a.toNat_lt; have hb := b.toNat_lt
    constructor
    · show decL ((enc3 a b 0).take 3 ++ [61]) = _
      unfold enc3
      simp only [List.take_succ_cons, List.take_zero, List.cons_append, List.nil_append, decL, quant, if_true, quadLast, figN_fig]
      rw [if_neg (fig_ne _), if_pos ⟨Nat.mod_lt _ (by decide), Nat.mod_lt _ (by decide), Nat.mod_lt _ (by decide)⟩]
      have hv : val4 ((a.toNat * 65536 + b.toNat * 256 + (0 : UInt8).toNat) / 262144 % 64) ((a.toNat * 65536 + b.toNat * 256 + (0 : UInt8).toNat) / 4096 % 64) ((a.toNat * 65536 + b.toNat * 256 + (0 : UInt8).toNat) / 64 % 64) 0 = a.toNat * 65536 + b.toNat * 256 := by
        unfold val4; simp; omega
      rw [hv]
      unfold three
      have e1 : UInt8.ofNat ((a.toNat * 65536 + b.toNat * 256) / 65536) = a := by apply UInt8.toNat_inj.1; rw [UInt8.toNat_ofNat']; omega
      have e2 : UInt8.ofNat ((a.toNat * 65536 + b.toNat * 256) / 256) = b := by apply UInt8.toNat_inj.1; rw [UInt8.toNat_ofNat']; omega
      rw [e1, e2]; rfl
    · show clearL ((enc3 a b 0).take 3 ++ [61]) = _
      unfold enc3
      simp only [List.take_succ_cons, List.take_zero, List.cons_append, List.nil_append, clearL, if_true, figN_fig]
      rw [if_neg (fig_ne _)]
      unfold val4; simp; omega
  | a :: b :: c :: t => by
    obtain ⟨ih1, ih2⟩ := decL_encL t
    have hq := dec3 a b c
    simp only [encL]
    unfold enc3
    simp only [List.cons_append, List.nil_append]
    constructor
    · rw [decL, quant_quad hq, ih1]; rfl
    · rcases he : encL t with _ | ⟨x, r⟩
      · simp only [clearL]
        rw [if_neg (fig_ne _)]
      · rw [he] at ih2
        rw [clearL]
        · exact ih2
        · intro h; cases h

theorem encL_seen : ∀ (l : List UInt8), ∀ c ∈ encL l, 32 < c.toNat ∧ c.toNat < 128
  | [], c, h => by cases h
  | [a], c, h => by
    simp only [encL, enc3, List.take_succ_cons, List.take_zero, List.cons_append, List.nil_append, List.mem_cons, List.not_mem_nil, or_false] at h
    rcases h with rfl | rfl | rfl | rfl
    · exact fig_seen _
    · exact fig_seen _
    · decide
    · decide
  | [a, b], c, h => by
    simp only [encL, enc3, List.take_succ_cons, List.take_zero, List.cons_append, List.nil_append, List.mem_cons, List.not_mem_nil, or_false] at h
    rcases h with rfl | rfl | rfl | rfl
    · exact fig_seen _
    · exact fig_seen _
    · exact fig_seen _
    · decide
  | a :: b :: d :: t, c, h => by
    simp only [encL, enc3, List.cons_append, List.nil_append, List.mem_cons] at h
    rcases h with rfl | rfl | rfl | rfl | h
    · exact fig_seen _
    · exact fig_seen _
    · exact fig_seen _
    · exact fig_seen _
    · exact encL_seen t c h

end Go.Proofs.YtnnbhklkakhkkaaDoor

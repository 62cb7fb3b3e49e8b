/-
  THE CHARACTERS OF A STRING, as plain lists: what '[]rune(s)' holds, when 'string([]rune(s)) == s', when a space or a plus is among them. No program in sight.
-/
import Derived.Lib.MapLaws
import Derived.Lib.ValidLaws
import Derived.Lib.SpaceUEq
import Derived.Laws.Cover4
import Derived.Laws.IdiomStrings
import Derived.Shelf.GgClosure.StringsIndexFunc
import Derived.Stop.FmtQuoteTie
namespace Go.Proofs.YtnnbhklkakhkkaaDoor
open Go.Lib

/-- the characters of l, as Go's decoder tells them -/
def runesL : Nat → List UInt8 → List Nat
  | 0, _ => []
  | f + 1, l => if l = [] then [] else (decodeL l).1 :: runesL f (l.drop (decodeL l).2)

def runes (s : ByteArray) : List Nat := runesL s.size s.data.toList

theorem drop_nil_iff (s : ByteArray) (pos : Nat) : s.data.toList.drop pos = [] ↔ ¬pos < s.size := by
  rw [List.drop_eq_nil_iff]
  show s.data.size ≤ pos ↔ _
  rw [Nat.not_lt]; rfl

theorem runesFrom_eq (s : ByteArray) : ∀ (f pos : Nat) (acc : Array Value),
    Conv.runesFrom s f pos acc = acc ++ ((runesL f (s.data.toList.drop pos)).map fun (r : Nat) => Value.int .i32 (r : Int)).toArray
  | 0, _, acc => by simp [Conv.runesFrom, runesL]
  | f + 1, pos, acc => by
    unfold Conv.runesFrom runesL
    by_cases h : pos < s.size
    · rw [if_pos h, if_neg (fun e => (drop_nil_iff s pos).1 e h)]
      dsimp only
      rw [runesFrom_eq s f, decodeL_drop, List.drop_drop]
      apply Array.ext'
      simp
    · rw [if_neg h, if_pos ((drop_nil_iff s pos).2 h)]
      simp

theorem runesFrom_runes (s : ByteArray) : Conv.runesFrom s s.size 0 #[] = ((runes s).map fun (r : Nat) => Value.int .i32 (r : Int)).toArray := by
  rw [runesFrom_eq]
  simp [runes]

theorem runes_length_le (s : ByteArray) : (runes s).length ≤ s.size := by
  have h := size_runesFrom s s.size 0 #[]
  rw [runesFrom_runes] at h
  simpa using h

theorem runesL_le : ∀ (f : Nat) (l : List UInt8), ∀ r ∈ runesL f l, r ≤ 1114111
  | 0, _, r, h => by simp [runesL] at h
  | f + 1, l, r, h => by
    unfold runesL at h
    split at h
    · cases h
    · rcases List.mem_cons.1 h with rfl | h
      · exact decodeL_rune l
      · exact runesL_le f _ r h

theorem runes_le (s : ByteArray) : ∀ r ∈ runes s, r ≤ 1114111 := runesL_le _ _

/-! ## strings.IndexFunc -/
theorem idxFuncFrom_neg (p : Nat → Bool) (s : ByteArray) : ∀ (f pos : Nat), idxFuncFrom p true s f pos < 0 ↔ (runesL f (s.data.toList.drop pos)).all (fun r => !p r) = true
  | 0, pos => by simp [idxFuncFrom, runesL]
  | f + 1, pos => by
    unfold idxFuncFrom runesL
    by_cases h : pos < s.size
    · rw [if_pos h, if_neg (fun e => (drop_nil_iff s pos).1 e h), decodeL_drop, List.drop_drop]
      by_cases hp : p (Utf8.decode s pos).1 = true
      · rw [if_pos hp, List.all_cons, hp]
        simp
      · rw [if_neg hp, List.all_cons, idxFuncFrom_neg p s f]
        simp at hp
        simp [hp]
    · rw [if_neg h, if_pos ((drop_nil_iff s pos).2 h)]
      simp

theorem idxFunc_neg (p : Nat → Bool) (s : ByteArray) : idxFunc p true s < 0 ↔ (runes s).all (fun r => !p r) = true := by
  unfold idxFunc runes
  rw [idxFuncFrom_neg]
  simp

/-! ## string([]rune(s)) == s -/
theorem enc_eq (r : Nat) : (Utf8.encode (r : Int)).data.toList = encodeRune (r : Int) := by
  unfold encodeRune
  rw [← Go.Extern.FmtText.encode_eq]
  unfold Go.Extern.FmtText.nums
  rw [List.map_map]
  exact ((List.map_congr_left fun x _ => by simp).trans (List.map_id _)).symm

theorem foldl_enc : ∀ (ns : List Nat) (b : ByteArray), ((ns.map fun (r : Nat) => (r : Int)).foldl (fun r n => r ++ Utf8.encode n) b).data.toList = b.data.toList ++ ns.flatMap fun (r : Nat) => encodeRune (r : Int)
  | [], b => by simp
  | n :: ns, b => by
    rw [List.map_cons, List.foldl_cons, foldl_enc ns, List.flatMap_cons, ← enc_eq]
    simp [ByteArray.data_append]

theorem runesBytes_list (ns : List Nat) : (runesBytes (ns.map fun (r : Nat) => (r : Int))).data.toList = ns.flatMap fun (r : Nat) => encodeRune (r : Int) := by
  unfold runesBytes
  rw [foldl_enc]
  simp

theorem bad_head {l t : List UInt8} (h : l = 239 :: 191 :: 189 :: t) : (decodeL l).2 = 3 := by
  subst h
  rw [decodeL_N]
  simp [decodeN]

/-- string([]rune(l)) == l says that l is of whole characters -/
theorem back_iff : ∀ (f : Nat) (l : List UInt8), l.length ≤ f → ((runesL f l).flatMap (fun (r : Nat) => encodeRune (r : Int)) = l ↔ validGoD f l = true)
  | 0, l, h => by
    obtain rfl : l = [] := List.eq_nil_of_length_eq_zero (by omega)
    simp [runesL, validGoD]
  | f + 1, l, h => by
    unfold runesL validGoD
    by_cases hl : l = []
    · rw [if_pos hl, if_pos hl, hl]; simp
    · rw [if_neg hl, if_neg hl, List.flatMap_cons]
      have hpos : 0 < l.length := List.length_pos_iff.2 hl
      have hw := decodeL_width l
      by_cases hv : (decodeL l).1 = 65533 ∧ (decodeL l).2 = 1
      · rw [if_pos hv]
        constructor
        · intro he
          have h3 : (decodeL l).2 = 3 := by
            rw [hv.1, show encodeRune ((65533 : Nat) : Int) = [239, 191, 189] by decide] at he
            exact bad_head he.symm
          omega
        · intro he; cases he
      · rw [if_neg hv, encode_decode l hl hv, ← back_iff f (l.drop (decodeL l).2) (by rw [List.length_drop]; omega)]
        constructor
        · intro he
          have := congrArg (List.drop (decodeL l).2) he
          rw [List.drop_append_of_le_length (by rw [List.length_take]; have := decodeL_le l hl; omega), List.drop_take] at this
          simpa using this
        · intro he
          rw [he, List.take_append_drop]

/-- string([]rune(s)) == s -/
theorem utf_iff (s : ByteArray) : runesBytes ((runes s).map fun (r : Nat) => (r : Int)) = s ↔ validD s.data.toList = true := by
  have h := back_iff s.size s.data.toList (Nat.le_refl _)
  unfold validD
  rw [show s.data.toList.length = s.size from rfl, ← h]
  constructor
  · intro he
    have := runesBytes_list (runes s)
    rw [he] at this
    exact this.symm
  · intro he
    have hd : (runesBytes ((runes s).map fun (r : Nat) => (r : Int))).data.toList = s.data.toList := (runesBytes_list _).trans he
    rcases s with ⟨⟨s⟩⟩
    generalize runesBytes _ = x at hd
    rcases x with ⟨⟨x⟩⟩
    simp at hd
    rw [hd]

/-! ## a plus among the bytes, a plus among the characters -/
theorem mem_plus : ∀ (f : Nat) (l : List UInt8), l.length ≤ f → validGoD f l = true → ((43 : Nat) ∈ runesL f l ↔ (43 : UInt8) ∈ l)
  | 0, l, h, _ => by
    obtain rfl : l = [] := List.eq_nil_of_length_eq_zero (by omega)
    simp [runesL]
  | f + 1, l, h, hval => by
    unfold runesL
    unfold validGoD at hval
    by_cases hl : l = []
    · rw [if_pos hl, hl]; simp
    · rw [if_neg hl] at hval ⊢
      have hpos : 0 < l.length := List.length_pos_iff.2 hl
      have hw := decodeL_width l
      split at hval
      · cases hval
      · next hv =>
        have ih := mem_plus f (l.drop (decodeL l).2) (by rw [List.length_drop]; omega) hval
        rw [List.mem_cons, ih]
        conv => rhs; rw [← List.take_append_drop (decodeL l).2 l, List.mem_append]
        have key : (43 = (decodeL l).1 ↔ (43 : UInt8) ∈ l.take (decodeL l).2) := by
          rw [← encode_decode l hl hv]
          have hr := decodeL_rune l
          generalize (decodeL l).1 = r at hr
          constructor
          · rintro rfl; decide
          · intro hm
            unfold encodeRune at hm
            rw [List.mem_map] at hm
            obtain ⟨x, hx, he⟩ := hm
            have hx2 : x = 43 := by
              have hb := encodeRuneZ_byte (r : Int) x hx
              have := congrArg UInt8.toNat he
              simp at this
              omega
            subst hx2
            unfold encodeRuneZ at hx
            repeat' split at hx
            all_goals simp at hx
            all_goals omega
        rw [key]

theorem plus_iff (s : ByteArray) (hv : validD s.data.toList = true) : (43 : Nat) ∈ runes s ↔ (43 : UInt8) ∈ s.data.toList :=
  mem_plus s.size s.data.toList (Nat.le_refl _) hv

/-! ## the name of a key -/
def nameOk (s : ByteArray) : Bool := (runes s).all (fun r => !(isSpaceR r || r == 43)) && (decide (s ≠ ⟨#[]⟩) && validD s.data.toList)

/-- the code's own words for it -/
theorem nameOk_eq (s : ByteArray) (hne : s ≠ ⟨#[]⟩) (hv : validD s.data.toList = true) :
    nameOk s = (decide (idxFunc isSpaceR true s < 0) && !decide ((43 : UInt8) ∈ s.data.toList)) := by
  unfold nameOk
  rw [hv, Bool.eq_iff_iff]
  simp only [Bool.and_eq_true, decide_eq_true_eq, Bool.not_eq_true', decide_eq_false_iff_not, hne, ne_eq, not_false_eq_true, and_true, idxFunc_neg]
  rw [← plus_iff s hv]
  simp only [List.all_eq_true, Bool.not_eq_true', Bool.or_eq_false_iff, beq_eq_false_iff_ne, ne_eq]
  constructor
  · intro h
    exact ⟨fun r hr => (h r hr).1, fun hm => (h 43 hm).2 rfl⟩
  · rintro ⟨h1, h2⟩ r hr
    exact ⟨h1 r hr, fun e => h2 (e ▸ hr)⟩

end Go.Proofs.YtnnbhklkakhkkaaDoor

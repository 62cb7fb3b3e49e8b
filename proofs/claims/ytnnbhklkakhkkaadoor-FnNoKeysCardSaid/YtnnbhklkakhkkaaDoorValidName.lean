/-
  THE CODE's OWN ValidName, AND laws.FnName: the walks of zzIndex (for one byte), zzContains, isValidName, ValidName, FnName.
-/
import Derived.Test.YtnnbhklkakhkkaaDoorNames
namespace Go.Proofs.YtnnbhklkakhkkaaDoor
open Go.RowKit Go.Lib

/-- where a byte first stands in a string; -1, if it does not -/
def idxB (c : UInt8) (s : ByteArray) : Int := if s.data.toList.idxOf c < s.size then (s.data.toList.idxOf c : Int) else -1

theorem extract_one (s : ByteArray) (k : Nat) (hk : k < s.size) : ∃ x, s.data.toList[k]? = some x ∧ (s.extract k (k + 1)).toList = [x] := by
  have hl : k < s.data.toList.length := by simpa using hk
  refine ⟨s.data.toList[k], List.getElem?_eq_getElem hl, ?_⟩
  rw [ByteArray.toList_eq, ByteArray.data_extract, Array.toList_extract, List.extract_eq_take_drop]
  simp only [Nat.add_sub_cancel_left]
  rw [List.take_one, List.head?_drop, List.getElem?_eq_getElem hl]
  rfl

theorem idxB_at {c : UInt8} {s : ByteArray} {k : Nat} (hx : s.data.toList[k]? = some c) (hno : c ∉ s.data.toList.take k) : idxB c s = k := by
  have hk := (List.getElem?_eq_some_iff.1 hx).1
  have hi : s.data.toList.idxOf c = k := by
    have hsplit : s.data.toList = s.data.toList.take k ++ (c :: s.data.toList.drop (k + 1)) := by
      have hg := (List.getElem?_eq_some_iff.1 hx).2
      rw [← hg, ← List.drop_eq_getElem_cons, List.take_append_drop]
    rw [hsplit, List.idxOf_append, if_neg hno, List.idxOf_cons_self, List.length_take, Nat.min_eq_left (by omega)]
    omega
  unfold idxB
  rw [hi, if_pos (by simpa using hk)]

theorem idxB_none {c : UInt8} {s : ByteArray} (hno : c ∉ s.data.toList) : idxB c s = -1 := by
  unfold idxB
  rw [List.idxOf_eq_length hno, if_neg (by simp)]

theorem idxB_nonneg (c : UInt8) (s : ByteArray) : 0 ≤ idxB c s ↔ c ∈ s.data.toList := by
  unfold idxB
  constructor
  · intro h
    split at h
    · next hlt => exact List.idxOf_lt_length_iff.1 (by simpa using hlt)
    · omega
  · intro h
    have := List.idxOf_lt_length_iff.2 h
    rw [if_pos (by simpa using this)]
    omega

set_option maxHeartbeats 1000000 in
theorem index_any (s : ByteArray) (c : UInt8) (w : World) (hs : s.size ≤ 4611686018427387904) :
    Calls Tryd.prog 85 #[.string s, .string ⟨#[c]⟩] w fun e w' => e = .returned (.int .i64 (idxB c s)) ∧ w' = w := by
  go_enter Tryd.func85, Tryd.ntmps85
  go_wp2
  go_loopw [5] (fun i wr => ∃ k : Nat, k ≤ s.size ∧ i = .int .i64 k ∧ wr = w ∧ c ∉ s.data.toList.take k) (fun i _ => s.size - (intOf i).toNat)
  case atStart => exact ⟨0, Nat.zero_le _, rfl, rfl, by simp⟩
  case round =>
    obtain ⟨k, hk, rfl, rfl, hno⟩ := hrel
    have Hno := Lib.hid hno
    clear hno
    by_cases hlt : k < s.size
    · obtain ⟨x, hx, he⟩ := extract_one s k hlt
      have Hx := Lib.hid hx
      clear hx
      by_cases hc : x = c
      · subst hc
        have h63 : (k : Int) + 1 ≤ s.size := by omega
        go_wp2_with (fail)
        go_ret
        exact ⟨ret_int (idxB_at Hx.out Hno.out).symm, rfl⟩
      · have h63 : (k : Int) + 1 ≤ s.size := by omega
        have e : (x == c) = false := by simpa using hc
        go_wp2_with (fail)
        go_roundw
        case rel =>
          refine ⟨k + 1, by omega, by go_num, by first | rfl | trivial, ?_⟩
          rw [List.take_add_one, Hx.out, List.mem_append]
          rintro (h | h)
          · exact Hno.out h
          · simp at h; exact hc h.symm
        case measure => simp [intOf]; omega
    · have h63 : ¬(k : Int) + 1 ≤ s.size := by omega
      go_wp2_with (fail)
      go_ret
      have hno := Hno.out
      rw [List.take_of_length_le (by simp; omega)] at hno
      exact ⟨ret_int (idxB_none hno).symm, rfl⟩

theorem contains_any (s : ByteArray) (c : UInt8) (w : World) (hs : s.size ≤ 4611686018427387904) :
    Calls Tryd.prog 71 #[.string s, .string ⟨#[c]⟩] w fun e w' => e = .returned (.bool (decide (c ∈ s.data.toList))) ∧ w' = w := by
  have c1 := index_any s c w hs
  have h := idxB_nonneg c s
  generalize idxB c s = i at c1 h
  have H := Lib.hid h
  clear h
  go_enter Tryd.func71, Tryd.ntmps71
  go_wp2_with (fail)
  refine c1.mono ?_
  clear c1
  rintro e w1 ⟨rfl, rfl⟩
  go_wp2_with (fail)
  go_ret
  exact ⟨ret_bool (by rw [Bool.eq_iff_iff]; simpa using H.out), rfl⟩

theorem isSpace_enters : ∀ args w, (callFunc 70 args).run Tryd.prog w = .ok (.enter 70 args) w := enters_of Tryd.func70 (by kernel_rfl) rfl

theorem pred_space (w : World) (hW : Lib.WhiteTab 5 w) : PredGrows Tryd.prog 70 #[] isSpaceR w := by
  intro W x hx hb
  have h := Any.unicode_IsSpace_any Tryd.lays199 (x : Int) W (by omega) (by omega) (WhiteTab_below hW hb)
  rw [Lib.isSpaceZ_nat] at h
  exact h

set_option maxHeartbeats 1000000 in
theorem valid_any (s : ByteArray) (w : World) (hs : s.size ≤ 4611686018427387904) (hT : Tabs w) :
    Calls Tryd.prog 50 #[.string s] w fun e w' => e = .returned (.bool (nameOk s)) ∧ Below w.heap.size w w' := by
  have c1 : Calls Tryd.prog 68 #[.string s] w fun e w' => e = .returned (.bool (validD s.data.toList)) ∧ Below w.heap.size w w' := Any.utf8_ValidString Tryd.lays196 s w (by omega) hT.1
  by_cases hne : s = ⟨#[]⟩
  · have hn : nameOk s = false := by unfold nameOk; simp [hne]
    have H1 := Lib.hid hn
    clear hn c1
    subst hne
    go_enter Tryd.func50, Tryd.ntmps50
    go_wp2_with (fail)
    go_ret
    exact ⟨ret_bool H1.out.symm, Below.refl _ _⟩
  · have e2 : s.toList.isEmpty = false := by
      rw [List.isEmpty_eq_false_iff]
      exact fun h => hne ((str_eq_iff s ⟨#[]⟩).1 (by rw [h, ByteArray.toList_eq]))
    cases hv : validD s.data.toList
    · have hn : nameOk s = false := by unfold nameOk; rw [hv]; simp
      have H1 := Lib.hid hn
      rw [hv] at c1
      clear hn hv
      go_enter Tryd.func50, Tryd.ntmps50
      go_wp2_with (fail)
      refine c1.mono ?_
      clear c1
      rintro e w1 ⟨rfl, hb1⟩
      go_wp2_with (fail)
      go_ret
      exact ⟨ret_bool H1.out.symm, hb1⟩
    · have hn := nameOk_eq s hne hv
      have H1 := Lib.hid hn
      rw [hv] at c1
      clear hn hv
      go_enter Tryd.func50, Tryd.ntmps50
      go_wp2_with (fail)
      refine c1.mono ?_
      clear c1
      rintro e w1 ⟨rfl, hb1⟩
      have c2 : Calls Tryd.prog 69 #[.string s, .func (.func 70) #[] #[]] w1 fun e w' => e = .returned (.int .i64 (Lib.idxFunc isSpaceR true s)) ∧ Below w1.heap.size w1 w' :=
        Any.strings_IndexFunc_grows Tryd.laysGw15 70 #[] isSpace_enters isSpaceR s w1 (pred_space w1 (hT.below hb1).2)
      generalize Lib.idxFunc isSpaceR true s = i at c2 H1
      by_cases hi : i < 0
      · go_wp2_with (fail)
        refine c2.mono ?_
        clear c2
        rintro e w2 ⟨rfl, hb2⟩
        have hb02 := hb1.trans (hb2.mono hb1.size)
        have c3 := contains_any s 43 w2 hs
        go_wp2_with (fail)
        refine c3.mono ?_
        clear c3
        rintro e w3 ⟨rfl, rfl⟩
        go_wp2_with (fail)
        go_ret
        exact ⟨ret_bool (by rw [H1.out]; simp [hi]), hb02⟩
      · go_wp2_with (fail)
        refine c2.mono ?_
        clear c2
        rintro e w2 ⟨rfl, hb2⟩
        have hb02 := hb1.trans (hb2.mono hb1.size)
        go_wp2_with (fail)
        go_ret
        exact ⟨ret_bool (by rw [H1.out, decide_eq_false (by omega), Bool.false_and]), hb02⟩

theorem noteValid_any (s : ByteArray) (w : World) (hs : s.size ≤ 4611686018427387904) (hT : Tabs w) :
    Calls Tryd.prog 28 #[.string s] w fun e w' => e = .returned (.bool (nameOk s)) ∧ Below w.heap.size w w' := by
  have c1 := valid_any s w hs hT
  go_enter Tryd.func28, Tryd.ntmps28
  go_wp2_with (fail)
  refine c1.mono ?_
  clear c1
  rintro e w1 ⟨rfl, hb⟩
  go_wp2_with (fail)
  go_ret
  exact ⟨rfl, hb⟩

end Go.Proofs.YtnnbhklkakhkkaaDoor

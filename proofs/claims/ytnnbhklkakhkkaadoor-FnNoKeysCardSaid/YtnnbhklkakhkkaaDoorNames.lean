/-
  NAMES OF KEYS: the walks of spec.space, spec.Utf, spec.Name and of the code's own ValidName.
-/
import Derived.Test.YtnnbhklkakhkkaaDoorBase
import Derived.Test.YtnnbhklkakhkkaaDoorRunes
import Derived.Test.YtnnbhklkakhkkaaDoorShelfA
import Derived.Shelf.Unicode.IsSpaceAnyD
namespace Go.Proofs.YtnnbhklkakhkkaaDoor
open Go.RowKit Go.Lib

/-- what the initialisers of unicode/utf8 and unicode have laid -/
def Tabs (w : World) : Prop := Lib.Utf8Tabs 3 4 w ∧ Lib.WhiteTab 5 w

theorem Tabs.below {w w' : World} (h : Tabs w) (hb : Below w.heap.size w w') : Tabs w' := by
  have lt : ∀ {a : Addr} {v : Value}, w.cell? a = some v → w'.cell? a = some v := fun {a v} hc => (hb.cell (World.block_lt_of_cell? w a hc)).trans hc
  exact ⟨⟨fun c hc => lt (h.1.1 c hc), fun i hi => ⟨lt (h.1.2 i hi).1, lt (h.1.2 i hi).2⟩⟩, WhiteTab_below h.2 hb⟩

set_option maxHeartbeats 1000000 in
theorem space_any (r : Nat) (hr : r ≤ 1114111) (w : World) :
    Calls Tryd.prog 29 #[.int .i32 r] w fun e w' => e = .returned (.bool (isSpaceR r)) ∧ w' = w := by
  have e : ∀ n : Int, ((r : Int) == n) = decide ((r : Int) = n) := fun n => by rw [Bool.eq_iff_iff]; simp
  go_enter Tryd.func29, Tryd.ntmps29
  go_wp2
  all_goals
    go_ret
    refine ⟨ret_bool ?_, rfl⟩
    first
      | (rw [Bool.eq_iff_iff]; simp [isSpaceR]; omega)
      | (simp [isSpaceR]; omega)

/-- '[]rune(s)': a row of the call's own -/
theorem run_runes (s : ByteArray) (w : World) (hs : s.size ≤ 70368744177664) :
    ∃ cp W2, (convert 9 61 (.string s)).run Tryd.prog w = .ok (.slice (some ⟨w.heap.size, 0, none⟩) (runes s).length cp) W2 ∧ (runes s).length ≤ cp ∧ Below w.heap.size w W2 ∧ w.heap.size < W2.heap.size ∧
      ∀ (j r : Nat), (runes s)[j]? = some r → W2.cell? ⟨w.heap.size, j, none⟩ = some (.int .i32 (r : Int)) := by
  have hle := runes_length_le s
  have hc := run_runes_of_string (P := Tryd.prog) w 9 61 21 s Tryd.underlying9 Tryd.underlying61 Tryd.underlying21 (by rw [runesFrom_runes]; simp; omega)
  rw [runesFrom_runes] at hc
  simp only [List.size_toArray, List.length_map] at hc
  refine ⟨_, _, hc, grownCap_ge _ _ _ _, ((Below.refl _ _).drew).alloc (Nat.le_refl _) _, by simp, fun j r hr => ?_⟩
  refine (cell_of_row (w.drew.alloc _) w.heap.size j _ _ (0, 0) (heap_alloc_new w.drew _)).trans ?_
  have hj := (List.getElem?_eq_some_iff.1 hr).1
  rw [Array.getElem?_append_left (by simpa using hj)]
  simp [hr]

/-- 'string(rs)' of them -/
theorem run_back (ns : List Nat) (g cp : Nat) (w : World) (hc : ∀ (j r : Nat), ns[j]? = some r → w.cell? ⟨g, j, none⟩ = some (.int .i32 (r : Int))) :
    (convert 61 9 (.slice (some ⟨g, 0, none⟩) ns.length cp)).run Tryd.prog w = .ok (.string (runesBytes (ns.map fun (r : Nat) => (r : Int)))) w := by
  have h := run_convert_runes (P := Tryd.prog) w 61 9 21 ⟨g, 0, none⟩ ns.length cp (ns.map fun (r : Nat) => (r : Int)) (by simp) Tryd.underlying61 Tryd.underlying21 Tryd.underlying9
    (fun j hj => by
      simp at hj
      rw [add_zero_block, hc j ns[j] (List.getElem?_eq_getElem hj)]
      simp [List.getD, hj])
  rwa [List.take_of_length_le (by simp)] at h

set_option maxHeartbeats 1000000 in
theorem utf_any (s : ByteArray) (w : World) (hs : s.size ≤ 70368744177664) :
    Calls Tryd.prog 30 #[.string s] w fun e w' => e = .returned (.bool (validD s.data.toList)) ∧ Below w.heap.size w w' := by
  obtain ⟨cp, W2, hc1, _, hb, _, hcells⟩ := run_runes s w hs
  have hc2 := run_back (runes s) w.heap.size cp W2 hcells
  have hu := utf_iff s
  generalize runesBytes _ = x at hc2 hu
  have Hu := Lib.hid hu
  clear hu hcells
  go_enter Tryd.func30, Tryd.ntmps30
  go_wp2_with (simp only [hc1, hc2])
  go_ret
  refine ⟨ret_bool ?_, hb⟩
  rw [Bool.eq_iff_iff, ← Hu.out]
  simp [str_eq_iff]

theorem all_take_next {α : Type} (p : α → Bool) (l : List α) (k : Nat) (x : α) (h : l[k]? = some x) : (l.take (k + 1)).all p = ((l.take k).all p && p x) := by
  rw [List.take_add_one, h]
  simp

theorem nameOk_bad {s : ByteArray} {k r : Nat} (hm : (runes s)[k]? = some r) (h : (isSpaceR r || r == 43) = true) : nameOk s = false := by
  unfold nameOk
  rw [Bool.and_eq_false_iff]
  left
  rw [List.all_eq_false]
  exact ⟨r, List.mem_of_getElem? hm, by simp [h]⟩

set_option maxHeartbeats 2000000 in
theorem name_any (s : ByteArray) (w : World) (hs : s.size ≤ 70368744177664) :
    Calls Tryd.prog 11 #[.string s] w fun e w' => e = .returned (.bool (nameOk s)) ∧ Below w.heap.size w w' := by
  obtain ⟨cp, W2, hc1, hcp, hb, hlt, hcells⟩ := run_runes s w hs
  have hle := runes_length_le s
  have hrl := runes_le s
  have Hc := Lib.hid hcells
  have Hr := Lib.hid hrl
  clear hcells hrl
  go_enter Tryd.func11, Tryd.ntmps11
  go_wp2_with (simp only [hc1])
  clear hc1
  go_loopw [8] (fun i wr => ∃ k : Nat, k ≤ (runes s).length ∧ i = .int .i64 k ∧ wr = W2 ∧ ((runes s).take k).all (fun r => !(isSpaceR r || r == 43)) = true) (fun i _ => (runes s).length - (intOf i).toNat)
  case atStart => exact ⟨0, Nat.zero_le _, rfl, rfl, by simp⟩
  case round =>
    obtain ⟨k, hk, rfl, rfl, hall⟩ := hrel
    have Hall := Lib.hid hall
    clear hall
    by_cases hlt2 : k < (runes s).length
    · have hx : (runes s)[k]? = some (runes s)[k] := List.getElem?_eq_getElem hlt2
      have hcell := Hc.out k _ hx
      have hr := Hr.out _ (List.getElem_mem hlt2)
      generalize (runes s)[k] = r at hx hcell hr
      have c1 := space_any r hr wr
      have Hx := Lib.hid hx
      clear hx
      cases hsp : isSpaceR r
      · rw [hsp] at c1
        by_cases h43 : r = 43
        · have e : ((r : Int) == 43) = true := by simp [h43]
          have H43 := Lib.hid h43
          clear h43
          go_wp2_with (go_at_call 29; refine c1.mono ?_; rintro e w' ⟨rfl, rfl⟩)
          go_ret
          exact ⟨ret_bool (nameOk_bad Hx.out (by rw [H43.out]; rfl)).symm, hb⟩
        · have e : ((r : Int) == 43) = false := by simp; omega
          have H43 := Lib.hid h43
          clear h43
          go_wp2_with (go_at_call 29; refine c1.mono ?_; rintro e w' ⟨rfl, rfl⟩)
          go_roundw
          case rel => exact ⟨k + 1, by omega, by go_num, by first | rfl | trivial, by rw [all_take_next _ _ _ _ Hx.out, Hall.out, hsp]; simpa using H43.out⟩
          case measure => simp [intOf]; omega
      · rw [hsp] at c1
        go_wp2_with (go_at_call 29; refine c1.mono ?_; rintro e w' ⟨rfl, rfl⟩)
        go_ret
        exact ⟨ret_bool (nameOk_bad Hx.out (by rw [hsp]; rfl)).symm, hb⟩
    · have c2 := utf_any s wr hs
      have hall := Hall.out
      rw [List.take_of_length_le (by omega)] at hall
      by_cases hne : s = ⟨#[]⟩
      · have hn : nameOk s = false := by unfold nameOk; simp [hne]
        have H1 := Lib.hid hn
        have H2 := Lib.hid hall
        clear hn hall
        subst hne
        go_wp2_with (fail)
        go_ret
        exact ⟨ret_bool H1.out.symm, hb⟩
      · have hn : nameOk s = validD s.data.toList := by unfold nameOk; rw [hall]; simp [hne]
        have H1 := Lib.hid hn
        have H2 := Lib.hid hall
        have e2 : s.toList.isEmpty = false := by
          rw [List.isEmpty_eq_false_iff]
          exact fun h => hne ((str_eq_iff s ⟨#[]⟩).1 (by rw [h, ByteArray.toList_eq]))
        clear hn hall
        go_wp2_with (fail)
        refine c2.mono ?_
        clear c2
        rintro e w3 ⟨rfl, hb3⟩
        have hb03 := hb.trans (hb3.mono hb.size)
        go_wp2_with (fail)
        go_ret
        exact ⟨ret_bool H1.out.symm, hb03⟩

end Go.Proofs.YtnnbhklkakhkkaaDoor

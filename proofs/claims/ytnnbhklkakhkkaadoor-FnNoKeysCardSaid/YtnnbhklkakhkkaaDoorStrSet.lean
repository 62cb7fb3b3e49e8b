/-
  A SET OF TEXTS: a map[string]bool that the call has made, whose entries are all true: what a store and a look-up do. Plain lemmas; no walk.
-/
import Derived.Test.YtnnbhklkakhkkaaDoorHave
namespace Go.Proofs.YtnnbhklkakhkkaaDoor
open Go.RowKit

/-- is the text in the list? -/
def inTexts (l : List ByteArray) (s : ByteArray) : Bool := l.any fun t => decide (t = s)
theorem inTexts_iff {l : List ByteArray} {s : ByteArray} : inTexts l s = true ↔ s ∈ l := by
  unfold inTexts
  rw [List.any_eq_true]
  constructor
  · rintro ⟨t, ht, h⟩
    rw [decide_eq_true_eq] at h
    exact h ▸ ht
  · intro h
    exact ⟨s, h, decide_eq_true rfl⟩
def tEnt (i : Nat) (s : ByteArray) : MapEntry := { key := .string s, val := .bool true, born := i }
def tEnts (L : List ByteArray) : Array MapEntry := (L.mapIdx tEnt).toArray
theorem tEnts_get (L : List ByteArray) (i : Nat) : (tEnts L)[i]? = (L[i]?).map (tEnt i) := by simp [tEnts, List.getElem?_mapIdx]
theorem tEnts_mem {L : List ByteArray} {x : MapEntry} (h : x ∈ (tEnts L).toList) : ∃ s ∈ L, x.key = .string s ∧ x.val = .bool true := by
  obtain ⟨i, hi⟩ := List.mem_iff_getElem?.1 h
  rw [Array.getElem?_toList, tEnts_get] at hi
  obtain ⟨s, hs, rfl⟩ := Option.map_eq_some_iff.1 hi
  exact ⟨s, List.mem_of_getElem? hs, rfl, rfl⟩

/-- block B is the set of these texts -/
def TextsAt (w : World) (B : Nat) (l : List ByteArray) : Prop := ∃ L : List ByteArray, w.heap[B]? = some (.map (tEnts L) L.length) ∧ ∀ s, s ∈ L ↔ s ∈ l

theorem TextsAt.lt {w : World} {B : Nat} {l : List ByteArray} (h : TextsAt w B l) : B < w.heap.size := by
  obtain ⟨L, h, _⟩ := h
  exact (Array.getElem?_eq_some_iff.1 h).1
theorem TextsAt.kept {w w' : World} {B : Nat} {l : List ByteArray} (h : TextsAt w B l) (hk : w'.heap[B]? = w.heap[B]?) : TextsAt w' B l := by
  obtain ⟨L, h, hr⟩ := h
  exact ⟨L, hk.trans h, hr⟩
theorem TextsAt.made {w : World} {B : Nat} (h : w.heap[B]? = some (.map #[] 0)) : TextsAt w B [] := ⟨[], h, fun _ => by simp⟩
theorem TextsAt.noCells {w : World} {B : Nat} {l : List ByteArray} (h : TextsAt w B l) : ∃ es c, w.heap[B]? = some (.map es c) := by
  obtain ⟨L, h, _⟩ := h
  exact ⟨_, _, h⟩

/-- what looking for a text finds -/
theorem tFind (L : List ByteArray) (s : ByteArray) : (Instr.findNow .string (.string s) (tEnts L).toList 0 = some none ∧ s ∉ L) ∨
    ∃ j, Instr.findNow .string (.string s) (tEnts L).toList 0 = some (some (j, .bool true)) ∧ L[j]? = some s := by
  rcases MapKept.findNow_spec (d := .string) (k := .string s) trivial (tEnts L).toList 0 (fun x hx => by obtain ⟨t, _, hk, _⟩ := tEnts_mem hx; rw [hk]; trivial) with ⟨h1, h2⟩ | ⟨j, e, h1, h2, h3⟩
  · refine .inl ⟨h1, fun hm => ?_⟩
    obtain ⟨i, hi⟩ := List.mem_iff_getElem?.1 hm
    exact h2 (tEnt i s) (List.mem_iff_getElem?.2 ⟨i, by rw [Array.getElem?_toList, tEnts_get, hi]; rfl⟩) rfl
  · rw [Array.getElem?_toList, tEnts_get] at h2
    obtain ⟨t, ht, rfl⟩ := Option.map_eq_some_iff.1 h2
    have : t = s := by injection h3
    subst this
    exact .inr ⟨j, by rw [h1, Nat.zero_add]; rfl, ht⟩

theorem tModify {L : List ByteArray} {i : Nat} {s : ByteArray} (h : L[i]? = some s) : (tEnts L).modify i (fun m => { m with key := .string s, val := .bool true }) = tEnts L := by
  apply Array.ext_getElem?
  intro j
  rw [Array.getElem?_modify]
  split
  · next e => subst e; rw [tEnts_get, h]; rfl
  · rfl
theorem tPush (L : List ByteArray) (s : ByteArray) : (tEnts L).push { key := .string s, val := .bool true, born := L.length } = tEnts (L ++ [s]) := by
  simp [tEnts, List.mapIdx_append, tEnt]

section
variable {w : World} {B : Nat} {l : List ByteArray} {T K E : TypeId}

theorem run_text_put (h : TextsAt w B l) (hT : Tryd.prog.underlying T = some (.map K E)) (hK : Tryd.prog.underlying K = some .string) (s : ByteArray) :
    ∃ o, (Instr.mapUpdate T (.map (some B)) (.string s) (.bool true)).run Tryd.prog w = .ok () (putObj w B o) ∧ TextsAt (putObj w B o) B (l ++ [s]) ∧ ∃ es c, o = .map es c := by
  have hlt := h.lt
  obtain ⟨L, hm, hl⟩ := h
  have hc : (Instr.checkKey false 10000 K (.string s)).run Tryd.prog w = .ok () w := MapKept.run_checkKey hK (show MapKept.IsKey .string (.string s) from trivial) _ 9999
  rcases tFind L s with ⟨hf, hn⟩ | ⟨j, hf, hj⟩
  · have hf' : (Instr.findKey K (.string s) (tEnts L).toList).run Tryd.prog w = .ok none w := MapKept.run_findKey hK hf
    refine ⟨.map (tEnts (L ++ [s])) (L.length + 1), ?_, ⟨L ++ [s], by rw [putObj_at hlt]; simp, fun t => by rw [List.mem_append, List.mem_append, hl]⟩, _, _, rfl⟩
    simp only [Instr.mapUpdate, Sem.run_bind, run_underlying hT, Result.andThen_ok, MapKept.run_getObj_map hm, hc, hf', MapKept.run_setObj_map _ hm, tPush]
    rfl
  · have hf' : (Instr.findKey K (.string s) (tEnts L).toList).run Tryd.prog w = .ok (some (j, .bool true)) w := MapKept.run_findKey hK hf
    have hg : (tEnts L)[j]? = some (tEnt j s) := by rw [tEnts_get, hj]; rfl
    have hs : Instr.sameBits 10000 (.string s) (.string s) = true := by simp [Instr.sameBits, beq_toListBytes]
    refine ⟨.map (tEnts L) L.length, ?_, ⟨L, putObj_at hlt, fun t => ?_⟩, _, _, rfl⟩
    · simp only [Instr.mapUpdate, Sem.run_bind, run_underlying hT, Result.andThen_ok, MapKept.run_getObj_map hm, hc, hf', hg, Option.map_some, Option.getD_some]
      simp only [Instr.keyThatStays, tEnt, hs, if_true, Sem.run_pure, Result.andThen_ok, MapKept.run_setObj_map _ hm, tModify hj]
      rfl
    · rw [hl, List.mem_append]
      exact ⟨.inl, fun h => h.elim id fun h => by
        simp at h
        subst h
        exact (hl _).1 (List.mem_of_getElem? hj)⟩

theorem run_text_look (h : TextsAt w B l) (hT : Tryd.prog.underlying T = some (.map K E)) (hK : Tryd.prog.underlying K = some .string) (hz : ∀ w, (zeroValue E).run Tryd.prog w = .ok (.bool false) w) (s : ByteArray) :
    (Instr.lookup T (.map (some B)) (.string s) false).run Tryd.prog w = .ok (.bool (inTexts l s)) w := by
  obtain ⟨L, hm, hl⟩ := h
  have hc : ∀ em, (Instr.checkKey em 10000 K (.string s)).run Tryd.prog w = .ok () w := fun em => MapKept.run_checkKey hK (show MapKept.IsKey .string (.string s) from trivial) em 9999
  rcases tFind L s with ⟨hf, hn⟩ | ⟨j, hf, hj⟩
  · have hf' : (Instr.findKey K (.string s) (tEnts L).toList).run Tryd.prog w = .ok none w := MapKept.run_findKey hK hf
    simp only [Instr.lookup, Sem.run_bind, run_underlying hT, Result.andThen_ok, MapKept.run_getObj_map hm, Sem.run_pure, hc, hf', hz]
    rw [show inTexts l s = false from Bool.eq_false_iff.2 fun h => hn ((hl s).2 (inTexts_iff.1 h))]
    rfl
  · have hf' : (Instr.findKey K (.string s) (tEnts L).toList).run Tryd.prog w = .ok (some (j, .bool true)) w := MapKept.run_findKey hK hf
    simp only [Instr.lookup, Sem.run_bind, run_underlying hT, Result.andThen_ok, MapKept.run_getObj_map hm, Sem.run_pure, hc, hf']
    rw [inTexts_iff.2 ((hl s).1 (List.mem_of_getElem? hj))]
    rfl
end

end Go.Proofs.YtnnbhklkakhkkaaDoor

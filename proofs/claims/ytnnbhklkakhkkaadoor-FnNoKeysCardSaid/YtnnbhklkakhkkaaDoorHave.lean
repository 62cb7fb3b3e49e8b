/-
  A SET OF NAMES AND HASHES: a map[nameHash]bool that the call has made, whose entries are all true: what a store and a look-up do. Plain lemmas; no walk.
-/
import Derived.Test.YtnnbhklkakhkkaaDoorMaps
namespace Go.Proofs.YtnnbhklkakhkkaaDoor
open Go.RowKit

theorem place_some_mem {L : List Ent} {a : ByteArray} {x : Int} : (∃ i, place L a x = some i) ↔ ∃ e ∈ L, e.name = a ∧ e.hash = x := by
  constructor
  · rintro ⟨i, h⟩
    obtain ⟨e, he, h1, h2⟩ := place_lt h
    exact ⟨e, List.mem_of_getElem? he, h1, h2⟩
  · rintro ⟨e, he, h1, h2⟩
    cases hp : place L a x with
    | some i => exact ⟨i, rfl⟩
    | none =>
      unfold place at hp
      rw [List.findIdx?_eq_none_iff] at hp
      have := hp e he
      simp [h1, h2] at this

/-- is the pair in the list? -/
def hasKey (l : List (ByteArray × Int)) (a : ByteArray) (x : Int) : Bool := l.any fun p => decide (p.1 = a ∧ p.2 = x)
theorem hasKey_iff {l : List (ByteArray × Int)} {a : ByteArray} {x : Int} : hasKey l a x = true ↔ (a, x) ∈ l := by
  unfold hasKey
  rw [List.any_eq_true]
  constructor
  · rintro ⟨⟨b, y⟩, hm, h⟩
    simp at h
    obtain ⟨rfl, rfl⟩ := h
    exact hm
  · intro h
    exact ⟨(a, x), h, by simp⟩

/-- block B is the set of these names and hashes -/
def HaveAt (w : World) (B : Nat) (l : List (ByteArray × Int)) : Prop :=
  ∃ L : List Ent, MapAt w B L ∧ (∀ e ∈ L, e.val = .bool true) ∧ ∀ a x, (∃ e ∈ L, e.name = a ∧ e.hash = x) ↔ (a, x) ∈ l

theorem HaveAt.lt {w : World} {B : Nat} {l : List (ByteArray × Int)} (h : HaveAt w B l) : B < w.heap.size := by
  obtain ⟨L, h, _⟩ := h
  exact (Array.getElem?_eq_some_iff.1 h).1
theorem HaveAt.kept {w w' : World} {B : Nat} {l : List (ByteArray × Int)} (h : HaveAt w B l) (hk : w'.heap[B]? = w.heap[B]?) : HaveAt w' B l := by
  obtain ⟨L, h, hr⟩ := h
  exact ⟨L, hk.trans h, hr⟩
theorem HaveAt.made {w : World} {B : Nat} (h : w.heap[B]? = some (.map #[] 0)) : HaveAt w B [] := ⟨[], h, ⟨fun _ h => (by cases h), fun a x => by simp⟩⟩
theorem HaveAt.noCells {w : World} {B : Nat} {l : List (ByteArray × Int)} (h : HaveAt w B l) : ∃ es c, w.heap[B]? = some (.map es c) := by
  obtain ⟨L, h, _⟩ := h
  exact ⟨_, _, h⟩

theorem modify_true {L : List Ent} {i : Nat} {e : Ent} (he : L[i]? = some e) (hv : e.val = .bool true) {k : Value} (hk : k = nh e.name e.hash) : (entries L).modify i (fun m => { m with key := k, val := .bool true }) = entries L := by
  apply Array.ext_getElem?
  intro j
  rw [Array.getElem?_modify]
  split
  · next h => subst h; rw [entries_get, he]; subst hk; simp [Ent.at, hv]
  · rfl

/-- only block B has turned -/
def putObj (w : World) (B : Nat) (o : Obj) : World := { w with heap := w.heap.setIfInBounds B o }
theorem putObj_size {w : World} {B : Nat} {o : Obj} : (putObj w B o).heap.size = w.heap.size := by simp [putObj]
theorem putObj_far {w : World} {B k : Nat} {o : Obj} (hk : k ≠ B) : (putObj w B o).heap[k]? = w.heap[k]? := by
  unfold putObj
  simp only [Array.getElem?_setIfInBounds]
  rw [if_neg (by omega)]
theorem putObj_at {w : World} {B : Nat} {o : Obj} (h : B < w.heap.size) : (putObj w B o).heap[B]? = some o := by
  unfold putObj
  simp [h]

section
variable {w : World} {B : Nat} {l : List (ByteArray × Int)} {T E : TypeId} {z : Value}

theorem run_have_put (h : HaveAt w B l) (hT : Tryd.prog.underlying T = some (.map 125 E)) (a : ByteArray) (x : Int) :
    ∃ o, (Instr.mapUpdate T (.map (some B)) (.agg #[.string a, .int .u32 x]) (.bool true)).run Tryd.prog w = .ok () (putObj w B o) ∧ HaveAt (putObj w B o) B (l ++ [(a, x)]) ∧ ∃ es c, o = .map es c := by
  have hlt := h.lt
  obtain ⟨L, hm, hv, hl⟩ := h
  cases hp : place L a x with
  | some i =>
    obtain ⟨e, he, rfl, rfl⟩ := place_lt hp
    have hg : (entries L)[i]? = some (e.at i) := by rw [entries_get, he]; rfl
    have hs : Instr.sameBits 10000 (nh e.name e.hash) (nh e.name e.hash) = true := sameBits_nh 9998 _ _
    refine ⟨.map (entries L) L.length, ?_, ⟨L, putObj_at hlt, hv, fun a x => ?_⟩, _, _, rfl⟩
    · show (Instr.mapUpdate T (.map (some B)) (nh e.name e.hash) (.bool true)).run Tryd.prog w = _
      simp only [Instr.mapUpdate, Sem.run_bind, run_underlying hT, Result.andThen_ok, MapKept.run_getObj_map hm, run_checkKey_nh, run_findKey_nh, hp, Option.bind_some, he, Option.map_some, hg, Option.getD_some]
      simp only [Instr.keyThatStays, Ent.at, hs, if_true, Sem.run_pure, Result.andThen_ok, MapKept.run_setObj_map _ hm, modify_true he (hv e (List.mem_of_getElem? he)) rfl]
      rfl
    · rw [hl, List.mem_append]
      constructor
      · exact .inl
      · rintro (h | h)
        · exact h
        · simp at h
          obtain ⟨rfl, rfl⟩ := h
          exact (hl _ _).1 ⟨e, List.mem_of_getElem? he, rfl, rfl⟩
  | none =>
    refine ⟨.map (entries (L ++ [⟨a, x, .bool true⟩])) (L.length + 1), ?_, ⟨L ++ [⟨a, x, .bool true⟩], by rw [MapAt, putObj_at hlt]; simp, ?_, fun b y => ?_⟩, _, _, rfl⟩
    · show (Instr.mapUpdate T (.map (some B)) (nh a x) (.bool true)).run Tryd.prog w = _
      simp only [Instr.mapUpdate, Sem.run_bind, run_underlying hT, Result.andThen_ok, MapKept.run_getObj_map hm, run_checkKey_nh, run_findKey_nh, hp, Option.bind_none, MapKept.run_setObj_map _ hm, entries_push]
      rfl
    · intro e he
      rw [List.mem_append] at he
      rcases he with he | he
      · exact hv e he
      · simp at he; subst he; rfl
    · rw [List.mem_append, ← hl]
      constructor
      · rintro ⟨e, he, h1, h2⟩
        rw [List.mem_append] at he
        rcases he with he | he
        · exact .inl ⟨e, he, h1, h2⟩
        · simp at he; subst he; right; simp [← h1, ← h2]
      · rintro (⟨e, he, h1, h2⟩ | h)
        · exact ⟨e, List.mem_append_left _ he, h1, h2⟩
        · simp at h
          obtain ⟨rfl, rfl⟩ := h
          exact ⟨⟨b, y, .bool true⟩, by simp, rfl, rfl⟩

theorem run_have_look (h : HaveAt w B l) (hT : Tryd.prog.underlying T = some (.map 125 E)) (hz : ∀ w, (zeroValue E).run Tryd.prog w = .ok (.bool false) w) (a : ByteArray) (x : Int) :
    (Instr.lookup T (.map (some B)) (.agg #[.string a, .int .u32 x]) false).run Tryd.prog w = .ok (.bool (hasKey l a x)) w := by
  obtain ⟨L, hm, hv, hl⟩ := h
  have hr := run_lookup_nh hm hT hz a x false
  unfold nh at hr
  rw [hr]
  by_cases hp : ∃ i, place L a x = some i
  · have hm2 := (hl a x).1 (place_some_mem.1 hp)
    obtain ⟨i, hi⟩ := hp
    obtain ⟨e, he, _, _⟩ := place_lt hi
    rw [hasKey_iff.2 hm2]
    simp [hi, he, hv e (List.mem_of_getElem? he)]
  · have hm2 : (a, x) ∉ l := fun h => hp (place_some_mem.2 ((hl a x).2 h))
    have hn : place L a x = none := by
      cases hq : place L a x with
      | none => rfl
      | some i => exact absurd ⟨i, hq⟩ hp
    rw [show hasKey l a x = false from Bool.eq_false_iff.2 fun h => hm2 (hasKey_iff.1 h)]
    simp [hn]
end

end Go.Proofs.YtnnbhklkakhkkaaDoor

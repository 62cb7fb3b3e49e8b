/-
  THE KEYS BY NAME AND HASH: what the map of note.VerifierList holds after a list of keys; how one key more turns it. Plain lemmas over worlds; no walk.
-/
import Derived.Test.YtnnbhklkakhkkaaDoorMaps
import Derived.Test.YtnnbhklkakhkkaaDoorVerifiers
import Derived.Maps.AppendAt
namespace Go.Proofs.YtnnbhklkakhkkaaDoor
open Go.RowKit

/-- the keys of a list with this name and this hash -/
def grp (l : List KV) (a : ByteArray) (x : Int) : List KV := l.filter fun k => decide (k.name = a ∧ k.hash = x)

/-- w, with the map's block turned -/
def setMap (w : World) (B : Nat) (L : List Ent) : World := { w with heap := w.heap.setIfInBounds B (.map (entries L) L.length) }

section
variable {w : World} {B : Nat} {L M : List Ent}
theorem setMap_size : (setMap w B M).heap.size = w.heap.size := by simp [setMap]
theorem setMap_far {k : Nat} (hk : k ≠ B) : (setMap w B M).heap[k]? = w.heap[k]? := by
  unfold setMap
  simp only [Array.getElem?_setIfInBounds]
  rw [if_neg (by omega)]
theorem setMap_at (h : MapAt w B L) : MapAt (setMap w B M) B M := by
  unfold MapAt setMap
  have := (Array.getElem?_eq_some_iff.1 h).1
  simp [this]
theorem setMap_below {a : World} {C : Nat} (h : Below C a w) (hC : C ≤ B) : Below C a (setMap w B M) :=
  ⟨h.os, h.tape, h.output, by rw [setMap_size]; exact h.size, fun k hk => by rw [setMap_far (by omega)]; exact h.block k hk⟩
theorem setMap_cell {p : Addr} {v : Value} (hm : MapAt w B L) (h : w.cell? p = some v) : (setMap w B M).cell? p = some v := by
  have hne : p.block ≠ B := by
    rintro rfl
    unfold MapAt at hm
    simp [World.cell?, hm] at h
  rw [World.cell?_of_block (w := w) (setMap_far hne), h]
theorem setMap_own {base size n : Nat} {e : TypeId} {v : Value} {xs : List Value} (hm : MapAt w B L) (h : w.ownsRow base e size v n xs) : (setMap w B M).ownsRow base e size v n xs := by
  refine ⟨h.1, ?_⟩
  rcases h.2 with h0 | ⟨g, cap, cur, hv, hb, hh, hr⟩
  · exact .inl h0
  · refine .inr ⟨g, cap, cur, hv, hb, ?_, hr⟩
    have hne : g ≠ B := by
      rintro rfl
      unfold MapAt at hm
      rw [hm] at hh
      cases hh
    rw [setMap_far hne, hh]
theorem MapAt.alloc (h : MapAt w B L) (o : Obj) : MapAt (w.alloc o) B L := (Below.heap_alloc w o B (Array.getElem?_eq_some_iff.1 h).1).trans h
theorem MapAt.below {w' : World} {C : Nat} (h : MapAt w B L) (hb : Below C w w') (hC : B < C) : MapAt w' B L := (hb.block B hC).trans h
theorem MapAt.lt (h : MapAt w B L) : B < w.heap.size := (Array.getElem?_eq_some_iff.1 h).1
/-- a row of the call's own is no map -/
theorem own_ne_map {base size n : Nat} {e : TypeId} {v : Value} {xs : List Value} (hm : MapAt w B L) (h : w.ownsRow base e size v n xs) : v.ownBlock ≠ some B := by
  rcases h.2 with ⟨rfl, _⟩ | ⟨g, cap, cur, rfl, _, hh, _⟩
  · simp [Value.ownBlock]
  · intro he
    have : g = B := by simpa [Value.ownBlock] using he
    subst this
    unfold MapAt at hm
    rw [hm] at hh
    cases hh
end

/-- block B is the map of the keys l: each entry owns the row of the keys of its name and hash -/
structure VGroups (w : World) (base B : Nat) (l : List KV) (L : List Ent) : Prop where
  map : MapAt w B L
  own : ∀ e ∈ L, w.ownsRow base 150 1 e.val (grp l e.name e.hash).length (vCells (grp l e.name e.hash)) ∧ grp l e.name e.hash ≠ []
  all : ∀ k ∈ l, ∃ i, place L k.name k.hash = some i
  far : ∀ (i j : Nat) e f, L[i]? = some e → L[j]? = some f → i ≠ j → e.val.ownBlock ≠ f.val.ownBlock
  uniq : ∀ (i : Nat) e, L[i]? = some e → place L e.name e.hash = some i

theorem VGroups.nil {w : World} {base B : Nat} (h : w.heap[B]? = some (.map #[] 0)) : VGroups w base B [] [] :=
  ⟨h, fun _ h => (by cases h), fun _ h => (by cases h), fun _ _ _ _ h => (by simp at h), fun _ _ h => (by simp at h)⟩

theorem VGroups.below {w w' : World} {base B : Nat} {l : List KV} {L : List Ent} (h : VGroups w base B l L) (hb : Below w.heap.size w w') : VGroups w' base B l L :=
  ⟨h.map.below hb h.map.lt, fun e he => ⟨by
    obtain ⟨h1, h2⟩ := (h.own e he).1
    refine ⟨h1, ?_⟩
    rcases h2 with h0 | ⟨g, cap, cur, hv, hg, hh, hr⟩
    · exact .inl h0
    · exact .inr ⟨g, cap, cur, hv, hg, (hb.block g (Array.getElem?_eq_some_iff.1 hh).1).trans hh, hr⟩, (h.own e he).2⟩, h.all, h.far, h.uniq⟩

theorem grp_snoc (l : List KV) (x : KV) (a : ByteArray) (y : Int) : grp (l ++ [x]) a y = grp l a y ++ (if x.name = a ∧ x.hash = y then [x] else []) := by
  unfold grp
  rw [List.filter_append]
  congr 1
  simp only [List.filter_cons, List.filter_nil]
  by_cases h : x.name = a ∧ x.hash = y <;> simp [h]

theorem grp_same {l : List KV} {x : KV} : grp (l ++ [x]) x.name x.hash = grp l x.name x.hash ++ [x] := by rw [grp_snoc, if_pos ⟨rfl, rfl⟩]
theorem grp_other {l : List KV} {x : KV} {a : ByteArray} {y : Int} (h : ¬(x.name = a ∧ x.hash = y)) : grp (l ++ [x]) a y = grp l a y := by rw [grp_snoc, if_neg h, List.append_nil]

theorem place_set {L : List Ent} {i : Nat} {e : Ent} (he : L[i]? = some e) (v : Value) (a : ByteArray) (x : Int) : place (L.set i { e with val := v }) a x = place L a x := by
  unfold place
  rw [List.findIdx?_eq_guard_findIdx_lt, List.findIdx?_eq_guard_findIdx_lt, List.length_set]
  have h : List.findIdx (fun e => decide (e.name = a ∧ e.hash = x)) (L.set i { e with val := v }) = List.findIdx (fun e => decide (e.name = a ∧ e.hash = x)) L := by
    have hm : ∀ M : List Ent, List.findIdx (fun e => decide (e.name = a ∧ e.hash = x)) M = List.findIdx (fun p : ByteArray × Int => decide (p.1 = a ∧ p.2 = x)) (M.map fun e => (e.name, e.hash)) := fun M => by
      rw [List.findIdx_map]; rfl
    rw [hm, hm, List.map_set]
    congr 1
    apply List.ext_getElem?
    intro j
    rw [List.getElem?_set]
    split
    · next h => subst h; rw [if_pos (by simpa using (List.getElem?_eq_some_iff.1 he).1), List.getElem?_map, he]; rfl
    · rfl
  rw [h]

theorem place_append {L : List Ent} {f : Ent} {a : ByteArray} {x : Int} : place (L ++ [f]) a x = (place L a x).or (if f.name = a ∧ f.hash = x then some L.length else none) := by
  unfold place
  rw [List.findIdx?_append]
  by_cases h : f.name = a ∧ f.hash = x <;> simp [List.findIdx?_cons, h]

/-- one key more, of a name and hash that is there -/
theorem VGroups.more {w w' : World} {base B : Nat} {l : List KV} {L : List Ent} {x : KV} {i : Nat} {e : Ent} {v' : Value} (h : VGroups w base B l L) (he : L[i]? = some e) (hn : e.name = x.name ∧ e.hash = x.hash)
    (hown : w'.ownsRow base 150 1 v' ((grp l e.name e.hash).length + 1) (vCells (grp l e.name e.hash) ++ [x.iface])) (hg : w.grownBy w' e.val.ownBlock)
    (hat : v'.ownBlock = e.val.ownBlock ∨ v'.ownBlock = some w.heap.size) : VGroups (setMap w' B (L.set i { e with val := v' })) base B (l ++ [x]) (L.set i { e with val := v' }) := by
  have hlt := (List.getElem?_eq_some_iff.1 he).1
  have hm : MapAt w' B L := by
    unfold MapAt
    rw [hg.block B h.map.lt (fun q => own_ne_map h.map (h.own e (List.mem_of_getElem? he)).1 q.symm)]
    exact h.map
  have hother : ∀ j f, j ≠ i → L[j]? = some f → ¬(x.name = f.name ∧ x.hash = f.hash) := by
    intro j f hj hf hx
    have h1 := h.uniq j f hf
    have h2 := h.uniq i e he
    rw [← hx.1, ← hx.2, ← hn.1, ← hn.2, h2] at h1
    simp at h1
    omega
  refine ⟨setMap_at hm, ?_, ?_, ?_, ?_⟩
  · intro f hf
    obtain ⟨j, hjl, hj⟩ := List.getElem_of_mem hf
    have hj' : (L.set i { e with val := v' })[j]? = some f := by rw [List.getElem?_eq_getElem hjl, hj]
    rw [List.getElem?_set] at hj'
    split at hj'
    · next hij =>
      cases hj'
      have e1 : grp (l ++ [x]) e.name e.hash = grp l e.name e.hash ++ [x] := by rw [grp_snoc, if_pos ⟨hn.1.symm, hn.2.symm⟩]
      refine ⟨setMap_own hm ?_, by simp [e1]⟩
      simp only [e1, List.length_append, List.length_singleton]
      simpa [vCells] using hown
    · next hij =>
      have hf2 := h.own f (List.mem_of_getElem? hj')
      rw [grp_other (hother j f (fun q => hij q.symm) hj')]
      refine ⟨setMap_own hm (hf2.1.kept hg (.inr ?_)), hf2.2⟩
      exact h.far j i f e hj' he (fun q => hij q.symm)
  · intro k hk
    rcases List.mem_append.1 hk with hk | hk
    · obtain ⟨j, hj⟩ := h.all k hk
      exact ⟨j, by rw [place_set he]; exact hj⟩
    · simp at hk
      subst hk
      exact ⟨i, by rw [place_set he, ← hn.1, ← hn.2]; exact h.uniq i e he⟩
  · have hnew : ∀ j f, j ≠ i → L[j]? = some f → v'.ownBlock ≠ f.val.ownBlock := by
      intro j f hj hf
      rcases hat with ha | ha
      · rw [ha]; exact h.far i j e f he hf (fun q => hj q.symm)
      · rw [ha]
        intro q
        have := ((h.own f (List.mem_of_getElem? hf)).1.lt w.heap.size q.symm).2
        omega
    intro j k f g hf hgk hjk
    rw [List.getElem?_set] at hf hgk
    split at hf
    · next hij =>
      cases hf
      rw [if_neg (by omega)] at hgk
      exact hnew k g (by omega) hgk
    · next hij =>
      split at hgk
      · next hik =>
        cases hgk
        exact fun q => hnew j f (by omega) hf q.symm
      · next hik => exact h.far j k f g hf hgk hjk
  · intro j f hf
    rw [place_set he]
    rw [List.getElem?_set] at hf
    split at hf
    · next hij =>
      subst hij
      cases hf
      exact h.uniq i e he
    · exact h.uniq j f hf

/-- one key more, of a name and hash that is not there -/
theorem VGroups.new {w w' : World} {base B : Nat} {l : List KV} {L : List Ent} {x : KV} {v' : Value} (h : VGroups w base B l L) (hp : place L x.name x.hash = none)
    (hown : w'.ownsRow base 150 1 v' 1 [x.iface]) (hb : Below w.heap.size (setMap w B (L ++ [⟨x.name, x.hash, .slice none 0 0⟩])) w')
    (hat : v'.ownBlock = some w.heap.size) :
    VGroups (setMap w' B (L ++ [⟨x.name, x.hash, v'⟩])) base B (l ++ [x]) (L ++ [⟨x.name, x.hash, v'⟩]) := by
  have hm1 : MapAt (setMap w B (L ++ [⟨x.name, x.hash, .slice none 0 0⟩])) B (L ++ [⟨x.name, x.hash, .slice none 0 0⟩]) := setMap_at h.map
  have hm : MapAt w' B (L ++ [⟨x.name, x.hash, .slice none 0 0⟩]) := hm1.below hb h.map.lt
  have hno : ∀ k ∈ l, ¬(x.name = k.name ∧ x.hash = k.hash) := by
    intro k hk hx
    obtain ⟨j, hj⟩ := h.all k hk
    rw [← hx.1, ← hx.2, hp] at hj
    cases hj
  have hg0 : grp l x.name x.hash = [] := by
    unfold grp
    rw [List.filter_eq_nil_iff]
    intro k hk
    have := hno k hk
    simp
    intro q r
    exact this ⟨q.symm, r.symm⟩
  have hLno : ∀ f ∈ L, ¬(x.name = f.name ∧ x.hash = f.hash) := by
    intro f hf hx
    obtain ⟨j, hjl, hj⟩ := List.getElem_of_mem hf
    have := h.uniq j f (by rw [List.getElem?_eq_getElem hjl, hj])
    rw [← hx.1, ← hx.2, hp] at this
    cases this
  have hold : ∀ f ∈ L, w'.ownsRow base 150 1 f.val (grp l f.name f.hash).length (vCells (grp l f.name f.hash)) := by
    intro f hf
    have h1 := setMap_own (M := L ++ [⟨x.name, x.hash, .slice none 0 0⟩]) h.map (h.own f hf).1
    refine ⟨h1.1, ?_⟩
    rcases h1.2 with h0 | ⟨g, cap, cur, hv, hbg, hh, hr⟩
    · exact .inl h0
    · exact .inr ⟨g, cap, cur, hv, hbg, (hb.block g (by have := (Array.getElem?_eq_some_iff.1 hh).1; rw [setMap_size] at this; exact this)).trans hh, hr⟩
  refine ⟨setMap_at hm, ?_, ?_, ?_, ?_⟩
  · intro f hf
    rcases List.mem_append.1 hf with hf | hf
    · rw [grp_other (hLno f hf)]
      exact ⟨setMap_own hm (hold f hf), (h.own f hf).2⟩
    · simp at hf
      subst hf
      simp only [grp_same, hg0, List.nil_append]
      exact ⟨setMap_own hm hown, by simp⟩
  · intro k hk
    rw [place_append]
    rcases List.mem_append.1 hk with hk | hk
    · obtain ⟨j, hj⟩ := h.all k hk
      exact ⟨j, by rw [hj]; rfl⟩
    · simp at hk
      subst hk
      exact ⟨L.length, by rw [hp]; simp⟩
  · have hnew : ∀ f ∈ L, v'.ownBlock ≠ f.val.ownBlock := by
      intro f hf
      rw [hat]
      intro q
      have := ((h.own f hf).1.lt w.heap.size q.symm).2
      omega
    intro i j e f he hf hij
    rw [List.getElem?_append] at he hf
    split at he
    · split at hf
      · exact h.far i j e f he hf hij
      · next hjl =>
        have : j - L.length = 0 := by have := (List.getElem?_eq_some_iff.1 hf).1; simp at this; omega
        rw [this] at hf
        simp at hf
        subst hf
        exact fun q => hnew e (List.mem_of_getElem? he) q.symm
    · next hil =>
      have : i - L.length = 0 := by have := (List.getElem?_eq_some_iff.1 he).1; simp at this; omega
      rw [this] at he
      simp at he
      subst he
      split at hf
      · exact hnew f (List.mem_of_getElem? hf)
      · next hjl =>
        have := (List.getElem?_eq_some_iff.1 hf).1
        simp at this
        omega
  · intro i e he
    rw [place_append]
    rw [List.getElem?_append] at he
    split at he
    · rw [h.uniq i e he]; rfl
    · next hil =>
      have : i - L.length = 0 := by have := (List.getElem?_eq_some_iff.1 he).1; simp at this; omega
      rw [this] at he
      simp at he
      subst he
      rw [hp]
      simp
      omega

end Go.Proofs.YtnnbhklkakhkkaaDoor

/-
  MAPS KEYED BY A NAME AND A HASH, entry by entry: what a look-up, an entry and a store do to the map's block.
-/
import Derived.Test.YtnnbhklkakhkkaaDoorBase
import Derived.Laws.StructEq
import Derived.MapKept
import Derived.WideKeyRuns
import Derived.ChangeKeysEq
namespace Go.Proofs.YtnnbhklkakhkkaaDoor
open Go.RowKit

/-- the key value -/
def nh (a : ByteArray) (x : Int) : Value := .agg #[.string a, .int .u32 x]
theorem nhFields : (Tryd.prog.fieldsOf 125).toList.map (fun f => (f.name != "_", f.type, f.offset)) = [(true, 9, 0), (true, 23, 1)] := by kernel_rfl
theorem nhHeld : Tryd.prog.stoodInHeld 125 = false := by kernel_rfl
theorem nhUnd : Tryd.prog.underlying 125 = some (.struct (Tryd.prog.fieldsOf 125)) := by kernel_rfl
theorem pkStr : Tryd.prog.plainKey 9 = true := by kernel_rfl
theorem pkInt : Tryd.prog.plainKey 23 = true := by kernel_rfl

theorem two_fields {P : Field → Bool × TypeId × Nat} {x y : Bool × TypeId × Nat} {fs : List Field} (h : fs.map P = [x, y]) : ∃ f g, fs = [f, g] ∧ P f = x ∧ P g = y := by
  obtain ⟨f, r, rfl, hf, hr⟩ := List.map_eq_cons_iff.1 h
  obtain ⟨g, s, rfl, hg, hs⟩ := List.map_eq_cons_iff.1 hr
  rw [List.map_eq_nil_iff] at hs
  subst hs
  exact ⟨f, g, rfl, hf, hg⟩

theorem run_part0 (a : ByteArray) (x : Int) (w : World) : (part 9 #[Value.string a, .int .u32 x] 0).run Tryd.prog w = .ok (.string a) w := run_part_plain w pkStr rfl
theorem run_part1 (a : ByteArray) (x : Int) (w : World) : (part 23 #[Value.string a, .int .u32 x] 1).run Tryd.prog w = .ok (.int .u32 x) w := run_part_plain w pkInt rfl

theorem run_equalIn_nh (d : Nat) (a b : ByteArray) (x y : Int) (w : World) : (Op.equalIn (d + 2) 125 (nh a x) (nh b y)).run Tryd.prog w = .ok (decide (a = b ∧ x = y)) w := by
  unfold nh
  rw [run_equalIn_struct w (d + 1) 125 _ _ nhUnd nhHeld]
  obtain ⟨f0, f1, e, h0, h1⟩ := two_fields nhFields
  rw [e]
  simp only [Prod.mk.injEq, bne_iff_ne, ne_eq] at h0 h1
  obtain ⟨n0, t0, o0⟩ := h0
  obtain ⟨n1, t1, o1⟩ := h1
  simp only [Op.eqFields, t0, o0, t1, o1, n0, n1, ne_eq, not_false_eq_true, if_true, Sem.run_bind, run_part0, run_part1, Result.andThen_ok, Sem.run_ite, Sem.run_pure, run_equalIn_string w d 9 a b Tryd.underlying9,
    run_equalIn_int w d 23 .u32 _ x y Tryd.underlying23]
  by_cases hab : a = b
  · subst hab
    by_cases hxy : x = y
    · subst hxy; simp
    · simp [hxy]
  · have hne : ¬a.toList = b.toList := fun h => hab ((str_eq_iff a b).1 h)
    simp [hab, hne]

theorem run_equal_nh (a b : ByteArray) (x y : Int) (w : World) : (Op.equal 125 (nh a x) (nh b y)).run Tryd.prog w = .ok (decide (a = b ∧ x = y)) w := run_equalIn_nh 9998 a b x y w

theorem run_checkKey_nh (em : Bool) (n : Nat) (a : ByteArray) (x : Int) (w : World) : (Instr.checkKey em (n + 2) 125 (nh a x)).run Tryd.prog w = .ok () w := by
  unfold nh
  obtain ⟨f0, f1, e, h0, h1⟩ := two_fields nhFields
  simp only [Prod.mk.injEq, bne_iff_ne, ne_eq] at h0 h1
  obtain ⟨n0, t0, o0⟩ := h0
  obtain ⟨n1, t1, o1⟩ := h1
  simp only [Instr.checkKey, Sem.run_bind, run_underlying nhUnd, Result.andThen_ok]
  rw [← Array.forIn_toList, e]
  simp only [List.forIn_cons, List.forIn_nil, t0, o0, t1, o1, n0, n1, ne_eq, not_false_eq_true, if_true, Sem.run_bind, run_part0, run_part1, Result.andThen_ok,
    Sem.run_pure, run_underlying Tryd.underlying9, run_underlying Tryd.underlying23]

/-! ## the entries of such a map, as a list: a name, a hash, what lies there; the i-th entry was born i-th -/
structure Ent where
  name : ByteArray
  hash : Int
  val : Value
def Ent.at (i : Nat) (e : Ent) : MapEntry := { key := nh e.name e.hash, val := e.val, born := i }
def entries (L : List Ent) : Array MapEntry := (L.mapIdx Ent.at).toArray
/-- block B is the map of these entries -/
def MapAt (w : World) (B : Nat) (L : List Ent) : Prop := w.heap[B]? = some (.map (entries L) L.length)
/-- the place of a key -/
def place (L : List Ent) (a : ByteArray) (x : Int) : Option Nat := L.findIdx? fun e => decide (e.name = a ∧ e.hash = x)

theorem run_findAsking (a : ByteArray) (x : Int) (w : World) : ∀ (L : List Ent) (i : Nat), (Instr.findAsking 125 (nh a x) ((L.mapIdx fun j e => e.at (i + j))) i).run Tryd.prog w =
    .ok ((L.findIdx? fun e => decide (e.name = a ∧ e.hash = x)).bind fun j => (L[j]?).map fun e => (i + j, e.val)) w
  | [], i => by simp [Instr.findAsking]
  | e :: L, i => by
    rw [List.mapIdx_cons]
    simp only [Instr.findAsking, Sem.run_bind, Ent.at, Nat.add_zero, run_equal_nh, Result.andThen_ok]
    by_cases h : a = e.name ∧ x = e.hash
    · obtain ⟨rfl, rfl⟩ := h
      simp [List.findIdx?_cons]
    · have h' : ¬(e.name = a ∧ e.hash = x) := fun q => h ⟨q.1.symm, q.2.symm⟩
      have ih := run_findAsking a x w L (i + 1)
      simp only [Ent.at] at ih
      have hfun : (fun (j : Nat) (e : Ent) => ({ key := nh e.name e.hash, val := e.val, born := i + (j + 1) } : MapEntry)) = fun j e => { key := nh e.name e.hash, val := e.val, born := i + 1 + j } := by
        funext j e
        rw [show i + (j + 1) = i + 1 + j by omega]
      simp only [h, decide_false, Bool.false_eq_true, if_false, List.findIdx?_cons, h', hfun, ih]
      cases hf : List.findIdx? (fun e => decide (e.name = a ∧ e.hash = x)) L with
      | none => rfl
      | some j =>
        simp only [Option.bind_some, Option.map_some, List.getElem?_cons_succ]
        congr 3
        funext e
        rw [show i + 1 + j = i + (j + 1) by omega]

theorem place_lt {L : List Ent} {a : ByteArray} {x : Int} {i : Nat} (h : place L a x = some i) : ∃ e, L[i]? = some e ∧ e.name = a ∧ e.hash = x := by
  obtain ⟨hlt, hp, _⟩ := List.findIdx?_eq_some_iff_getElem.1 h
  exact ⟨L[i], List.getElem?_eq_getElem hlt, by simpa using hp⟩

theorem entries_toList (L : List Ent) : (entries L).toList = L.mapIdx Ent.at := rfl
theorem entries_get (L : List Ent) (i : Nat) : (entries L)[i]? = (L[i]?).map (Ent.at i) := by simp [entries, List.getElem?_mapIdx]
theorem entries_size (L : List Ent) : (entries L).size = L.length := by simp [entries]

theorem run_findKey_nh (a : ByteArray) (x : Int) (w : World) (L : List Ent) : (Instr.findKey 125 (nh a x) (entries L).toList).run Tryd.prog w = .ok ((place L a x).bind fun j => (L[j]?).map fun e => (j, e.val)) w := by
  rw [run_findKey_eq w (by rw [nhUnd]) _ _, entries_toList]
  have h := run_findAsking a x w L 0
  simp only [Nat.zero_add] at h
  exact h

section
variable {w : World} {B : Nat} {L : List Ent} {T E : TypeId} {z : Value}

theorem run_lookup_nh (h : MapAt w B L) (hT : Tryd.prog.underlying T = some (.map 125 E)) (hz : ∀ w, (zeroValue E).run Tryd.prog w = .ok z w) (a : ByteArray) (x : Int) (ok : Bool) :
    (Instr.lookup T (.map (some B)) (nh a x) ok).run Tryd.prog w =
      .ok (match (place L a x).bind fun j => L[j]? with
        | some e => if ok then .tuple #[e.val, .bool true] else e.val
        | none => if ok then .tuple #[z, .bool false] else z) w := by
  simp only [Instr.lookup, Sem.run_bind, run_underlying hT, Result.andThen_ok, MapKept.run_getObj_map h, Sem.run_pure, run_checkKey_nh, run_findKey_nh]
  cases hp : place L a x with
  | none => simp [hz]
  | some j =>
    obtain ⟨e, he, _, _⟩ := place_lt hp
    simp [he]

theorem sameBits_nh (n : Nat) (a : ByteArray) (x : Int) : Instr.sameBits (n + 2) (nh a x) (nh a x) = true := by simp [nh, Instr.sameBits, beq_toListBytes]

theorem setObj_same {o : Obj} (h : w.heap[B]? = some o) : ({ w with heap := w.heap.setIfInBounds B o } : World) = w := by
  obtain ⟨hp, t, d, os, out⟩ := w
  simp only [World.mk.injEq, and_true]
  simp only at h
  apply Array.ext_getElem?
  intro i
  rw [Array.getElem?_setIfInBounds]
  split
  · next e => subst e; rw [h]; simp [(Array.getElem?_eq_some_iff.1 h).1]
  · rfl

theorem modify_key_same {i : Nat} {e : Ent} (he : L[i]? = some e) {k : Value} (hk : k = nh e.name e.hash) : (entries L).modify i (fun m => { m with key := k }) = entries L := by
  apply Array.ext_getElem?
  intro j
  rw [Array.getElem?_modify]
  split
  · next h => subst h; rw [entries_get, he]; subst hk; rfl
  · rfl

theorem run_mapEntry_found (h : MapAt w B L) (hT : Tryd.prog.underlying T = some (.map 125 E)) {a : ByteArray} {x : Int} {i : Nat} {e : Ent} (hp : place L a x = some i) (he : L[i]? = some e) :
    (Instr.mapEntry T (.map (some B)) (nh a x)).run Tryd.prog w = .ok (.tuple #[e.val, .int .i64 i]) w := by
  obtain ⟨e', he', rfl, rfl⟩ := place_lt hp
  rw [he] at he'
  cases he'
  have hg : (entries L)[i]? = some (e.at i) := by rw [entries_get, he]; rfl
  simp only [Instr.mapEntry, Sem.run_bind, run_underlying hT, Result.andThen_ok, MapKept.run_getObj_map h, run_checkKey_nh, run_findKey_nh, hp, Option.bind_some, he, Option.map_some, hg, Option.getD_some]
  have hs : Instr.sameBits 10000 (nh e.name e.hash) (nh e.name e.hash) = true := sameBits_nh 9998 _ _
  simp only [Instr.keyThatStays, Ent.at, hs, if_true, Sem.run_pure, Result.andThen_ok, MapKept.run_setObj_map _ h, modify_key_same he rfl]
  rw [setObj_same h]
  simp only [goInt]

theorem entries_push (L : List Ent) (a : ByteArray) (x : Int) (v : Value) : (entries L).push { key := nh a x, val := v, born := L.length } = entries (L ++ [⟨a, x, v⟩]) := by
  simp [entries, List.mapIdx_append, Ent.at]

theorem run_mapEntry_new (h : MapAt w B L) (hT : Tryd.prog.underlying T = some (.map 125 E)) (hz : ∀ w, (zeroValue E).run Tryd.prog w = .ok z w) {a : ByteArray} {x : Int} (hp : place L a x = none) :
    (Instr.mapEntry T (.map (some B)) (nh a x)).run Tryd.prog w = .ok (.tuple #[z, .int .i64 L.length]) { w with heap := w.heap.setIfInBounds B (.map (entries (L ++ [⟨a, x, z⟩])) (L.length + 1)) } := by
  simp only [Instr.mapEntry, Sem.run_bind, run_underlying hT, Result.andThen_ok, MapKept.run_getObj_map h, run_checkKey_nh, run_findKey_nh, hp, Option.bind_none, hz, MapKept.run_setObj_map _ h, Sem.run_pure, entries_push]
  rfl

theorem findIdx_born {i : Nat} {e : Ent} (he : L[i]? = some e) : (entries L).findIdx? (fun m => (m.born : Int) == (i : Int)) = some i := by
  have hlt := (List.getElem?_eq_some_iff.1 he).1
  rw [Array.findIdx?_eq_some_iff_getElem]
  refine ⟨by rw [entries_size]; exact hlt, ?_, fun j hj => ?_⟩
  · have := entries_get L i
    rw [he, Array.getElem?_eq_getElem (by rw [entries_size]; exact hlt)] at this
    simp only [Option.map_some, Option.some.injEq] at this
    rw [this]
    simp [Ent.at]
  · have hj' : j < L.length := by omega
    have := entries_get L j
    rw [List.getElem?_eq_getElem hj', Array.getElem?_eq_getElem (by rw [entries_size]; exact hj')] at this
    simp only [Option.map_some, Option.some.injEq] at this
    rw [this]
    simp [Ent.at]
    omega

theorem entries_set {i : Nat} {e : Ent} (he : L[i]? = some e) (v : Value) : (entries L).modify i (fun m => { m with val := v }) = entries (L.set i { e with val := v }) := by
  apply Array.ext_getElem?
  intro j
  rw [Array.getElem?_modify, entries_get, entries_get, List.getElem?_set]
  by_cases hij : i = j
  · subst hij
    rw [if_pos rfl, if_pos rfl, if_pos (List.getElem?_eq_some_iff.1 he).1, he]
    rfl
  · rw [if_neg hij, if_neg hij]

theorem run_entryStore_nh (h : MapAt w B L) {i : Nat} {e : Ent} (he : L[i]? = some e) (v : Value) :
    (Instr.entryStore T (.map (some B)) (.int .i64 i) v).run Tryd.prog w = .ok () { w with heap := w.heap.setIfInBounds B (.map (entries (L.set i { e with val := v })) L.length) } := by
  simp only [Instr.entryStore, Sem.run_bind, MapKept.run_getObj_map h, Result.andThen_ok, asInt, asIntOf, Sem.run_pure, findIdx_born he, MapKept.run_setObj_map _ h, entries_set he]
end

end Go.Proofs.YtnnbhklkakhkkaaDoor

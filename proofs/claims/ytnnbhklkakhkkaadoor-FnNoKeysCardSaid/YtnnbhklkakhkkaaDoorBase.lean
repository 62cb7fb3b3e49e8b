/-
  WORDS FOR MEMORY that the walks of this seat use: a slice that reads as a list of cells, a list of strings, a list of structs. Plain lemmas; no program in sight.
-/
import Derived.Test.YtnnbhklkakhkkaaDoorRows
import Derived.WalkKit
import Derived.WalkSpells
import Derived.WalkLawsBesides
import Derived.Lib.Hide
namespace Go.Proofs.YtnnbhklkakhkkaaDoor
open Go.RowKit

/-- the cells from place o of block b on are cs -/
def RowAt (w : World) (b o : Nat) (cs : List Value) : Prop := ∀ j u, cs[j]? = some u → w.cell? ⟨b, o + j, none⟩ = some u

/-- the slice at A of n elements, 'size' cells each, holds the cells cs, below block B; of an empty slice the address is left open -/
def Sl (w : World) (B size : Nat) (A : Option Addr) (n : Nat) (cs : List Value) : Prop :=
  cs.length = n * size ∧ (0 < n → ∃ b o, A = some ⟨b, o, none⟩ ∧ b < B ∧ RowAt w b o cs)

section
variable {w w' : World} {B B' size n : Nat} {A : Option Addr} {cs : List Value}

theorem RowAt.keep {b o : Nat} (h : RowAt w b o cs) (hk : ∀ j, w'.cell? ⟨b, o + j, none⟩ = w.cell? ⟨b, o + j, none⟩) : RowAt w' b o cs :=
  fun j u hu => (hk j).trans (h j u hu)

theorem RowAt.below {b o : Nat} (h : RowAt w b o cs) (hb : Below B w w') (hlt : b < B) : RowAt w' b o cs := h.keep fun _ => hb.cell (p := ⟨_, _, _⟩) hlt

theorem Sl.keep (h : Sl w B size A n cs) (hk : ∀ p : Addr, p.block < B → w'.cell? p = w.cell? p) : Sl w' B size A n cs :=
  ⟨h.1, fun hn => by obtain ⟨b, o, e, hb, hc⟩ := h.2 hn; exact ⟨b, o, e, hb, hc.keep fun _ => hk _ hb⟩⟩
theorem Sl.more (h : Sl w B size A n cs) (hB : B ≤ B') : Sl w B' size A n cs :=
  ⟨h.1, fun hn => by obtain ⟨b, o, e, hb, hc⟩ := h.2 hn; exact ⟨b, o, e, by omega, hc⟩⟩
theorem Sl.below (h : Sl w B size A n cs) (hb : Below B w w') : Sl w' B size A n cs := h.keep fun _ hp => hb.cell hp
theorem Sl.nil (w : World) (B size : Nat) (A : Option Addr) : Sl w B size A 0 [] := ⟨by simp, fun h => absurd h (by omega)⟩
/-- what the call itself has built up -/
theorem Sl.of_own {base : Nat} {e : TypeId} {c : Nat} (h : w.ownsRow base e size (.slice A n c) n cs) : Sl w w.heap.size size A n cs := by
  refine ⟨h.1, fun hn => ?_⟩
  rcases h.2 with ⟨_, h0⟩ | ⟨g, cap, cur, hv, _, hh, _, _, _, ht⟩
  · omega
  · injection hv with hA _ _
    subst hA
    refine ⟨g, 0, rfl, (Array.getElem?_eq_some_iff.1 hh).1, fun j u hu => ?_⟩
    have := h.cells (g := g) rfl j u hu
    rw [show (⟨g, 0, none⟩ : Addr).add j = ⟨g, 0 + j, none⟩ by unfold Addr.add; split <;> simp_all] at this
    exact this
end

/-- .. with its value's form -/
theorem own_form {w : World} {base size n : Nat} {e : TypeId} {v : Value} {cs : List Value} (h : w.ownsRow base e size v n cs) :
    ∃ A c, v = .slice A n c ∧ Sl w w.heap.size size A n cs ∧ n ≤ c ∧ c ≤ 9223372036854775807 := by
  have h0 := h
  rcases h.2 with ⟨hv, h1⟩ | ⟨g, cap, cur, hv, _, hh, hnc, hcm, _, ht⟩
  · subst h1
    exact ⟨none, 0, hv, Sl.of_own (base := base) (e := e) (c := 0) (by rw [← hv]; exact h0), Nat.le_refl _, by omega⟩
  · exact ⟨some ⟨g, 0, none⟩, cap, hv, Sl.of_own (base := base) (e := e) (c := cap) (by rw [← hv]; exact h0), hnc, by unfold maxLen at hcm; omega⟩

/-! ## a list of strings -/
def strCells (l : List ByteArray) : List Value := l.map Value.string

theorem strCells_length (l : List ByteArray) : (strCells l).length = l.length := by simp [strCells]

/-- one string of a list of strings, at hand for a round -/
theorem Sl.str {w : World} {B n k : Nat} {A : Option Addr} {l : List ByteArray} (h : Sl w B 1 A n (strCells l)) (hk : k < n) :
    ∃ b o s, A = some ⟨b, o, none⟩ ∧ b < B ∧ l[k]? = some s ∧ w.cell? ⟨b, o + k, none⟩ = some (.string s) := by
  obtain ⟨b, o, e, hb, hc⟩ := h.2 (by omega)
  have hl : k < l.length := by have := h.1; rw [strCells_length] at this; omega
  refine ⟨b, o, l[k], e, hb, List.getElem?_eq_getElem hl, hc k _ ?_⟩
  simp [strCells, hl]

/-! ## a list of structs: 'enc' lays an element's cells, 'size' of them -/
def encAll {α : Type} (enc : α → List Value) (l : List α) : List Value := l.flatMap enc

theorem encAll_length {α : Type} {enc : α → List Value} {size : Nat} (he : ∀ x, (enc x).length = size) (l : List α) : (encAll enc l).length = l.length * size := by
  induction l with
  | nil => simp [encAll]
  | cons x l ih => simp only [encAll, List.flatMap_cons, List.length_append, List.length_cons] at ih ⊢; rw [he, ih, Nat.succ_mul]; omega

theorem encAll_append {α : Type} (enc : α → List Value) (l m : List α) : encAll enc (l ++ m) = encAll enc l ++ encAll enc m := by simp [encAll]

theorem encAll_one {α : Type} (enc : α → List Value) (x : α) : encAll enc [x] = enc x := by simp [encAll]

theorem encAll_get {α : Type} {enc : α → List Value} {size : Nat} (he : ∀ x, (enc x).length = size) :
    ∀ (l : List α) (k j : Nat) (x : α), l[k]? = some x → j < size → (encAll enc l)[k * size + j]? = (enc x)[j]?
  | [], k, j, x, h, _ => by simp at h
  | y :: l, 0, j, x, h, hj => by
    simp at h
    subst h
    simp only [encAll, List.flatMap_cons, Nat.zero_mul, Nat.zero_add]
    rw [List.getElem?_append_left (by rw [he]; exact hj)]
  | y :: l, k + 1, j, x, h, hj => by
    simp at h
    have ih := encAll_get he l k j x h hj
    simp only [encAll, List.flatMap_cons] at ih ⊢
    rw [List.getElem?_append_right (by rw [he, Nat.succ_mul]; omega), he, ← ih]
    congr 1
    rw [Nat.succ_mul]; omega

/-- one element of a list of structs, at hand for a round -/
theorem Sl.elem {α : Type} {enc : α → List Value} {size : Nat} (he : ∀ x, (enc x).length = size) {w : World} {B n k : Nat} {A : Option Addr} {l : List α}
    (h : Sl w B size A n (encAll enc l)) (hsz : 0 < size) (hk : k < n) :
    ∃ b o x, A = some ⟨b, o, none⟩ ∧ b < B ∧ l[k]? = some x ∧ ∀ j u, (enc x)[j]? = some u → w.cell? ⟨b, o + k * size + j, none⟩ = some u := by
  obtain ⟨b, o, e, hb, hc⟩ := h.2 (by omega)
  have hn : l.length = n := by
    have := h.1
    rw [encAll_length he] at this
    exact Nat.eq_of_mul_eq_mul_right hsz this
  have hl : k < l.length := by omega
  refine ⟨b, o, l[k], e, hb, List.getElem?_eq_getElem hl, fun j u hu => ?_⟩
  have hj : j < size := by rw [← he l[k]]; exact (List.getElem?_eq_some_iff.1 hu).1
  rw [Nat.add_assoc]
  exact hc _ _ ((encAll_get he l k j l[k] (List.getElem?_eq_getElem hl) hj).trans hu)

theorem Sl.count {α : Type} {enc : α → List Value} {size : Nat} (he : ∀ x, (enc x).length = size) {w : World} {B n : Nat} {A : Option Addr} {l : List α}
    (h : Sl w B size A n (encAll enc l)) (hsz : 0 < size) : l.length = n := by
  have := h.1
  rw [encAll_length he] at this
  exact Nat.eq_of_mul_eq_mul_right hsz this

/-! ## strings as lists of bytes -/
theorem str_eq_iff (a b : ByteArray) : a.toList = b.toList ↔ a = b := by
  constructor
  · intro h
    rw [ByteArray.toList_eq, ByteArray.toList_eq] at h
    rcases a with ⟨⟨a⟩⟩
    rcases b with ⟨⟨b⟩⟩
    simp at h
    subst h
    rfl
  · rintro rfl; rfl

/-! ## new blocks, owned rows -/
theorem add_zero_block (g j : Nat) : (⟨g, 0, none⟩ : Addr).add j = ⟨g, j, none⟩ := by unfold Addr.add; split <;> simp_all
/-- the cells of a block that has just been made -/
theorem new_cells {w : World} {cs : Array Value} {t : TypeId} {g : Nat} (hg : g = w.heap.size) :
    ∀ j u, cs.toList[j]? = some u → (w.alloc (.cells cs t)).cell? ((⟨g, 0, none⟩ : Addr).add j) = some u := by
  intro j u hu
  subst hg
  rw [add_zero_block, cell_of_row _ _ _ cs t (0, 0) (heap_alloc_new w _)]
  simpa using hu
/-- behind an append onto a row of the call's own -/
theorem below_own {B size n : Nat} {e : TypeId} {a w w' : World} {v : Value} {xs : List Value} (h : Below B a w) (hown : w.ownsRow B e size v n xs) (hg : w.grownBy w' v.ownBlock)
    (hB : B ≤ a.heap.size) : Below B a w' :=
  h.grown hg (Nat.le_trans hB h.size) fun k hk => (hown.lt k hk).1

theorem ret_bool {a b : Bool} (h : a = b) : Ending.returned (.bool a) = .returned (.bool b) := by rw [h]
theorem ret_int {k : IntKind} {a b : Int} (h : a = b) : Ending.returned (.int k a) = .returned (.int k b) := by rw [h]

end Go.Proofs.YtnnbhklkakhkkaaDoor

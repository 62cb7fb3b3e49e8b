/-
  KEYS AS DATA (for the Door seat, whose program has fewer functions). No walk.
-/
import Derived.Test.YtnnbhklkakhkkaaDoorBase
namespace Go.Proofs.YtnnbhklkakhkkaaDoor
open Go.RowKit

/-- a key as it lies in a cell row: its name, its hash, and the two slices of strings -/
structure KV where
  name : ByteArray
  hash : Int
  ta : Option Addr
  tn : Nat
  tc : Nat
  sa : Option Addr
  sn : Nat
  sc : Nat
  texts : List ByteArray
  sigs : List ByteArray

def KV.cells (k : KV) : List Value := [.string k.name, .int .u32 k.hash, .slice k.ta k.tn k.tc, .slice k.sa k.sn k.sc]
theorem KV.cells_length (k : KV) : k.cells.length = 4 := rfl
/-- the key's two lists lie below block B -/
def KV.At (w : World) (B : Nat) (k : KV) : Prop := Sl w B 1 k.ta k.tn (strCells k.texts) ∧ Sl w B 1 k.sa k.sn (strCells k.sigs)
theorem KV.At.below {w w' : World} {B : Nat} {k : KV} (h : k.At w B) (hb : Below B w w') : k.At w' B := ⟨h.1.below hb, h.2.below hb⟩
theorem KV.At.more {w : World} {B B' : Nat} {k : KV} (h : k.At w B) (hB : B ≤ B') : k.At w B' := ⟨h.1.more hB, h.2.more hB⟩

theorem all_take_succ {α : Type} (p : α → Bool) (l : List α) (k : Nat) (x : α) (h : l[k]? = some x) : (l.take (k + 1)).all p = ((l.take k).all p && p x) := by
  rw [List.take_add_one, h]
  simp

theorem all_false_of {α : Type} {p : α → Bool} {l : List α} {k : Nat} {x : α} (h : l[k]? = some x) (hp : p x = false) : l.all p = false := by
  rw [List.all_eq_false]
  exact ⟨x, List.mem_of_getElem? h, by simp [hp]⟩

/-- a key handed on by value -/
def KV.val (k : KV) : Value := .agg #[.string k.name, .int .u32 k.hash, .slice k.ta k.tn k.tc, .slice k.sa k.sn k.sc]

/-- the lengths of a key's slices are lengths -/
structure KV.Ok (k : KV) : Prop where
  tn : k.tn ≤ 9223372036854775807
  sn : k.sn ≤ 9223372036854775807
  ts : k.name.size ≤ 9223372036854775807

theorem KV.elem {w : World} {B n k : Nat} {A : Option Addr} {l : List KV} (h : Sl w B 4 A n (encAll KV.cells l)) (hk : k < n) :
    ∃ b o x, A = some ⟨b, o, none⟩ ∧ b < B ∧ l[k]? = some x ∧ w.cell? ⟨b, o + k * 4, none⟩ = some (.string x.name) ∧ w.cell? ⟨b, o + k * 4 + 1, none⟩ = some (.int .u32 x.hash) ∧
      w.cell? ⟨b, o + k * 4 + 2, none⟩ = some (.slice x.ta x.tn x.tc) ∧ w.cell? ⟨b, o + k * 4 + 3, none⟩ = some (.slice x.sa x.sn x.sc) := by
  obtain ⟨b, o, x, e, hb, hx, hc⟩ := h.elem KV.cells_length (by omega) hk
  exact ⟨b, o, x, e, hb, hx, hc 0 _ rfl, hc 1 _ rfl, hc 2 _ rfl, hc 3 _ rfl⟩


end Go.Proofs.YtnnbhklkakhkkaaDoor

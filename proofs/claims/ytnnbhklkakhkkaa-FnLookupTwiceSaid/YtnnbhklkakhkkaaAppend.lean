/-
  append IN A REGION THAT DRAWS ITS ORDER, onto a slice that the call itself has made, from a slice whose address is left open. Plain lemmas; no program in sight.
-/
import Derived.Test.YtnnbhklkakhkkaaBase
import Derived.Maps.AppendAt
import Derived.Deep.AppendLies
import Derived.Laws.AppendOwnNone
import Derived.Deep.RegionHeld3
namespace Go.Proofs.Ytnnbhklkakhkkaa
open Go.RowKit

/-- block g, one that is not among w0's, holds o -/
structure Mine (w0 w : World) (g : Nat) (o : Obj) : Prop where
  intro ::
  left : w0.heap.size ≤ g
  right : w.heap[g]? = some o

section
variable {w0 w w' : World} {g : Nat} {o o' : Obj}

theorem Mine.lt (h : Mine w0 w g o) : g < w.heap.size := (Array.getElem?_eq_some_iff.1 h.2).1
theorem Mine.new {o : Obj} (hg : g = w.heap.size) (hb : Below w0.heap.size w0 w) : Mine w0 (w.alloc o) g o := ⟨by rw [hg]; exact hb.size, by rw [hg]; exact heap_alloc_new w o⟩
theorem Mine.alloc (h : Mine w0 w g o) : Mine w0 (w.alloc o') g o := ⟨h.1, (Below.heap_alloc _ _ _ h.lt).trans h.2⟩
theorem Mine.drew (h : Mine w0 w g o) : Mine w0 w.drew g o := ⟨h.1, h.2⟩
theorem Mine.below (hb : Below w.heap.size w w') (h : Mine w0 w g o) : Mine w0 w' g o := ⟨h.1, (hb.block g h.lt).trans h.2⟩
theorem Mine.grown {r : Nat} (hg : w.grownBy w' (some r)) (hne : g ≠ r) (h : Mine w0 w g o) : Mine w0 w' g o := ⟨h.1, (hg.block g h.lt (by simpa using hne)).trans h.2⟩

/-- the block's row as a slice of the call's own -/
theorem Mine.own {e : TypeId} {size n : Nat} {cs : Array Value} (h : Mine w0 w g (.cells cs e (0, 0))) (hc : cs.size = n * size) (hn : n ≤ maxLen) :
    w.ownsRow w0.heap.size e size (.slice (some ⟨g, 0, none⟩) n n) n cs.toList :=
  ⟨by simpa using hc, .inr ⟨g, n, cs, rfl, h.1, h.2, Nat.le_refl _, hn, hc, by rw [← hc, ← Array.length_toList, List.take_length]⟩⟩
theorem Mine.sl {e : TypeId} {size n : Nat} {cs : Array Value} (h : Mine w0 w g (.cells cs e (0, 0))) (hc : cs.size = n * size) :
    Sl w w.heap.size size (some ⟨g, 0, none⟩) n cs.toList :=
  ⟨by simpa using hc, fun _ => ⟨g, 0, rfl, h.lt, fun j u hu => by rw [Nat.zero_add, cell_of_row w g j cs e _ h.2]; simpa using hu⟩⟩
theorem Mine.cell {e : TypeId} {j : Nat} {cs : Array Value} (h : Mine w0 w g (.cells cs e (0, 0))) : w.cell? ⟨g, j, none⟩ = cs[j]? := by
  rw [cell_of_row w g j cs e _ h.2]
theorem Mine.free {e : TypeId} {j : Nat} {cs : Array Value} (h : Mine w0 w g (.cells cs e (0, 0))) : w.frozen? ⟨g, j, none⟩ = false := frozen_of_row w g j cs e h.2
theorem Mine.four {e : TypeId} {a b c d : Value} (h : Mine w0 w g (.cells #[a, b, c, d] e (0, 0))) :
    (w.cell? ⟨g, 0, none⟩ = some a ∧ w.cell? ⟨g, 1, none⟩ = some b ∧ w.cell? ⟨g, 2, none⟩ = some c ∧ w.cell? ⟨g, 3, none⟩ = some d) ∧
      w.frozen? ⟨g, 0, none⟩ = false ∧ w.frozen? ⟨g, 1, none⟩ = false ∧ w.frozen? ⟨g, 2, none⟩ = false ∧ w.frozen? ⟨g, 3, none⟩ = false :=
  ⟨⟨h.cell, h.cell, h.cell, h.cell⟩, h.free, h.free, h.free, h.free⟩
end

/-- what is known of the block that a slot points to -/
theorem at_slot {K : Act → World → Prop} {a : Act} {w0 w : World} {g : Nat} {o : Obj} (s : Operand) (_hv : a.eval s = .pointer (some ⟨g, 0, none⟩)) (hm : Mine w0 w g o) (h : Mine w0 w g o → K a w) : K a w := h hm

theorem own_below {w w' : World} {B e size n : Nat} {v : Value} {xs : List Value} (h : w.ownsRow B e size v n xs) (hb : Below w.heap.size w w') : w'.ownsRow B e size v n xs := by
  refine ⟨h.1, ?_⟩
  rcases h.2 with h' | ⟨g, cap, cur, hv, hB, hg, hr⟩
  · exact .inl h'
  · exact .inr ⟨g, cap, cur, hv, hB, (hb.block g (Array.getElem?_eq_some_iff.1 hg).1).trans hg, hr⟩

theorem own_alloc {w : World} {B e size n : Nat} {v : Value} {xs : List Value} {o : Obj} (h : w.ownsRow B e size v n xs) : (w.alloc o).ownsRow B e size v n xs :=
  own_below h ((Below.refl _ _).alloc (Nat.le_refl _) o)
theorem own_drew {w : World} {B e size n : Nat} {v : Value} {xs : List Value} (h : w.ownsRow B e size v n xs) : w.drew.ownsRow B e size v n xs := h
theorem Sl.far {w0 w : World} {size n : Nat} {A : Option Addr} {cs : List Value} (h : Sl w0 w0.heap.size size A n cs) (hb : Below w0.heap.size w0 w) : Sl w w.heap.size size A n cs := (h.below hb).more hb.size
theorem alloc_b {w0 w : World} {o : Obj} (h : Below w0.heap.size w0 w) : Below w0.heap.size w0 (w.alloc o) := h.alloc h.size o
theorem set_b {w0 w : World} {p : Addr} {u : Value} (hp : w0.heap.size ≤ p.block) (h : Below w0.heap.size w0 w) : Below w0.heap.size w0 (w.setCell p u) := h.setCell hp u

section
variable {P : Program}

theorem run_append_zero (w : World) (base : Nat) (t ty e : TypeId) (i : TypeInfo) (size c : Nat) (ht : P.underlying t = some (.slice e)) (hi : P.info? e = some i)
    (v : Value) (n : Nat) (xs : List Value) (hown : w.ownsRow base e size v n xs) :
    (Builtin.append_ #[t, t] ty #[v, .slice none 0 c]).run P w = .ok v w := by
  rcases hown.2 with ⟨rfl, rfl⟩ | ⟨g, cap, cur, rfl, _, _, hnc, _⟩
  · simp [Builtin.append_, run_underlying ht, sizeOf, typeInfo, hi, Builtin.lenOf, Builtin.firstCells]
  · simp [Builtin.append_, run_underlying ht, sizeOf, typeInfo, hi, Builtin.lenOf, Builtin.firstCells, hnc, storeCells]

/-- THE LAW: onto at least one element of the call's own -/
theorem run_append_sl (w w0 : World) (t ty : TypeId) (e : TypeId) (i : TypeInfo) (z : Value) (size bytes : Nat) (ht : P.underlying t = some (.slice e)) (hi : P.info? e = some i) (hz : i.zero = some z)
    (hsize : i.size = size) (hby : i.bytes = bytes) (hzs : z.cells.size = size) (hsz : 0 < size)
    (v : Value) (n : Nat) (xs : List Value) (hown : w.ownsRow w0.heap.size e size v n xs) (hn : 0 < n)
    (A : Option Addr) (m c : Nat) (news : List Value) (hsl : Sl w w.heap.size size A m news) (h1 : ∀ u ∈ news, u.oneCell' = true)
    (h63 : n + m ≤ maxLen) (hbytes : (n + m) * bytes ≤ 140737488355328) (hb : Below w0.heap.size w0 w) :
    ∃ g cap w', (Builtin.append_ #[t, t] ty #[v, .slice A m c]).run P w = .ok (.slice (some ⟨g, 0, none⟩) (n + m) cap) w' ∧
      w'.ownsRow w0.heap.size e size (.slice (some ⟨g, 0, none⟩) (n + m) cap) (n + m) (xs ++ news) ∧ w.grownBy w' v.ownBlock ∧ (v.ownBlock = some g ∨ g = w.heap.size) ∧ g < w'.heap.size ∧
      Below w0.heap.size w0 w' := by
  have hbase := hb.size
  have key : ∃ v' w', (Builtin.append_ #[t, t] ty #[v, .slice A m c]).run P w = .ok v' w' ∧ w'.ownsRow w0.heap.size e size v' (n + m) (xs ++ news) ∧ w.grownBy w' v.ownBlock ∧ (v'.ownBlock = v.ownBlock ∨ v'.ownBlock = some w.heap.size) := by
    rcases Nat.eq_zero_or_pos m with hm | hm
    · subst hm
      have hnews : news = [] := List.eq_nil_of_length_eq_zero (by simpa using hsl.1)
      subst hnews
      rcases A with _ | ad
      · refine ⟨v, w, run_append_zero w w0.heap.size t ty e i size c ht hi v n xs hown, by simpa using hown, ⟨rfl, rfl, rfl, Nat.le_refl _, fun _ _ _ => rfl⟩, .inl rfl⟩
      · obtain ⟨v', w', hr, h2, h3, _, h5⟩ := run_append_own_at (P := P) w w0.heap.size t ty e i z size bytes ht hi hz hsize hby hzs hsz v n xs hown ad 0 c [] (by simp) (by simp) (by simp) h63 hbytes hbase
        exact ⟨v', w', hr, h2, h3, h5⟩
    · obtain ⟨b, o, rfl, _, hc⟩ := hsl.2 hm
      obtain ⟨v', w', hr, h2, h3, _, h5⟩ := run_append_own_at (P := P) w w0.heap.size t ty e i z size bytes ht hi hz hsize hby hzs hsz v n xs hown ⟨b, o, none⟩ m c news hsl.1
        (fun j u hu => by have := hc j u hu; rwa [show (⟨b, o, none⟩ : Addr).add j = ⟨b, o + j, none⟩ by unfold Addr.add; split <;> simp_all]) h1 h63 hbytes hbase
      exact ⟨v', w', hr, h2, h3, h5⟩
  obtain ⟨v', w', hr, h2, h3, h5⟩ := key
  obtain ⟨g, cap, rfl, _, hlt⟩ := h2.form (by omega)
  refine ⟨g, cap, w', hr, h2, h3, ?_, hlt, hb.grown h3 hbase fun k hk => (hown.lt k hk).1⟩
  rcases h5 with h5 | h5
  · exact .inl (by rw [← h5]; rfl)
  · right
    simpa [Value.ownBlock] using h5

/-- AT A STEP OF A REGION THAT DRAWS ITS ORDER -/
theorem step_append_sl {w : World} {ops : Array Oper} {o : Oper} {a : Act} {K : Act → World → Prop} {Q : Exit → Act → World → Prop} {E : Prop} (hgd : o.guard = none) (s x : Operand) (t : TypeId)
    (ho : o.op = .call { callee := .builtin .append, args := #[s, x], argTypes := #[t, t] }) (w0 : World)
    (e : TypeId) (i : TypeInfo) (z : Value) (size bytes : Nat) (ht : P.underlying t = some (.slice e)) (hi : P.info? e = some i) (hz : i.zero = some z)
    (hsize : i.size = size) (hby : i.bytes = bytes) (hzs : z.cells.size = size) (hsz : 0 < size)
    {r c0 : Nat} (n : Nat) (xs : List Value) (hs : a.eval s = .slice (some ⟨r, 0, none⟩) n c0) (hn : 0 < n)
    {A : Option Addr} (m : Nat) {c : Nat} (news : List Value) (hx : a.eval x = .slice A m c) (h1 : ∀ u ∈ news, u.oneCell' = true)
    (h63 : n + m ≤ maxLen) (hbytes : (n + m) * bytes ≤ 140737488355328) (hb : Below w0.heap.size w0 w) (hown : w.ownsRow w0.heap.size e size (.slice (some ⟨r, 0, none⟩) n c0) n xs) (hsl : Sl w w.heap.size size A m news)
    (h : ∀ g cap w', w'.ownsRow w0.heap.size e size (.slice (some ⟨g, 0, none⟩) (n + m) cap) (n + m) (xs ++ news) → w.grownBy w' (some r) → (r = g ∨ g = w.heap.size) → g < w'.heap.size →
      Below w0.heap.size w0 w' → K (a.put o.dst (.slice (some ⟨g, 0, none⟩) (n + m) cap)) w') :
    if Region.wanted o (yielded ops a.tmps) = true then Oper.wp P o a w K Q else E := by
  have hw : Region.wanted o (yielded ops a.tmps) = true := by simp [Region.wanted, hgd]
  rw [if_pos hw]
  obtain ⟨g, cap, w', hr, h2, h3, h4, h5, h6⟩ := run_append_sl (P := P) w w0 t o.type e i z size bytes ht hi hz hsize hby hzs hsz _ n xs hown hn A m c news hsl h1 h63 hbytes hb
  unfold Oper.wp execOp
  simp only [ho, resolve, invoke, builtin, Sem.run_bind, Sem.run_pure, Result.andThen_ok, List.map_toArray, List.map_cons, List.map_nil, hs, hx, hr]
  exact h g cap w' h2 h3 (by simpa [Value.ownBlock] using h4) h5 h6

end

end Go.Proofs.Ytnnbhklkakhkkaa

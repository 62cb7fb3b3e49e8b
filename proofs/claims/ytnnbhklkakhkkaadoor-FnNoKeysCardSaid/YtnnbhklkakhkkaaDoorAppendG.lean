/-
  append IN A REGION THAT DRAWS ITS ORDER, onto a slice of the call's own that may be empty. Plain lemmas; no program in sight.
-/
import Derived.Test.YtnnbhklkakhkkaaDoorBase
import Derived.Maps.AppendAt
import Derived.Deep.AppendLies
import Derived.Laws.AppendOwnNone
import Derived.Deep.RegionHeld3
namespace Go.Proofs.YtnnbhklkakhkkaaDoor
open Go.RowKit

theorem own_below {w w' : World} {B e size n : Nat} {v : Value} {xs : List Value} (h : w.ownsRow B e size v n xs) (hb : Below w.heap.size w w') : w'.ownsRow B e size v n xs := by
  refine ⟨h.1, ?_⟩
  rcases h.2 with h' | ⟨g, cap, cur, hv, hB, hg, hr⟩
  · exact .inl h'
  · exact .inr ⟨g, cap, cur, hv, hB, (hb.block g (Array.getElem?_eq_some_iff.1 hg).1).trans hg, hr⟩
theorem own_alloc {w : World} {B e size n : Nat} {v : Value} {xs : List Value} {o : Obj} (h : w.ownsRow B e size v n xs) : (w.alloc o).ownsRow B e size v n xs :=
  own_below h ((Below.refl _ _).alloc (Nat.le_refl _) o)
theorem own_drew {w : World} {B e size n : Nat} {v : Value} {xs : List Value} (h : w.ownsRow B e size v n xs) : w.drew.ownsRow B e size v n xs := h

section
variable {P : Program}

theorem run_append_zero (w : World) (base : Nat) (t ty e : TypeId) (i : TypeInfo) (size c : Nat) (ht : P.underlying t = some (.slice e)) (hi : P.info? e = some i)
    (v : Value) (n : Nat) (xs : List Value) (hown : w.ownsRow base e size v n xs) :
    (Builtin.append_ #[t, t] ty #[v, .slice none 0 c]).run P w = .ok v w := by
  rcases hown.2 with ⟨rfl, rfl⟩ | ⟨g, cap, cur, rfl, _, _, hnc, _⟩
  · simp [Builtin.append_, run_underlying ht, sizeOf, typeInfo, hi, Builtin.lenOf, Builtin.firstCells]
  · simp [Builtin.append_, run_underlying ht, sizeOf, typeInfo, hi, Builtin.lenOf, Builtin.firstCells, hnc, storeCells]

/-- THE LAW -/
theorem run_append_any (w w0 : World) (t ty : TypeId) (e : TypeId) (i : TypeInfo) (z : Value) (size bytes : Nat) (ht : P.underlying t = some (.slice e)) (hi : P.info? e = some i) (hz : i.zero = some z)
    (hsize : i.size = size) (hby : i.bytes = bytes) (hzs : z.cells.size = size) (hsz : 0 < size)
    (v : Value) (n : Nat) (xs : List Value) (hown : w.ownsRow w0.heap.size e size v n xs)
    (A : Option Addr) (m c : Nat) (news : List Value) (hsl : Sl w w.heap.size size A m news) (h1 : ∀ u ∈ news, u.oneCell' = true)
    (h63 : n + m ≤ maxLen) (hbytes : (n + m) * bytes ≤ 140737488355328) (hb : Below w0.heap.size w0 w) :
    ∃ A' cap w', (Builtin.append_ #[t, t] ty #[v, .slice A m c]).run P w = .ok (.slice A' (n + m) cap) w' ∧ w'.ownsRow w0.heap.size e size (.slice A' (n + m) cap) (n + m) (xs ++ news) ∧ Below w0.heap.size w0 w' := by
  have hbase := hb.size
  have key : ∃ v' w', (Builtin.append_ #[t, t] ty #[v, .slice A m c]).run P w = .ok v' w' ∧ w'.ownsRow w0.heap.size e size v' (n + m) (xs ++ news) ∧ w.grownBy w' v.ownBlock := by
    rcases Nat.eq_zero_or_pos m with hm | hm
    · subst hm
      have hnews : news = [] := List.eq_nil_of_length_eq_zero (by simpa using hsl.1)
      subst hnews
      rcases A with _ | ad
      · exact ⟨v, w, run_append_zero w w0.heap.size t ty e i size c ht hi v n xs hown, by simpa using hown, ⟨rfl, rfl, rfl, Nat.le_refl _, fun _ _ _ => rfl⟩⟩
      · obtain ⟨v', w', hr, h2, h3, _, h5⟩ := run_append_own_at (P := P) w w0.heap.size t ty e i z size bytes ht hi hz hsize hby hzs hsz v n xs hown ad 0 c [] (by simp) (by simp) (by simp) h63 hbytes hbase
        exact ⟨v', w', hr, h2, h3⟩
    · obtain ⟨b, o, rfl, _, hc⟩ := hsl.2 hm
      obtain ⟨v', w', hr, h2, h3, _, h5⟩ := run_append_own_at (P := P) w w0.heap.size t ty e i z size bytes ht hi hz hsize hby hzs hsz v n xs hown ⟨b, o, none⟩ m c news hsl.1
        (fun j u hu => by have := hc j u hu; rwa [show (⟨b, o, none⟩ : Addr).add j = ⟨b, o + j, none⟩ by unfold Addr.add; split <;> simp_all]) h1 h63 hbytes hbase
      exact ⟨v', w', hr, h2, h3⟩
  obtain ⟨v', w', hr, h2, h3⟩ := key
  obtain ⟨A', cap, rfl, _⟩ := own_form h2
  exact ⟨A', cap, w', hr, h2, hb.grown h3 hbase fun k hk => (hown.lt k hk).1⟩

/-- AT A STEP OF A REGION THAT DRAWS ITS ORDER -/
theorem step_append_any {w : World} {ops : Array Oper} {o : Oper} {a : Act} {K : Act → World → Prop} {Q : Exit → Act → World → Prop} {E : Prop} (hgd : o.guard = none) (s x : Operand) (t : TypeId)
    (ho : o.op = .call { callee := .builtin .append, args := #[s, x], argTypes := #[t, t] }) (w0 : World)
    (e : TypeId) (i : TypeInfo) (z : Value) (size bytes : Nat) (ht : P.underlying t = some (.slice e)) (hi : P.info? e = some i) (hz : i.zero = some z)
    (hsize : i.size = size) (hby : i.bytes = bytes) (hzs : z.cells.size = size) (hsz : 0 < size)
    (v : Value) (n : Nat) (xs : List Value) (hs : a.eval s = v)
    (A : Option Addr) (m : Nat) (c : Nat) (news : List Value) (hx : a.eval x = .slice A m c) (h1 : ∀ u ∈ news, u.oneCell' = true)
    (h63 : n + m ≤ maxLen) (hbytes : (n + m) * bytes ≤ 140737488355328) (hb : Below w0.heap.size w0 w) (hown : w.ownsRow w0.heap.size e size v n xs) (hsl : Sl w w.heap.size size A m news)
    (h : ∀ A' cap w', w'.ownsRow w0.heap.size e size (.slice A' (n + m) cap) (n + m) (xs ++ news) → Below w0.heap.size w0 w' → K (a.put o.dst (.slice A' (n + m) cap)) w') :
    if Region.wanted o (yielded ops a.tmps) = true then Oper.wp P o a w K Q else E := by
  have hw : Region.wanted o (yielded ops a.tmps) = true := by simp [Region.wanted, hgd]
  rw [if_pos hw]
  obtain ⟨A', cap, w', hr, h2, h3⟩ := run_append_any (P := P) w w0 t o.type e i z size bytes ht hi hz hsize hby hzs hsz v n xs hown A m c news hsl h1 h63 hbytes hb
  unfold Oper.wp execOp
  simp only [ho, resolve, invoke, builtin, Sem.run_bind, Sem.run_pure, Result.andThen_ok, List.map_toArray, List.map_cons, List.map_nil, hs, hx, hr]
  exact h A' cap w' h2 h3
end

end Go.Proofs.YtnnbhklkakhkkaaDoor

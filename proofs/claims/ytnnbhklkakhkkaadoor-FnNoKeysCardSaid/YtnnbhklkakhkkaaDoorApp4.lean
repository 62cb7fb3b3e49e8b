/-
  append ONTO A FULL SLICE OF FOUR BYTES, from a slice whose address is left open. Plain lemmas; no walk.
-/
import Derived.Test.YtnnbhklkakhkkaaDoorBase
import Derived.ArgAppend
import Derived.Deep.RegionLaw
namespace Go.Proofs.YtnnbhklkakhkkaaDoor
open Go.RowKit

section
variable {P : Program}
theorem run_app4 (w : World) (t ty e te : TypeId) (i : TypeInfo) (z : Value) (ht : P.underlying t = some (.slice e)) (hi : P.info? e = some i) (hz : i.zero = some z) (hsize : i.size = 1) (hby : i.bytes = 1) (hzs : z.cells.size = 1)
    (r : Nat) (xs : List Value) (hx : xs.length = 4) (hr : w.heap[r]? = some (.cells xs.toArray te (0, 0))) (A : Option Addr) (m c : Nat) (news : List Value) (hsl : Sl w w.heap.size 1 A m news) (hm : m ≤ 2147483648) :
    ∃ b' o' cap' w', (Builtin.append_ #[t, t] ty #[.slice (some ⟨r, 0, none⟩) 4 4, .slice A m c]).run P w = .ok (.slice (some ⟨b', o', none⟩) (4 + m) cap') w' ∧ Sl w' w'.heap.size 1 (some ⟨b', o', none⟩) (4 + m) (xs ++ news) ∧ Below w.heap.size w w' ∧ 4 + m ≤ cap' := by
  have hrl : r < w.heap.size := (Array.getElem?_eq_some_iff.1 hr).1
  have hcells : ∀ (j : Nat) u, xs[j]? = some u → w.cell? ((⟨r, 0, none⟩ : Addr).add j) = some u := fun j u hu => by
    rw [add_zero_block, cell_of_row w r j xs.toArray te _ hr]
    simpa using hu
  rcases Nat.eq_zero_or_pos m with h0 | h0
  · subst h0
    have hn : news = [] := List.eq_nil_of_length_eq_zero (by simpa using hsl.1)
    subst hn
    refine ⟨r, 0, 4, w, ?_, ⟨by simp [hx], fun _ => ⟨r, 0, rfl, hrl, fun j u hu => ?_⟩⟩, Below.refl _ _, Nat.le_refl _⟩
    · cases A <;> simp [Builtin.append_, run_underlying ht, sizeOf, typeInfo, hi, Builtin.lenOf, Builtin.firstCells, storeCells, loadCells, loadCellsFrom, Result.andThen]
    · have := hcells j u (by simpa using hu)
      rw [add_zero_block] at this
      rwa [Nat.zero_add]
  · obtain ⟨b, o, rfl, _, hc⟩ := hsl.2 h0
    obtain ⟨v', w', hrun, h2, h3⟩ := run_append_arg_grows (P := P) w t ty e i z 1 1 ht hi hz hsize hby hzs (by omega) ⟨r, 0, none⟩ 4 4 xs (by omega) hcells ⟨b, o, none⟩ m c news hsl.1
      (fun j u hu => by have := hc j u hu; rwa [show (⟨b, o, none⟩ : Addr).add j = ⟨b, o + j, none⟩ by unfold Addr.add; split <;> simp_all]) (by omega) (by simp only [maxLen]; omega) (by omega)
    obtain ⟨A', c', rfl, hs', hc', _⟩ := own_form h2
    obtain ⟨b', o', rfl, _⟩ := hs'.2 (by omega)
    exact ⟨b', o', c', w', hrun, hs', ⟨h3.os, h3.tape, h3.output, h3.size, fun k hk => h3.block k hk (by simp)⟩, hc'⟩

theorem step_app4 {w : World} {ops : Array Oper} {o : Oper} {a : Act} {K : Act → World → Prop} {Q : Exit → Act → World → Prop} {E : Prop} (hgd : o.guard = none) (s x : Operand) (t : TypeId)
    (ho : o.op = .call { callee := .builtin .append, args := #[s, x], argTypes := #[t, t] })
    (e te : TypeId) (i : TypeInfo) (z : Value) (ht : P.underlying t = some (.slice e)) (hi : P.info? e = some i) (hz : i.zero = some z) (hsize : i.size = 1) (hby : i.bytes = 1) (hzs : z.cells.size = 1)
    (r : Nat) (xs : List Value) (hx : xs.length = 4) (hs : a.eval s = .slice (some ⟨r, 0, none⟩) 4 4) {A : Option Addr} (m : Nat) {c : Nat} (news : List Value) (hxe : a.eval x = .slice A m c) (hm : m ≤ 2147483648)
    (hr : w.heap[r]? = some (.cells xs.toArray te (0, 0))) (hsl : Sl w w.heap.size 1 A m news)
    (h : ∀ b' o' cap' w', Sl w' w'.heap.size 1 (some ⟨b', o', none⟩) (4 + m) (xs ++ news) → Below w.heap.size w w' → 4 + m ≤ cap' → K (a.put o.dst (.slice (some ⟨b', o', none⟩) (4 + m) cap')) w') :
    if Region.wanted o (yielded ops a.tmps) = true then Oper.wp P o a w K Q else E := by
  have hw : Region.wanted o (yielded ops a.tmps) = true := by simp [Region.wanted, hgd]
  rw [if_pos hw]
  obtain ⟨b', o', cap', w', hrun, h2, h3, h4⟩ := run_app4 (P := P) w t o.type e te i z ht hi hz hsize hby hzs r xs hx hr A m c news hsl hm
  unfold Oper.wp execOp
  simp only [ho, resolve, invoke, builtin, Sem.run_bind, Sem.run_pure, Result.andThen_ok, List.map_toArray, List.map_cons, List.map_nil, hs, hxe, hrun]
  exact h b' o' cap' w' h2 h3 h4
end

end Go.Proofs.YtnnbhklkakhkkaaDoor

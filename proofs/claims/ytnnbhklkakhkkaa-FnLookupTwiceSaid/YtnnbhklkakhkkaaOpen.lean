/-
  OPENING THE ARGUMENTS: a list of keys that came in, as cells; CLOSING A LAW: behind a call that answered true and left all old memory alone.
-/
import Derived.Test.YtnnbhklkakhkkaaKeys
import Derived.ProofKit
import Derived.Deep.Slices
import Derived.Deep.Fields
import Derived.Lib.SmallJoins
import Derived.SliceStrings
namespace Go.Proofs.Ytnnbhklkakhkkaa
open Go.ChangeShapes Go.WideShapes Go.RowKit Go.Deep Go.Joins

section
variable {H : Type} {enc : TypeId × Value → H} {W : World}

theorem addr_of_cell {a : Addr} {v : Value} (h : W.cell? a = some v) : a = ⟨a.block, a.off, none⟩ := by
  have := World.cell?_spot h
  obtain ⟨b, o, s⟩ := a
  simp only at this
  subst this
  rfl

/-- a list of strings that came in -/
theorem open_strs {fuel : Nat} {cs : List Value} {x : DataW H × List MemPlace} (h : DataW.trod enc Try.prog W 0 (fun _ => true) true fuel 28 cs = some x) :
    ∃ A n c l, cs = [.slice A n c] ∧ Sl W W.heap.size 1 A n (strCells l) ∧ n ≤ c ∧ c ≤ 9223372036854775807 ∧ ∀ s ∈ l, s.size ≤ 9223372036854775807 := by
  rcases open_strings Try.underlying28 Try.underlying9 (by kernel_rfl) h with ⟨rfl, _⟩ | ⟨a, len, cap, ss, rfl, _, hlc, hcm, hl, _, hc, hs⟩
  · exact ⟨none, 0, 0, [], rfl, Sl.nil _ _ _ _, Nat.le_refl _, by omega, fun _ h => by cases h⟩
  · simp only [if_true] at hl
    refine ⟨some a, len, cap, ss.take len, rfl, ⟨by rw [strCells_length, List.length_take]; omega, fun h0 => ?_⟩, hlc, by unfold maxLen at hcm; omega, fun s hm => ?_⟩
    · have h1 := hc 0 (by omega)
      have h2 := addr_of_cell h1
      have e0 : a.add 0 = a := rfl
      rw [e0] at h1 h2
      refine ⟨a.block, a.off, by rw [← h2], World.block_lt_of_cell? W a h1, fun j u hu => ?_⟩
      simp only [strCells, List.getElem?_map, List.getElem?_take] at hu
      split at hu
      · next hj =>
        have h3 := hc j (by omega)
        rw [h2, add_plain] at h3
        rw [h3]
        rw [List.getElem?_eq_getElem (by omega), Option.map_some] at hu
        rw [← hu]
        simp [List.getD, List.getElem?_eq_getElem (show j < ss.length by omega)]
      · cases hu
    · have := hs s (List.mem_of_mem_take hm)
      unfold maxLen at this
      omega

theorem keyField0 : ∃ f0 f1 f2 f3 : Field, Try.prog.underlying 30 = some (.struct #[f0, f1, f2, f3]) ∧ f0.type = 9 ∧ f1.type = 23 ∧ f2.type = 28 ∧ f3.type = 28 :=
  ⟨_, _, _, _, Try.underlying30, rfl, rfl, rfl, rfl⟩

/-- one key that came in, out of its four cells -/
theorem open_key {fuel : Nat} {cs : List Value} {x : DataW H × List MemPlace} (h : DataW.trod enc Try.prog W 0 (fun _ => true) true fuel 30 cs = some x) :
    ∃ k : KV, cs = k.cells ∧ k.At W W.heap.size ∧ k.Ok := by
  obtain ⟨f0, f1, f2, f3, hu, t0, t1, t2, t3⟩ := keyField0
  obtain ⟨ys, n', _, _, hlen, hyl, hf⟩ := DataW.trod_struct hu h
  have hone : oneCellFields Try.prog #[f0, f1, f2, f3] = true := by
    have h1 : (match Try.prog.underlying 30 with | some (.struct fs) => oneCellFields Try.prog fs | _ => false) = true := by kernel_rfl
    rw [hu] at h1
    exact h1
  have hC : Try.prog.cellsOf 30 = 4 := by kernel_rfl
  obtain ⟨o0, k0⟩ := hone_of hone 0 f0 rfl
  obtain ⟨o1, k1⟩ := hone_of hone 1 f1 rfl
  obtain ⟨o2, k2⟩ := hone_of hone 2 f2 rfl
  obtain ⟨o3, k3⟩ := hone_of hone 3 f3 rfl
  have hl4 : cs.length = 4 := hlen.trans hC
  obtain ⟨c0, c1, c2, c3, rfl⟩ : ∃ c0 c1 c2 c3, cs = [c0, c1, c2, c3] := by
    rcases cs with _ | ⟨c0, _ | ⟨c1, _ | ⟨c2, _ | ⟨c3, _ | ⟨c4, r⟩⟩⟩⟩⟩ <;> simp at hl4
    exact ⟨c0, c1, c2, c3, rfl⟩
  have hy4 : ys.length = 4 := hyl
  have g0 := hf 0 f0 rfl
  have g1 := hf 1 f1 rfl
  have g2 := hf 2 f2 rfl
  have g3 := hf 3 f3 rfl
  rw [o0, k0, t0, List.getElem?_eq_getElem (by omega)] at g0
  rw [o1, k1, t1, List.getElem?_eq_getElem (by omega)] at g1
  rw [o2, k2, t2, List.getElem?_eq_getElem (by omega)] at g2
  rw [o3, k3, t3, List.getElem?_eq_getElem (by omega)] at g3
  obtain ⟨nm, e0, _, hn⟩ := DataW.trod_string Try.underlying9 g0
  obtain ⟨hs, e1, _, _⟩ := DataW.trod_int Try.underlying23 g1
  obtain ⟨ta, tn, tc, ts, e2, hT, htc, htm, _⟩ := open_strs g2
  obtain ⟨sa, sn, sc, ss, e3, hS, hsc, hsm, _⟩ := open_strs g3
  simp at e0 e1 e2 e3
  subst e0 e1 e2 e3
  exact ⟨⟨nm, hs, ta, tn, tc, sa, sn, sc, ts, ss⟩, rfl, ⟨hT, hS⟩, ⟨by dsimp; omega, by dsimp; omega, by unfold maxLen at hn; dsimp; omega⟩⟩

/-- a list of keys that came in -/
theorem open_keys {v : Value} {d : DataW H} {p : List MemPlace} (h : DataW.Trod enc Try.prog W 0 (fun _ => true) true 22 v d p) (hv : ∃ a n c, v = .slice a n c) :
    ∃ A n c l, v = .slice A n c ∧ Sl W W.heap.size 4 A n (encAll KV.cells l) ∧ n ≤ c ∧ c ≤ 9223372036854775807 ∧ (∀ k ∈ l, k.At W W.heap.size) ∧ ∀ k ∈ l, k.Ok := by
  obtain ⟨A, n, c, rfl⟩ := hv
  obtain ⟨fuel, hf⟩ := h
  rcases open_slice Try.underlying22 hf with ⟨hcs, _⟩ | ⟨a, len, cap, m, q, D, Pl, hcs, _, hlc, hcm, hm, _, hi⟩
  · simp [Value.cells] at hcs
    obtain ⟨rfl, rfl, rfl⟩ := hcs
    exact ⟨none, 0, 0, [], rfl, Sl.nil _ _ _ _, Nat.le_refl _, by omega, fun _ h => (by cases h), fun _ h => (by cases h)⟩
  · simp [Value.cells] at hcs
    obtain ⟨rfl, rfl, rfl⟩ := hcs
    simp only [if_true] at hm
    subst hm
    have hC : Try.prog.cellsOf 30 = 4 := by kernel_rfl
    have each : ∀ i, i < n → ∃ k : KV, (∀ j u, k.cells[j]? = some u → W.cell? (a.add (i * 4 + j)) = some u) ∧ k.At W W.heap.size ∧ k.Ok := by
      intro i hlt
      obtain ⟨cs', hc, ht⟩ := hi i (by omega)
      obtain ⟨k, rfl, hat, hok⟩ := open_key ht
      refine ⟨k, fun j u hu => ?_, hat, hok⟩
      rw [hC] at hc
      obtain ⟨_, hcl, hcell⟩ := World.cells?_some hc
      have hj : j < 4 := by have := (List.getElem?_eq_some_iff.1 hu).1; rw [KV.cells_length] at this; exact this
      rw [← Go.Deep.add_add, hcell j hj, hu]
    have build : ∀ j, j ≤ n → ∃ l : List KV, l.length = j ∧ (∀ i k, l[i]? = some k → (∀ j u, k.cells[j]? = some u → W.cell? (a.add (i * 4 + j)) = some u) ∧ k.At W W.heap.size ∧ k.Ok) := by
      intro j
      induction j with
      | zero => intro _; exact ⟨[], rfl, fun i k h => by simp at h⟩
      | succ j ih =>
        intro hj
        obtain ⟨l, hl, h⟩ := ih (by omega)
        obtain ⟨k, hk⟩ := each j (by omega)
        refine ⟨l ++ [k], by simp [hl], fun i x hx => ?_⟩
        rw [List.getElem?_append] at hx
        split at hx
        · exact h i x hx
        · next hge =>
          have : i = j := by have := (List.getElem?_eq_some_iff.1 hx).1; simp at this; omega
          subst this
          rw [hl] at hx
          simp at hx
          subst hx
          exact hk
    obtain ⟨l, hl, h⟩ := build n (Nat.le_refl _)
    refine ⟨some a, n, _, l, rfl, ⟨by rw [encAll_length KV.cells_length, hl], fun h0 => ?_⟩, hlc, by unfold maxLen at hcm; omega, fun k hk => ?_, fun k hk => ?_⟩
    · have hx : l[0]? = some l[0] := List.getElem?_eq_getElem (by omega)
      have h1 := (h 0 _ hx).1 0 (.string l[0].name) rfl
      rw [show 0 * 4 + 0 = 0 from rfl] at h1
      have h2 := addr_of_cell h1
      have e0 : a.add 0 = a := rfl
      rw [e0] at h1 h2
      refine ⟨a.block, a.off, by rw [← h2], World.block_lt_of_cell? W a h1, fun j u hu => ?_⟩
      have hjl : j < l.length * 4 := by have := (List.getElem?_eq_some_iff.1 hu).1; rwa [encAll_length KV.cells_length] at this
      have hdl : j / 4 < l.length := by omega
      have hx : l[j / 4]? = some l[j / 4] := List.getElem?_eq_getElem hdl
      have hg := encAll_get KV.cells_length l (j / 4) (j % 4) l[j / 4] hx (Nat.mod_lt _ (by omega))
      rw [show j / 4 * 4 + j % 4 = j by omega, hu] at hg
      have h3 := (h _ _ hx).1 (j % 4) u hg.symm
      rw [show j / 4 * 4 + j % 4 = j by omega, h2, add_plain] at h3
      exact h3
    · obtain ⟨i, hil, hik⟩ := List.getElem_of_mem hk
      exact (h i k (by rw [List.getElem?_eq_getElem hil, hik])).2.1
    · obtain ⟨i, hil, hik⟩ := List.getElem_of_mem hk
      exact (h i k (by rw [List.getElem?_eq_getElem hil, hik])).2.2
end

end Go.Proofs.Ytnnbhklkakhkkaa

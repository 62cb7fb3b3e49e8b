/-
  OPENING THE ARGUMENTS of laws.FnSign: a note with its signatures, a list of keys that sign, as data, with their bulk. No walk.
-/
import Derived.Test.YtnnbhklkakhkkaaDoorOpenM
import Derived.Test.YtnnbhklkakhkkaaDoorConvNote
import Derived.Test.YtnnbhklkakhkkaaDoorOlds
import Derived.Test.YtnnbhklkakhkkaaDoorRows
namespace Go.Proofs.YtnnbhklkakhkkaaDoor
open Go.ChangeShapes Go.WideShapes Go.RowKit Go.Deep Go.Joins

theorem bulkAll_append {H : Type} (l r : List (DataW H)) : Rows.uptoBulkAll (l ++ r) = Rows.uptoBulkAll l + Rows.uptoBulkAll r := by
  induction l with
  | nil => simp [Rows.uptoBulkAll]
  | cons x l ih => simp only [List.cons_append, Rows.uptoBulkAll, ih]; omega
theorem bulk_pos {H : Type} (d : DataW H) : 1 ≤ Rows.uptoBulk d := by
  cases d with
  | lit l => cases l <;> simp [Rows.uptoBulk]
  | nil => simp [Rows.uptoBulk]
  | ptr d => simp [Rows.uptoBulk]
  | slice elems spare => simp [Rows.uptoBulk]
  | agg parts => simp [Rows.uptoBulk]
  | iface t d => simp [Rows.uptoBulk]
  | map entries => simp [Rows.uptoBulk]
  | held h => simp [Rows.uptoBulk]

section
variable {H : Type} {enc : TypeId × Value → H} {W : World}

theorem addr_of_cell' {a : Addr} {v : Value} (h : W.cell? a = some v) : a = ⟨a.block, a.off, none⟩ := by
  have := World.cell?_spot h
  obtain ⟨b, o, s⟩ := a
  simp only at this
  subst this
  rfl

set_option maxRecDepth 100000 in
/-- a list of structs that came in: its cells, and what is known of each -/
theorem open_list {α : Type} {cells : α → List Value} {size : Nat} {te ts : TypeId} (hlen : ∀ x, (cells x).length = size) (hsz : 0 < size) (ht : Tryd.prog.underlying ts = some (.slice te)) (hC : Tryd.prog.cellsOf te = size) (weight : α → Nat) (ok : α → Prop)
    (hopen : ∀ (fuel : Nat) (cs : List Value) (y : DataW H × List MemPlace), DataW.trod enc Tryd.prog W 0 (fun _ => true) true fuel te cs = some y → ∃ x : α, cs = cells x ∧ ok x ∧ weight x ≤ Rows.uptoBulk y.1)
    {fuel : Nat} {cs : List Value} {y : DataW H × List MemPlace} (hf : DataW.trod enc Tryd.prog W 0 (fun _ => true) true fuel ts cs = some y) :
    ∃ A n c l, cs = [.slice A n c] ∧ Sl W W.heap.size size A n (encAll cells l) ∧ l.length = n ∧ (∀ x ∈ l, ok x) ∧ (l.map weight).sum + n ≤ 2 * Rows.uptoBulk y.1 := by
  rcases open_slice ht hf with ⟨rfl, rfl⟩ | ⟨a, len, cap, m, q, D, Pl, rfl, _, hlc, hcm, hm, rfl, hi⟩
  · exact ⟨none, 0, 0, [], rfl, Sl.nil _ _ _ _, rfl, fun _ h => (by cases h), by simp⟩
  · simp only [if_true] at hm
    subst hm
    have each : ∀ i, i < len → ∃ k : α, (∀ j u, (cells k)[j]? = some u → W.cell? (a.add (i * size + j)) = some u) ∧ ok k ∧ weight k ≤ Rows.uptoBulk (D i) := by
      intro i hlt
      obtain ⟨cs', hc, htr⟩ := hi i (by omega)
      obtain ⟨k, rfl, hok, hw⟩ := hopen _ _ _ htr
      refine ⟨k, fun j u hu => ?_, hok, hw⟩
      rw [hC] at hc
      obtain ⟨_, hcl, hcell⟩ := World.cells?_some hc
      have hj : j < size := by have := (List.getElem?_eq_some_iff.1 hu).1; rw [hlen] at this; exact this
      rw [← Go.Deep.add_add, hcell j hj, hu]
    have build : ∀ j, j ≤ len → ∃ l : List α, l.length = j ∧ (∀ i k, l[i]? = some k → (∀ j u, (cells k)[j]? = some u → W.cell? (a.add (i * size + j)) = some u) ∧ ok k) ∧ (l.map weight).sum ≤ Rows.uptoBulkAll ((List.range j).map D) := by
      intro j
      induction j with
      | zero => intro _; exact ⟨[], rfl, fun i k h => by simp at h, by simp⟩
      | succ j ih =>
        intro hj
        obtain ⟨l, hl, h, hs⟩ := ih (by omega)
        obtain ⟨k, hk1, hk2, hk3⟩ := each j (by omega)
        refine ⟨l ++ [k], by simp [hl], fun i x hx => ?_, ?_⟩
        · rw [List.getElem?_append] at hx
          split at hx
          · exact h i x hx
          · next hge =>
            have : i = j := by have := (List.getElem?_eq_some_iff.1 hx).1; simp at this; omega
            subst this
            rw [hl] at hx
            simp at hx
            subst hx
            exact ⟨hk1, hk2⟩
        · rw [List.range_succ, List.map_append, List.map_append, List.sum_append, bulkAll_append]
          simp only [List.map_cons, List.map_nil, List.sum_cons, List.sum_nil, Rows.uptoBulkAll]
          omega
    obtain ⟨l, hl, h, hs⟩ := build len (Nat.le_refl _)
    have hcount : ∀ j, j ≤ Rows.uptoBulkAll ((List.range j).map D) := by
      intro j
      induction j with
      | zero => simp
      | succ j ih =>
        rw [List.range_succ, List.map_append, bulkAll_append]
        have := bulk_pos (D j)
        simp only [List.map_cons, List.map_nil, Rows.uptoBulkAll]
        omega
    refine ⟨some a, len, _, l, rfl, ⟨by rw [encAll_length hlen, hl], fun h0 => ?_⟩, hl, fun k hk => ?_, ?_⟩
    · obtain ⟨k0, hx⟩ : ∃ k0, l[0]? = some k0 := ⟨_, List.getElem?_eq_getElem (by omega)⟩
      have hck : 0 < (cells k0).length := by rw [hlen]; exact hsz
      obtain ⟨u0, hc0⟩ : ∃ u, (cells k0)[0]? = some u := ⟨_, List.getElem?_eq_getElem hck⟩
      have h1 := (h 0 _ hx).1 0 _ hc0
      rw [show 0 * size + 0 = 0 by omega] at h1
      have h2 := addr_of_cell' h1
      have e0 : a.add 0 = a := rfl
      rw [e0] at h1 h2
      refine ⟨a.block, a.off, by rw [← h2], World.block_lt_of_cell? W a h1, fun j u hu => ?_⟩
      have hjl : j < l.length * size := by have := (List.getElem?_eq_some_iff.1 hu).1; rwa [encAll_length hlen] at this
      have hdl : j / size < l.length := Nat.div_lt_of_lt_mul (by rw [Nat.mul_comm]; exact hjl)
      have hx : l[j / size]? = some l[j / size] := List.getElem?_eq_getElem hdl
      have hg := encAll_get hlen l (j / size) (j % size) l[j / size] hx (Nat.mod_lt _ hsz)
      have hdm : j / size * size + j % size = j := by rw [Nat.mul_comm]; exact Nat.div_add_mod j size
      rw [hdm, hu] at hg
      have h3 := (h _ _ hx).1 (j % size) u hg.symm
      rw [hdm, h2, add_plain] at h3
      exact h3
    · obtain ⟨i, hil, hik⟩ := List.getElem_of_mem hk
      exact (h i k (by rw [List.getElem?_eq_getElem hil, hik])).2
    · have := hcount len
      simp only [Rows.uptoBulk]
      omega

theorem sigFields : ∃ f0 f1 f2 : Field, Tryd.prog.underlying 106 = some (.struct #[f0, f1, f2]) ∧ f0.type = 9 ∧ f1.type = 23 ∧ f2.type = 9 :=
  ⟨_, _, _, Tryd.underlying106, rfl, rfl, rfl⟩
theorem sigCells : Tryd.prog.cellsOf 106 = 3 := by kernel_rfl

def wtS (x : SV) : Nat := x.name.size + x.b64.size + 4
def wtM (x : MV) : Nat := x.name.size + x.sig.size + 5

set_option maxRecDepth 100000 in
/-- one signature that came in, out of its three cells -/
theorem open_sig (fuel : Nat) (cs : List Value) (y : DataW H × List MemPlace) (h : DataW.trod enc Tryd.prog W 0 (fun _ => true) true fuel 106 cs = some y) :
    ∃ x : SV, cs = x.cells ∧ x.Ok ∧ wtS x ≤ Rows.uptoBulk y.1 := by
  obtain ⟨f0, f1, f2, hu, t0, t1, t2⟩ := sigFields
  have hone : oneCellFields Tryd.prog #[f0, f1, f2] = true := by
    have h1 : (match Tryd.prog.underlying 106 with | some (.struct fs) => oneCellFields Tryd.prog fs | _ => false) = true := by kernel_rfl
    rw [hu] at h1
    exact h1
  obtain ⟨y0, y1, y2, n, hx, hlen, g0, g1, g2⟩ := trod_struct3 hu h
  obtain ⟨o0, k0⟩ := hone_of hone 0 f0 rfl
  obtain ⟨o1, k1⟩ := hone_of hone 1 f1 rfl
  obtain ⟨o2, k2⟩ := hone_of hone 2 f2 rfl
  have hl3 : cs.length = 3 := hlen.trans sigCells
  obtain ⟨c0, c1, c2, rfl⟩ : ∃ c0 c1 c2, cs = [c0, c1, c2] := by
    rcases cs with _ | ⟨c0, _ | ⟨c1, _ | ⟨c2, _ | ⟨c3, r⟩⟩⟩⟩ <;> simp at hl3
    exact ⟨c0, c1, c2, rfl⟩
  rw [o0, k0, t0] at g0
  rw [o1, k1, t1] at g1
  rw [o2, k2, t2] at g2
  obtain ⟨s0, e0, z0, w0⟩ := DataW.trod_string Tryd.underlying9 g0
  obtain ⟨x1, e1, z1, w1⟩ := DataW.trod_int Tryd.underlying23 g1
  obtain ⟨s2, e2, z2, w2⟩ := DataW.trod_string Tryd.underlying9 g2
  simp at e0 e1 e2
  subst e0 e1 e2
  have hb := bounds_u32 w1
  unfold maxLen at w0 w2
  refine ⟨⟨s0, x1, s2⟩, rfl, ⟨by show s0.size ≤ _; omega, by show s2.size ≤ _; omega, hb.1, by show x1 < _; omega⟩, ?_⟩
  have hs0 : s0.data.toList.length = s0.size := by simp
  have hs2 : s2.data.toList.length = s2.size := by simp
  rw [hx, z0, z1, z2]
  simp only [Rows.uptoBulk, Rows.uptoBulkAll, wtS, hs0, hs2]
  omega

set_option maxRecDepth 100000 in
/-- one key that signs, out of its four cells -/
theorem open_mk (fuel : Nat) (cs : List Value) (y : DataW H × List MemPlace) (h : DataW.trod enc Tryd.prog W 0 (fun _ => true) true fuel 25 cs = some y) :
    ∃ x : MV, cs = x.cells ∧ x.Ok ∧ wtM x ≤ Rows.uptoBulk y.1 := by
  obtain ⟨f0, f1, f2, f3, hu, t0, t1, t2, t3⟩ := makerFields
  have hone : oneCellFields Tryd.prog #[f0, f1, f2, f3] = true := by
    have h1 : (match Tryd.prog.underlying 25 with | some (.struct fs) => oneCellFields Tryd.prog fs | _ => false) = true := by kernel_rfl
    rw [hu] at h1
    exact h1
  obtain ⟨y0, y1, y2, y3, n, hx, hlen, g0, g1, g2, g3⟩ := trod_struct4 hu h
  obtain ⟨o0, k0⟩ := hone_of hone 0 f0 rfl
  obtain ⟨o1, k1⟩ := hone_of hone 1 f1 rfl
  obtain ⟨o2, k2⟩ := hone_of hone 2 f2 rfl
  obtain ⟨o3, k3⟩ := hone_of hone 3 f3 rfl
  have hl4 : cs.length = 4 := hlen.trans makerCells
  obtain ⟨c0, c1, c2, c3, rfl⟩ : ∃ c0 c1 c2 c3, cs = [c0, c1, c2, c3] := by
    rcases cs with _ | ⟨c0, _ | ⟨c1, _ | ⟨c2, _ | ⟨c3, _ | ⟨c4, r⟩⟩⟩⟩⟩ <;> simp at hl4
    exact ⟨c0, c1, c2, c3, rfl⟩
  rw [o0, k0, t0] at g0
  rw [o1, k1, t1] at g1
  rw [o2, k2, t2] at g2
  rw [o3, k3, t3] at g3
  obtain ⟨s0, e0, z0, w0⟩ := DataW.trod_string Tryd.underlying9 g0
  obtain ⟨x1, e1, z1, w1⟩ := DataW.trod_int Tryd.underlying23 g1
  obtain ⟨s2, e2, z2, w2⟩ := DataW.trod_string Tryd.underlying9 g2
  obtain ⟨b3, e3, z3⟩ := DataW.trod_bool Tryd.underlying4 g3
  simp at e0 e1 e2 e3
  subst e0 e1 e2 e3
  have hb := bounds_u32 w1
  unfold maxLen at w0 w2
  refine ⟨⟨s0, x1, s2, b3⟩, rfl, ⟨by show s0.size ≤ _; omega, by show s2.size ≤ _; omega, hb.1, by show x1 < _; omega⟩, ?_⟩
  have hs0 : s0.data.toList.length = s0.size := by simp
  have hs2 : s2.data.toList.length = s2.size := by simp
  rw [hx, z0, z1, z2, z3]
  simp only [Rows.uptoBulk, Rows.uptoBulkAll, wtM, hs0, hs2]
  omega

theorem wtM_mem {l : List MV} {m : MV} (h : m ∈ l) : wtM m ≤ (l.map wtM).sum := by
  induction l with
  | nil => cases h
  | cons x t ih =>
    rw [List.map_cons, List.sum_cons]
    rcases List.mem_cons.1 h with rfl | h
    · omega
    · have := ih h; omega
theorem wtS_mem {l : List SV} {m : SV} (h : m ∈ l) : wtS m ≤ (l.map wtS).sum := by
  induction l with
  | nil => cases h
  | cons x t ih =>
    rw [List.map_cons, List.sum_cons]
    rcases List.mem_cons.1 h with rfl | h
    · omega
    · have := ih h; omega
theorem newLines_wt (l : List MV) : (newLines l).length ≤ 3 * (l.map wtM).sum := by
  induction l with
  | nil => simp [newLines]
  | cons x t ih =>
    unfold newLines at ih ⊢
    rw [List.flatMap_cons, List.length_append, List.map_cons, List.sum_cons]
    have hn : x.name.data.toList.length = x.name.size := by simp
    have hg : x.sig.data.toList.length = x.sig.size := by simp
    have hl : (newB64 x).length = (4 + x.sig.size + 2) / 3 * 4 := by
      unfold newB64
      rw [encL_length, List.length_append, hg]
      rfl
    have hline : (lineL x.name.data.toList (newB64 x)).length = 4 + x.name.size + 1 + (newB64 x).length + 1 := by simp [lineL, dash]; omega
    rw [hline, hl]
    unfold wtM
    unfold wtM at ih
    omega
theorem oldLines_wt (ks : List (ByteArray × Int)) (l : List SV) : (oldLines ks l).length ≤ 2 * (l.map wtS).sum := by
  induction l with
  | nil => simp [oldLines]
  | cons x t ih =>
    unfold oldLines at ih ⊢
    rw [List.flatMap_cons, List.length_append, List.map_cons, List.sum_cons]
    have hx : (oldLine ks x).length ≤ 4 + x.name.size + 1 + x.b64.size + 1 := by
      unfold oldLine
      split
      · simp
      · simp [lineL, dash]; omega
    unfold wtS
    unfold wtS at ih
    omega
end

end Go.Proofs.YtnnbhklkakhkkaaDoor

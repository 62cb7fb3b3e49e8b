/-
  THE SIGNATURES THAT A NOTE HAS, written again: the walk of beUint32; the buffer while they are written.
-/
import Derived.Test.YtnnbhklkakhkkaaDoorSpecEnc
import Derived.Test.YtnnbhklkakhkkaaDoorNoteSign
namespace Go.Proofs.YtnnbhklkakhkkaaDoor
open Go.RowKit Go.Lib

set_option maxHeartbeats 2000000 in
set_option maxRecDepth 100000 in
theorem beU_any (b o n c : Nat) (l : List UInt8) (w : World) (hc : RowAt w b o (byteCells l)) (hn : 4 ≤ n) (hl : l.length = n) (hn2 : n ≤ 2147483647) :
    Calls Tryd.prog 58 #[.slice (some ⟨b, o, none⟩) n c] w fun e w' => e = .returned (.int .u32 (be4 l)) ∧ ∃ k, w' = w.drewN k := by
  obtain ⟨s, hs⟩ : ∃ s, s = str l := ⟨_, rfl⟩
  have hsl : s.data.toList = l := by rw [hs, str_list]
  have get : ∀ j, j < 4 → w.cell? ⟨b, o + j, none⟩ = some (.int .u8 (bAt s j : Int)) := fun j hj => hc j _ (by
    unfold byteCells bAt
    rw [hsl, List.getElem?_map, List.getD_eq_getElem?_getD, List.getElem?_eq_getElem (by omega)]
    rfl)
  rw [← hsl, be4_bAt]
  have k0 := get 0 (by omega)
  have k1 := get 1 (by omega)
  have k2 := get 2 (by omega)
  have k3 := get 3 (by omega)
  rw [Nat.add_zero] at k0
  have o1 := orA (bAt s 0) (bAt s 1) (bAt_lt _ _) (bAt_lt _ _)
  have o2 := orB (bAt s 0) (bAt s 1) (bAt s 2) (bAt_lt _ _) (bAt_lt _ _) (bAt_lt _ _)
  have o3 := orC (bAt s 0) (bAt s 1) (bAt s 2) (bAt s 3) (bAt_lt _ _) (bAt_lt _ _) (bAt_lt _ _) (bAt_lt _ _)
  have l0 := bAt_lt s 0; have l1 := bAt_lt s 1; have l2 := bAt_lt s 2; have l3 := bAt_lt s 3
  clear get hc hs hsl
  go_enter Tryd.func58, Tryd.ntmps58
  go_wp2_with (fail)
  go_quiet (fail)
  go_wp2_with (fail)
  go_ret
  exact ⟨rfl, _, rfl⟩

/-- the buffer b while strings are written: its row was G in world a; what else lay there is as it was -/
def OAt (a w : World) (b G : Nat) (l : List UInt8) : Prop := ∃ g, BufRow w b g l ∧ Fr a w b G ∧ (g = G ∨ a.heap.size ≤ g)

theorem Fr.refl (w : World) (b g : Nat) : Fr w w b g := ⟨rfl, rfl, rfl, Nat.le_refl _, fun _ _ _ _ => rfl⟩
theorem Fr.comp {a w w' : World} {b G g : Nat} (h : Fr a w b G) (h' : Fr w w' b g) (hg : g = G ∨ a.heap.size ≤ g) : Fr a w' b G :=
  ⟨h'.os.trans h.os, h'.tape.trans h.tape, h'.output.trans h.output, Nat.le_trans h.size h'.size, fun k hk hb hG =>
    (h'.block k (Nat.lt_of_lt_of_le hk h.size) hb (by omega)).trans (h.block k hk hb hG)⟩
theorem Fr.far {a w w' : World} {b G : Nat} (h : Fr a w b G) (hb : Below w.heap.size w w') : Fr a w' b G :=
  ⟨hb.os.trans h.os, hb.tape.trans h.tape, hb.output.trans h.output, Nat.le_trans h.size hb.size, fun k hk hkb hG => (hb.block k (Nat.lt_of_lt_of_le hk h.size)).trans (h.block k hk hkb hG)⟩
theorem OAt.start {w : World} {b g : Nat} {l : List UInt8} (h : BufRow w b g l) : OAt w w b g l := ⟨g, h, Fr.refl _ _ _, .inl rfl⟩
theorem OAt.far {a w w' : World} {b G : Nat} {l : List UInt8} (h : OAt a w b G l) (hb : Below w.heap.size w w') : OAt a w' b G l := by
  obtain ⟨g, h1, h2, h3⟩ := h
  exact ⟨g, h1.low h1.lt.1 h1.lt.2 hb, h2.far hb, h3⟩
theorem OAt.size {a w : World} {b G : Nat} {l : List UInt8} (h : OAt a w b G l) : a.heap.size ≤ w.heap.size := by
  obtain ⟨g, h1, h2, h3⟩ := h
  exact h2.size
/-- a block of the old world that is neither the buffer nor its row -/
theorem OAt.block {a w : World} {b G k : Nat} {l : List UInt8} (h : OAt a w b G l) (hk : k < a.heap.size) (hb : k ≠ b) (hG : k ≠ G) : w.heap[k]? = a.heap[k]? := by
  obtain ⟨g, h1, h2, h3⟩ := h
  exact h2.block k hk hb hG
theorem OAt.below {a w : World} {b G B : Nat} {l : List UInt8} (h : OAt a w b G l) (hb : B ≤ b) (hG : B ≤ G) (hB : B ≤ a.heap.size) : Below B a w := by
  obtain ⟨g, h1, h2, h3⟩ := h
  exact h2.below hb hG hB
/-- one string more -/
theorem OAt.write {a w : World} {b G : Nat} {l : List UInt8} (h : OAt a w b G l) (s : ByteArray) (hl : 1 ≤ l.length) (hs : 1 ≤ s.size) (hlim : l.length + s.size ≤ 2147483648) :
    Calls Tryd.prog 52 #[.pointer (some ⟨b, 0, none⟩), .string s] w fun e w' => e = .returned (.tuple #[.int .i64 s.size, .nilIface]) ∧ OAt a w' b G (l ++ s.data.toList) := by
  obtain ⟨g, h1, h2, h3⟩ := h
  refine (writeString_row b g l s w h1 hl hs hlim).mono ?_
  rintro e w' ⟨rfl, g', k1, k2, k3⟩
  have hsz := h2.size
  exact ⟨rfl, g', k1, h2.comp k2 h3, by omega⟩

theorem oldLine_len {s : SV} : (lineL s.name.data.toList s.b64.data.toList).length = 4 + s.name.size + 1 + s.b64.size + 1 := by simp [lineL, dash]; omega

/-- the errors' cells, at a world that keeps them -/
theorem Errs.fr {a w : World} {b G : Nat} (h : Errs a) (hf : Below (min b G) a w) (h1 : 0 < min b G) (h2 : 1 < min b G) : Errs w := by
  obtain ⟨⟨t, p, e1⟩, ⟨t2, p2, e2⟩⟩ := h
  exact ⟨⟨t, p, (hf.cell (p := ⟨_, _, _⟩) h1).trans e1⟩, ⟨t2, p2, (hf.cell (p := ⟨_, _, _⟩) h2).trans e2⟩⟩

end Go.Proofs.YtnnbhklkakhkkaaDoor

/-
  The walks of verifierMap.Verifier and of impl.Lookup: a key is looked up by its name and its hash.
-/
import Derived.Test.YtnnbhklkakhkkaaList
namespace Go.Proofs.Ytnnbhklkakhkkaa
open Go.RowKit

theorem VMap.look0 {w : World} {B : Nat} {l : List KV} (h : VMap w B l) {a : ByteArray} {x : Int} (hg : grp l a x = []) :
    (Instr.lookup 55 (.map (some B)) (.agg #[.string a, .int .u32 x]) true).run Try.prog w = .ok (.tuple #[.slice none 0 0, .bool false]) w := by
  obtain ⟨base, L, h⟩ := h
  have hp : place L a x = .none := by
    cases hp : place L a x with
    | none => rfl
    | some i =>
      obtain ⟨e, he, rfl, rfl⟩ := place_lt hp
      exact absurd hg (h.own e (List.mem_of_getElem? he)).2
  have := run_lookup_nh h.map Try.underlying55 run_zero_vs a x true
  rw [hp] at this
  exact this

theorem VMap.look1 {w : World} {B : Nat} {l : List KV} (h : VMap w B l) {a : ByteArray} {x : Int} {y : KV} {r : List KV} (hg : grp l a x = y :: r) :
    ∃ b cap, (Instr.lookup 55 (.map (some B)) (.agg #[.string a, .int .u32 x]) true).run Try.prog w = .ok (.tuple #[.slice (some ⟨b, 0, none⟩) (r.length + 1) cap, .bool true]) w ∧
      w.cell? ⟨b, 0, none⟩ = some y.iface := by
  obtain ⟨base, L, h⟩ := h
  have hm : y ∈ l ∧ y.name = a ∧ y.hash = x := by
    have : y ∈ grp l a x := by rw [hg]; simp
    unfold grp at this
    simpa using this
  obtain ⟨i, hp⟩ := h.all y hm.1
  rw [hm.2.1, hm.2.2] at hp
  obtain ⟨e, he, hn1, hn2⟩ := place_lt hp
  have ho := (h.own e (List.mem_of_getElem? he)).1
  rw [hn1, hn2, hg] at ho
  have hl := run_lookup_nh h.map Try.underlying55 run_zero_vs a x true
  rw [hp] at hl
  simp only [Option.bind_some, he] at hl
  rcases ho.2 with ⟨_, h0⟩ | ⟨g, cap, cur, hv, _, hh, _⟩
  · simp at h0
  · have hc := ho.cells (g := g) (by rw [hv]; rfl) 0 y.iface rfl
    rw [add_zero_block] at hc
    refine ⟨g, cap, ?_, hc⟩
    rw [hv] at hl
    exact hl

set_option maxHeartbeats 400000 in
theorem verifier_none (B : Nat) (l : List KV) (a : ByteArray) (x : Int) (w : World) (h : VMap w B l) (hg : grp l a x = []) :
    Calls Try.prog 30 #[.map (some B), .string a, .int .u32 x] w fun e w' => e = .returned (.tuple #[.nilIface, .iface 49 (.pointer (some ⟨w.heap.size, 0, none⟩))]) ∧ Below w.heap.size w w' := by
  have hl := h.look0 hg
  clear h hg
  go_enter Try.func30, Try.ntmps30
  go_wp2
  go_ret2
  exact ⟨rfl, (Below.refl _ _).alloc (Nat.le_refl _) _⟩

set_option maxHeartbeats 400000 in
theorem verifier_one (B : Nat) (l : List KV) (a : ByteArray) (x : Int) (w : World) (h : VMap w B l) (y : KV) (hg : grp l a x = [y]) :
    Calls Try.prog 30 #[.map (some B), .string a, .int .u32 x] w fun e w' => e = .returned (.tuple #[y.iface, .nilIface]) ∧ Below w.heap.size w w' := by
  obtain ⟨b, cap, hl, hc⟩ := h.look1 hg
  clear h hg
  dsimp only [KV.iface, KV.val] at hc ⊢
  go_enter Try.func30, Try.ntmps30
  go_wp2
  go_ret2
  exact ⟨rfl, Below.refl _ _⟩

set_option maxHeartbeats 400000 in
theorem verifier_many (B : Nat) (l : List KV) (a : ByteArray) (x : Int) (w : World) (h : VMap w B l) (y z : KV) (r : List KV) (hg : grp l a x = y :: z :: r) :
    Calls Try.prog 30 #[.map (some B), .string a, .int .u32 x] w fun e w' => e = .returned (.tuple #[.nilIface, .iface 78 (.pointer (some ⟨w.heap.size, 0, none⟩))]) ∧ Below w.heap.size w w' := by
  obtain ⟨b, cap, hl, hc⟩ := h.look1 hg
  clear h hg hc
  simp only [List.length_cons] at hl
  go_enter Try.func30, Try.ntmps30
  go_wp2
  go_ret2
  exact ⟨rfl, (Below.refl _ _).alloc (Nat.le_refl _) _⟩

/-- verifierMap's method, called through the interface -/
theorem verifier_method (v : Value) (w : World) : (method 182 55 v "Verifier").run Try.prog w = .ok (30, v) w := by kernel_rfl


theorem asUnknown (v : Value) (w : World) : (Instr.typeAssert (.iface 49 v) 41 49 true).run Try.prog w = .ok (.tuple #[v, .bool true]) w := by kernel_rfl
theorem asOther (v : Value) (w : World) : (Instr.typeAssert (.iface 78 v) 41 49 true).run Try.prog w = .ok (.tuple #[.pointer none, .bool false]) w := by kernel_rfl

theorem vN (k : KV) (w : World) : Calls Try.prog 32 #[.agg #[.string k.name, .int .u32 k.hash, .slice k.ta k.tn k.tc, .slice k.sa k.sn k.sc]] w fun e w' => e = .returned (.string k.name) ∧ Below w.heap.size w w' := vName_any k w
theorem vH (k : KV) (w : World) : Calls Try.prog 31 #[.agg #[.string k.name, .int .u32 k.hash, .slice k.ta k.tn k.tc, .slice k.sa k.sn k.sc]] w fun e w' => e = .returned (.int .u32 k.hash) ∧ Below w.heap.size w w' := vHash_any k w

/-- a struct of four cells, stored cell by cell over one that lies there whole -/
theorem set4 {w : World} {g : Nat} {t : TypeId} {a b c d : Value} (h : w.heap[g]? = some (.cells #[a, b, c, d] t (0, 0))) (a' b' c' d' : Value) :
    ((((w.setCell ⟨g, 0, none⟩ a').setCell ⟨g, 1, none⟩ b').setCell ⟨g, 2, none⟩ c').setCell ⟨g, 3, none⟩ d').heap[g]? = some (.cells #[a', b', c', d'] t (0, 0)) := by
  have h1 := heap_setCell_same w g 0 _ t a' h
  have h2 := heap_setCell_same _ g 1 _ t b' h1
  have h3 := heap_setCell_same _ g 2 _ t c' h2
  have h4 := heap_setCell_same _ g 3 _ t d' h3
  simpa using h4

/-- what impl.Lookup answers, by the keys of the name and the hash -/
def lookupVal : List KV → Value
  | [] => .tuple #[.agg #[.string ⟨#[]⟩, .int .u32 0, .slice none 0 0, .slice none 0 0], .bool false, .bool true]
  | [y] => .tuple #[.agg #[.string y.name, .int .u32 y.hash, .slice none 0 0, .slice none 0 0], .bool true, .bool false]
  | _ => .tuple #[.agg #[.string ⟨#[]⟩, .int .u32 0, .slice none 0 0, .slice none 0 0], .bool false, .bool false]

set_option maxHeartbeats 1000000 in
theorem lookup_any (A : Option Addr) (n c : Nat) (l : List KV) (a : ByteArray) (x : Int) (w : World) (hs : Sl w w.heap.size 4 A n (encAll KV.cells l)) (hn : n ≤ 2147483660) :
    Calls Try.prog 8 #[.slice A n c, .string a, .int .u32 x] w fun e w' => e = .returned (lookupVal (grp l a x)) ∧ Below w.heap.size w w' := by
  have hw : ∀ o, Below w.heap.size w (w.alloc o) := fun o => (Below.refl _ _).alloc (Nat.le_refl _) o
  have c1 := verifiers_any A n c l (w.alloc (.cells #[.string ⟨#[]⟩, .int .u32 0, .slice none 0 0, .slice none 0 0] 30)) ((hs.below (hw _)).more (by simp)) hn
  have hcell : ∀ j v, #[Value.string ⟨#[]⟩, .int .u32 0, .slice none 0 0, .slice none 0 0][j]? = some v → (w.alloc (.cells #[.string ⟨#[]⟩, .int .u32 0, .slice none 0 0, .slice none 0 0] 30)).cell? ⟨w.heap.size, j, none⟩ = some v := fun j v hv => (cell_of_row _ _ j _ _ _ (heap_alloc_new w _)).trans hv
  have hW0 := hw (.cells #[.string ⟨#[]⟩, .int .u32 0, .slice none 0 0, .slice none 0 0] 30)
  have Hcell := Lib.hid hcell
  clear hcell hw hs
  have m1 := verifier_method
  have m2 := vName_method
  have m3 := vHash_method
  go_enter Try.func8, Try.ntmps8
  go_wp2_with (fail)
  refine c1.mono ?_
  clear c1
  rintro e w1 ⟨v, rfl, hown, hb1⟩
  obtain ⟨A1, cp1, rfl, hsl, _, _⟩ := own_form hown
  clear hown
  have c2 := list_any A1 n cp1 l w1 hsl hn
  go_wp2_with (fail)
  refine c2.mono ?_
  clear c2 hsl
  rintro e w2 ⟨rfl, hm, hb2⟩
  rcases hg : grp l a x with _ | ⟨y, r⟩
  · have c3 := verifier_none _ l a x w2 hm hg
    have Hg := Lib.hid hg
    clear hg hm
    go_wp2_with (fail)
    refine c3.mono ?_
    clear c3
    rintro e w3 ⟨rfl, hb3⟩
    have hb13 : Below (w.alloc (.cells #[.string ⟨#[]⟩, .int .u32 0, .slice none 0 0, .slice none 0 0] 30)).heap.size (w.alloc (.cells #[.string ⟨#[]⟩, .int .u32 0, .slice none 0 0, .slice none 0 0] 30)) w3 := hb1.trans ((hb2.mono hb1.size).trans (hb3.mono (Nat.le_trans hb1.size hb2.size)))
    have hbw : Below w.heap.size w w3 := hW0.trans (hb13.mono hW0.size)
    have k0 : w3.heap[w.heap.size]? = some (.cells #[.string ⟨#[]⟩, .int .u32 0, .slice none 0 0, .slice none 0 0] 30 (0, 0)) := (hb13.block _ (by simp)).trans (heap_alloc_new w _)
    have k4 := Lib.hid (set4 k0 (.string ⟨#[]⟩) (.int .u32 0) (.slice none 0 0) (.slice none 0 0))
    have q0 := (cell_of_row _ _ 0 _ _ _ k0)
    have q1 := (cell_of_row _ _ 1 _ _ _ k0)
    have q2 := (cell_of_row _ _ 2 _ _ _ k0)
    have q3 := (cell_of_row _ _ 3 _ _ _ k0)
    have f0 := frozen_of_row _ _ 0 _ _ k0
    have f1 := frozen_of_row _ _ 1 _ _ k0
    have f2 := frozen_of_row _ _ 2 _ _ k0
    have f3 := frozen_of_row _ _ 3 _ _ k0
    simp at q0 q1 q2 q3
    have hb4 := Lib.hid ((((hbw.setCell (Nat.le_refl _) (p := ⟨w.heap.size, 0, none⟩) (.string ⟨#[]⟩)).setCell (Nat.le_refl _) (p := ⟨w.heap.size, 1, none⟩) (.int .u32 0)).setCell (Nat.le_refl _) (p := ⟨w.heap.size, 2, none⟩) (.slice none 0 0)).setCell (Nat.le_refl _) (p := ⟨w.heap.size, 3, none⟩) (.slice none 0 0))
    clear k0 hb13 hb1 hb2 hb3 hW0 m1 m2 m3 hbw
    have a1 := asUnknown
    go_wp2
    clear q0 q1 q2 q3 f0 f1 f2 f3
    generalize (((w3.setCell ⟨w.heap.size, 0, none⟩ (.string ⟨#[]⟩)).setCell ⟨w.heap.size, 1, none⟩ (.int .u32 0)).setCell ⟨w.heap.size, 2, none⟩ (.slice none 0 0)).setCell ⟨w.heap.size, 3, none⟩ (.slice none 0 0) = w4 at *
    have q0 := (cell_of_row _ _ 0 _ _ _ k4.out)
    have q1 := (cell_of_row _ _ 1 _ _ _ k4.out)
    have q2 := (cell_of_row _ _ 2 _ _ _ k4.out)
    have q3 := (cell_of_row _ _ 3 _ _ _ k4.out)
    simp at q0 q1 q2 q3
    refine bodyPost_ret (v := .tuple #[.agg #[.string ⟨#[]⟩, .int .u32 0, .slice none 0 0, .slice none 0 0], .bool false, .bool true]) (by simp [results, Try.results8, go_sem, q0, q1, q2, q3]) rfl ⟨by rw [Hg.out]; rfl, hb4.out⟩
  · rcases r with _ | ⟨z, r⟩
    · have c3 := verifier_one _ l a x w2 hm y hg
      have Hg := Lib.hid hg
      clear hg hm
      dsimp only [KV.iface, KV.val] at c3
      go_wp2_with (fail)
      refine c3.mono ?_
      clear c3
      rintro e w3 ⟨rfl, hb3⟩
      have c4 := vN y w3
      go_wp2_with (fail)
      refine c4.mono ?_
      clear c4
      rintro e w4 ⟨rfl, hb4'⟩
      have c5 := vH y w4
      go_wp2_with (fail)
      refine c5.mono ?_
      clear c5
      rintro e w5 ⟨rfl, hb5⟩
      have hb35 : Below w3.heap.size w3 w5 := hb4'.trans (hb5.mono hb4'.size)
      have hb13 : Below (w.alloc (.cells #[.string ⟨#[]⟩, .int .u32 0, .slice none 0 0, .slice none 0 0] 30)).heap.size (w.alloc (.cells #[.string ⟨#[]⟩, .int .u32 0, .slice none 0 0, .slice none 0 0] 30)) w5 := hb1.trans ((hb2.mono hb1.size).trans ((hb3.trans (hb35.mono hb3.size)).mono (Nat.le_trans hb1.size hb2.size)))
      have hbw : Below w.heap.size w w5 := hW0.trans (hb13.mono hW0.size)
      have k0 : w5.heap[w.heap.size]? = some (.cells #[.string ⟨#[]⟩, .int .u32 0, .slice none 0 0, .slice none 0 0] 30 (0, 0)) := (hb13.block _ (by simp)).trans (heap_alloc_new w _)
      have k4 := Lib.hid (set4 k0 (.string y.name) (.int .u32 y.hash) (.slice none 0 0) (.slice none 0 0))
      have q0 := (cell_of_row _ _ 0 _ _ _ k0)
      have q1 := (cell_of_row _ _ 1 _ _ _ k0)
      have q2 := (cell_of_row _ _ 2 _ _ _ k0)
      have q3 := (cell_of_row _ _ 3 _ _ _ k0)
      have f0 := frozen_of_row _ _ 0 _ _ k0
      have f1 := frozen_of_row _ _ 1 _ _ k0
      have f2 := frozen_of_row _ _ 2 _ _ k0
      have f3 := frozen_of_row _ _ 3 _ _ k0
      simp at q0 q1 q2 q3
      have hb4 := Lib.hid ((((hbw.setCell (Nat.le_refl _) (p := ⟨w.heap.size, 0, none⟩) (.string y.name)).setCell (Nat.le_refl _) (p := ⟨w.heap.size, 1, none⟩) (.int .u32 y.hash)).setCell (Nat.le_refl _) (p := ⟨w.heap.size, 2, none⟩) (.slice none 0 0)).setCell (Nat.le_refl _) (p := ⟨w.heap.size, 3, none⟩) (.slice none 0 0))
      clear k0 hb13 hb1 hb2 hb3 hb4' hb5 hb35 hW0 m1 m2 m3 hbw
      go_wp2_with (fail)
      clear q0 q1 q2 q3 f0 f1 f2 f3
      generalize (((w5.setCell ⟨w.heap.size, 0, none⟩ (.string y.name)).setCell ⟨w.heap.size, 1, none⟩ (.int .u32 y.hash)).setCell ⟨w.heap.size, 2, none⟩ (.slice none 0 0)).setCell ⟨w.heap.size, 3, none⟩ (.slice none 0 0) = w6 at *
      have q0 := (cell_of_row _ _ 0 _ _ _ k4.out)
      have q1 := (cell_of_row _ _ 1 _ _ _ k4.out)
      have q2 := (cell_of_row _ _ 2 _ _ _ k4.out)
      have q3 := (cell_of_row _ _ 3 _ _ _ k4.out)
      simp at q0 q1 q2 q3
      refine bodyPost_ret (v := .tuple #[.agg #[.string y.name, .int .u32 y.hash, .slice none 0 0, .slice none 0 0], .bool true, .bool false]) (by simp [results, Try.results8, go_sem, q0, q1, q2, q3]) rfl ⟨by rw [Hg.out]; rfl, hb4.out⟩
    · have c3 := verifier_many _ l a x w2 hm y z r hg
      have Hg := Lib.hid hg
      clear hg hm
      go_wp2_with (fail)
      refine c3.mono ?_
      clear c3
      rintro e w3 ⟨rfl, hb3⟩
      have hb13 : Below (w.alloc (.cells #[.string ⟨#[]⟩, .int .u32 0, .slice none 0 0, .slice none 0 0] 30)).heap.size (w.alloc (.cells #[.string ⟨#[]⟩, .int .u32 0, .slice none 0 0, .slice none 0 0] 30)) w3 := hb1.trans ((hb2.mono hb1.size).trans (hb3.mono (Nat.le_trans hb1.size hb2.size)))
      have hbw : Below w.heap.size w w3 := hW0.trans (hb13.mono hW0.size)
      have k0 : w3.heap[w.heap.size]? = some (.cells #[.string ⟨#[]⟩, .int .u32 0, .slice none 0 0, .slice none 0 0] 30 (0, 0)) := (hb13.block _ (by simp)).trans (heap_alloc_new w _)
      have k4 := Lib.hid (set4 k0 (.string ⟨#[]⟩) (.int .u32 0) (.slice none 0 0) (.slice none 0 0))
      have q0 := (cell_of_row _ _ 0 _ _ _ k0)
      have q1 := (cell_of_row _ _ 1 _ _ _ k0)
      have q2 := (cell_of_row _ _ 2 _ _ _ k0)
      have q3 := (cell_of_row _ _ 3 _ _ _ k0)
      have f0 := frozen_of_row _ _ 0 _ _ k0
      have f1 := frozen_of_row _ _ 1 _ _ k0
      have f2 := frozen_of_row _ _ 2 _ _ k0
      have f3 := frozen_of_row _ _ 3 _ _ k0
      simp at q0 q1 q2 q3
      have hb4 := Lib.hid ((((hbw.setCell (Nat.le_refl _) (p := ⟨w.heap.size, 0, none⟩) (.string ⟨#[]⟩)).setCell (Nat.le_refl _) (p := ⟨w.heap.size, 1, none⟩) (.int .u32 0)).setCell (Nat.le_refl _) (p := ⟨w.heap.size, 2, none⟩) (.slice none 0 0)).setCell (Nat.le_refl _) (p := ⟨w.heap.size, 3, none⟩) (.slice none 0 0))
      clear k0 hb13 hb1 hb2 hb3 hW0 m1 m2 m3 hbw
      have a1 := asOther
      go_wp2
      clear q0 q1 q2 q3 f0 f1 f2 f3
      generalize (((w3.setCell ⟨w.heap.size, 0, none⟩ (.string ⟨#[]⟩)).setCell ⟨w.heap.size, 1, none⟩ (.int .u32 0)).setCell ⟨w.heap.size, 2, none⟩ (.slice none 0 0)).setCell ⟨w.heap.size, 3, none⟩ (.slice none 0 0) = w4 at *
      have q0 := (cell_of_row _ _ 0 _ _ _ k4.out)
      have q1 := (cell_of_row _ _ 1 _ _ _ k4.out)
      have q2 := (cell_of_row _ _ 2 _ _ _ k4.out)
      have q3 := (cell_of_row _ _ 3 _ _ _ k4.out)
      simp at q0 q1 q2 q3
      refine bodyPost_ret (v := .tuple #[.agg #[.string ⟨#[]⟩, .int .u32 0, .slice none 0 0, .slice none 0 0], .bool false, .bool false]) (by simp [results, Try.results8, go_sem, q0, q1, q2, q3]) rfl ⟨by rw [Hg.out]; rfl, hb4.out⟩

end Go.Proofs.Ytnnbhklkakhkkaa

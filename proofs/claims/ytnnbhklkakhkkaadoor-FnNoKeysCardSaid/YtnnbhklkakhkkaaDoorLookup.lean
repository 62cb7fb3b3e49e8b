/-
  The walk of verifierMap.Verifier (for the Door seat).
-/
import Derived.Test.YtnnbhklkakhkkaaDoorList
namespace Go.Proofs.YtnnbhklkakhkkaaDoor
open Go.RowKit

theorem VMap.look0 {w : World} {B : Nat} {l : List KV} (h : VMap w B l) {a : ByteArray} {x : Int} (hg : grp l a x = []) :
    (Instr.lookup 156 (.map (some B)) (.agg #[.string a, .int .u32 x]) true).run Tryd.prog w = .ok (.tuple #[.slice none 0 0, .bool false]) w := by
  obtain ⟨base, L, h⟩ := h
  have hp : place L a x = .none := by
    cases hp : place L a x with
    | none => rfl
    | some i =>
      obtain ⟨e, he, rfl, rfl⟩ := place_lt hp
      exact absurd hg (h.own e (List.mem_of_getElem? he)).2
  have := run_lookup_nh h.map Tryd.underlying156 run_zero_vs a x true
  rw [hp] at this
  exact this

theorem VMap.look1 {w : World} {B : Nat} {l : List KV} (h : VMap w B l) {a : ByteArray} {x : Int} {y : KV} {r : List KV} (hg : grp l a x = y :: r) :
    ∃ b cap, (Instr.lookup 156 (.map (some B)) (.agg #[.string a, .int .u32 x]) true).run Tryd.prog w = .ok (.tuple #[.slice (some ⟨b, 0, none⟩) (r.length + 1) cap, .bool true]) w ∧
      w.cell? ⟨b, 0, none⟩ = some y.iface := by
  obtain ⟨base, L, h⟩ := h
  have hm : y ∈ l ∧ y.name = a ∧ y.hash = x := by
    have : y ∈ grp l a x := by rw [hg]; simp
    unfold grp at this
    simpa using this
  obtain ⟨i, hp⟩ := h.all y hm.1
  rw [hm.2.1, hm.2.2] at hp
  obtain ⟨e, he, hn1, hn2⟩ := place_lt hp
  have ho := (h.own e (List.mem_of_getElem? he)).1
  rw [hn1, hn2, hg] at ho
  have hl := run_lookup_nh h.map Tryd.underlying156 run_zero_vs a x true
  rw [hp] at hl
  simp only [Option.bind_some, he] at hl
  rcases ho.2 with ⟨_, h0⟩ | ⟨g, cap, cur, hv, _, hh, _⟩
  · simp at h0
  · have hc := ho.cells (g := g) (by rw [hv]; rfl) 0 y.iface rfl
    rw [add_zero_block] at hc
    refine ⟨g, cap, ?_, hc⟩
    rw [hv] at hl
    exact hl

set_option maxHeartbeats 400000 in
set_option maxRecDepth 100000 in
theorem verifier_none (B : Nat) (l : List KV) (a : ByteArray) (x : Int) (w : World) (h : VMap w B l) (hg : grp l a x = []) :
    Calls Tryd.prog 124 #[.map (some B), .string a, .int .u32 x] w fun e w' => e = .returned (.tuple #[.nilIface, .iface 153 (.pointer (some ⟨w.heap.size, 0, none⟩))]) ∧ Below w.heap.size w w' := by
  have hl := h.look0 hg
  clear h hg
  go_enter Tryd.func124, Tryd.ntmps124
  go_wp2
  go_ret2
  exact ⟨rfl, (Below.refl _ _).alloc (Nat.le_refl _) _⟩

set_option maxHeartbeats 400000 in
set_option maxRecDepth 100000 in
theorem verifier_one (B : Nat) (l : List KV) (a : ByteArray) (x : Int) (w : World) (h : VMap w B l) (y : KV) (hg : grp l a x = [y]) :
    Calls Tryd.prog 124 #[.map (some B), .string a, .int .u32 x] w fun e w' => e = .returned (.tuple #[y.iface, .nilIface]) ∧ Below w.heap.size w w' := by
  obtain ⟨b, cap, hl, hc⟩ := h.look1 hg
  clear h hg
  dsimp only [KV.iface, KV.val] at hc ⊢
  go_enter Tryd.func124, Tryd.ntmps124
  go_wp2
  go_ret2
  exact ⟨rfl, Below.refl _ _⟩

set_option maxHeartbeats 1000000 in
set_option maxRecDepth 100000 in
theorem verifier_many (B : Nat) (l : List KV) (a : ByteArray) (x : Int) (w : World) (h : VMap w B l) (y z : KV) (r : List KV) (hg : grp l a x = y :: z :: r) :
    Calls Tryd.prog 124 #[.map (some B), .string a, .int .u32 x] w fun e w' => e = .returned (.tuple #[.nilIface, .iface 227 (.pointer (some ⟨w.heap.size, 0, none⟩))]) ∧ Below w.heap.size w w' := by
  obtain ⟨b, cap, hl, hc⟩ := h.look1 hg
  clear h hg hc
  simp only [List.length_cons] at hl
  go_enter Tryd.func124, Tryd.ntmps124
  go_wp2
  go_ret2
  exact ⟨rfl, (Below.refl _ _).alloc (Nat.le_refl _) _⟩

/-- verifierMap's method, called through the interface -/
theorem verifier_method (v : Value) (w : World) : (method 330 156 v "Verifier").run Tryd.prog w = .ok (124, v) w := by kernel_rfl


set_option maxRecDepth 100000 in
theorem asUnknown (v : Value) (w : World) : (Instr.typeAssert (.iface 153 v) 70 153 true).run Tryd.prog w = .ok (.tuple #[v, .bool true]) w := by kernel_rfl
theorem asOther (v : Value) (w : World) : (Instr.typeAssert (.iface 227 v) 70 153 true).run Tryd.prog w = .ok (.tuple #[.pointer none, .bool false]) w := by kernel_rfl

theorem vN (k : KV) (w : World) : Calls Tryd.prog 126 #[.agg #[.string k.name, .int .u32 k.hash, .slice k.ta k.tn k.tc, .slice k.sa k.sn k.sc]] w fun e w' => e = .returned (.string k.name) ∧ Below w.heap.size w w' := vName_any k w
theorem vH (k : KV) (w : World) : Calls Tryd.prog 125 #[.agg #[.string k.name, .int .u32 k.hash, .slice k.ta k.tn k.tc, .slice k.sa k.sn k.sc]] w fun e w' => e = .returned (.int .u32 k.hash) ∧ Below w.heap.size w w' := vHash_any k w

end Go.Proofs.YtnnbhklkakhkkaaDoor

/-
  KEYS THAT SIGN, as data: the walks of laws.zzFits8, of the methods of impl.maker, errors.New, bePutUint32, strings.HasSuffix (at a new line), impl.out.
-/
import Derived.Test.YtnnbhklkakhkkaaDoorAsm
import Derived.Lib.ConvBytes
import Derived.Deep.DeepCutAuto
namespace Go.Proofs.YtnnbhklkakhkkaaDoor
open Go.RowKit Go.Lib

/-- a key that signs, as it lies in a cell row -/
structure MV where
  name : ByteArray
  hash : Int
  sig : ByteArray
  fails : Bool
def MV.cells (m : MV) : List Value := [.string m.name, .int .u32 m.hash, .string m.sig, .bool m.fails]
theorem MV.cells_length (m : MV) : m.cells.length = 4 := rfl
def MV.val (m : MV) : Value := .agg #[.string m.name, .int .u32 m.hash, .string m.sig, .bool m.fails]
/-- the interface value that impl.Sign makes of it -/
def MV.iface (m : MV) : Value := .iface 67 m.val
/-- its numbers are numbers -/
structure MV.Ok (m : MV) : Prop where
  name : m.name.size ≤ 9223372036854775807
  sig : m.sig.size ≤ 9223372036854775807
  lo : 0 ≤ m.hash
  hi : m.hash < 4294967296

def fits8 (m : MV) : Bool := decide (m.name.size ≤ 2147483647) && decide (m.sig.size ≤ 2147483647)

set_option maxHeartbeats 400000 in
theorem zzFits8_any (m : MV) (w : World) (ok : m.Ok) : Calls Tryd.prog 12 #[m.val] w fun e w' => e = .returned (.bool (fits8 m)) ∧ Below w.heap.size w w' := by
  obtain ⟨nm, hs, sg, fl⟩ := m
  have h1 := ok.name
  have h2 := ok.sig
  clear ok
  dsimp only [MV.val] at *
  by_cases hbig : 2147483647 < nm.size
  · go_enter Tryd.func12, Tryd.ntmps12
    go_wp2
    go_ret
    exact ⟨ret_bool (by unfold fits8; rw [decide_eq_false (by simp; omega), Bool.false_and]), (Below.refl _ _).alloc (Nat.le_refl _) _⟩
  · by_cases hbig2 : 2147483647 < sg.size
    · go_enter Tryd.func12, Tryd.ntmps12
      go_wp2
      go_ret
      exact ⟨ret_bool (by unfold fits8; rw [Bool.and_comm, decide_eq_false (by simp; omega), Bool.false_and]), (Below.refl _ _).alloc (Nat.le_refl _) _⟩
    · go_enter Tryd.func12, Tryd.ntmps12
      go_wp2
      go_ret
      exact ⟨ret_bool (by unfold fits8; simp; omega), (Below.refl _ _).alloc (Nat.le_refl _) _⟩

set_option maxHeartbeats 400000 in
theorem mName_any (m : MV) (w : World) : Calls Tryd.prog 118 #[.agg #[.string m.name, .int .u32 m.hash, .string m.sig, .bool m.fails]] w fun e w' => e = .returned (.string m.name) ∧ Below w.heap.size w w' := by
  obtain ⟨nm, hs, sg, fl⟩ := m
  go_enter Tryd.func118, Tryd.ntmps118
  go_wp2
  go_ret
  exact ⟨rfl, (Below.refl _ _).alloc (Nat.le_refl _) _⟩

set_option maxHeartbeats 400000 in
theorem mHash_any (m : MV) (w : World) : Calls Tryd.prog 117 #[.agg #[.string m.name, .int .u32 m.hash, .string m.sig, .bool m.fails]] w fun e w' => e = .returned (.int .u32 m.hash) ∧ Below w.heap.size w w' := by
  obtain ⟨nm, hs, sg, fl⟩ := m
  go_enter Tryd.func117, Tryd.ntmps117
  go_wp2
  go_ret
  exact ⟨rfl, (Below.refl _ _).alloc (Nat.le_refl _) _⟩

theorem errNew_any (s : ByteArray) (w : World) : Calls Tryd.prog 120 #[.string s] w fun e w' => e = .returned (.iface 207 (.pointer (some ⟨w.heap.size, 0, none⟩))) ∧ Below w.heap.size w w' := by
  go_enter Tryd.func120, Tryd.ntmps120
  go_wp2
  go_ret
  exact ⟨rfl, (Below.refl _ _).alloc (Nat.le_refl _) _⟩

set_option maxHeartbeats 400000 in
theorem mSign_fails (nm sg : ByteArray) (hs : Int) (A : Value) (w : World) :
    Calls Tryd.prog 119 #[.agg #[.string nm, .int .u32 hs, .string sg, .bool true], A] w fun e w' => ∃ p, e = .returned (.tuple #[.slice none 0 0, .iface 207 (.pointer p)]) ∧ Below w.heap.size w w' := by
  have c1 := errNew_any ⟨#[102, 97, 105, 108, 115]⟩ (w.alloc (.cells #[.string nm, .int .u32 hs, .string sg, .bool true] 67))
  have hb0 : Below w.heap.size w (w.alloc (.cells #[.string nm, .int .u32 hs, .string sg, .bool true] 67)) := (Below.refl _ _).alloc (Nat.le_refl _) _
  go_enter Tryd.func119, Tryd.ntmps119
  go_wp2_with (fail)
  refine c1.mono ?_
  clear c1
  rintro e w1 ⟨rfl, hb1⟩
  go_wp2_with (fail)
  go_ret2
  exact ⟨_, rfl, hb0.trans (hb1.mono hb0.size)⟩

set_option maxHeartbeats 400000 in
theorem mSign_ok (nm sg : ByteArray) (hs : Int) (A : Value) (w : World) :
    Calls Tryd.prog 119 #[.agg #[.string nm, .int .u32 hs, .string sg, .bool false], A] w fun e w' =>
      ∃ c, e = .returned (.tuple #[.slice (some ⟨w.heap.size + 1, 0, none⟩) sg.size c, .nilIface]) ∧ sg.size ≤ c ∧ Sl w' w'.heap.size 1 (some ⟨w.heap.size + 1, 0, none⟩) sg.size (byteCells sg.data.toList) ∧ Below w.heap.size w w' := by
  have hb0 : Below w.heap.size w (w.alloc (.cells #[.string nm, .int .u32 hs, .string sg, .bool false] 67)) := (Below.refl _ _).alloc (Nat.le_refl _) _
  have hcv := Lib.run_convert_string_bytes (P := Tryd.prog) (w.alloc (.cells #[.string nm, .int .u32 hs, .string sg, .bool false] 67)) 9 68 5 sg Tryd.underlying9 Tryd.underlying68 Tryd.underlying5
  have hcap : sg.size ≤ _ := grownCap_ge (w.alloc (.cells #[.string nm, .int .u32 hs, .string sg, .bool false] 67)) sg.size 0 5
  have hrow : RowAt (Lib.bytesWorld (w.alloc (.cells #[.string nm, .int .u32 hs, .string sg, .bool false] 67)) 5 sg) (w.alloc (.cells #[.string nm, .int .u32 hs, .string sg, .bool false] 67)).heap.size 0 (byteCells sg.data.toList) := by
    intro j u hu
    have hj : j < sg.size := by have := (List.getElem?_eq_some_iff.1 hu).1; rw [byteCells_length] at this; simpa using this
    rw [Nat.zero_add, Lib.bytesWorld_cell _ _ _ _ hj, ← hu]
    unfold byteCells
    rw [List.getElem?_map, List.getD_eq_getElem?_getD, List.getElem?_eq_getElem (by simpa using hj), Option.getD_some]
    rfl
  have hbw : Below (w.alloc (.cells #[.string nm, .int .u32 hs, .string sg, .bool false] 67)).heap.size (w.alloc (.cells #[.string nm, .int .u32 hs, .string sg, .bool false] 67)) (Lib.bytesWorld (w.alloc (.cells #[.string nm, .int .u32 hs, .string sg, .bool false] 67)) 5 sg) :=
    ⟨rfl, rfl, rfl, by rw [Lib.bytesWorld_size]; omega, fun k hk => Lib.bytesWorld_at_old _ _ _ _ hk⟩
  have hsz := Lib.bytesWorld_size (w.alloc (.cells #[.string nm, .int .u32 hs, .string sg, .bool false] 67)) 5 sg
  generalize Lib.bytesWorld (w.alloc (.cells #[.string nm, .int .u32 hs, .string sg, .bool false] 67)) 5 sg = w2 at *
  generalize grownCap (w.alloc (.cells #[.string nm, .int .u32 hs, .string sg, .bool false] 67)) sg.size 0 5 = cp at *
  have hws : (w.alloc (.cells #[.string nm, .int .u32 hs, .string sg, .bool false] 67)).heap.size = w.heap.size + 1 := by simp
  have hb2 := hb0.trans (hbw.mono hb0.size)
  rw [hws] at hcv hrow hsz
  have hsl : Sl w2 w2.heap.size 1 (some ⟨w.heap.size + 1, 0, none⟩) sg.size (byteCells sg.data.toList) := ⟨by rw [byteCells_length]; simp, fun _ => ⟨_, 0, rfl, by omega, hrow⟩⟩
  have Hsl := Lib.hid hsl
  clear hsl hrow hsz hws hbw hb0
  go_enter Tryd.func119, Tryd.ntmps119
  go_wp2_with (fail)
  go_ret2
  exact ⟨_, rfl, hcap, Hsl.out, hb2⟩

theorem mName_method (v : Value) (w : World) : (method 330 67 v "Name").run Tryd.prog w = .ok (118, v) w := by kernel_rfl
theorem mHash_method (v : Value) (w : World) : (method 330 67 v "KeyHash").run Tryd.prog w = .ok (117, v) w := by kernel_rfl
theorem mSign_method (v : Value) (w : World) : (method 330 67 v "Sign").run Tryd.prog w = .ok (119, v) w := by kernel_rfl

/-- the four bytes of a hash -/
def hash4 (h : Nat) : List UInt8 := [UInt8.ofNat (h / 16777216), UInt8.ofNat (h / 65536), UInt8.ofNat (h / 256), UInt8.ofNat h]
theorem hash4_cells {h : Nat} (hh : h < 4294967296) : byteCells (hash4 h) = [.int .u8 ((h : Int) / 16777216), .int .u8 ((h : Int) / 65536 % 256), .int .u8 ((h : Int) / 256 % 256), .int .u8 ((h : Int) % 256)] := by
  unfold hash4 byteCells
  simp only [List.map_cons, List.map_nil, UInt8.toNat_ofNat']
  have e0 : ((h / 16777216 % 2 ^ 8 : Nat) : Int) = (h : Int) / 16777216 := by omega
  have e1 : ((h / 65536 % 2 ^ 8 : Nat) : Int) = (h : Int) / 65536 % 256 := by omega
  have e2 : ((h / 256 % 2 ^ 8 : Nat) : Int) = (h : Int) / 256 % 256 := by omega
  have e3 : ((h % 2 ^ 8 : Nat) : Int) = (h : Int) % 256 := by omega
  rw [e0, e1, e2, e3]

set_option maxHeartbeats 2000000 in
theorem bePut_any (d h : Nat) (a0 a1 a2 a3 : Value) (t : TypeId) (w : World) (hR : w.heap[d]? = some (.cells #[a0, a1, a2, a3] t (0, 0))) (hh : h < 4294967296) :
    Calls Tryd.prog 54 #[.slice (some ⟨d, 0, none⟩) 4 4, .int .u32 h] w fun e w' => e = .returned (.tuple #[]) ∧ Below d w w' ∧ w'.heap.size = w.heap.size ∧ w'.heap[d]? = some (.cells (byteCells (hash4 h)).toArray t (0, 0)) := by
  have k0 := (cell_of_row _ _ 0 _ _ _ hR)
  have k1 := (cell_of_row _ _ 1 _ _ _ hR)
  have k2 := (cell_of_row _ _ 2 _ _ _ hR)
  have k3 := (cell_of_row _ _ 3 _ _ _ hR)
  have z0 := frozen_of_row _ _ 0 _ _ hR
  have z1 := frozen_of_row _ _ 1 _ _ hR
  have z2 := frozen_of_row _ _ 2 _ _ hR
  have z3 := frozen_of_row _ _ 3 _ _ hR
  simp at k0 k1 k2 k3
  have HR := Lib.hid hR
  clear hR
  go_enter Tryd.func54, Tryd.ntmps54
  go_wp2_with (fail)
  go_end0
  have h0 := heap_setCell_same _ d 0 _ _ (.int .u8 ((h : Int) / 16777216)) HR.out
  have h1 := heap_setCell_same _ d 1 _ _ (.int .u8 ((h : Int) / 65536 % 256)) h0
  have h2 := heap_setCell_same _ d 2 _ _ (.int .u8 ((h : Int) / 256 % 256)) h1
  have h3 := heap_setCell_same _ d 3 _ _ (.int .u8 ((h : Int) % 256)) h2
  have e : byteCells (hash4 h) = _ := hash4_cells hh
  generalize (h : Int) / 16777216 = q0 at *
  generalize (h : Int) / 65536 % 256 = q1 at *
  generalize (h : Int) / 256 % 256 = q2 at *
  generalize (h : Int) % 256 = q3 at *
  have hb : Below d w ((((w.setCell ⟨d, 0, none⟩ (.int .u8 q0)).setCell ⟨d, 1, none⟩ (.int .u8 q1)).setCell ⟨d, 2, none⟩ (.int .u8 q2)).setCell ⟨d, 3, none⟩ (.int .u8 q3)) :=
    ((((Below.refl d w).setCell (p := ⟨d, 0, none⟩) (Nat.le_refl _) _).setCell (p := ⟨d, 1, none⟩) (Nat.le_refl _) _).setCell (p := ⟨d, 2, none⟩) (Nat.le_refl _) _).setCell (p := ⟨d, 3, none⟩) (Nat.le_refl _) _
  refine ⟨rfl, hb, ?_, ?_⟩
  · simp only [World.setCell, Array.size_modify]
  · rw [h3, e]
    rfl


end Go.Proofs.YtnnbhklkakhkkaaDoor

/-
  base64, READING: the walk of decodeQuantum.
-/
import Derived.Test.YtnnbhklkakhkkaaDoorAsm
import Derived.Deep.DeepCutAuto
import Derived.Deep.CutBlock
import Derived.Deep.LoopGhost
namespace Go.Proofs.YtnnbhklkakhkkaaDoor
open Go.RowKit Go.Lib

theorem decRange {w : World} {g : Nat} (hE : w.heap[g]? = some (.cells (encRow (decMap 64)).toArray 181 (0, 0))) : w.rangeAt g 64 (byteCells (decMap 64)) := by
  intro j v hv
  rw [cell_of_row w _ _ _ _ _ hE]
  unfold byteCells at hv
  rw [List.getElem?_map] at hv
  cases hx : (decMap 64)[j]? with
  | none => rw [hx] at hv; cases hv
  | some x =>
    rw [hx] at hv
    simp at hv
    subst hv
    simpa using encRow_dec hx
theorem decCell {w : World} {g : Nat} (hE : w.heap[g]? = some (.cells (encRow (decMap 64)).toArray 181 (0, 0))) (c : UInt8) : w.cell? ⟨g, 64 + c.toNat, none⟩ = some (.int .u8 (figN c : Int)) := by
  have hl : c.toNat < (decMap 64).length := by rw [decMap_length]; exact c.toNat_lt
  have h := decRange hE c.toNat (.int .u8 ((decMap 64)[c.toNat].toNat : Int)) (by unfold byteCells; rw [List.getElem?_map, List.getElem?_eq_getElem hl]; rfl)
  rw [h]
  unfold figN
  rw [List.getD_eq_getElem?_getD, List.getElem?_eq_getElem hl, Option.getD_some]
theorem encStrict {w : World} {g : Nat} (hE : w.heap[g]? = some (.cells (encRow (decMap 64)).toArray 181 (0, 0))) : w.cell? ⟨g, 321, none⟩ = some (.bool false) := by
  rw [cell_of_row w _ _ _ _ _ hE]
  simpa using encRow_strict (decMap_length 64)

/-- the row of figures read so far -/
def figRow (l : List UInt8) (j : Nat) : List Value := (l.take j).map (fun c => Value.int .u8 (figN c : Int)) ++ List.replicate (4 - j) (.int .u8 0)

theorem figRow_length {l : List UInt8} {j : Nat} (hj : j ≤ l.length) (h4 : j ≤ 4) : (figRow l j).length = 4 := by
  unfold figRow
  rw [List.length_append, List.length_map, List.length_take, List.length_replicate]
  omega
theorem figRow_next {l : List UInt8} {j : Nat} {c : UInt8} (hc : l[j]? = some c) (h4 : j < 4) : (figRow l j).set j (.int .u8 (figN c : Int)) = figRow l (j + 1) := by
  have hj := (List.getElem?_eq_some_iff.1 hc).1
  unfold figRow
  rw [List.take_add_one, hc, List.set_append_right _ _ (by rw [List.length_map, List.length_take]; omega), List.length_map, List.length_take, show j - min j l.length = 0 by omega,
    show 4 - j = (4 - (j + 1)) + 1 by omega, List.replicate_succ, List.set_cons_zero]
  simp

theorem q_short {l : List UInt8} (h : l.length < 4) : quant l = none := by
  rcases l with _ | ⟨a, _ | ⟨b, _ | ⟨c, _ | ⟨d, t⟩⟩⟩⟩
  · rfl
  · rfl
  · rfl
  · rfl
  · simp at h; omega
theorem q_cons (a b c d : UInt8) (t : List UInt8) : quant (a :: b :: c :: d :: t) = if t = [] then quadLast a b c d else quad a b c d := rfl
theorem q_bad {l : List UInt8} {j : Nat} {x : UInt8} (hx : l[j]? = some x) (hj : j < 4) (hf : ¬figN x < 64) (h : x ≠ 61 ∨ j < 2) : quant l = none := by
  rcases l with _ | ⟨a, _ | ⟨b, _ | ⟨c, _ | ⟨d, t⟩⟩⟩⟩
  · rfl
  · rfl
  · rfl
  · rfl
  · rw [q_cons]
    have h61 : ¬figN 61 < 64 := by rw [figN_pad]; omega
    have key : quadLast a b c d = none ∧ quad a b c d = none := by
      unfold quadLast quad
      match j, hj with
      | 0, _ =>
        obtain rfl : a = x := by simpa using hx
        simp [hf]
      | 1, _ =>
        obtain rfl : b = x := by simpa using hx
        simp [hf]
      | 2, _ =>
        obtain rfl : c = x := by simpa using hx
        have hc : c ≠ 61 := by rcases h with h | h; exact h; omega
        simp [hf, hc]
      | 3, _ =>
        obtain rfl : d = x := by simpa using hx
        have hd : d ≠ 61 := by rcases h with h | h; exact h; omega
        simp [hf, hd]
    split
    · exact key.1
    · exact key.2
theorem q_pad2_no {l : List UInt8} {x : UInt8} (h2 : l[2]? = some 61) (h3 : l[3]? = some x) (hx : x ≠ 61) : quant l = none := by
  rcases l with _ | ⟨a, _ | ⟨b, _ | ⟨c, _ | ⟨d, t⟩⟩⟩⟩
  · rfl
  · rfl
  · rfl
  · rfl
  · obtain rfl : c = 61 := by simpa using h2
    obtain rfl : d = x := by simpa using h3
    rw [q_cons]
    unfold quadLast quad
    simp [figN_pad, hx]
theorem q_pad_more {l : List UInt8} (h3 : l[3]? = some 61) (h : 4 < l.length) : quant l = none := by
  rcases l with _ | ⟨a, _ | ⟨b, _ | ⟨c, _ | ⟨d, t⟩⟩⟩⟩
  · rfl
  · rfl
  · rfl
  · rfl
  · obtain rfl : d = 61 := by simpa using h3
    have ht : t ≠ [] := by rintro rfl; simp at h
    rw [q_cons, if_neg ht]
    unfold quad
    simp [figN_pad]
theorem q_pad2_ok {l : List UInt8} {a b : UInt8} (h0 : l[0]? = some a) (h1 : l[1]? = some b) (h2 : l[2]? = some 61) (h3 : l[3]? = some 61) (h : l.length = 4) (ha : figN a < 64) (hb : figN b < 64) :
    quant l = some ((three (val4 (figN a) (figN b) 0 0)).take 1) := by
  rcases l with _ | ⟨a', _ | ⟨b', _ | ⟨c, _ | ⟨d, t⟩⟩⟩⟩
  · simp at h
  · simp at h
  · simp at h
  · simp at h
  · obtain rfl : a' = a := by simpa using h0
    obtain rfl : b' = b := by simpa using h1
    obtain rfl : c = 61 := by simpa using h2
    obtain rfl : d = 61 := by simpa using h3
    obtain rfl : t = [] := List.eq_nil_of_length_eq_zero (by simpa using h)
    rw [q_cons, if_pos rfl]
    unfold quadLast
    rw [if_pos rfl, if_pos rfl, if_pos ⟨ha, hb⟩]
theorem q_pad3_ok {l : List UInt8} {a b c : UInt8} (h0 : l[0]? = some a) (h1 : l[1]? = some b) (h2 : l[2]? = some c) (h3 : l[3]? = some 61) (h : l.length = 4) (ha : figN a < 64) (hb : figN b < 64) (hc : figN c < 64) :
    quant l = some ((three (val4 (figN a) (figN b) (figN c) 0)).take 2) := by
  rcases l with _ | ⟨a', _ | ⟨b', _ | ⟨c', _ | ⟨d, t⟩⟩⟩⟩
  · simp at h
  · simp at h
  · simp at h
  · simp at h
  · obtain rfl : a' = a := by simpa using h0
    obtain rfl : b' = b := by simpa using h1
    obtain rfl : c' = c := by simpa using h2
    obtain rfl : d = 61 := by simpa using h3
    obtain rfl : t = [] := List.eq_nil_of_length_eq_zero (by simpa using h)
    have hc61 : c' ≠ 61 := by rintro rfl; rw [figN_pad] at hc; omega
    rw [q_cons, if_pos rfl]
    unfold quadLast
    rw [if_pos rfl, if_neg hc61, if_pos ⟨ha, hb, hc⟩]
theorem q_all {l : List UInt8} {a b c d : UInt8} (h0 : l[0]? = some a) (h1 : l[1]? = some b) (h2 : l[2]? = some c) (h3 : l[3]? = some d) (ha : figN a < 64) (hb : figN b < 64) (hc : figN c < 64) (hd : figN d < 64) :
    quant l = some (three (val4 (figN a) (figN b) (figN c) (figN d))) := by
  rcases l with _ | ⟨a', _ | ⟨b', _ | ⟨c', _ | ⟨d', t⟩⟩⟩⟩
  · simp at h0
  · simp at h1
  · simp at h2
  · simp at h3
  · obtain rfl : a' = a := by simpa using h0
    obtain rfl : b' = b := by simpa using h1
    obtain rfl : c' = c := by simpa using h2
    obtain rfl : d' = d := by simpa using h3
    exact quant_quad (by unfold quad; rw [if_pos ⟨ha, hb, hc, hd⟩])

theorem figRow_at {l : List UInt8} (h : 4 ≤ l.length) : ∃ a b c d, l[0]? = some a ∧ l[1]? = some b ∧ l[2]? = some c ∧ l[3]? = some d ∧
    figRow l 4 = [.int .u8 (figN a : Int), .int .u8 (figN b : Int), .int .u8 (figN c : Int), .int .u8 (figN d : Int)] ∧ figRow l 3 = [.int .u8 (figN a : Int), .int .u8 (figN b : Int), .int .u8 (figN c : Int), .int .u8 ((0 : Nat) : Int)] ∧
    figRow l 2 = [.int .u8 (figN a : Int), .int .u8 (figN b : Int), .int .u8 ((0 : Nat) : Int), .int .u8 ((0 : Nat) : Int)] := by
  rcases l with _ | ⟨a, _ | ⟨b, _ | ⟨c, _ | ⟨d, t⟩⟩⟩⟩
  · simp at h
  · simp at h
  · simp at h
  · simp at h
  · exact ⟨a, b, c, d, rfl, rfl, rfl, rfl, rfl, rfl, rfl⟩

theorem next_char {w wr : World} {b o p : Nat} {src : List UInt8} {y : UInt8} (hs : RowAt w b o (byteCells src)) (hk : wr.cell? ⟨b, o + p, none⟩ = w.cell? ⟨b, o + p, none⟩) (hy : src[p]? = some y) (hnl : ∀ x ∈ src, x ≠ 10 ∧ x ≠ 13) :
    wr.cell? ⟨b, o + p, none⟩ = some (.int .u8 (y.toNat : Int)) ∧ ((y.toNat : Int) == 10) = false ∧ ((y.toNat : Int) == 13) = false ∧ (y.toNat : Int) < 256 := by
  have h := hnl y (List.mem_of_getElem? hy)
  have h256 := y.toNat_lt
  refine ⟨?_, ?_, ?_, by omega⟩
  · rw [hk]
    exact hs p _ (by unfold byteCells; rw [List.getElem?_map, hy]; rfl)
  · rw [beq_eq_false_iff_ne]; intro e; exact h.1 (UInt8.toNat_inj.1 (by simpa using Int.ofNat.inj e))
  · rw [beq_eq_false_iff_ne]; intro e; exact h.2 (UInt8.toNat_inj.1 (by simpa using Int.ofNat.inj e))
theorem grown_drewN {w w' : World} {row : Option Nat} (h : w.grownBy w' row) (n : Nat) : w.grownBy (w'.drewN n) row := ⟨h.os, h.tape, h.output, h.size, h.block⟩

theorem three_cells {V : Nat} (h : V < 16777216) : byteCells (three V) = [.int .u8 ((V : Int) / 65536), .int .u8 ((V : Int) / 256 % 256), .int .u8 ((V : Int) % 256)] := by
  unfold three byteCells
  simp only [List.map_cons, List.map_nil, UInt8.toNat_ofNat']
  have e1 : ((V / 65536 % 2 ^ 8 : Nat) : Int) = (V : Int) / 65536 := by omega
  have e2 : ((V / 256 % 2 ^ 8 : Nat) : Int) = (V : Int) / 256 % 256 := by omega
  have e3 : ((V % 2 ^ 8 : Nat) : Int) = (V : Int) % 256 := by omega
  rw [e1, e2, e3]
theorem grown_far {w w' : World} {d : Nat} {p : Addr} (h : w.grownBy w' (some d)) (hp : w.heap.size ≤ p.block) (u : Value) : w.grownBy (w'.setCell p u) (some d) :=
  ⟨h.os, h.tape, h.output, by simpa [World.setCell] using h.size, fun k hk hr => (Below.heap_setCell _ _ _ _ (by omega)).trans (h.block k hk hr)⟩
theorem heap_far {w : World} {d : Nat} {p : Addr} {o : Obj} (h : w.heap[d]? = some o) (hp : d ≠ p.block) (u : Value) : (w.setCell p u).heap[d]? = some o := (Below.heap_setCell _ _ _ _ hp).trans h
theorem take_one {R : Array Value} {k : Nat} {xs : List Value} (hx : R.toList.take k = xs) (hk : k < R.size) (a : Value) : (R.setIfInBounds k a).toList.take (k + 1) = xs ++ [a] := by
  rw [Array.toList_setIfInBounds, List.take_add_one, List.take_set_of_le (Nat.le_refl _), hx, List.getElem?_set_self (by simpa using hk)]
  rfl
theorem take_two {R : Array Value} {k : Nat} {xs : List Value} (hx : R.toList.take k = xs) (hk : k + 1 < R.size) (a b : Value) : ((R.setIfInBounds (k + 1) b).setIfInBounds k a).toList.take (k + 2) = xs ++ [a, b] := by
  have h1 := take_one (R := R.setIfInBounds (k + 1) b) (k := k) (xs := xs) (by rw [Array.toList_setIfInBounds, List.take_set_of_le (by omega), hx]) (by rw [Array.size_setIfInBounds]; omega) a
  rw [show k + 2 = k + 1 + 1 by omega, List.take_add_one, h1, Array.toList_setIfInBounds, List.getElem?_set_ne (by omega), Array.toList_setIfInBounds, List.getElem?_set_self (by simpa using hk)]
  simp
theorem take_three {R : Array Value} {k : Nat} {xs : List Value} (hx : R.toList.take k = xs) (hk : k + 2 < R.size) (a b c : Value) :
    (((R.setIfInBounds (k + 2) c).setIfInBounds (k + 1) b).setIfInBounds k a).toList.take (k + 3) = xs ++ [a, b, c] := by
  have h1 := take_two (R := R.setIfInBounds (k + 2) c) (k := k) (xs := xs) (by rw [Array.toList_setIfInBounds, List.take_set_of_le (by omega), hx]) (by rw [Array.size_setIfInBounds]; omega) a b
  rw [show k + 3 = k + 2 + 1 by omega, List.take_add_one, h1, Array.toList_setIfInBounds, List.getElem?_set_ne (by omega), Array.toList_setIfInBounds, List.getElem?_set_ne (by omega), Array.toList_setIfInBounds, List.getElem?_set_self (by simpa using hk)]
  simp

/-- what the loop over four bytes leaves: how many figures, where the text stands, the error, the row of figures -/
def QMid (w : World) (B0 n si : Nat) (l : List UInt8) (v3 v10 v12 : Value) (wc : World) : Prop :=
  ∃ (dl : Nat) (p : Int) (f0 f1 f2 f3 : Nat), (dl = 2 ∨ dl = 3 ∨ dl = 4) ∧ v3 = .int .i64 p ∧ v12 = .int .i64 (dl : Int) ∧ wc.heap[B0]? = some (.cells #[.int .u8 (f0 : Int), .int .u8 (f1 : Int), .int .u8 (f2 : Int), .int .u8 (f3 : Int)] 128 (0, 0)) ∧ Below B0 w wc ∧
    (f0 < 64 ∧ f1 < 64 ∧ f2 < 64 ∧ f3 < 64) ∧ 3 ≤ n ∧ (0 ≤ p ∧ p ≤ 2147483647) ∧
    ((v10 = .nilIface ∧ p = ((si + 4 : Nat) : Int) ∧ quant l = some ((three (val4 f0 f1 f2 f3)).take (dl - 1))) ∨ (∃ x, v10 = .iface 204 x ∧ quant l = none))

/-- what decodeQuantum leaves -/
def QPost (w : World) (d k n si : Nat) (xs : List Value) (size : Nat) (l : List UInt8) (e : Ending) (w' : World) : Prop :=
  match quant l with
  | some x => e = .returned (.tuple #[.int .i64 ((si + 4 : Nat) : Int), .int .i64 (x.length : Int), .nilIface]) ∧ w.grownBy w' (some d) ∧
      ∃ R' : Array Value, w'.heap[d]? = some (.cells R' 5 (0, 0)) ∧ R'.size = size ∧ R'.toList.take (k + x.length) = xs ++ byteCells x
  | none => ∃ (si' n' : Int) (ev : Value), e = .returned (.tuple #[.int .i64 si', .int .i64 n', .iface 204 ev]) ∧ 0 ≤ n' ∧ n' ≤ (n : Int) ∧ w.grownBy w' (some d) ∧
      ∃ R' : Array Value, w'.heap[d]? = some (.cells R' 5 (0, 0)) ∧ R'.size = size

theorem qpost_none {w w' : World} {d k n si size : Nat} {xs : List Value} {l : List UInt8} {e : Ending} (h : quant l = none) (si' n' : Int) (ev : Value)
    (he : e = .returned (.tuple #[.int .i64 si', .int .i64 n', .iface 204 ev])) (h0 : 0 ≤ n') (h1 : n' ≤ (n : Int)) (hg : w.grownBy w' (some d)) {R' : Array Value}
    (hr : w'.heap[d]? = some (.cells R' 5 (0, 0))) (hs : R'.size = size) : QPost w d k n si xs size l e w' := by
  unfold QPost
  rw [h]
  exact ⟨si', n', ev, he, h0, h1, hg, R', hr, hs⟩
theorem qpost_some {w w' : World} {d k n si size : Nat} {xs : List Value} {l x : List UInt8} {e : Ending} (h : quant l = some x)
    (he : e = .returned (.tuple #[.int .i64 ((si + 4 : Nat) : Int), .int .i64 (x.length : Int), .nilIface])) (hg : w.grownBy w' (some d)) {R' : Array Value}
    (hr : w'.heap[d]? = some (.cells R' 5 (0, 0))) (hs : R'.size = size) (ht : R'.toList.take (k + x.length) = xs ++ byteCells x) : QPost w d k n si xs size l e w' := by
  unfold QPost
  rw [h]
  exact ⟨he, hg, R', hr, hs, ht⟩

theorem below_grown {B : Nat} {w w' : World} {row : Option Nat} (h : Below B w w') (hB : w.heap.size ≤ B) : w.grownBy w' row :=
  ⟨h.os, h.tape, h.output, h.size, fun k hk _ => h.block k (Nat.lt_of_lt_of_le hk hB)⟩

set_option maxHeartbeats 4000000 in
set_option maxRecDepth 100000 in
theorem quantum_any (g d k n c b o m c2 si : Nat) (Ad : Option Addr) (src : List UInt8) (xs : List Value) (w : World) (R : Array Value)
    (hE : w.heap[g]? = some (.cells (encRow (decMap 64)).toArray 181 (0, 0))) (hR : w.heap[d]? = some (.cells R 5 (0, 0))) (hx : R.toList.take k = xs) (hn : k + n ≤ R.size)
    (hA : 0 < n → Ad = some ⟨d, k, none⟩) (hs : RowAt w b o (byteCells src)) (hb : b < w.heap.size) (hl : src.length = m) (hnl : ∀ x ∈ src, x ≠ 10 ∧ x ≠ 13) (hgd : g ≠ d) (hsi : si < m) (hm : m ≤ 2147483647)
    (h3 : 4 ≤ m - si → 3 ≤ n) :
    Calls Tryd.prog 95 #[.pointer (some ⟨g, 0, none⟩), .slice Ad n c, .slice (some ⟨b, o, none⟩) m c2, .int .i64 si] w (QPost w d k n si xs R.size (src.drop si)) := by
  obtain ⟨l, hld⟩ : ∃ l, l = src.drop si := ⟨_, rfl⟩
  rw [← hld]
  have hll : l.length = m - si := by rw [hld, List.length_drop, hl]
  have hlx : ∀ j, l[j]? = src[si + j]? := fun j => by rw [hld, List.getElem?_drop]
  have Hll := Lib.hid hll
  have Hlx := Lib.hid hlx
  clear hld hll hlx
  have HE := Lib.hid hE
  have HR := Lib.hid hR
  have Hx := Lib.hid hx
  have HA := Lib.hid hA
  have Hs := Lib.hid hs
  have Hl := Lib.hid hl
  have Hnl := Lib.hid hnl
  have H3 := Lib.hid h3
  clear hE hR hx hA hs hl hnl h3
  go_enter Tryd.func95, Tryd.ntmps95
  go_upto_region 3 with (fail)
  have hb0 : Below w.heap.size w (w.alloc (.cells #[.int .u8 0, .int .u8 0, .int .u8 0, .int .u8 0] 128)) := (Below.refl _ _).alloc (Nat.le_refl _) _
  have hD0 := heap_alloc_new w (.cells #[.int .u8 0, .int .u8 0, .int .u8 0, .int .u8 0] 128)
  have hgl : g < w.heap.size := (Array.getElem?_eq_some_iff.1 HE.out).1
  have hdl0 : d < w.heap.size := (Array.getElem?_eq_some_iff.1 HR.out).1
  have hE0 := (hb0.block g hgl).trans HE.out
  generalize w.alloc (.cells #[.int .u8 0, .int .u8 0, .int .u8 0, .int .u8 0] 128) = W0 at *
  have hrange := decRange hE0
  have HE0 := Lib.hid hE0
  have HD0 := Lib.hid hD0
  have Hb0 := Lib.hid hb0
  clear hE0 hD0 hb0
  refine wp_region_lit ?_
  refine wpList_plain rfl (fun K hK => ?_)
  go_simp
  refine hK _ _ ?_
  clear hK K
  refine wpList_plain rfl (fun K hK => ?_)
  go_simp
  refine hK _ _ ?_
  clear hK K
  refine wpList_plain rfl (fun K hK => ?_)
  go_simp
  refine hK _ _ ?_
  clear hK K
  refine wpList_load_mid rfl _ _ rfl g 64 rfl (byteCells (decMap 64)) _ hrange Tryd.underlying170 rfl (by kernel_rfl) ?_
  refine wpList_nil ?_
  generalize Value.agg _ = v20
  simp only [Act.put, List.setIfInBounds_toArray, List.set_cons_zero, List.set_cons_succ]
  clear hrange
  have hB0 : w.heap.size ≤ W0.heap.size := Hb0.out.size
  have hW0 : w.heap.size < W0.heap.size := (Array.getElem?_eq_some_iff.1 HD0.out).1
  have hst := encStrict HE0.out
  have hpad := encPad HE0.out
  have Hst := Lib.hid hst
  have Hpad := Lib.hid hpad
  clear hst hpad
  go_upto_block 0 with (fail)
  go_cut [3, 10, 12] (QMid W0 w.heap.size n si l)
  case first =>
    go_wp2_with (fail)
    go_loopg [3, 10, 12, 13] 4 (fun gk v3 v10 v12 v13 wr => ∃ j p : Nat, gk + j = 4 ∧ Hid (p = si + j) ∧ p ≤ m ∧ v3 = .int .i64 (p : Int) ∧ v13 = .int .i64 (j : Int) ∧ v10 = .nilIface ∧ v12 = .int .i64 4 ∧ Hid (wr.heap[w.heap.size]? = some (.cells (figRow l j).toArray 128 (0, 0))) ∧
      Hid (Below w.heap.size W0 wr) ∧ Hid (∀ i c, i < j → l[i]? = some c → figN c < 64))
    case atStart => exact ⟨0, si, rfl, rfl, by omega, rfl, rfl, rfl, rfl, HD0.out, Below.refl _ _, fun i c h => by omega⟩
    case round =>
      obtain ⟨j, p, hj, Hp, hpm, rfl, rfl, rfl, rfl, HD, Hb, Hf⟩ := hrel
      have hbw := Hb0.out.trans Hb.out
      have hdw : wr.heap[d]? = some (.cells R 5 (0, 0)) := (hbw.block d hdl0).trans HR.out
      have hEw : wr.heap[g]? = some (.cells (encRow (decMap 64)).toArray 181 (0, 0)) := (hbw.block g hgl).trans HE.out
      have hgr : w.grownBy wr (some d) := below_grown hbw (Nat.le_refl _)
      have Hdw := Lib.hid hdw
      have HEw := Lib.hid hEw
      have Hgr := Lib.hid hgr
      have Hbw := Lib.hid hbw
      clear hdw hEw hgr hbw
      by_cases h4 : j < 4
      · by_cases hend : p < m
        · obtain ⟨x, hx⟩ : ∃ x, src[p]? = some x := ⟨_, List.getElem?_eq_getElem (by rw [Hl.out]; exact hend)⟩
          have hlj : l[j]? = some x := by rw [Hlx.out, ← Hp.out, hx]
          have hxn := Hnl.out x (List.mem_of_getElem? hx)
          have hcx : wr.cell? ⟨b, o + p, none⟩ = some (.int .u8 (x.toNat : Int)) := by
            rw [Hbw.out.cell (p := ⟨_, _, _⟩) hb]
            exact Hs.out p _ (by unfold byteCells; rw [List.getElem?_map, hx]; rfl)
          have hcf := decCell HEw.out x
          have hx256 := x.toNat_lt
          have hx0 : (0 : Int) ≤ (x.toNat : Int) := by omega
          have hx1 : (x.toNat : Int) < 256 := by omega
          have hpp : (p : Int) < (m : Int) := by omega
          have hp0 : (0 : Int) ≤ (p : Int) := by omega
          have ht0 : ((m : Int) == (p : Int)) = false := by rw [beq_eq_false_iff_ne]; omega
          have Hlj := Lib.hid hlj
          have Hxn := Lib.hid hxn
          clear hx hlj hxn
          by_cases hf : figN x < 64
          · have ht1 : ((figN x : Int) != 255) = true := by rw [bne_iff_ne]; omega
            have hjl : j < l.length := (List.getElem?_eq_some_iff.1 Hlj.out).1
            have hfl := figRow_length (l := l) (j := j) (Nat.le_of_lt hjl) (by omega)
            have hcd : wr.cell? ⟨w.heap.size, j, none⟩ = some ((figRow l j)[j]'(by omega)) := by
              rw [cell_of_row wr _ _ _ _ _ HD.out]
              simp [hfl, h4]
            have hcz : wr.frozen? ⟨w.heap.size, j, none⟩ = false := frozen_of_row wr _ _ _ _ HD.out
            generalize (figRow l j)[j]'(by omega) = vj at hcd
            clear hfl hjl
            go_wp2_with (fail)
            go_roundg (gk - 1)
            case measure => omega
            case rel =>
              refine ⟨j + 1, p + 1, by omega, ?_, by omega, by go_num, by go_num, rfl, rfl, ?_, ?_, ?_⟩
              · show p + 1 = si + (j + 1); have := Hp.out; omega
              · show (wr.setCell ⟨w.heap.size, j, none⟩ (.int .u8 (figN x : Int))).heap[w.heap.size]? = _
                rw [heap_setCell_same wr w.heap.size j _ 128 (.int .u8 (figN x : Int)) HD.out, ← figRow_next Hlj.out h4]
                simp
              · exact Hb.out.setCell (Nat.le_refl _) _
              · intro i c hi hc
                by_cases hij : i < j
                · exact Hf.out i c hij hc
                · obtain rfl : i = j := by omega
                  rw [Hlj.out] at hc
                  cases hc
                  exact hf
          · have hf255 : figN x = 255 := by rcases figN_or x with h | h <;> omega
            rw [hf255] at hcf
            have ht10 : ((x.toNat : Int) == 10) = false := by
              rw [beq_eq_false_iff_ne]; intro e; exact Hxn.out.1 (UInt8.toNat_inj.1 (by simpa using Int.ofNat.inj e))
            have ht13 : ((x.toNat : Int) == 13) = false := by
              rw [beq_eq_false_iff_ne]; intro e; exact Hxn.out.2 (UInt8.toNat_inj.1 (by simpa using Int.ofNat.inj e))
            have hpc := Hpad.out
            have hpc := encPad HEw.out
            clear hf255
            by_cases h61 : x = 61
            · have hc61 : wr.cell? ⟨b, o + p, none⟩ = some (.int .u8 61) := by rw [hcx, h61]; rfl
              have hc125 : wr.cell? ⟨g, 125, none⟩ = some (.int .u8 255) := by rw [h61] at hcf; exact hcf
              have H61 := Lib.hid h61
              clear hcx hcf h61 ht10 ht13 hx0 hx1 hx256
              have hj4 : j = 0 ∨ j = 1 ∨ j = 2 ∨ j = 3 := by omega
              rcases hj4 with rfl | rfl | rfl | rfl
              · have Hq := Lib.hid (q_bad Hlj.out h4 hf (.inr (by omega)))
                clear hf
                go_wp2_with (fail)
                go_ret3
                exact qpost_none Hq.out _ _ _ rfl (by omega) (by omega) Hgr.out Hdw.out rfl
              · have Hq := Lib.hid (q_bad Hlj.out h4 hf (.inr (by omega)))
                clear hf
                go_wp2_with (fail)
                go_ret3
                exact qpost_none Hq.out _ _ _ rfl (by omega) (by omega) Hgr.out Hdw.out rfl
              · -- two figures, then the padding
                have Hq0 := Lib.hid hf
                clear hf
                simp only [Int.cast_ofNat_Int]
                by_cases he : p + 1 < m
                · obtain ⟨y, hy⟩ : ∃ y, src[p + 1]? = some y := ⟨_, List.getElem?_eq_getElem (by rw [Hl.out]; exact he)⟩
                  obtain ⟨cy, cy10, cy13, cyl⟩ := next_char Hs.out (Hbw.out.cell (p := ⟨b, o + (p + 1), none⟩) hb) hy Hnl.out
                  have hly : l[3]? = some y := by rw [Hlx.out, ← hy, Hp.out]
                  have Hly := Lib.hid hly
                  have hiy : (p : Int) + 1 < (m : Int) := by omega
                  have hey : ((p : Int) + 1 == (m : Int)) = false := by rw [beq_eq_false_iff_ne]; omega
                  have hy0 : (0 : Int) ≤ (y.toNat : Int) := by omega
                  clear hy hly
                  by_cases hy61 : y = 61
                  · have e61 : (y.toNat : Int) = 61 := by rw [hy61]; rfl
                    rw [e61] at cy
                    have Hy61 := Lib.hid hy61
                    clear hy61 e61 cy10 cy13 cyl hy0
                    go_wp2_with (fail)
                    go_loopw [3] (fun v wx => v = .int .i64 ((p : Int) + 1) ∧ wx = wr) (fun _ _ => 0)
                    case atStart => exact ⟨rfl, rfl⟩
                    case round =>
                      obtain ⟨rfl, rfl⟩ := hrel
                      go_upto_region 32 with (fail)
                      go_quiet (fail)
                      have h4l : 4 ≤ l.length := (List.getElem?_eq_some_iff.1 Hly.out).1
                      have h3n : 3 ≤ n := H3.out (by have := Hll.out; omega)
                      obtain ⟨fa, fb, fc, fd, l0, l1, l2, l3, _, _, r2⟩ := figRow_at h4l
                      have f0 := Hf.out 0 fa (by omega) l0
                      have f1 := Hf.out 1 fb (by omega) l1
                      have hrow : (wr.drewN nq).heap[w.heap.size]? = some (.cells #[.int .u8 (figN fa : Int), .int .u8 (figN fb : Int), .int .u8 ((0 : Nat) : Int), .int .u8 ((0 : Nat) : Int)] 128 (0, 0)) := by
                        show wr.heap[w.heap.size]? = _
                        rw [HD.out, r2]
                      have hbq : Below w.heap.size W0 (wr.drewN nq) := ⟨Hb.out.os, Hb.out.tape, Hb.out.output, Hb.out.size, Hb.out.block⟩
                      have hl61 : l[2]? = some 61 ∧ l[3]? = some 61 := ⟨by rw [Hlj.out, H61.out], by rw [Hly.out, Hy61.out]⟩
                      have Hrow := Lib.hid hrow
                      have Hbq := Lib.hid hbq
                      have H01 := Lib.hid (And.intro l0 l1)
                      have H61s := Lib.hid hl61
                      clear hrow hbq l0 l1 l2 l3 r2 hl61
                      by_cases he2 : p + 1 + 1 < m
                      · obtain ⟨z, hz⟩ : ∃ z, src[p + 1 + 1]? = some z := ⟨_, List.getElem?_eq_getElem (by rw [Hl.out]; exact he2)⟩
                        obtain ⟨cz, cz10, cz13, czl⟩ := next_char Hs.out (Hbw.out.cell (p := ⟨b, o + (p + 1 + 1), none⟩) hb) hz Hnl.out
                        have hiz : (p : Int) + 1 + 1 < (m : Int) := by omega
                        have Hq := Lib.hid (q_pad_more H61s.out.2 (by have := Hll.out; have := Hp.out; omega))
                        clear hz
                        go_wp2_with (fail)
                        go_loopw [3] (fun v wy => v = .int .i64 ((p : Int) + 1 + 1) ∧ wy = wr.drewN nq) (fun _ _ => 0)
                        case atStart => exact ⟨rfl, rfl⟩
                        case round =>
                          obtain ⟨rfl, rfl⟩ := hrel
                          go_wp2_with (fail)
                          go_meet
                          case rel => exact ⟨2, (p : Int) + 1 + 1, figN fa, figN fb, 0, 0, by omega, rfl, rfl, Hrow.out, Hbq.out, ⟨f0, f1, by omega, by omega⟩, h3n, by omega, .inr ⟨_, rfl, Hq.out⟩⟩
                      · have hiz : ¬(p : Int) + 1 + 1 < (m : Int) := by omega
                        have Hq := Lib.hid (q_pad2_ok H01.out.1 H01.out.2 H61s.out.1 H61s.out.2 (by have := Hll.out; have := Hp.out; omega) f0 f1)
                        go_wp2_with (fail)
                        go_loopw [3] (fun v wy => v = .int .i64 ((p : Int) + 1 + 1) ∧ wy = wr.drewN nq) (fun _ _ => 0)
                        case atStart => exact ⟨rfl, rfl⟩
                        case round =>
                          obtain ⟨rfl, rfl⟩ := hrel
                          go_wp2_with (fail)
                          go_meet
                          case rel => exact ⟨2, (p : Int) + 1 + 1, figN fa, figN fb, 0, 0, by omega, rfl, rfl, Hrow.out, Hbq.out, ⟨f0, f1, by omega, by omega⟩, h3n, by omega, .inl ⟨rfl, by have := Hp.out; omega, Hq.out⟩⟩
                  · have e61 : ((y.toNat : Int) != 61) = true := by
                      rw [bne_iff_ne]; intro e; exact hy61 (UInt8.toNat_inj.1 (by simpa using Int.ofNat.inj e))
                    have Hq := Lib.hid (q_pad2_no (by rw [Hlj.out, H61.out]) Hly.out hy61)
                    clear hy61
                    go_wp2_with (fail)
                    go_loopw [3] (fun v wx => v = .int .i64 ((p : Int) + 1) ∧ wx = wr) (fun _ _ => 0)
                    case atStart => exact ⟨rfl, rfl⟩
                    case round =>
                      obtain ⟨rfl, rfl⟩ := hrel
                      go_upto_region 32 with (fail)
                      go_quiet (fail)
                      go_wp2_with (fail)
                      go_ret3
                      exact qpost_none Hq.out _ _ _ rfl (by omega) (by omega) (grown_drewN Hgr.out _) Hdw.out rfl
                · have hey : ((p : Int) + 1 == (m : Int)) = true := by rw [beq_iff_eq]; omega
                  have hiy : ¬(p : Int) + 1 < (m : Int) := by omega
                  have Hq := Lib.hid (q_short (l := l) (by have := Hll.out; have := Hp.out; omega))
                  go_wp2_with (fail)
                  go_loopw [3] (fun v wx => v = .int .i64 ((p : Int) + 1) ∧ wx = wr) (fun _ _ => 0)
                  case atStart => exact ⟨rfl, rfl⟩
                  case round =>
                    obtain ⟨rfl, rfl⟩ := hrel
                    go_wp2_with (fail)
                    go_ret3
                    exact qpost_none Hq.out _ _ _ rfl (by omega) (by omega) Hgr.out Hdw.out rfl
              · -- three figures, then the padding
                simp only [Int.cast_ofNat_Int]
                have h4l : 4 ≤ l.length := (List.getElem?_eq_some_iff.1 Hlj.out).1
                have h3n : 3 ≤ n := H3.out (by have := Hll.out; omega)
                obtain ⟨fa, fb, fc, fd, l0, l1, l2, l3, _, r3, _⟩ := figRow_at h4l
                have f0 := Hf.out 0 fa (by omega) l0
                have f1 := Hf.out 1 fb (by omega) l1
                have f2 := Hf.out 2 fc (by omega) l2
                have hrow : wr.heap[w.heap.size]? = some (.cells #[.int .u8 (figN fa : Int), .int .u8 (figN fb : Int), .int .u8 (figN fc : Int), .int .u8 ((0 : Nat) : Int)] 128 (0, 0)) := by rw [HD.out, r3]
                have hl61 : l[3]? = some 61 := by rw [Hlj.out, H61.out]
                have Hrow := Lib.hid hrow
                have H012 := Lib.hid (And.intro l0 (And.intro l1 l2))
                have H61s := Lib.hid hl61
                clear hrow l0 l1 l2 l3 r3 hl61 hf
                by_cases he2 : p + 1 < m
                · obtain ⟨z, hz⟩ : ∃ z, src[p + 1]? = some z := ⟨_, List.getElem?_eq_getElem (by rw [Hl.out]; exact he2)⟩
                  obtain ⟨cz, cz10, cz13, czl⟩ := next_char Hs.out (Hbw.out.cell (p := ⟨b, o + (p + 1), none⟩) hb) hz Hnl.out
                  have hiz : (p : Int) + 1 < (m : Int) := by omega
                  have Hq := Lib.hid (q_pad_more H61s.out (by have := Hll.out; have := Hp.out; omega))
                  clear hz
                  go_wp2_with (fail)
                  go_loopw [3] (fun v wy => v = .int .i64 ((p : Int) + 1) ∧ wy = wr) (fun _ _ => 0)
                  case atStart => exact ⟨rfl, rfl⟩
                  case round =>
                    obtain ⟨rfl, rfl⟩ := hrel
                    go_wp2_with (fail)
                    go_meet
                    case rel => exact ⟨3, (p : Int) + 1, figN fa, figN fb, figN fc, 0, by omega, rfl, rfl, Hrow.out, Hb.out, ⟨f0, f1, f2, by omega⟩, h3n, by omega, .inr ⟨_, rfl, Hq.out⟩⟩
                · have hiz : ¬(p : Int) + 1 < (m : Int) := by omega
                  have Hq := Lib.hid (q_pad3_ok H012.out.1 H012.out.2.1 H012.out.2.2 H61s.out (by have := Hll.out; have := Hp.out; omega) f0 f1 f2)
                  go_wp2_with (fail)
                  go_loopw [3] (fun v wy => v = .int .i64 ((p : Int) + 1) ∧ wy = wr) (fun _ _ => 0)
                  case atStart => exact ⟨rfl, rfl⟩
                  case round =>
                    obtain ⟨rfl, rfl⟩ := hrel
                    go_wp2_with (fail)
                    go_meet
                    case rel => exact ⟨3, (p : Int) + 1, figN fa, figN fb, figN fc, 0, by omega, rfl, rfl, Hrow.out, Hb.out, ⟨f0, f1, f2, by omega⟩, h3n, by omega, .inl ⟨rfl, by have := Hp.out; omega, Hq.out⟩⟩
            · have ht61 : ((x.toNat : Int) != 61) = true := by
                rw [bne_iff_ne]; intro e; exact h61 (UInt8.toNat_inj.1 (by simpa using Int.ofNat.inj e))
              have Hq := Lib.hid (q_bad Hlj.out h4 hf (.inl h61))
              clear hf
              go_wp2_with (fail)
              go_ret3
              exact qpost_none Hq.out _ _ _ rfl (by omega) (by omega) Hgr.out Hdw.out rfl
        · have hpe : p = m := by omega
          have ht0 : ((m : Int) == (p : Int)) = true := by rw [beq_iff_eq]; omega
          have hj0 : 0 < j := by have := Hp.out; omega
          have hq : quant l = none := q_short (by have := Hp.out; have := Hll.out; omega)
          have Hq := Lib.hid hq
          have hpc := encPad HEw.out
          clear hq hpe
          by_cases h1 : j = 1
          · subst h1
            go_wp2_with (fail)
            go_ret3
            exact qpost_none Hq.out _ _ _ rfl (by omega) (by omega) Hgr.out Hdw.out rfl
          · have e0 : ((j : Int) == 0) = false := by rw [beq_eq_false_iff_ne]; omega
            have e1 : ((j : Int) == 1) = false := by rw [beq_eq_false_iff_ne]; omega
            go_wp2_with (fail)
            go_ret3
            exact qpost_none Hq.out _ _ _ rfl (by omega) (by omega) Hgr.out Hdw.out rfl
      · obtain rfl : j = 4 := by omega
        go_wp2_with (fail)
        go_meet
        case rel =>
          obtain ⟨a, b', c', d', l0, l1, l2, l3, r4, _, _⟩ := figRow_at (l := l) (by have := Hp.out; have := Hll.out; omega)
          have f0 := Hf.out 0 a (by omega) l0
          have f1 := Hf.out 1 b' (by omega) l1
          have f2 := Hf.out 2 c' (by omega) l2
          have f3 := Hf.out 3 d' (by omega) l3
          refine ⟨4, (p : Int), figN a, figN b', figN c', figN d', by omega, rfl, rfl, by rw [HD.out, r4], Hb.out, ⟨f0, f1, f2, f3⟩, H3.out (by have := Hp.out; omega), by omega, .inl ⟨rfl, by rw [Hp.out], q_all l0 l1 l2 l3 f0 f1 f2 f3⟩⟩
  case rest =>
    obtain ⟨dl, p, f0, f1, f2, f3, hdl, rfl, rfl, hrow, hbm, ⟨hf0, hf1, hf2, hf3⟩, h3n, ⟨hp0, hp1⟩, hq⟩ := hcut
    have k0 := (cell_of_row _ _ 0 _ _ _ hrow)
    have k1 := (cell_of_row _ _ 1 _ _ _ hrow)
    have k2 := (cell_of_row _ _ 2 _ _ _ hrow)
    have k3 := (cell_of_row _ _ 3 _ _ _ hrow)
    have z0 := frozen_of_row _ _ 0 _ _ hrow
    have z1 := frozen_of_row _ _ 1 _ _ hrow
    have z2 := frozen_of_row _ _ 2 _ _ hrow
    have z3 := frozen_of_row _ _ 3 _ _ hrow
    simp at k0 k1 k2 k3
    have o1 := or_join 18 (f0 * 262144) (f1 * 4096) (by omega) (by omega) (by omega) (by omega)
    have o2 := or_join 12 (f0 * 262144 + f1 * 4096) (f2 * 64) (by omega) (by omega) (by omega) (by omega)
    have o3 := or_join 6 (f0 * 262144 + f1 * 4096 + f2 * 64) f3 (by omega) (by omega) (by omega) (by omega)
    have hvV : val4 f0 f1 f2 f3 = f0 * 262144 + f1 * 4096 + f2 * 64 + f3 := rfl
    rw [← hvV] at o3
    have hV : val4 f0 f1 f2 f3 < 16777216 := by rw [hvV]; omega
    generalize val4 f0 f1 f2 f3 = V at *
    clear hvV
    simp only [Int.natCast_mul, Int.natCast_add, Int.cast_ofNat_Int] at o1 o2 o3
    have Hrow := Lib.hid hrow
    have Hbm := Lib.hid hbm
    have Hq := Lib.hid hq
    clear hrow hbm hq
    have hbw := Hb0.out.trans Hbm.out
    have hdw : wc.heap[d]? = some (.cells R 5 (0, 0)) := (hbw.block d hdl0).trans HR.out
    have hEw : wc.heap[g]? = some (.cells (encRow (decMap 64)).toArray 181 (0, 0)) := (hbw.block g hgl).trans HE.out
    have hgr : w.grownBy wc (some d) := below_grown hbw (Nat.le_refl _)
    have hstr := encStrict hEw
    have hd4 : ∀ j, j < 3 → ∃ u, wc.cell? ⟨d, k + j, none⟩ = some u ∧ wc.frozen? ⟨d, k + j, none⟩ = false := fun j hj =>
      ⟨R[k + j]'(by omega), (cell_of_row wc _ _ _ _ _ hdw).trans (Array.getElem?_eq_getElem (by omega)), frozen_of_row wc _ _ _ _ hdw⟩
    obtain ⟨u0, d0, y0⟩ := hd4 0 (by omega)
    obtain ⟨u1, d1, y1⟩ := hd4 1 (by omega)
    obtain ⟨u2, d2, y2⟩ := hd4 2 (by omega)
    rw [Nat.add_zero] at d0 y0
    have i0 : (0 : Int) < (n : Int) := by omega
    have i1 : (1 : Int) < (n : Int) := by omega
    have i2 : (2 : Int) < (n : Int) := by omega
    have hne : d ≠ w.heap.size := by omega
    have hne' : w.heap.size ≠ d := by omega
    have hne2 : g ≠ w.heap.size := by omega
    obtain rfl := HA.out (by omega)
    have Hdw := Lib.hid hdw
    have Hgr := Lib.hid hgr
    have Hst2 := Lib.hid hstr
    clear hbw hdw hEw hgr hd4
    rcases hdl with rfl | rfl | rfl
    · simp only [Int.cast_ofNat_Int]
      go_wp2_with (fail)
      refine bodyPost_ret (v := .tuple #[.int .i64 p, .int .i64 1, u10]) (by simp [results, Tryd.results95, go_sem]) rfl ?_
      have hrow := heap_setCell_same _ d k _ _ (.int .u8 ((V : Int) / 65536)) (heap_far (heap_far (heap_far Hdw.out (p := ⟨w.heap.size, 2, none⟩) hne (.int .u8 ((V : Int) % 256))) (p := ⟨w.heap.size, 1, none⟩) hne (.int .u8 ((V : Int) / 256 % 256))) (p := ⟨w.heap.size, 0, none⟩) hne (.int .u8 ((V : Int) / 65536)))
      have hgr := grownBy_setB (grown_far (grown_far (grown_far Hgr.out (p := ⟨w.heap.size, 2, none⟩) (Nat.le_refl _) (.int .u8 ((V : Int) % 256))) (p := ⟨w.heap.size, 1, none⟩) (Nat.le_refl _) (.int .u8 ((V : Int) / 256 % 256))) (p := ⟨w.heap.size, 0, none⟩) (Nat.le_refl _) (.int .u8 ((V : Int) / 65536))) k (.int .u8 ((V : Int) / 65536))
      rcases Hq.out with ⟨rfl, rfl, hq⟩ | ⟨x, rfl, hq⟩
      · refine qpost_some hq rfl hgr hrow (by simp) ?_
        show List.take (k + 1) _ = xs ++ byteCells ((three V).take 1)
        rw [take_one Hx.out (by omega), show byteCells ((three V).take 1) = (byteCells (three V)).take 1 from rfl, three_cells hV]
        rfl
      · exact qpost_none hq _ _ _ rfl (by omega) (by omega) hgr hrow (by simp)
    · simp only [Int.cast_ofNat_Int]
      go_wp2_with (fail)
      refine bodyPost_ret (v := .tuple #[.int .i64 p, .int .i64 2, u10]) (by simp [results, Tryd.results95, go_sem]) rfl ?_
      have hrow := (heap_setCell_same _ d (k) _ _ (.int .u8 ((V : Int) / 65536)) (heap_far (heap_setCell_same _ d (k + 1) _ _ (.int .u8 ((V : Int) / 256 % 256)) (heap_far (heap_far (heap_far Hdw.out (p := ⟨w.heap.size, 2, none⟩) hne (.int .u8 ((V : Int) % 256))) (p := ⟨w.heap.size, 1, none⟩) hne (.int .u8 ((V : Int) / 256 % 256))) (p := ⟨w.heap.size, 0, none⟩) hne (.int .u8 ((V : Int) / 65536)))) (p := ⟨w.heap.size, 1, none⟩) hne (.int .u8 0)))
      have hgr := (grownBy_setB (grown_far (grownBy_setB (grown_far (grown_far (grown_far Hgr.out (p := ⟨w.heap.size, 2, none⟩) (Nat.le_refl _) (.int .u8 ((V : Int) % 256))) (p := ⟨w.heap.size, 1, none⟩) (Nat.le_refl _) (.int .u8 ((V : Int) / 256 % 256))) (p := ⟨w.heap.size, 0, none⟩) (Nat.le_refl _) (.int .u8 ((V : Int) / 65536))) (k + 1) (.int .u8 ((V : Int) / 256 % 256))) (p := ⟨w.heap.size, 1, none⟩) (Nat.le_refl _) (.int .u8 0)) (k) (.int .u8 ((V : Int) / 65536)))
      rcases Hq.out with ⟨rfl, rfl, hq⟩ | ⟨x, rfl, hq⟩
      · refine qpost_some hq rfl hgr hrow (by simp) ?_
        show List.take (k + 2) _ = xs ++ byteCells ((three V).take 2)
        rw [take_two Hx.out (by omega), show byteCells ((three V).take 2) = (byteCells (three V)).take 2 from rfl, three_cells hV]
        rfl
      · exact qpost_none hq _ _ _ rfl (by omega) (by omega) hgr hrow (by simp)
    · simp only [Int.cast_ofNat_Int]
      go_wp2_with (fail)
      refine bodyPost_ret (v := .tuple #[.int .i64 p, .int .i64 3, u10]) (by simp [results, Tryd.results95, go_sem]) rfl ?_
      have hrow := (heap_setCell_same _ d (k) _ _ (.int .u8 ((V : Int) / 65536)) (heap_far (heap_setCell_same _ d (k + 1) _ _ (.int .u8 ((V : Int) / 256 % 256)) (heap_far (heap_setCell_same _ d (k + 2) _ _ (.int .u8 ((V : Int) % 256)) (heap_far (heap_far (heap_far Hdw.out (p := ⟨w.heap.size, 2, none⟩) hne (.int .u8 ((V : Int) % 256))) (p := ⟨w.heap.size, 1, none⟩) hne (.int .u8 ((V : Int) / 256 % 256))) (p := ⟨w.heap.size, 0, none⟩) hne (.int .u8 ((V : Int) / 65536)))) (p := ⟨w.heap.size, 2, none⟩) hne (.int .u8 0))) (p := ⟨w.heap.size, 1, none⟩) hne (.int .u8 0)))
      have hgr := (grownBy_setB (grown_far (grownBy_setB (grown_far (grownBy_setB (grown_far (grown_far (grown_far Hgr.out (p := ⟨w.heap.size, 2, none⟩) (Nat.le_refl _) (.int .u8 ((V : Int) % 256))) (p := ⟨w.heap.size, 1, none⟩) (Nat.le_refl _) (.int .u8 ((V : Int) / 256 % 256))) (p := ⟨w.heap.size, 0, none⟩) (Nat.le_refl _) (.int .u8 ((V : Int) / 65536))) (k + 2) (.int .u8 ((V : Int) % 256))) (p := ⟨w.heap.size, 2, none⟩) (Nat.le_refl _) (.int .u8 0)) (k + 1) (.int .u8 ((V : Int) / 256 % 256))) (p := ⟨w.heap.size, 1, none⟩) (Nat.le_refl _) (.int .u8 0)) (k) (.int .u8 ((V : Int) / 65536)))
      rcases Hq.out with ⟨rfl, rfl, hq⟩ | ⟨x, rfl, hq⟩
      · refine qpost_some hq rfl hgr hrow (by simp) ?_
        show List.take (k + 3) _ = xs ++ byteCells ((three V).take 3)
        rw [take_three Hx.out (by omega), show byteCells ((three V).take 3) = (byteCells (three V)).take 3 from rfl, three_cells hV]
        rfl
      · exact qpost_none hq _ _ _ rfl (by omega) (by omega) hgr hrow (by simp)

end Go.Proofs.YtnnbhklkakhkkaaDoor

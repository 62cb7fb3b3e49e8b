/-
  base64, READING: the walks of Decode and DecodeString.
-/
import Derived.Test.YtnnbhklkakhkkaaDoorQuantum
import Derived.Laws.MakeOwn
import Derived.BigQuiet
import Derived.Deep.QuietTactic
import Derived.Laws.IdiomStrings
namespace Go.Proofs.YtnnbhklkakhkkaaDoor
open Go.RowKit Go.Lib

/-- what Decode leaves -/
def DPost (w : World) (d size : Nat) (l : List UInt8) (e : Ending) (w' : World) : Prop :=
  match decL l with
  | some x => e = .returned (.tuple #[.int .i64 (x.length : Int), .nilIface]) ∧ w.grownBy w' (some d) ∧
      ∃ R' : Array Value, w'.heap[d]? = some (.cells R' 5 (0, 0)) ∧ R'.size = size ∧ R'.toList.take x.length = byteCells x
  | none => ∃ (n' : Nat) (ev : Value), e = .returned (.tuple #[.int .i64 (n' : Int), .iface 204 ev]) ∧ n' ≤ size ∧ w.grownBy w' (some d) ∧
      ∃ R' : Array Value, w'.heap[d]? = some (.cells R' 5 (0, 0)) ∧ R'.size = size

/-- where reading stands: p bytes of the text are read, and the row begins with what they say -/
structure DAt (w : World) (d size p n : Nat) (src : List UInt8) (wr : World) : Prop where
  le : p ≤ src.length
  out : ∃ x, x.length = n ∧ decL src = (decL (src.drop p)).map (x ++ ·) ∧ ∃ R : Array Value, wr.heap[d]? = some (.cells R 5 (0, 0)) ∧ R.size = size ∧ R.toList.take n = byteCells x
  grow : w.grownBy wr (some d)
  pos : p < src.length → ∃ q, p = 4 * q ∧ n = 3 * q
  low : n ≤ size

/-- one quantum -/
theorem DAt.step {w wr w' : World} {d size p n : Nat} {src x : List UInt8} {R R' : Array Value} (h : DAt w d size p n src wr) (hsz : size = src.length / 4 * 3) (hq : quant (src.drop p) = some x) (hg : wr.grownBy w' (some d))
    (hR : wr.heap[d]? = some (.cells R 5 (0, 0))) (hr : w'.heap[d]? = some (.cells R' 5 (0, 0))) (hs : R'.size = size) (ht : R'.toList.take (n + x.length) = R.toList.take n ++ byteCells x) :
    DAt w d size (p + 4) (n + x.length) src w' := by
  obtain ⟨y, hy, hd, R0, hR0, hRs, hRt⟩ := h.out
  have e : R0 = R := by
    rw [hR] at hR0
    injection hR0 with e
    injection e with e _ _
    exact e.symm
  subst e
  have hl := quant_length hq
  rw [List.length_drop] at hl
  have hlow : n + x.length ≤ size := by
    obtain ⟨q, hp, hn⟩ := h.pos (by omega)
    omega
  refine ⟨by omega, ⟨y ++ x, by rw [List.length_append, hy], ?_, R', hr, hs, ?_⟩, grownBy_trans h.grow hg, ?_, hlow⟩
  · rw [hd, decL_some hq, List.drop_drop, Option.map_map]
    congr 1
    funext z
    simp
  · rw [ht, hRt]
    unfold byteCells
    rw [List.map_append]
  · intro hlt
    obtain ⟨q, hp, hn⟩ := h.pos (by omega)
    exact ⟨q + 1, by omega, by have := hl.2.2.2 (by omega); omega⟩

theorem DAt.drewN {w wr : World} {d size p n : Nat} {src : List UInt8} (h : DAt w d size p n src wr) (k : Nat) : DAt w d size p n src (wr.drewN k) :=
  ⟨h.le, h.out, ⟨h.grow.os, h.grow.tape, h.grow.output, h.grow.size, h.grow.block⟩, h.pos, h.low⟩

theorem val4_lt {a b c d : Nat} (ha : a < 64) (hb : b < 64) (hc : c < 64) (hd : d < 64) : val4 a b c d < 16777216 := by unfold val4; omega

/-- the eight bytes that are put: six that count, and two noughts -/
theorem put64_bytes {v1 v2 : Nat} (h1 : v1 < 16777216) (h2 : v2 < 16777216) :
    [Value.int .u8 (((v1 * 1099511627776 + v2 * 65536 : Nat) : Int) / 72057594037927936), .int .u8 (((v1 * 1099511627776 + v2 * 65536 : Nat) : Int) / 281474976710656 % 256), .int .u8 (((v1 * 1099511627776 + v2 * 65536 : Nat) : Int) / 1099511627776 % 256),
      .int .u8 (((v1 * 1099511627776 + v2 * 65536 : Nat) : Int) / 4294967296 % 256), .int .u8 (((v1 * 1099511627776 + v2 * 65536 : Nat) : Int) / 16777216 % 256), .int .u8 (((v1 * 1099511627776 + v2 * 65536 : Nat) : Int) / 65536 % 256),
      .int .u8 (((v1 * 1099511627776 + v2 * 65536 : Nat) : Int) / 256 % 256), .int .u8 (((v1 * 1099511627776 + v2 * 65536 : Nat) : Int) % 256)] =
    byteCells (three v1) ++ (byteCells (three v2) ++ [.int .u8 0, .int .u8 0]) := by
  rw [three_cells h1, three_cells h2]
  have e1 : ((v1 * 1099511627776 + v2 * 65536 : Nat) : Int) / 72057594037927936 = (v1 : Int) / 65536 := by omega
  have e2 : ((v1 * 1099511627776 + v2 * 65536 : Nat) : Int) / 281474976710656 % 256 = (v1 : Int) / 256 % 256 := by omega
  have e3 : ((v1 * 1099511627776 + v2 * 65536 : Nat) : Int) / 1099511627776 % 256 = (v1 : Int) % 256 := by omega
  have e4 : ((v1 * 1099511627776 + v2 * 65536 : Nat) : Int) / 4294967296 % 256 = (v2 : Int) / 65536 := by omega
  have e5 : ((v1 * 1099511627776 + v2 * 65536 : Nat) : Int) / 16777216 % 256 = (v2 : Int) / 256 % 256 := by omega
  have e6 : ((v1 * 1099511627776 + v2 * 65536 : Nat) : Int) / 65536 % 256 = (v2 : Int) % 256 := by omega
  have e7 : ((v1 * 1099511627776 + v2 * 65536 : Nat) : Int) / 256 % 256 = 0 := by omega
  have e8 : ((v1 * 1099511627776 + v2 * 65536 : Nat) : Int) % 256 = 0 := by omega
  rw [e1, e2, e3, e4, e5, e6, e7, e8]
  rfl
theorem put32_bytes {v : Nat} (h : v < 16777216) :
    [Value.int .u8 (((v * 256 : Nat) : Int) / 16777216), .int .u8 (((v * 256 : Nat) : Int) / 65536 % 256), .int .u8 (((v * 256 : Nat) : Int) / 256 % 256), .int .u8 (((v * 256 : Nat) : Int) % 256)] = byteCells (three v) ++ [.int .u8 0] := by
  rw [three_cells h]
  have e1 : ((v * 256 : Nat) : Int) / 16777216 = (v : Int) / 65536 := by omega
  have e2 : ((v * 256 : Nat) : Int) / 65536 % 256 = (v : Int) / 256 % 256 := by omega
  have e3 : ((v * 256 : Nat) : Int) / 256 % 256 = (v : Int) % 256 := by omega
  have e4 : ((v * 256 : Nat) : Int) % 256 = 0 := by omega
  rw [e1, e2, e3, e4]
  rfl
/-- what a longer row of cells says of its head -/
theorem take_short {L xs ys zs : List Value} {n k j : Nat} (h : L.take (n + k) = xs ++ (ys ++ zs)) (hx : xs.length = n) (hy : ys.length = j) (hk : j ≤ k) : L.take (n + j) = xs ++ ys := by
  have e := congrArg (List.take (n + j)) h
  rw [List.take_take, Nat.min_eq_left (by omega), ← List.append_assoc, List.take_left' (by rw [List.length_append, hx, hy])] at e
  exact e

/-- two quanta at once -/
theorem DAt.step2 {w wr w' : World} {d size p n : Nat} {src x y : List UInt8} {R R' : Array Value} {zs : List Value} {k : Nat} (h : DAt w d size p n src wr) (hsz : size = src.length / 4 * 3) (hq : quant (src.drop p) = some x)
    (hq2 : quant (src.drop (p + 4)) = some y) (hg : wr.grownBy w' (some d)) (hR : wr.heap[d]? = some (.cells R 5 (0, 0))) (hr : w'.heap[d]? = some (.cells R' 5 (0, 0))) (hs : R'.size = size)
    (hl : (R.toList.take n).length = n) (hk : x.length + y.length ≤ k) (ht : R'.toList.take (n + k) = R.toList.take n ++ (byteCells x ++ (byteCells y ++ zs))) : DAt w d size (p + 4 + 4) (n + x.length + y.length) src w' := by
  have h1 := take_short (j := x.length) ht hl (byteCells_length _) (by omega)
  have h2 := take_short (j := x.length + y.length) (ys := byteCells x ++ byteCells y) (zs := zs) (by rw [ht, List.append_assoc]) hl (by rw [List.length_append, byteCells_length, byteCells_length]) (by omega)
  have d1 := h.step hsz hq hg hR hr hs h1
  refine d1.step hsz hq2 ⟨rfl, rfl, rfl, Nat.le_refl _, fun _ _ _ => rfl⟩ hr hr hs ?_
  rw [h1, Nat.add_assoc, h2, List.append_assoc]

/-- what stands in the slots between the loops -/
def DRel (w : World) (d size : Nat) (src : List UInt8) (v6 v7 v8 : Value) (wr : World) : Prop :=
  ∃ p n : Nat, v6 = .int .i64 (n : Int) ∧ v7 = .nilIface ∧ v8 = .int .i64 (p : Int) ∧ DAt w d size p n src wr

theorem dpost_none {w wr w' : World} {d size p n : Nat} {src : List UInt8} {e : Ending} (h : DAt w d size p n src wr) (hq : quant (src.drop p) = none) (hlt : p < src.length) (n' : Nat) (ev : Value)
    (he : e = .returned (.tuple #[.int .i64 (n' : Int), .iface 204 ev])) (hn : n' ≤ size) (hg : wr.grownBy w' (some d)) {R' : Array Value} (hr : w'.heap[d]? = some (.cells R' 5 (0, 0))) (hs : R'.size = size) :
    DPost w d size src e w' := by
  obtain ⟨y, hy, hd, _⟩ := h.out
  have hne : src.drop p ≠ [] := by intro h0; have := congrArg List.length h0; rw [List.length_drop] at this; simp at this; omega
  unfold DPost
  rw [hd, decL_none hq hne]
  exact ⟨n', ev, he, hn, grownBy_trans h.grow hg, R', hr, hs⟩

theorem dpost_done {w w' : World} {d size p n : Nat} {src : List UInt8} {e : Ending} (h : DAt w d size p n src w') (hp : ¬p < src.length) (he : e = .returned (.tuple #[.int .i64 (n : Int), .nilIface])) : DPost w d size src e w' := by
  obtain ⟨y, hy, hd, R, hR, hs, ht⟩ := h.out
  have hnil : src.drop p = [] := List.drop_eq_nil_of_le (by omega)
  unfold DPost
  rw [hd, hnil]
  subst hy
  simp only [decL, Option.map_some, List.append_nil]
  exact ⟨he, h.grow, R, hR, hs, ht⟩

theorem four_at {w : World} {b o p : Nat} {src : List UInt8} (h : RowAt w b o (byteCells src)) (hp : p + 4 ≤ src.length) : ∃ x0 x1 x2 x3 t, src.drop p = x0 :: x1 :: x2 :: x3 :: t ∧
    (w.cell? ⟨b, o + p, none⟩ = some (.int .u8 (x0.toNat : Int))) ∧ (w.cell? ⟨b, o + p + 1, none⟩ = some (.int .u8 (x1.toNat : Int))) ∧ (w.cell? ⟨b, o + p + 2, none⟩ = some (.int .u8 (x2.toNat : Int))) ∧ (w.cell? ⟨b, o + p + 3, none⟩ = some (.int .u8 (x3.toNat : Int))) := by
  have hl : (src.drop p).length = src.length - p := List.length_drop
  have hx : ∀ (i : Nat) x, (src.drop p)[i]? = some x → src[p + i]? = some x := fun i x hi => by rw [List.getElem?_drop] at hi; exact hi
  obtain ⟨x0, x1, x2, x3, t, e⟩ : ∃ x0 x1 x2 x3 t, src.drop p = x0 :: x1 :: x2 :: x3 :: t := by
    generalize src.drop p = l at hl
    match l, hl with
    | x0 :: x1 :: x2 :: x3 :: t, _ => exact ⟨x0, x1, x2, x3, t, rfl⟩
    | [], h => simp at h; omega
    | [x0], h => simp at h; omega
    | [x0, x1], h => simp at h; omega
    | [x0, x1, x2], h => simp at h; omega
  refine ⟨x0, x1, x2, x3, t, e, ?_, ?_, ?_, ?_⟩
  · exact h p (.int .u8 (x0.toNat : Int)) (by unfold byteCells; rw [List.getElem?_map, show src[p]? = some x0 from hx 0 x0 (by rw [e]; rfl)]; rfl)
  · have := h (p + 1) (.int .u8 (x1.toNat : Int)) (by unfold byteCells; rw [List.getElem?_map, hx 1 x1 (by rw [e]; rfl)]; rfl)
    rwa [← Nat.add_assoc] at this
  · have := h (p + 2) (.int .u8 (x2.toNat : Int)) (by unfold byteCells; rw [List.getElem?_map, hx 2 x2 (by rw [e]; rfl)]; rfl)
    rwa [← Nat.add_assoc] at this
  · have := h (p + 3) (.int .u8 (x3.toNat : Int)) (by unfold byteCells; rw [List.getElem?_map, hx 3 x3 (by rw [e]; rfl)]; rfl)
    rwa [← Nat.add_assoc] at this

theorem eight_at {w : World} {b o p : Nat} {src : List UInt8} (h : RowAt w b o (byteCells src)) (hp : p + 8 ≤ src.length) : ∃ x0 x1 x2 x3 x4 x5 x6 x7 t, src.drop p = x0 :: x1 :: x2 :: x3 :: x4 :: x5 :: x6 :: x7 :: t ∧
    (w.cell? ⟨b, o + p, none⟩ = some (.int .u8 (x0.toNat : Int))) ∧ (w.cell? ⟨b, o + p + 1, none⟩ = some (.int .u8 (x1.toNat : Int))) ∧ (w.cell? ⟨b, o + p + 2, none⟩ = some (.int .u8 (x2.toNat : Int))) ∧ (w.cell? ⟨b, o + p + 3, none⟩ = some (.int .u8 (x3.toNat : Int))) ∧ (w.cell? ⟨b, o + p + 4, none⟩ = some (.int .u8 (x4.toNat : Int))) ∧ (w.cell? ⟨b, o + p + 5, none⟩ = some (.int .u8 (x5.toNat : Int))) ∧ (w.cell? ⟨b, o + p + 6, none⟩ = some (.int .u8 (x6.toNat : Int))) ∧ (w.cell? ⟨b, o + p + 7, none⟩ = some (.int .u8 (x7.toNat : Int))) := by
  have hl : (src.drop p).length = src.length - p := List.length_drop
  have hx : ∀ (i : Nat) x, (src.drop p)[i]? = some x → src[p + i]? = some x := fun i x hi => by rw [List.getElem?_drop] at hi; exact hi
  obtain ⟨x0, x1, x2, x3, x4, x5, x6, x7, t, e⟩ : ∃ x0 x1 x2 x3 x4 x5 x6 x7 t, src.drop p = x0 :: x1 :: x2 :: x3 :: x4 :: x5 :: x6 :: x7 :: t := by
    generalize src.drop p = l at hl
    match l, hl with
    | x0 :: x1 :: x2 :: x3 :: x4 :: x5 :: x6 :: x7 :: t, _ => exact ⟨x0, x1, x2, x3, x4, x5, x6, x7, t, rfl⟩
    | [], h => simp at h; omega
    | [x0], h => simp at h; omega
    | [x0, x1], h => simp at h; omega
    | [x0, x1, x2], h => simp at h; omega
    | [x0, x1, x2, x3], h => simp at h; omega
    | [x0, x1, x2, x3, x4], h => simp at h; omega
    | [x0, x1, x2, x3, x4, x5], h => simp at h; omega
    | [x0, x1, x2, x3, x4, x5, x6], h => simp at h; omega
  refine ⟨x0, x1, x2, x3, x4, x5, x6, x7, t, e, ?_, ?_, ?_, ?_, ?_, ?_, ?_, ?_⟩
  · exact h p (.int .u8 (x0.toNat : Int)) (by unfold byteCells; rw [List.getElem?_map, show src[p]? = some x0 from hx 0 x0 (by rw [e]; rfl)]; rfl)
  · have := h (p + 1) (.int .u8 (x1.toNat : Int)) (by unfold byteCells; rw [List.getElem?_map, hx 1 x1 (by rw [e]; rfl)]; rfl)
    rwa [← Nat.add_assoc] at this
  · have := h (p + 2) (.int .u8 (x2.toNat : Int)) (by unfold byteCells; rw [List.getElem?_map, hx 2 x2 (by rw [e]; rfl)]; rfl)
    rwa [← Nat.add_assoc] at this
  · have := h (p + 3) (.int .u8 (x3.toNat : Int)) (by unfold byteCells; rw [List.getElem?_map, hx 3 x3 (by rw [e]; rfl)]; rfl)
    rwa [← Nat.add_assoc] at this
  · have := h (p + 4) (.int .u8 (x4.toNat : Int)) (by unfold byteCells; rw [List.getElem?_map, hx 4 x4 (by rw [e]; rfl)]; rfl)
    rwa [← Nat.add_assoc] at this
  · have := h (p + 5) (.int .u8 (x5.toNat : Int)) (by unfold byteCells; rw [List.getElem?_map, hx 5 x5 (by rw [e]; rfl)]; rfl)
    rwa [← Nat.add_assoc] at this
  · have := h (p + 6) (.int .u8 (x6.toNat : Int)) (by unfold byteCells; rw [List.getElem?_map, hx 6 x6 (by rw [e]; rfl)]; rfl)
    rwa [← Nat.add_assoc] at this
  · have := h (p + 7) (.int .u8 (x7.toNat : Int)) (by unfold byteCells; rw [List.getElem?_map, hx 7 x7 (by rw [e]; rfl)]; rfl)
    rwa [← Nat.add_assoc] at this

theorem row_grown {w w' : World} {b o d : Nat} {cs : List Value} (h : RowAt w b o cs) (hg : w.grownBy w' (some d)) (hb : b < w.heap.size) (hbd : b ≠ d) : RowAt w' b o cs :=
  h.keep fun _ => World.cell?_of_block (hg.block b hb (by simpa using hbd))

theorem quantum_at (g d b o m c2 size p n : Nat) (Ad : Option Addr) (src : List UInt8) (w wr : World) (hat : DAt w d size p n src wr)
    (hE : w.heap[g]? = some (.cells (encRow (decMap 64)).toArray 181 (0, 0))) (hsz : size = m / 4 * 3) (hA : 0 < size - n → Ad = some ⟨d, n, none⟩)
    (hs : RowAt w b o (byteCells src)) (hb : b < w.heap.size) (hl : src.length = m) (hnl : ∀ x ∈ src, x ≠ 10 ∧ x ≠ 13) (hbd : b ≠ d) (hgd : g ≠ d) (hp : p < m) (hm : m ≤ 2147483647) :
    Calls Tryd.prog 95 #[.pointer (some ⟨g, 0, none⟩), .slice Ad (size - n) (size - n), .slice (some ⟨b, o, none⟩) m c2, .int .i64 p] wr fun e w' =>
      (∃ (j : Nat), e = .returned (.tuple #[.int .i64 ((p + 4 : Nat) : Int), .int .i64 (j : Int), .nilIface]) ∧ j ≤ 3 ∧ DAt w d size (p + 4) (n + j) src w') ∨
      (∃ (si' : Int) (n' : Nat) (ev : Value), e = .returned (.tuple #[.int .i64 si', .int .i64 (n' : Int), .iface 204 ev]) ∧ n' ≤ size ∧
        DPost w d size src (.returned (.tuple #[.int .i64 ((n + n' : Nat) : Int), .iface 204 ev])) w') := by
  obtain ⟨y, hy, hd, R, hR, hRs, hRt⟩ := hat.out
  obtain ⟨q, hq1, hq2⟩ := hat.pos (by omega)
  have hgl : g < w.heap.size := (Array.getElem?_eq_some_iff.1 hE).1
  have hlow := hat.low
  refine (quantum_any g d n (size - n) (size - n) b o m c2 p Ad src (R.toList.take n) wr R ((hat.grow.block g hgl (by simpa using hgd)).trans hE) hR rfl (by omega) hA (row_grown hs hat.grow hb hbd) (by have := hat.grow.size; omega) hl hnl hgd hp hm (by omega)).mono ?_
  intro e w' h
  unfold QPost at h
  cases hq : quant (src.drop p) with
  | some x =>
    rw [hq] at h
    obtain ⟨rfl, hg, R', hR', hs', ht'⟩ := h
    exact .inl ⟨x.length, rfl, (quant_length hq).2.2.1, hat.step (by rw [hl]; exact hsz) hq hg hR hR' (by rw [hs', hRs]) ht'⟩
  | none =>
    rw [hq] at h
    obtain ⟨si', n', ev, rfl, h0, h1, hg, R', hR', hs'⟩ := h
    obtain ⟨n', rfl⟩ := Int.eq_ofNat_of_zero_le h0
    exact .inr ⟨si', n', ev, rfl, by omega, dpost_none hat hq (by rw [hl]; exact hp) _ _ rfl (by omega) hg hR' (by rw [hs', hRs])⟩

set_option maxHeartbeats 8000000 in
set_option maxRecDepth 100000 in
theorem decode_any (g d b o m c2 size : Nat) (src : List UInt8) (w : World) (R : Array Value)
    (hE : w.heap[g]? = some (.cells (encRow (decMap 64)).toArray 181 (0, 0))) (hR : w.heap[d]? = some (.cells R 5 (0, 0))) (hRs : R.size = size) (hsz : size = m / 4 * 3)
    (hs : RowAt w b o (byteCells src)) (hb : b < w.heap.size) (hl : src.length = m) (hnl : ∀ x ∈ src, x ≠ 10 ∧ x ≠ 13) (hbd : b ≠ d) (hgd : g ≠ d) (hpos : 0 < m) (hm : m ≤ 2147483647) (hmc : m ≤ c2) :
    Calls Tryd.prog 79 #[.pointer (some ⟨g, 0, none⟩), .slice (some ⟨d, 0, none⟩) size size, .slice (some ⟨b, o, none⟩) m c2] w (DPost w d size src) := by
  have hrange := decRange hE
  have hsz2 : size ≤ 2147483647 := by omega
  have hat : DAt w d size 0 0 src w := ⟨Nat.zero_le _, ⟨[], rfl, by rw [List.drop_zero]; cases decL src <;> rfl, R, hR, hRs, by simp [byteCells]⟩, ⟨rfl, rfl, rfl, Nat.le_refl _, fun _ _ _ => rfl⟩, fun _ => ⟨0, rfl, rfl⟩, Nat.zero_le _⟩
  have hgl : g < w.heap.size := (Array.getElem?_eq_some_iff.1 hE).1
  have hdl : d < w.heap.size := (Array.getElem?_eq_some_iff.1 hR).1
  have HE := Lib.hid hE
  have Hsz := Lib.hid hsz
  have Hs := Lib.hid hs
  have Hl := Lib.hid hl
  have Hnl := Lib.hid hnl
  have Hat := Lib.hid hat
  have e0 : ((m : Int) == 0) = false := by rw [beq_eq_false_iff_ne]; omega
  clear hE hR hsz hs hl hnl hRs hat
  go_enter Tryd.func79, Tryd.ntmps79
  go_upto_region 3 with (fail)
  refine wp_region_lit ?_
  refine wpList_plain rfl (fun K hK => ?_)
  go_simp
  refine hK _ _ ?_
  clear hK K
  refine wpList_plain rfl (fun K hK => ?_)
  go_simp
  refine hK _ _ ?_
  clear hK K
  refine wpList_plain rfl (fun K hK => ?_)
  go_simp
  refine hK _ _ ?_
  clear hK K
  refine wpList_load_mid rfl _ _ rfl g 64 rfl (byteCells (decMap 64)) _ hrange Tryd.underlying170 rfl (by kernel_rfl) ?_
  refine wpList_nil ?_
  generalize Value.agg _ = v20
  simp only [Act.put, List.setIfInBounds_toArray, List.set_cons_zero, List.set_cons_succ]
  clear hrange
  go_upto_block 0 with (fail)
  go_cut [6, 7, 8] (DRel w d size src)
  case first =>
    as_aux_lemma =>
      go_wp2_with (fail)
      go_loopg [6, 7, 8] m (fun gk v6 v7 v8 wr => ∃ p n : Nat, gk + p = m ∧ v6 = .int .i64 (n : Int) ∧ v7 = .nilIface ∧ v8 = .int .i64 (p : Int) ∧ Hid (DAt w d size p n src wr))
      case atStart => exact ⟨0, 0, by omega, rfl, rfl, rfl, Hat.out⟩
      case round =>
        obtain ⟨p, n, hgk, rfl, rfl, rfl, Hd⟩ := hrel
        have hnl := Hd.out.low
        have hi1 : (0 : Int) ≤ (m : Int) - (p : Int) := by omega
        by_cases h8 : 8 ≤ m - p
        · by_cases h9 : 8 ≤ size - n
          · have t1 : (8 : Int) ≤ (m : Int) - (p : Int) := by omega
            have t2 : (8 : Int) ≤ (size : Int) - (n : Int) := by omega
            have hgr := Hd.out.grow
            have hEw : wr.heap[g]? = some (.cells (encRow (decMap 64)).toArray 181 (0, 0)) := (hgr.block g hgl (by simpa using hgd)).trans HE.out
            have hsw := row_grown Hs.out hgr hb hbd
            obtain ⟨x0, x1, x2, x3, x4, x5, x6, x7, t, ht, k0, k1, k2, k3, k4, k5, k6, k7⟩ := eight_at (p := p) hsw (by rw [Hl.out]; omega)
            have m0 := decCell hEw x0
            have m1 := decCell hEw x1
            have m2 := decCell hEw x2
            have m3 := decCell hEw x3
            have m4 := decCell hEw x4
            have m5 := decCell hEw x5
            have m6 := decCell hEw x6
            have m7 := decCell hEw x7
            have Ht := Lib.hid ht
            have HEw := Lib.hid hEw
            clear hgr hEw hsw ht
            have b0 := x0.toNat_lt
            have j0 : (0 : Int) < ((p + 8 - p : Nat) : Int) := by omega
            have b1 := x1.toNat_lt
            have j1 : (1 : Int) < ((p + 8 - p : Nat) : Int) := by omega
            have b2 := x2.toNat_lt
            have j2 : (2 : Int) < ((p + 8 - p : Nat) : Int) := by omega
            have b3 := x3.toNat_lt
            have j3 : (3 : Int) < ((p + 8 - p : Nat) : Int) := by omega
            have b4 := x4.toNat_lt
            have j4 : (4 : Int) < ((p + 8 - p : Nat) : Int) := by omega
            have b5 := x5.toNat_lt
            have j5 : (5 : Int) < ((p + 8 - p : Nat) : Int) := by omega
            have b6 := x6.toNat_lt
            have j6 : (6 : Int) < ((p + 8 - p : Nat) : Int) := by omega
            have b7 := x7.toNat_lt
            have j7 : (7 : Int) < ((p + 8 - p : Nat) : Int) := by omega
            by_cases hall : (figN x0 < 64 ∧ figN x1 < 64 ∧ figN x2 < 64 ∧ figN x3 < 64) ∧ (figN x4 < 64 ∧ figN x5 < 64 ∧ figN x6 < 64 ∧ figN x7 < 64)
            · as_aux_lemma =>
                obtain ⟨⟨f0, f1, f2, f3⟩, f4, f5, f6, f7⟩ := hall
                have c1 := asm64_ok (figN x0) (figN x1) (figN x2) (figN x3) (figN x4) (figN x5) (figN x6) (figN x7) f0 f1 f2 f3 f4 f5 f6 f7
                have v1 := val4_lt f0 f1 f2 f3
                have v2 := val4_lt f4 f5 f6 f7
                have q1 : quant (src.drop p) = some (three (val4 (figN x0) (figN x1) (figN x2) (figN x3))) := by
                  rw [Ht.out]
                  exact quant_quad (by unfold quad; rw [if_pos ⟨f0, f1, f2, f3⟩])
                have q2 : quant (src.drop (p + 4)) = some (three (val4 (figN x4) (figN x5) (figN x6) (figN x7))) := by
                  rw [← List.drop_drop, Ht.out]
                  exact quant_quad (by unfold quad; rw [if_pos ⟨f4, f5, f6, f7⟩])
                generalize val4 (figN x0) (figN x1) (figN x2) (figN x3) = V1 at *
                generalize val4 (figN x4) (figN x5) (figN x6) (figN x7) = V2 at *
                have hb := put64_bytes v1 v2
                have hVl : V1 * 1099511627776 + V2 * 65536 < 18446744073709551616 := by omega
                generalize V1 * 1099511627776 + V2 * 65536 = V at *
                have C1 := Lib.hid c1
                have Q1 := Lib.hid q1
                have Q2 := Lib.hid q2
                have HB := Lib.hid hb
                have HVl := Lib.hid hVl
                clear c1 q1 q2 hb hVl v1 v2
                go_upto_region 7 with (fail)
                simp only [List.append_eq, List.cons_append, List.nil_append]
                go_quiet ((go_at_call 93; exact Calls.quiet_of_same (C1.out _)))
                clear C1 k0 k1 k2 k3 k4 k5 k6 k7 m0 m1 m2 m3 m4 m5 m6 m7 j0 j1 j2 j3 j4 j5 j6 j7
                have hdq : DAt w d size p n src (wr.drewN nq) := Hd.out.drewN nq
                generalize wr.drewN nq = wq at *
                obtain ⟨y, hy, hd, Rq, hRq, hRs, hRt⟩ := hdq.out
                have c2 := put64_any d n (size - n) (size - n) V (Rq.toList.take n) wq Rq hRq rfl (by omega) (by omega) HVl.out
                have Hdq := Lib.hid hdq
                have HRq := Lib.hid hRq
                clear hdq hy hd hRt hRq
                have C2 := Lib.hid c2
                have HRs := Lib.hid hRs
                clear c2 hRs
                go_wp2_with (fail)
                refine C2.out.mono ?_
                clear C2
                rintro e w2 ⟨rfl, hg2, R2, hR2, hs2, ht2⟩
                have hd2 := Hdq.out.step2 (k := 8) (by rw [Hl.out]; exact Hsz.out) Q1.out Q2.out hg2 HRq.out hR2 (by rw [hs2]; exact HRs.out) (by rw [List.length_take, Array.length_toList, HRs.out]; omega) (by rw [three_length, three_length]; omega)
                  (by rw [ht2, HB.out])
                have Hd2 := Lib.hid hd2
                clear hd2 hg2 hR2 hs2 ht2
                go_wp2_with (fail)
                go_roundg (gk - 8)
                case measure => omega
                case rel => exact ⟨p + 8, n + 6, by omega, by go_num, rfl, by go_num, Hd2.out⟩
            · as_aux_lemma =>
                have c1 := asm64_no (figN x0) (figN x1) (figN x2) (figN x3) (figN x4) (figN x5) (figN x6) (figN x7) (figN_or _) (figN_or _) (figN_or _) (figN_or _) (figN_or _) (figN_or _) (figN_or _) (figN_or _) hall
                have C1 := Lib.hid c1
                clear c1 hall
                go_upto_region 7 with (fail)
                simp only [List.append_eq, List.cons_append, List.nil_append]
                go_quiet ((go_at_call 93; exact Calls.quiet_of_same (C1.out _)))
                clear C1 k0 k1 k2 k3 k4 k5 k6 k7 m0 m1 m2 m3 m4 m5 m6 m7 j0 j1 j2 j3 j4 j5 j6 j7
                have hdq : DAt w d size p n src (wr.drewN nq) := Hd.out.drewN nq
                generalize wr.drewN nq = wq at *
                have C2 := Lib.hid (quantum_at g d b o m c2 size p n (some ⟨d, n, none⟩) src w wq hdq HE.out Hsz.out (fun _ => rfl) Hs.out hb Hl.out Hnl.out hbd hgd (by omega) hm)
                clear hdq
                go_wp2_with (fail)
                refine C2.out.mono ?_
                clear C2
                rintro e w2 (⟨j, rfl, hj3, hd2⟩ | ⟨si', n', ev, rfl, hn', hpost⟩)
                · have Hd2 := Lib.hid hd2
                  have hj0 := hd2.low
                  clear hd2
                  go_wp2_with (fail)
                  go_roundg (gk - 4)
                  case measure => omega
                  case rel => exact ⟨p + 4, n + j, by omega, by go_num, rfl, by go_num, Hd2.out⟩
                · have Hpost := Lib.hid hpost
                  clear hpost
                  go_wp2_with (fail)
                  go_ret2
                  simpa using Hpost.out
          · have t1 : (8 : Int) ≤ (m : Int) - (p : Int) := by omega
            have t2 : ¬(8 : Int) ≤ (size : Int) - (n : Int) := by omega
            go_wp2_with (fail)
            go_meet
            case rel => exact ⟨p, n, rfl, rfl, rfl, Hd.out⟩
        · have t1 : ¬(8 : Int) ≤ (m : Int) - (p : Int) := by omega
          go_wp2_with (fail)
          go_meet
          case rel => exact ⟨p, n, rfl, rfl, rfl, Hd.out⟩
  case rest =>
    obtain ⟨p0, n0, rfl, rfl, rfl, hd0⟩ := hcut
    have Hd0 := Lib.hid hd0
    have hp0m : p0 ≤ m := by have := hd0.le; rw [Hl.out] at this; exact this
    clear hd0
    go_upto_block 2 with (fail)
    go_cut [6, 7, 8] (DRel w d size src)
    case first =>
      as_aux_lemma =>
        go_wp2_with (fail)
        go_loopg [6, 7, 8] (m - p0) (fun gk v6 v7 v8 wr => ∃ p n : Nat, gk + p = m ∧ v6 = .int .i64 (n : Int) ∧ v7 = .nilIface ∧ v8 = .int .i64 (p : Int) ∧ Hid (DAt w d size p n src wr))
        case atStart => exact ⟨p0, n0, by omega, rfl, rfl, rfl, Hd0.out⟩
        case round =>
          obtain ⟨p, n, hgk, rfl, rfl, rfl, Hd⟩ := hrel
          have hnl := Hd.out.low
          have hi1 : (0 : Int) ≤ (m : Int) - (p : Int) := by omega
          by_cases h8 : 4 ≤ m - p
          · by_cases h9 : 4 ≤ size - n
            · have t1 : (4 : Int) ≤ (m : Int) - (p : Int) := by omega
              have t2 : (4 : Int) ≤ (size : Int) - (n : Int) := by omega
              have hgr := Hd.out.grow
              have hEw : wr.heap[g]? = some (.cells (encRow (decMap 64)).toArray 181 (0, 0)) := (hgr.block g hgl (by simpa using hgd)).trans HE.out
              have hsw := row_grown Hs.out hgr hb hbd
              obtain ⟨x0, x1, x2, x3, t, ht, k0, k1, k2, k3⟩ := four_at (p := p) hsw (by rw [Hl.out]; omega)
              have m0 := decCell hEw x0
              have m1 := decCell hEw x1
              have m2 := decCell hEw x2
              have m3 := decCell hEw x3
              have Ht := Lib.hid ht
              have HEw := Lib.hid hEw
              clear hgr hEw hsw ht
              have b0 := x0.toNat_lt
              have j0 : (0 : Int) < ((p + 4 - p : Nat) : Int) := by omega
              have b1 := x1.toNat_lt
              have j1 : (1 : Int) < ((p + 4 - p : Nat) : Int) := by omega
              have b2 := x2.toNat_lt
              have j2 : (2 : Int) < ((p + 4 - p : Nat) : Int) := by omega
              have b3 := x3.toNat_lt
              have j3 : (3 : Int) < ((p + 4 - p : Nat) : Int) := by omega
              by_cases hall : figN x0 < 64 ∧ figN x1 < 64 ∧ figN x2 < 64 ∧ figN x3 < 64
              · as_aux_lemma =>
                  obtain ⟨f0, f1, f2, f3⟩ := hall
                  have c1 := asm32_ok (figN x0) (figN x1) (figN x2) (figN x3) f0 f1 f2 f3
                  have v1 := val4_lt f0 f1 f2 f3
                  have q1 : quant (src.drop p) = some (three (val4 (figN x0) (figN x1) (figN x2) (figN x3))) := by
                    rw [Ht.out]
                    exact quant_quad (by unfold quad; rw [if_pos ⟨f0, f1, f2, f3⟩])
                  generalize val4 (figN x0) (figN x1) (figN x2) (figN x3) = V1 at *
                  have hb := put32_bytes v1
                  have hVl : V1 * 256 < 4294967296 := by omega
                  generalize V1 * 256 = V at *
                  have C1 := Lib.hid c1
                  have Q1 := Lib.hid q1
                  have HB := Lib.hid hb
                  have HVl := Lib.hid hVl
                  clear c1 q1 hb hVl v1
                  go_upto_region 19 with (fail)
                  go_quiet ((go_at_call 96; exact Calls.quiet_of_same (C1.out _)))
                  clear C1 k0 k1 k2 k3 m0 m1 m2 m3 j0 j1 j2 j3
                  have hdq : DAt w d size p n src (wr.drewN nq) := Hd.out.drewN nq
                  generalize wr.drewN nq = wq at *
                  obtain ⟨y, hy, hd, Rq, hRq, hRs, hRt⟩ := hdq.out
                  have c2 := put32_any d n (size - n) (size - n) V (Rq.toList.take n) wq Rq hRq rfl (by omega) (by omega) HVl.out
                  have Hdq := Lib.hid hdq
                  have HRq := Lib.hid hRq
                  clear hdq hy hd hRt hRq
                  have C2 := Lib.hid c2
                  have HRs := Lib.hid hRs
                  clear c2 hRs
                  go_wp2_with (fail)
                  refine C2.out.mono ?_
                  clear C2
                  rintro e w2 ⟨rfl, hg2, R2, hR2, hs2, ht2⟩
                  have h2 := take_short (j := (three V1).length) (zs := [.int .u8 0]) (xs := Rq.toList.take n) (ys := byteCells (three V1)) (by rw [ht2, HB.out]) (by rw [List.length_take, Array.length_toList, HRs.out]; omega) (byteCells_length _) (by rw [three_length]; omega)
                  have hd2 := Hdq.out.step (by rw [Hl.out]; exact Hsz.out) Q1.out hg2 HRq.out hR2 (by rw [hs2]; exact HRs.out) h2
                  have Hd2 := Lib.hid hd2
                  clear hd2 hg2 hR2 hs2 ht2 h2
                  go_wp2_with (fail)
                  go_roundg (gk - 4)
                  case measure => omega
                  case rel => exact ⟨p + 4, n + 3, by omega, by go_num, rfl, by go_num, Hd2.out⟩
              · as_aux_lemma =>
                  have c1 := asm32_no (figN x0) (figN x1) (figN x2) (figN x3) (figN_or _) (figN_or _) (figN_or _) (figN_or _) hall
                  have C1 := Lib.hid c1
                  clear c1 hall
                  go_upto_region 19 with (fail)
                  go_quiet ((go_at_call 96; exact Calls.quiet_of_same (C1.out _)))
                  clear C1 k0 k1 k2 k3 m0 m1 m2 m3 j0 j1 j2 j3
                  have hdq : DAt w d size p n src (wr.drewN nq) := Hd.out.drewN nq
                  generalize wr.drewN nq = wq at *
                  have C2 := Lib.hid (quantum_at g d b o m c2 size p n (some ⟨d, n, none⟩) src w wq hdq HE.out Hsz.out (fun _ => rfl) Hs.out hb Hl.out Hnl.out hbd hgd (by omega) hm)
                  clear hdq
                  go_wp2_with (fail)
                  refine C2.out.mono ?_
                  clear C2
                  rintro e w2 (⟨j, rfl, hj3, hd2⟩ | ⟨si', n', ev, rfl, hn', hpost⟩)
                  · have Hd2 := Lib.hid hd2
                    have hj0 := hd2.low
                    have hp4 : p + 4 ≤ m := by have := hd2.le; rw [Hl.out] at this; exact this
                    clear hd2
                    go_wp2_with (fail)
                    go_roundg (gk - 4)
                    case measure => omega
                    case rel => exact ⟨p + 4, n + j, by omega, by go_num, rfl, by go_num, Hd2.out⟩
                  · have Hpost := Lib.hid hpost
                    clear hpost
                    go_wp2_with (fail)
                    go_ret2
                    simpa using Hpost.out
            · have t1 : (4 : Int) ≤ (m : Int) - (p : Int) := by omega
              have t2 : ¬(4 : Int) ≤ (size : Int) - (n : Int) := by omega
              go_wp2_with (fail)
              go_meet
              case rel => exact ⟨p, n, rfl, rfl, rfl, Hd.out⟩
          · have t1 : ¬(4 : Int) ≤ (m : Int) - (p : Int) := by omega
            go_wp2_with (fail)
            go_meet
            case rel => exact ⟨p, n, rfl, rfl, rfl, Hd.out⟩
    case rest =>
      obtain ⟨p1, n1, rfl, rfl, rfl, hd1⟩ := hcut
      have Hd1 := Lib.hid hd1
      have hp1m : p1 ≤ m := by have := hd1.le; rw [Hl.out] at this; exact this
      clear hd1 Hd0
      go_wp2_with (fail)
      go_loopg [6, 7, 8] (m - p1) (fun gk v6 v7 v8 wr => ∃ p n : Nat, gk + p = m ∧ v6 = .int .i64 (n : Int) ∧ v7 = .nilIface ∧ v8 = .int .i64 (p : Int) ∧ Hid (DAt w d size p n src wr))
      case atStart => exact ⟨p1, n1, by omega, rfl, rfl, rfl, Hd1.out⟩
      case round =>
        obtain ⟨p, n, hgk, rfl, rfl, rfl, Hd⟩ := hrel
        have hnl := Hd.out.low
        by_cases hlt : p < m
        · have hlt' : (p : Int) < (m : Int) := by omega
          have C2 := fun Ad hA => Lib.hid (quantum_at g d b o m c2 size p n Ad src w wr Hd.out HE.out Hsz.out hA Hs.out hb Hl.out Hnl.out hbd hgd hlt hm)
          by_cases hn : size = n
          · have C2 := C2 (some ⟨d, 0, none⟩) (fun h => by omega)
            subst hn
            rw [Nat.sub_self] at C2
            go_wp2_with (fail)
            refine C2.out.mono ?_
            clear C2
            rintro e w2 (⟨j, rfl, hj3, hd2⟩ | ⟨si', n', ev, rfl, hn', hpost⟩)
            · have Hd2 := Lib.hid hd2
              have hj0 := hd2.low
              have hp4 : p + 4 ≤ m := by have := hd2.le; rw [Hl.out] at this; exact this
              clear hd2
              go_wp2_with (fail)
              go_roundg (gk - 4)
              case measure => omega
              case rel => exact ⟨p + 4, size + j, by omega, by go_num, rfl, by go_num, Hd2.out⟩
            · have Hpost := Lib.hid hpost
              clear hpost
              go_wp2_with (fail)
              go_ret2
              simpa using Hpost.out
          · have C2 := C2 (some ⟨d, n, none⟩) (fun _ => rfl)
            go_wp2_with (fail)
            refine C2.out.mono ?_
            clear C2
            rintro e w2 (⟨j, rfl, hj3, hd2⟩ | ⟨si', n', ev, rfl, hn', hpost⟩)
            · have Hd2 := Lib.hid hd2
              have hj0 := hd2.low
              have hp4 : p + 4 ≤ m := by have := hd2.le; rw [Hl.out] at this; exact this
              clear hd2
              go_wp2_with (fail)
              go_roundg (gk - 4)
              case measure => omega
              case rel => exact ⟨p + 4, n + j, by omega, by go_num, rfl, by go_num, Hd2.out⟩
            · have Hpost := Lib.hid hpost
              clear hpost
              go_wp2_with (fail)
              go_ret2
              simpa using Hpost.out
        · have hlt' : ¬(p : Int) < (m : Int) := by omega
          go_wp2_with (fail)
          go_ret2
          exact dpost_done Hd.out (by rw [Hl.out]; exact hlt) rfl

end Go.Proofs.YtnnbhklkakhkkaaDoor

/-
  base64 WITH THE STANDARD ALPHABET: writing.
-/
import Derived.Test.YtnnbhklkakhkkaaDoorB64
import Derived.Deep.MidRow
import Derived.Laws.Bits64b
import Derived.Shelf.Strings.FuncGrows
namespace Go.Proofs.YtnnbhklkakhkkaaDoor
open Go.RowKit Go.Lib

/-- a figure -/
def fig (n : Nat) : UInt8 := alphabet.getD (n % 64) 0
/-- four figures for three bytes -/
def enc3 (a b c : UInt8) : List UInt8 :=
  let v := a.toNat * 65536 + b.toNat * 256 + c.toNat
  [fig (v / 262144), fig (v / 4096), fig (v / 64), fig v]
def encL : List UInt8 → List UInt8
  | a :: b :: c :: t => enc3 a b c ++ encL t
  | [a, b] => (enc3 a b 0).take 3 ++ [61]
  | [a] => (enc3 a 0 0).take 2 ++ [61, 61]
  | [] => []

theorem encL_append : ∀ (k : Nat) (l r : List UInt8), l.length = 3 * k → encL (l ++ r) = encL l ++ encL r
  | 0, l, r, h => by
    obtain rfl : l = [] := List.eq_nil_of_length_eq_zero (by omega)
    simp [encL]
  | k + 1, l, r, h => by
    rcases l with _ | ⟨a, _ | ⟨b, _ | ⟨c, t⟩⟩⟩
    · simp at h
    · simp at h; omega
    · simp at h; omega
    · simp only [List.cons_append, encL]
      rw [encL_append k t r (by simp at h; omega), List.append_assoc]

theorem slice_eq {A A' : Option Addr} {a a' b b' : Nat} (h1 : A = A') (h2 : a = a') (h3 : b = b') : Value.slice A a b = .slice A' a' b' := by rw [h1, h2, h3]

/-- a row behind four stores side by side -/
theorem row4 {w : World} {d k : Nat} {R : Array Value} {t : TypeId} (hR : w.heap[d]? = some (.cells R t (0, 0))) (hk : k + 4 ≤ R.size) (a b c e : Value) :
    ∃ R' : Array Value, ((((w.setCell ⟨d, k, none⟩ a).setCell ⟨d, k + 1, none⟩ b).setCell ⟨d, k + 2, none⟩ c).setCell ⟨d, k + 3, none⟩ e).heap[d]? = some (.cells R' t (0, 0)) ∧ R'.size = R.size ∧
      R'.toList.take (k + 4) = R.toList.take k ++ [a, b, c, e] := by
  refine ⟨_, heap_setCell_same _ d (k + 3) _ t e (heap_setCell_same _ d (k + 2) _ t c (heap_setCell_same _ d (k + 1) _ t b (heap_setCell_same _ d k _ t a hR))), by simp, ?_⟩
  apply List.ext_getElem?
  intro j
  simp only [Array.toList_setIfInBounds, List.getElem?_take, List.getElem?_set, List.getElem?_append, List.length_take, Array.length_toList, List.length_set]
  by_cases hj : j < k
  · rw [if_pos (by omega), if_neg (by omega), if_neg (by omega), if_neg (by omega), if_neg (by omega), if_pos (by omega), if_pos hj]
  · rw [if_neg (by omega : ¬j < min k R.size)]
    rw [show min k R.size = k by omega]
    by_cases h4 : j < k + 4
    · rw [if_pos h4]
      obtain rfl | rfl | rfl | rfl : j = k ∨ j = k + 1 ∨ j = k + 2 ∨ j = k + 3 := by omega
      · simp; omega
      · simp; omega
      · simp; omega
      · simp; omega
    · rw [if_neg h4, List.getElem?_eq_none (by simp; omega)]

theorem or1 (x y : Nat) (hx : x < 256) (hy : y < 256) : bits .or .u64 ((x : Int) * 65536) ((y : Int) * 256) = (x : Int) * 65536 + (y : Int) * 256 := by
  have h := bits_or_u64_nat (x * 65536) (y * 256) (by omega) (by omega)
  have e := Nat.two_pow_add_eq_or_of_lt (i := 16) (b := y * 256) (by omega) x
  rw [show 2 ^ 16 * x = x * 65536 by omega] at e
  rw [← e] at h
  simpa using h
theorem or2 (x y z v : Nat) (hx : x < 256) (hy : y < 256) (hz : z < 256) (hv : v = x * 65536 + y * 256 + z) : bits .or .u64 ((x : Int) * 65536 + (y : Int) * 256) (z : Int) = (v : Int) := by
  have h := bits_or_u64_nat (x * 65536 + y * 256) z (by omega) (by omega)
  have e := Nat.two_pow_add_eq_or_of_lt (i := 8) (b := z) (by omega) (x * 256 + y)
  rw [show 2 ^ 8 * (x * 256 + y) = x * 65536 + y * 256 by omega] at e
  rw [← e] at h
  subst hv
  simpa using h
theorem and63 (a : Nat) (ha : a < 18446744073709551616) : bits .and .u64 (a : Int) 63 = ((a % 64 : Nat) : Int) := by
  have h := bits_and_u64_nat a 63 ha (by omega)
  rw [show a &&& 63 = a % 64 from Nat.and_two_pow_sub_one_eq_mod a 6] at h
  simpa using h

theorem encCell {w : World} {g j : Nat} (hE : w.heap[g]? = some (.cells (encRow (decMap 64)).toArray 181 (0, 0))) (hj : j < 64) : w.cell? ⟨g, j, none⟩ = some (.int .u8 ((fig j).toNat : Int)) := by
  rw [cell_of_row w _ _ _ _ _ hE]
  have hx : alphabet[j]? = some (fig j) := by
    unfold fig
    rw [Nat.mod_eq_of_lt hj, List.getD_eq_getElem?_getD, List.getElem?_eq_getElem (by rw [alphabet_length]; exact hj), Option.getD_some]
  simpa using encRow_enc (d := decMap 64) hx
theorem encRange {w : World} {g : Nat} (hE : w.heap[g]? = some (.cells (encRow (decMap 64)).toArray 181 (0, 0))) : w.rangeAt g 0 (byteCells alphabet) := by
  intro j v hv
  rw [Nat.zero_add, cell_of_row w _ _ _ _ _ hE]
  unfold byteCells at hv
  rw [List.getElem?_map] at hv
  cases hx : alphabet[j]? with
  | none => rw [hx] at hv; cases hv
  | some x =>
    rw [hx] at hv
    simp at hv
    subst hv
    simpa using encRow_enc (d := decMap 64) hx

theorem encPad {w : World} {g : Nat} (hE : w.heap[g]? = some (.cells (encRow (decMap 64)).toArray 181 (0, 0))) : w.cell? ⟨g, 320, none⟩ = some (.int .i32 61) := by
  rw [cell_of_row w _ _ _ _ _ hE]
  simpa using encRow_pad (decMap_length 64)

set_option maxHeartbeats 2000000 in
set_option maxRecDepth 100000 in
theorem encode_any (g d n : Nat) (A : Option Addr) (m c : Nat) (src : List UInt8) (w : World) (cur : Array Value)
    (hE : w.heap[g]? = some (.cells (encRow (decMap 64)).toArray 181 (0, 0))) (hD : w.heap[d]? = some (.cells cur 5 (0, 0))) (hn : cur.size = n) (hgd : g < d)
    (hs : Sl w d 1 A m (byteCells src)) (hmc : m ≤ c) (hnm : n = (m + 2) / 3 * 4) (hm : m ≤ 2147483647) (hpos : 0 < m) :
    Calls Tryd.prog 77 #[.pointer (some ⟨g, 0, none⟩), .slice (some ⟨d, 0, none⟩) n n, .slice A m c] w fun e w' =>
      e = .returned (.tuple #[]) ∧ Below d w w' ∧ w'.heap[d]? = some (.cells (byteCells (encL src)).toArray 5 (0, 0)) := by
  have hrange := encRange hE
  have Hnm := Lib.hid hnm
  have HE := Lib.hid hE
  clear hnm hE
  go_enter Tryd.func77, Tryd.ntmps77
  go_upto_region 1 with (fail)
  refine wp_region_lit ?_
  refine wpList_plain rfl (fun K hK => ?_)
  go_simp
  refine hK _ _ ?_
  clear hK K
  refine wpList_plain rfl (fun K hK => ?_)
  go_simp
  refine hK _ _ ?_
  clear hK K
  refine wpList_plain rfl (fun K hK => ?_)
  go_simp
  refine hK _ _ ?_
  clear hK K
  refine wpList_load_mid rfl _ _ rfl g 0 rfl (byteCells alphabet) _ hrange Tryd.underlying179 rfl (by kernel_rfl) ?_
  refine wpList_nil ?_
  generalize Value.agg _ = v15
  simp only [Act.put, List.setIfInBounds_toArray, List.set_cons_zero, List.set_cons_succ]
  clear hrange
  go_wp2_with (fail)
  go_loopw [1, 2] (fun s1 s2 wr => ∃ i : Nat, ∃ A1 A2 : Option Addr, 3 * i ≤ m ∧ s1 = .slice A1 ((n - 4 * i : Nat) : Nat) (n - 4 * i) ∧ s2 = .slice A2 (m - 3 * i) (c - 3 * i) ∧ (0 < n - 4 * i → A1 = some ⟨d, 4 * i, none⟩) ∧
      Sl wr d 1 A2 (m - 3 * i) (byteCells (src.drop (3 * i))) ∧ Below d w wr ∧ ∃ R : Array Value, wr.heap[d]? = some (.cells R 5 (0, 0)) ∧ R.size = n ∧ R.toList.take (4 * i) = byteCells (encL (src.take (3 * i))))
      (fun _ s2 _ => match s2 with | .slice _ l _ => l | _ => 0)
  case atStart => exact ⟨0, _, _, Nat.zero_le _, rfl, rfl, fun _ => rfl, hs, Below.refl _ _, cur, hD, hn, by simp [encL, byteCells]⟩
  case round =>
    obtain ⟨i, A1, A2, hi, rfl, rfl, h1, h2, hb, R, hR, hRn, hRt⟩ := hrel
    have HR := Lib.hid hR
    have HRt := Lib.hid hRt
    clear hR hRt
    by_cases hlt : 3 ≤ m - 3 * i
    · obtain ⟨b, o, rfl, hbd, hc⟩ := h2.2 (by omega)
      have hlen : src.length = m := by have := hs.1; rw [byteCells_length] at this; omega
      obtain ⟨x, y, z, t, ht⟩ : ∃ x y z t, src.drop (3 * i) = x :: y :: z :: t := by
        have : (src.drop (3 * i)).length = m - 3 * i := by rw [List.length_drop, hlen]
        rcases hsd : src.drop (3 * i) with _ | ⟨x, _ | ⟨y, _ | ⟨z, t⟩⟩⟩
        · rw [hsd] at this; simp at this; omega
        · rw [hsd] at this; simp at this; omega
        · rw [hsd] at this; simp at this; omega
        · exact ⟨x, y, z, t, rfl⟩
      have k0 : wr.cell? ⟨b, o, none⟩ = some (.int .u8 (x.toNat : Int)) := hc 0 _ (by rw [ht]; rfl)
      have k1 : wr.cell? ⟨b, o + 1, none⟩ = some (.int .u8 (y.toNat : Int)) := hc 1 _ (by rw [ht]; rfl)
      have k2 : wr.cell? ⟨b, o + 2, none⟩ = some (.int .u8 (z.toNat : Int)) := hc 2 _ (by rw [ht]; rfl)
      have hn4 : 4 ≤ n - 4 * i := by have := Hnm.out; omega
      obtain rfl := h1 (by omega)
      have Ht := Lib.hid ht
      have Hs := Lib.hid hs
      have H2 := Lib.hid h2
      clear ht hs h2 hc h1
      have hx := x.toNat_lt; have hy := y.toNat_lt; have hz := z.toNat_lt
      have g0 : (3 : Int) ≤ ((m - 3 * i : Nat) : Int) := by omega
      obtain ⟨v, hv⟩ : ∃ v, v = x.toNat * 65536 + y.toNat * 256 + z.toNat := ⟨_, rfl⟩
      have hor1 := or1 x.toNat y.toNat hx hy
      have hor2 := or2 x.toNat y.toNat z.toNat v hx hy hz hv
      have hvlt : v < 16777216 := by omega
      have ha1 : bits .and .u64 ((v : Int) / 262144) 63 = ((v / 262144 % 64 : Nat) : Int) := and63 (v / 262144) (by omega)
      have ha2 : bits .and .u64 ((v : Int) / 4096) 63 = ((v / 4096 % 64 : Nat) : Int) := and63 (v / 4096) (by omega)
      have ha3 : bits .and .u64 ((v : Int) / 64) 63 = ((v / 64 % 64 : Nat) : Int) := and63 (v / 64) (by omega)
      have ha4 : bits .and .u64 (v : Int) 63 = ((v % 64 : Nat) : Int) := and63 v (by omega)
      obtain ⟨f1, hf1⟩ : ∃ f, f = v / 262144 % 64 := ⟨_, rfl⟩
      obtain ⟨f2, hf2⟩ : ∃ f, f = v / 4096 % 64 := ⟨_, rfl⟩
      obtain ⟨f3, hf3⟩ : ∃ f, f = v / 64 % 64 := ⟨_, rfl⟩
      obtain ⟨f4, hf4⟩ : ∃ f, f = v % 64 := ⟨_, rfl⟩
      rw [← hf1] at ha1
      rw [← hf2] at ha2
      rw [← hf3] at ha3
      rw [← hf4] at ha4
      have Hv := Lib.hid hv; have Hf1 := Lib.hid hf1; have Hf2 := Lib.hid hf2; have Hf3 := Lib.hid hf3; have Hf4 := Lib.hid hf4
      clear hv hf1 hf2 hf3 hf4
      go_upto_region 3 with (fail)
      go_quiet (fail)
      have hltd : d < wr.heap.size := (Array.getElem?_eq_some_iff.1 HR.out).1
      have hbq : Below wr.heap.size wr (wr.drewN nq) := below_drewNg wr nq
      have hRq := Lib.hid ((hbq.block d hltd).trans HR.out)
      have hEq := (hbq.block g (by omega)).trans ((hb.block g hgd).trans HE.out)
      have hbn := hb.trans (hbq.mono (by omega))
      clear k0 k1 k2 hor1 hor2 hbq
      generalize wr.drewN nq = wq at *
      have l1 : f1 < 64 := by have := Hf1.out; omega
      have l2 : f2 < 64 := by have := Hf2.out; omega
      have l3 : f3 < 64 := by have := Hf3.out; omega
      have l4 : f4 < 64 := by have := Hf4.out; omega
      have e1 := encCell hEq l1
      have e2 := encCell hEq l2
      have e3 := encCell hEq l3
      have e4 := encCell hEq l4
      have l1' : (f1 : Int) < 64 := by omega
      have l2' : (f2 : Int) < 64 := by omega
      have l3' : (f3 : Int) < 64 := by omega
      have l4' : (f4 : Int) < 64 := by omega
      clear hEq
      have hd4 : ∀ j, j < 4 → ∃ u, wq.cell? ⟨d, 4 * i + j, none⟩ = some u ∧ wq.frozen? ⟨d, 4 * i + j, none⟩ = false := fun j hj =>
        ⟨R[4 * i + j]'(by omega), (cell_of_row wq _ _ _ _ _ hRq.out).trans (Array.getElem?_eq_getElem (by omega)), frozen_of_row wq _ _ _ _ hRq.out⟩
      obtain ⟨u0, d0, z0⟩ := hd4 0 (by omega)
      obtain ⟨u1, d1, z1⟩ := hd4 1 (by omega)
      obtain ⟨u2, d2, z2⟩ := hd4 2 (by omega)
      obtain ⟨u3, d3, z3⟩ := hd4 3 (by omega)
      rw [Nat.add_zero] at d0 z0
      clear hd4
      have i0 : (0 : Int) < ((n - 4 * i : Nat) : Int) := by omega
      have i1 : (1 : Int) < ((n - 4 * i : Nat) : Int) := by omega
      have i2 : (2 : Int) < ((n - 4 * i : Nat) : Int) := by omega
      have i3 : (3 : Int) < ((n - 4 * i : Nat) : Int) := by omega
      have hne : g ≠ d := by omega
      have hne' : d ≠ g := by omega
      go_upto_region 9 with (fail)
      have hR4 := row4 hRq.out (k := 4 * i) (by omega) (.int .u8 ((fig f1).toNat : Int)) (.int .u8 ((fig f2).toNat : Int)) (.int .u8 ((fig f3).toNat : Int)) (.int .u8 ((fig f4).toNat : Int))
      have hb4 : Below d w ((((wq.setCell ⟨d, 4 * i, none⟩ (.int .u8 ((fig f1).toNat : Int))).setCell ⟨d, 4 * i + 1, none⟩ (.int .u8 ((fig f2).toNat : Int))).setCell ⟨d, 4 * i + 2, none⟩ (.int .u8 ((fig f3).toNat : Int))).setCell ⟨d, 4 * i + 3, none⟩ (.int .u8 ((fig f4).toNat : Int))) :=
        (((hbn.setCell (Nat.le_refl _) _).setCell (Nat.le_refl _) _).setCell (Nat.le_refl _) _).setCell (Nat.le_refl _) _
      generalize (((wq.setCell ⟨d, 4 * i, none⟩ (.int .u8 ((fig f1).toNat : Int))).setCell ⟨d, 4 * i + 1, none⟩ (.int .u8 ((fig f2).toNat : Int))).setCell ⟨d, 4 * i + 2, none⟩ (.int .u8 ((fig f3).toNat : Int))).setCell ⟨d, 4 * i + 3, none⟩ (.int .u8 ((fig f4).toNat : Int)) = w4 at *
      obtain ⟨R', hR4, hs4, ht4⟩ := hR4
      have HR4 := Lib.hid hR4
      have Ht4 := Lib.hid ht4
      clear hR4 ht4 d0 d1 d2 d3 z0 z1 z2 z3 e1 e2 e3 e4 ha1 ha2 ha3 ha4
      have g3 : (3 : Int) ≤ ((c - 3 * i : Nat) : Int) := by omega
      have g4 : (4 : Int) ≤ ((n - 4 * i : Nat) : Int) := by omega
      have hcc : c - 3 * i = 3 ∨ c - 3 * i ≠ 3 := by omega
      have hnn : n - 4 * i = 4 ∨ n - 4 * i ≠ 4 := by omega
      go_wp2_with (fail)
      go_roundw
      case rel =>
        refine ⟨i + 1, _, _, by omega, slice_eq rfl (by omega) (by omega), slice_eq rfl (by omega) (by omega), fun hp => ?_, ⟨?_, fun hp => ⟨b, o + 3, by rw [if_neg (by omega)], hbd, fun j u hu => ?_⟩⟩, hb4, R', HR4.out, by omega, ?_⟩
        · rw [if_neg (by omega)]; rfl
        · rw [byteCells_length, List.length_drop, hlen]; omega
        · rw [hb4.cell hbd, ← hb.cell hbd, Nat.add_assoc]
          obtain ⟨b', o', e', _, hc'⟩ := H2.out.2 (by omega)
          injection e' with e'
          injection e' with e1' e2'
          subst e1' e2'
          refine hc' (3 + j) u ?_
          rw [← hu]
          unfold byteCells
          rw [List.getElem?_map, List.getElem?_map, List.getElem?_drop, List.getElem?_drop, show 3 * i + (3 + j) = 3 * (i + 1) + j by omega]
        · rw [show 4 * (i + 1) = 4 * i + 4 by omega, Ht4.out, HRt.out, show 3 * (i + 1) = 3 * i + 3 by omega, List.take_add, Ht.out, show (x :: y :: z :: t).take 3 = [x, y, z] from rfl,
            encL_append i _ _ (by rw [List.length_take, hlen]; omega)]
          show _ = byteCells (_ ++ (enc3 x y z ++ []))
          unfold byteCells
          rw [List.map_append, List.append_nil]
          congr 1
          unfold enc3
          rw [← Hv.out, Hf1.out, Hf2.out, Hf3.out, Hf4.out]
          simp [fig]
      case measure => show m - 3 * i - 3 < m - 3 * i; omega
    · have hlen : src.length = m := by have := hs.1; rw [byteCells_length] at this; omega
      have hr : m - 3 * i = 0 ∨ m - 3 * i = 1 ∨ m - 3 * i = 2 := by omega
      rcases hr with hr | hr | hr
      · have g0 : ((m - 3 * i : Nat) : Int) = 0 := by omega
        have Hr := Lib.hid hr
        clear hr h2 hs
        go_wp2_with (fail)
        refine bodyPost_ret (v := .tuple #[]) (by simp [results, Tryd.results77, go_sem]) rfl ⟨rfl, hb, ?_⟩
        rw [HR.out]
        have hn0 : n = 4 * i := by have := Hnm.out; have := Hr.out; omega
        have ht := HRt.out
        rw [List.take_of_length_le (by rw [Array.length_toList]; omega), List.take_of_length_le (by have := Hr.out; omega)] at ht
        rw [← ht]
      · obtain ⟨b, o, rfl, hbd, hc⟩ := h2.2 (by omega)
        obtain ⟨x, ht⟩ : ∃ x, src.drop (3 * i) = [x] := by
          have : (src.drop (3 * i)).length = m - 3 * i := by rw [List.length_drop, hlen]
          rcases hsd : src.drop (3 * i) with _ | ⟨x, _ | ⟨y, t⟩⟩
          · rw [hsd] at this; simp at this; omega
          · exact ⟨x, rfl⟩
          · rw [hsd] at this; simp at this; omega
        have k0 : wr.cell? ⟨b, o, none⟩ = some (.int .u8 (x.toNat : Int)) := hc 0 _ (by rw [ht]; rfl)
        have hn4 : n - 4 * i = 4 := by have := Hnm.out; omega
        obtain rfl := h1 (by omega)
        have Ht := Lib.hid ht
        have hx := x.toNat_lt
        have g0 : ((m - 3 * i : Nat) : Int) = 1 := by omega
        obtain ⟨f1, hf1⟩ : ∃ f, f = x.toNat * 65536 / 262144 % 64 := ⟨_, rfl⟩
        obtain ⟨f2, hf2⟩ : ∃ f, f = x.toNat * 65536 / 4096 % 64 := ⟨_, rfl⟩
        have ha1 : bits .and .u64 ((x.toNat : Int) * 65536 / 262144) 63 = (f1 : Int) := by have := and63 (x.toNat * 65536 / 262144) (by omega); rw [← hf1] at this; simpa using this
        have ha2 : bits .and .u64 ((x.toNat : Int) * 65536 / 4096) 63 = (f2 : Int) := by have := and63 (x.toNat * 65536 / 4096) (by omega); rw [← hf2] at this; simpa using this
        have hEq := (hb.block g hgd).trans HE.out
        have l1 : f1 < 64 := by omega
        have l2 : f2 < 64 := by omega
        have Hf1 := Lib.hid hf1; have Hf2 := Lib.hid hf2
        have e1 := encCell hEq l1
        have e2 := encCell hEq l2
        have e3 := encPad hEq
        have l1' : (f1 : Int) < 64 := by omega
        have l2' : (f2 : Int) < 64 := by omega
        have Hr := Lib.hid hr
        have Hn4 := Lib.hid hn4
        have hd4 : ∀ j, j < 4 → ∃ u, wr.cell? ⟨d, 4 * i + j, none⟩ = some u ∧ wr.frozen? ⟨d, 4 * i + j, none⟩ = false := fun j hj =>
          ⟨R[4 * i + j]'(by omega), (cell_of_row wr _ _ _ _ _ HR.out).trans (Array.getElem?_eq_getElem (by omega)), frozen_of_row wr _ _ _ _ HR.out⟩
        obtain ⟨u0, d0, z0⟩ := hd4 0 (by omega)
        obtain ⟨u1, d1, z1⟩ := hd4 1 (by omega)
        obtain ⟨u2, d2, z2⟩ := hd4 2 (by omega)
        obtain ⟨u3, d3, z3⟩ := hd4 3 (by omega)
        rw [Nat.add_zero] at d0 z0
        have i0 : (0 : Int) < ((n - 4 * i : Nat) : Int) := by omega
        have i1 : (1 : Int) < ((n - 4 * i : Nat) : Int) := by omega
        have i2 : (2 : Int) < ((n - 4 * i : Nat) : Int) := by omega
        have i3 : (3 : Int) < ((n - 4 * i : Nat) : Int) := by omega
        have hne : g ≠ d := by omega
        have hne' : d ≠ g := by omega
        have hR4 := row4 HR.out (k := 4 * i) (by omega) (.int .u8 ((fig f1).toNat : Int)) (.int .u8 ((fig f2).toNat : Int)) (.int .u8 61) (.int .u8 61)
        have hb4 : Below d w ((((wr.setCell ⟨d, 4 * i, none⟩ (.int .u8 ((fig f1).toNat : Int))).setCell ⟨d, 4 * i + 1, none⟩ (.int .u8 ((fig f2).toNat : Int))).setCell ⟨d, 4 * i + 2, none⟩ (.int .u8 61)).setCell ⟨d, 4 * i + 3, none⟩ (.int .u8 61)) :=
          (((hb.setCell (Nat.le_refl _) _).setCell (Nat.le_refl _) _).setCell (Nat.le_refl _) _).setCell (Nat.le_refl _) _
        have HR4 := Lib.hid hR4
        have Hb4 := Lib.hid hb4
        clear hd4 hr hn4 hf1 hf2 ht hc h1 h2 hs hR4 hb4 hEq
        go_wp2_with (fail)
        go_end0
        refine ⟨rfl, Hb4.out, ?_⟩
        obtain ⟨R', hR4, hs4, ht4⟩ := HR4.out
        rw [hR4]
        congr 2
        apply Array.ext'
        have hl : R'.toList.length = 4 * i + 4 := by rw [Array.length_toList, hs4, hRn]; have := Hn4.out; omega
        rw [← List.take_of_length_le (Nat.le_of_eq hl), ht4, HRt.out]
        have hsrc : src = src.take (3 * i) ++ [x] := by rw [← Ht.out, List.take_append_drop]
        conv => rhs; rw [hsrc, encL_append i _ _ (by rw [List.length_take, hlen]; omega)]
        show _ = byteCells (_ ++ ((enc3 x 0 0).take 2 ++ [61, 61]))
        unfold byteCells
        rw [List.map_append]
        congr 1
        unfold enc3
        rw [Hf1.out, Hf2.out]
        simp [fig]
      · obtain ⟨b, o, rfl, hbd, hc⟩ := h2.2 (by omega)
        obtain ⟨x, y, ht⟩ : ∃ x y, src.drop (3 * i) = [x, y] := by
          have : (src.drop (3 * i)).length = m - 3 * i := by rw [List.length_drop, hlen]
          rcases hsd : src.drop (3 * i) with _ | ⟨x, _ | ⟨y, _ | ⟨z, t⟩⟩⟩
          · rw [hsd] at this; simp at this; omega
          · rw [hsd] at this; simp at this; omega
          · exact ⟨x, y, rfl⟩
          · rw [hsd] at this; simp at this; omega
        have k0 : wr.cell? ⟨b, o, none⟩ = some (.int .u8 (x.toNat : Int)) := hc 0 _ (by rw [ht]; rfl)
        have k1 : wr.cell? ⟨b, o + 1, none⟩ = some (.int .u8 (y.toNat : Int)) := hc 1 _ (by rw [ht]; rfl)
        have hn4 : n - 4 * i = 4 := by have := Hnm.out; omega
        obtain rfl := h1 (by omega)
        have Ht := Lib.hid ht
        have hx := x.toNat_lt
        have hy := y.toNat_lt
        have hor1 := or1 x.toNat y.toNat hx hy
        have g0 : ((m - 3 * i : Nat) : Int) = 2 := by omega
        obtain ⟨f1, hf1⟩ : ∃ f, f = (x.toNat * 65536 + y.toNat * 256) / 262144 % 64 := ⟨_, rfl⟩
        obtain ⟨f2, hf2⟩ : ∃ f, f = (x.toNat * 65536 + y.toNat * 256) / 4096 % 64 := ⟨_, rfl⟩
        obtain ⟨f3, hf3⟩ : ∃ f, f = (x.toNat * 65536 + y.toNat * 256) / 64 % 64 := ⟨_, rfl⟩
        have ha1 : bits .and .u64 (((x.toNat : Int) * 65536 + (y.toNat : Int) * 256) / 262144) 63 = (f1 : Int) := by have := and63 ((x.toNat * 65536 + y.toNat * 256) / 262144) (by omega); rw [← hf1] at this; simpa using this
        have ha2 : bits .and .u64 (((x.toNat : Int) * 65536 + (y.toNat : Int) * 256) / 4096) 63 = (f2 : Int) := by have := and63 ((x.toNat * 65536 + y.toNat * 256) / 4096) (by omega); rw [← hf2] at this; simpa using this
        have ha3 : bits .and .u64 (((x.toNat : Int) * 65536 + (y.toNat : Int) * 256) / 64) 63 = (f3 : Int) := by have := and63 ((x.toNat * 65536 + y.toNat * 256) / 64) (by omega); rw [← hf3] at this; simpa using this
        have l1 : f1 < 64 := by omega
        have l2 : f2 < 64 := by omega
        have l3 : f3 < 64 := by omega
        have l1' : (f1 : Int) < 64 := by omega
        have l2' : (f2 : Int) < 64 := by omega
        have l3' : (f3 : Int) < 64 := by omega
        have Hr := Lib.hid hr
        have Hn4 := Lib.hid hn4
        have Hf1 := Lib.hid hf1; have Hf2 := Lib.hid hf2; have Hf3 := Lib.hid hf3
        have i0 : (0 : Int) < ((n - 4 * i : Nat) : Int) := by omega
        have i1 : (1 : Int) < ((n - 4 * i : Nat) : Int) := by omega
        have i2 : (2 : Int) < ((n - 4 * i : Nat) : Int) := by omega
        have i3 : (3 : Int) < ((n - 4 * i : Nat) : Int) := by omega
        have hne : g ≠ d := by omega
        have hne' : d ≠ g := by omega
        clear hr hn4 hf1 hf2 hf3 ht hc h1 h2 hs
        go_upto_region 21 with (fail)
        go_quiet (fail)
        have hltd : d < wr.heap.size := (Array.getElem?_eq_some_iff.1 HR.out).1
        have hbq : Below wr.heap.size wr (wr.drewN nq) := below_drewNg wr nq
        have hRq := Lib.hid ((hbq.block d hltd).trans HR.out)
        have hEq := (hbq.block g (by omega)).trans ((hb.block g hgd).trans HE.out)
        have hbn := hb.trans (hbq.mono (by omega))
        clear k0 k1 hor1 hbq
        generalize wr.drewN nq = wq at *
        have e1 := encCell hEq l1
        have e2 := encCell hEq l2
        have e3 := encCell hEq l3
        have e4 := encPad hEq
        have hd4 : ∀ j, j < 4 → ∃ u, wq.cell? ⟨d, 4 * i + j, none⟩ = some u ∧ wq.frozen? ⟨d, 4 * i + j, none⟩ = false := fun j hj =>
          ⟨R[4 * i + j]'(by have := Hn4.out; omega), (cell_of_row wq _ _ _ _ _ hRq.out).trans (Array.getElem?_eq_getElem (by have := Hn4.out; omega)), frozen_of_row wq _ _ _ _ hRq.out⟩
        obtain ⟨u0, d0, z0⟩ := hd4 0 (by omega)
        obtain ⟨u1, d1, z1⟩ := hd4 1 (by omega)
        obtain ⟨u2, d2, z2⟩ := hd4 2 (by omega)
        obtain ⟨u3, d3, z3⟩ := hd4 3 (by omega)
        rw [Nat.add_zero] at d0 z0
        have hR4 := row4 hRq.out (k := 4 * i) (by have := Hn4.out; omega) (.int .u8 ((fig f1).toNat : Int)) (.int .u8 ((fig f2).toNat : Int)) (.int .u8 ((fig f3).toNat : Int)) (.int .u8 61)
        have hb4 : Below d w ((((wq.setCell ⟨d, 4 * i, none⟩ (.int .u8 ((fig f1).toNat : Int))).setCell ⟨d, 4 * i + 1, none⟩ (.int .u8 ((fig f2).toNat : Int))).setCell ⟨d, 4 * i + 2, none⟩ (.int .u8 ((fig f3).toNat : Int))).setCell ⟨d, 4 * i + 3, none⟩ (.int .u8 61)) :=
          (((hbn.setCell (Nat.le_refl _) _).setCell (Nat.le_refl _) _).setCell (Nat.le_refl _) _).setCell (Nat.le_refl _) _
        have HR4 := Lib.hid hR4
        have Hb4 := Lib.hid hb4
        clear hd4 hR4 hb4 hEq
        go_wp2_with (fail)
        go_end0
        refine ⟨rfl, Hb4.out, ?_⟩
        obtain ⟨R', hR4, hs4, ht4⟩ := HR4.out
        rw [hR4]
        congr 2
        apply Array.ext'
        have hl : R'.toList.length = 4 * i + 4 := by rw [Array.length_toList, hs4, hRn]; have := Hn4.out; omega
        rw [← List.take_of_length_le (Nat.le_of_eq hl), ht4, HRt.out]
        have hsrc : src = src.take (3 * i) ++ [x, y] := by rw [← Ht.out, List.take_append_drop]
        conv => rhs; rw [hsrc, encL_append i _ _ (by rw [List.length_take, hlen]; omega)]
        show _ = byteCells (_ ++ ((enc3 x y 0).take 3 ++ [61]))
        unfold byteCells
        rw [List.map_append]
        congr 1
        unfold enc3
        rw [Hf1.out, Hf2.out, Hf3.out]
        simp [fig]

end Go.Proofs.YtnnbhklkakhkkaaDoor

/-
  The walk of laws.FnLookup: whatever the keys, the name and the hash, the law answers true.
-/
import Derived.Test.YtnnbhklkakhkkaaLookup
namespace Go.Proofs.Ytnnbhklkakhkkaa
open Go.RowKit

theorem goodTo_at {l : List KV} : ∀ {n k : Nat} {x : KV}, goodTo l n = true → k < n → l[k]? = some x → good1 l k x = true
  | 0, _, _, _, h, _ => absurd h (by omega)
  | n + 1, k, x, h, hk, hx => by
    unfold goodTo at h
    rw [Bool.and_eq_true] at h
    rcases Nat.lt_or_ge k n with hlt | hge
    · exact goodTo_at h.1 hlt hx
    · obtain rfl : k = n := by omega
      rw [hx] at h
      exact h.2

theorem find_neg {l : List KV} {a : ByteArray} {x : Int} (h : find l a x < 0) : grp l a x = [] := by
  unfold find at h
  split at h
  · omega
  · next hn =>
    unfold grp
    rw [List.filter_eq_nil_iff]
    intro k hk
    unfold findIdx at hn
    rw [List.findIdx_lt_length] at hn
    simp at hn
    simp
    exact hn k hk

theorem find_nonneg {l : List KV} {a : ByteArray} {x : Int} (h : ¬find l a x < 0) : grp l a x ≠ [] := by
  unfold find at h
  split at h
  · next hn =>
    unfold findIdx at hn
    rw [List.findIdx_lt_length] at hn
    obtain ⟨k, hk, hp⟩ := hn
    intro h0
    unfold grp at h0
    rw [List.filter_eq_nil_iff] at h0
    exact h0 k hk hp
  · omega

/-- in a good list a key is found once at the most -/
theorem good_once {l : List KV} (h : good l = true) (a : ByteArray) (x : Int) : grp l a x = [] ∨ ∃ y, grp l a x = [y] ∧ y.name = a ∧ y.hash = x := by
  unfold good at h
  rw [Bool.and_eq_true] at h
  have key : ∀ m, m ≤ l.length → grp (l.take m) a x = [] ∨ ∃ y, grp (l.take m) a x = [y] ∧ y.name = a ∧ y.hash = x := by
    intro m
    induction m with
    | zero => intro _; exact .inl rfl
    | succ m ih =>
      intro hm
      have hx : l[m]? = some l[m] := List.getElem?_eq_getElem (by omega)
      have hg := goodTo_at h.1 (by omega) hx
      unfold good1 at hg
      rw [Bool.and_eq_true, decide_eq_true_eq] at hg
      rw [grp_take_succ hx]
      by_cases hk : l[m].name = a ∧ l[m].hash = x
      · refine .inr ⟨l[m], ?_, hk⟩
        rw [grp_snoc, if_pos hk, ← hk.1, ← hk.2, find_neg hg.1]
        rfl
      · rw [grp_other hk]
        exact ih (by omega)
  have := key l.length (Nat.le_refl _)
  rwa [List.take_length] at this

set_option maxHeartbeats 1000000 in
theorem fnLookup_any (A : Option Addr) (n c : Nat) (l : List KV) (a : ByteArray) (x : Int) (w : World) (hs : Sl w w.heap.size 4 A n (encAll KV.cells l)) (hn : n ≤ 9223372036854775807)
    (hat : ∀ k ∈ l, k.At w w.heap.size) (hok : ∀ k ∈ l, k.Ok) :
    Calls Try.prog 3 #[.slice A n c, .string a, .int .u32 x] w fun e w' => e = .returned (.bool true) ∧ Below w.heap.size w w' := by
  have c1 := zzFits1_any A n c l w hs hn hat hok
  have Hl := Lib.hid (hs.count KV.cells_length (by omega))
  clear hat hok
  go_enter Try.func3, Try.ntmps3
  go_wp2_with (fail)
  refine c1.mono ?_
  clear c1
  rintro e w1 ⟨rfl, hb1⟩
  have Hs := Lib.hid hs
  clear hs
  cases hf : fits1 l
  · go_wp2_with (fail)
    go_ret
    exact ⟨rfl, hb1⟩
  · have hn2 : n ≤ 2147483647 := by
      unfold fits1 at hf
      rw [Bool.and_eq_true, decide_eq_true_eq, Hl.out] at hf
      exact hf.1
    by_cases hbig : 2147483647 < a.size
    · go_wp2_with (fail)
      go_ret
      exact ⟨rfl, hb1⟩
    · have c2 := keys_any A n c l w1 ((Hs.out.below hb1).more hb1.size) (by omega)
      go_wp2_with (fail)
      refine c2.mono ?_
      clear c2
      rintro e w2 ⟨v, rfl, hown, hb2⟩
      obtain ⟨A2, cp2, rfl, hsl, hc1, hc2⟩ := own_form hown
      clear hown
      have c3 := good_any A2 n cp2 l w2 hsl (by omega) hc1 hc2
      go_wp2_with (fail)
      refine c3.mono ?_
      clear c3
      rintro e w3 ⟨rfl, hb3⟩
      have hb13 : Below w1.heap.size w1 w3 := hb2.trans (hb3.mono hb2.size)
      have hb03 : Below w.heap.size w w3 := hb1.trans (hb13.mono hb1.size)
      cases hg : good l
      · go_wp2_with (fail)
        go_ret
        exact ⟨rfl, hb03⟩
      · have c4 := lookup_any A n c l a x w3 ((Hs.out.below hb03).more hb03.size) (by omega)
        have Hsl := Lib.hid hsl
        have Hg := Lib.hid hg
        clear hsl hg hf
        rcases good_once Hg.out a x with h0 | ⟨y, h0, hy1, hy2⟩
        · rw [h0] at c4
          have hfd : find l a x = -1 := by
            rcases find_cases l a x with h | ⟨p, h⟩
            · exact h
            · exact absurd h0 (find_nonneg (by omega))
          have H0 := Lib.hid h0
          clear h0
          simp only [lookupVal] at c4
          go_wp2_with (fail)
          refine c4.mono ?_
          clear c4
          rintro e w4 ⟨rfl, hb4⟩
          have hb04 : Below w.heap.size w w4 := hb03.trans (hb4.mono hb03.size)
          have hb24 : Below w2.heap.size w2 w4 := hb3.trans (hb4.mono hb3.size)
          have hba : ∀ o, Below w4.heap.size w4 (w4.alloc o) := fun o => (Below.refl _ _).alloc (Nat.le_refl _) o
          have c5 := find_any A2 n cp2 l a x (w4.alloc (.cells #[.string ⟨#[]⟩, .int .u32 0, .slice none 0 0, .slice none 0 0] 30)) (((Hsl.out.below hb24).below ((hba _).mono hb24.size)).more (by have := hb24.size; simp; omega)) (by omega)
          rw [hfd] at c5
          have Hfd := Lib.hid hfd
          clear hfd
          go_wp2_with (fail)
          refine c5.mono ?_
          clear c5
          rintro e w5 ⟨rfl, hb5⟩
          have hb05 : Below w.heap.size w w5 := hb04.trans (((hba _).mono hb04.size).trans (hb5.mono (by have := hb04.size; simp; omega)))
          clear hba hb5 hb24 hb13 hb1 hb2 hb3 hb4 hb04 hb03
          go_wp2_with (fail)
          go_ret
          exact ⟨rfl, hb05⟩
        · obtain ⟨p, hfd⟩ : ∃ p : Nat, find l a x = p := by
            rcases find_cases l a x with h | h
            · have := find_neg (l := l) (a := a) (x := x) (by omega)
              rw [h0] at this
              cases this
            · exact h
          rw [h0] at c4
          clear h0
          subst hy1 hy2
          simp only [lookupVal] at c4
          go_wp2_with (fail)
          refine c4.mono ?_
          clear c4
          rintro e w4 ⟨rfl, hb4⟩
          have hb04 : Below w.heap.size w w4 := hb03.trans (hb4.mono hb03.size)
          have hb24 : Below w2.heap.size w2 w4 := hb3.trans (hb4.mono hb3.size)
          have hba : ∀ o, Below w4.heap.size w4 (w4.alloc o) := fun o => (Below.refl _ _).alloc (Nat.le_refl _) o
          have c5 := find_any A2 n cp2 l y.name y.hash (w4.alloc (.cells #[.string y.name, .int .u32 y.hash, .slice none 0 0, .slice none 0 0] 30)) (((Hsl.out.below hb24).below ((hba _).mono hb24.size)).more (by have := hb24.size; simp; omega)) (by omega)
          rw [hfd] at c5
          have Hfd := Lib.hid hfd
          clear hfd
          go_wp2_with (fail)
          refine c5.mono ?_
          clear c5
          rintro e w5 ⟨rfl, hb5⟩
          have hb05 : Below w.heap.size w w5 := hb04.trans (((hba _).mono hb04.size).trans (hb5.mono (by have := hb04.size; simp; omega)))
          have k0 : w5.heap[w4.heap.size]? = some (.cells #[.string y.name, .int .u32 y.hash, .slice none 0 0, .slice none 0 0] 30 (0, 0)) := (hb5.block _ (by simp)).trans (heap_alloc_new w4 _)
          have q0 := cell_of_row _ _ 0 _ _ _ k0
          have q1 := cell_of_row _ _ 1 _ _ _ k0
          simp at q0 q1
          clear hba hb5 hb24 hb13 hb1 hb2 hb3 hb4 hb04 hb03 k0
          go_wp2_with (fail)
          go_ret
          exact ⟨rfl, hb05⟩

end Go.Proofs.Ytnnbhklkakhkkaa

/-
  The walk of laws.FnLookupTwice: whatever the keys and the key, the law answers true.
-/
import Derived.Test.YtnnbhklkakhkkaaFnLookup
import Derived.Test.YtnnbhklkakhkkaaAppend
import Derived.Deep.DeepCutAuto
namespace Go.Proofs.Ytnnbhklkakhkkaa
open Go.RowKit

theorem keyInfo : (Try.prog.info? 30).map (fun i => (i.zero, i.size, i.bytes)) = some (some (.agg #[.string .empty, .int .u32 0, .slice none 0 0, .slice none 0 0]), 4, 72) := by kernel_rfl

theorem oneCells_all (l : List KV) : ∀ u ∈ encAll KV.cells l, u.oneCell' = true := by
  intro u hu
  unfold encAll at hu
  rw [List.mem_flatMap] at hu
  obtain ⟨k, _, hk⟩ := hu
  exact k.oneCells u hk

theorem lookupVal_two {l : List KV} (h : 2 ≤ l.length) : lookupVal l = .tuple #[.agg #[.string ⟨#[]⟩, .int .u32 0, .slice none 0 0, .slice none 0 0], .bool false, .bool false] := by
  match l, h with
  | _ :: _ :: _, _ => rfl

/-- the key is twice in the list -/
theorem grp_twice (k : KV) (l : List KV) : 2 ≤ (grp ([k] ++ l ++ [k]) k.name k.hash).length := by
  simp [grp]

theorem lookup_twice (A : Option Addr) (n c : Nat) (l : List KV) (k : KV) (w : World) (hs : Sl w w.heap.size 4 A (1 + n + 1) ((k.cells ++ encAll KV.cells l) ++ k.cells)) (hn : n ≤ 2147483647) :
    Calls Try.prog 8 #[.slice A (1 + n + 1) c, .string k.name, .int .u32 k.hash] w fun e w' =>
      e = .returned (.tuple #[.agg #[.string ⟨#[]⟩, .int .u32 0, .slice none 0 0, .slice none 0 0], .bool false, .bool false]) ∧ Below w.heap.size w w' := by
  have h := lookup_any A (1 + n + 1) c ([k] ++ l ++ [k]) k.name k.hash w (by simpa [encAll] using hs) (by omega)
  rwa [lookupVal_two (grp_twice k l)] at h

theorem lookup_alone (A : Option Addr) (c : Nat) (k : KV) (w : World) (hs : Sl w w.heap.size 4 A 1 k.cells) :
    Calls Try.prog 8 #[.slice A 1 c, .string k.name, .int .u32 k.hash] w fun e w' =>
      e = .returned (.tuple #[.agg #[.string k.name, .int .u32 k.hash, .slice none 0 0, .slice none 0 0], .bool true, .bool false]) ∧ Below w.heap.size w w' := by
  have h := lookup_any A 1 c [k] k.name k.hash w (by simpa [encAll] using hs) (by omega)
  rwa [show grp [k] k.name k.hash = [k] by simp [grp]] at h

theorem far {w4 w6 w w7 : World} (hb6 : Below w4.heap.size w4 w6) (hb7 : Below w.heap.size w w7) (h : Below w6.heap.size w6 w) : Below w4.heap.size w4 w7 :=
  (hb6.trans (h.mono hb6.size)).trans (hb7.mono (Nat.le_trans hb6.size h.size))

/-- the key's own variable -/
theorem box4 {w w' : World} {a b c d : Value} {t : TypeId} (hb : Below (w.alloc (.cells #[a, b, c, d] t)).heap.size (w.alloc (.cells #[a, b, c, d] t)) w') :
    w'.cell? ⟨w.heap.size, 0, none⟩ = some a ∧ w'.cell? ⟨w.heap.size, 1, none⟩ = some b ∧ w'.cell? ⟨w.heap.size, 2, none⟩ = some c ∧ w'.cell? ⟨w.heap.size, 3, none⟩ = some d := by
  have key : ∀ j v, #[a, b, c, d][j]? = some v → w'.cell? ⟨w.heap.size, j, none⟩ = some v := fun j v hv => by
    rw [hb.cell (by simp)]
    exact (cell_of_row _ _ j _ _ _ (heap_alloc_new w _)).trans hv
  exact ⟨key 0 _ rfl, key 1 _ rfl, key 2 _ rfl, key 3 _ rfl⟩

set_option maxHeartbeats 4000000 in
theorem fnTwice_any (A : Option Addr) (n c : Nat) (l : List KV) (k : KV) (w : World) (hs : Sl w w.heap.size 4 A n (encAll KV.cells l)) (hn : n ≤ 9223372036854775807)
    (hat : ∀ k ∈ l, k.At w w.heap.size) (hok : ∀ k ∈ l, k.Ok) (hkat : k.At w w.heap.size) (hkok : k.Ok) :
    Calls Try.prog 4 #[.slice A n c, k.val] w fun e w' => e = .returned (.bool true) ∧ Below w.heap.size w w' := by
  obtain ⟨nm, hs', ta, tn, tc, sa, sn, sc, ts, ss⟩ := k
  have hw : ∀ o, Below w.heap.size w (w.alloc o) := fun o => (Below.refl _ _).alloc (Nat.le_refl _) o
  have c1 := zzFits1_any A n c l (w.alloc (.cells #[.string nm, .int .u32 hs', .slice ta tn tc, .slice sa sn sc] 30)) ((hs.below (hw _)).more (by simp)) hn
    (fun k hk => ((hat k hk).below (hw _)).more (by simp)) hok
  have Hl := Lib.hid (hs.count KV.cells_length (by omega))
  have hw0 := hw (.cells #[.string nm, .int .u32 hs', .slice ta tn tc, .slice sa sn sc] 30)
  have Hs := Lib.hid hs
  have Hk := Lib.hid hkat
  have Hko := Lib.hid hkok
  clear hat hok hs hkat hkok hw
  dsimp only [KV.val]
  go_enter Try.func4, Try.ntmps4
  go_wp2_with (fail)
  refine c1.mono ?_
  clear c1
  rintro e w1 ⟨rfl, hb1⟩
  obtain ⟨q0, q1, q2, q3⟩ := box4 hb1
  have hb01 : Below w.heap.size w w1 := hw0.trans (hb1.mono hw0.size)
  cases hf : fits1 l
  · go_wp2_with (fail)
    go_ret
    exact ⟨rfl, hb01⟩
  · have hn2 : n ≤ 2147483647 := by
      unfold fits1 at hf
      rw [Bool.and_eq_true, decide_eq_true_eq, Hl.out] at hf
      exact hf.1
    have c2 := zzFits2_any ⟨nm, hs', ta, tn, tc, sa, sn, sc, ts, ss⟩ w1 ((Hk.out.below hb01).more hb01.size) Hko.out
    dsimp only [KV.val] at c2
    go_wp2_with (fail)
    refine c2.mono ?_
    clear c2
    rintro e w2 ⟨rfl, hb2⟩
    have hb12 := hb1.trans (hb2.mono hb1.size)
    have hb02 : Below w.heap.size w w2 := hw0.trans (hb12.mono hw0.size)
    clear q0 q1 q2 q3
    obtain ⟨q0, q1, q2, q3⟩ := box4 hb12
    cases hf2 : fits2 ⟨nm, hs', ta, tn, tc, sa, sn, sc, ts, ss⟩
    · go_wp2_with (fail)
      go_ret
      exact ⟨rfl, hb02⟩
    · have c3 := keys_any A n c l w2 ((Hs.out.below hb02).more hb02.size) (by omega)
      go_wp2_with (fail)
      refine c3.mono ?_
      clear c3
      rintro e w3 ⟨v, rfl, hown, hb3⟩
      obtain ⟨A2, cp2, rfl, hsl, hc1, hc2⟩ := own_form hown
      clear hown
      have c4 := good_any A2 n cp2 l w3 hsl (by omega) hc1 hc2
      clear hsl
      go_wp2_with (fail)
      refine c4.mono ?_
      clear c4
      rintro e w4 ⟨rfl, hb4⟩
      have hb24 := hb3.trans (hb4.mono hb3.size)
      have hb14 := hb12.trans (hb24.mono hb12.size)
      have hb04 : Below w.heap.size w w4 := hw0.trans (hb14.mono hw0.size)
      clear q0 q1 q2 q3
      obtain ⟨q0, q1, q2, q3⟩ := box4 hb14
      cases hg : good l
      · go_wp2_with (fail)
        go_ret
        exact ⟨rfl, hb04⟩
      · clear hg hf hf2 hb12 hb3 hb24 hb2 hb1 hb01 hb02
        have hlt : w.heap.size < w4.heap.size := by have := hb14.size; simp at this; omega
        go_upto_region 5 with (fail)
        go_cut [6, 7] (fun s6 s7 wc => s6 = .bool false ∧ s7 = .bool false ∧ Below w4.heap.size w4 wc)
        case first =>
          have Hsl := Lib.hid ((Hs.out.below hb04).more hb04.size)
          clear hb14 hb04 hb4 hw0
          have hS : ∀ {w'}, Below w4.heap.size w4 w' → (w'.cell? ⟨w.heap.size, 0, none⟩ = some (.string nm) ∧ w'.cell? ⟨w.heap.size, 1, none⟩ = some (.int .u32 hs') ∧
              w'.cell? ⟨w.heap.size, 2, none⟩ = some (.slice ta tn tc) ∧ w'.cell? ⟨w.heap.size, 3, none⟩ = some (.slice sa sn sc)) ∧ Below w4.heap.size w4 w' := fun hb =>
            ⟨⟨(hb.cell hlt).trans q0, (hb.cell hlt).trans q1, (hb.cell hlt).trans q2, (hb.cell hlt).trans q3⟩, hb⟩
          obtain ⟨i0, hi0, hz0, hz1, hz2⟩ := info_parts keyInfo
          go_region_held3 (fun w' => (w'.cell? ⟨w.heap.size, 0, none⟩ = some (.string nm) ∧ w'.cell? ⟨w.heap.size, 1, none⟩ = some (.int .u32 hs') ∧
              w'.cell? ⟨w.heap.size, 2, none⟩ = some (.slice ta tn tc) ∧ w'.cell? ⟨w.heap.size, 3, none⟩ = some (.slice sa sn sc)) ∧ Below w4.heap.size w4 w')
            ((refine hS ?_
              repeat first | exact Below.refl _ _ | assumption | apply Below.drew | apply alloc_b | refine set_b hsz5 ?_ | refine set_b (Nat.le_succ_of_le hsz5) ?_ | refine set_b hsz6 ?_ | refine set_b hsz7 ?_ | (refine set_b ?_ ?_; focus simp <;> omega)))
            (first
              | (go_at_call 8
                 refine (lookup_twice _ n cap6 l ⟨nm, hs', ta, tn, tc, sa, sn, sc, ts, ss⟩ _ ?_ hn2).mono ?_
                 · refine Sl.of_own (base := w4.heap.size) (e := 30) (c := cap6) ?_
                   repeat first | exact hown6 | apply own_drew | apply own_alloc
                 rintro e w7 ⟨rfl, hb7⟩
                 have hb07 := far hb6 hb7 (by repeat first | exact Below.refl _ _ | apply Below.drew | apply alloc_b)
                 have hsz7 := hb07.size
                 go_wp2_with fail
                 first
                   | (refine at_slot (w0 := w4) (o := .cells #[.string ⟨#[]⟩, .int .u32 0, .slice none 0 0, .slice none 0 0] 30 (0, 0)) (.tmp 5) (by rfl) ?_ ?_
                      · refine Mine.below hb7 ?_
                        repeat first | exact hb5 | exact hb6 | exact Below.refl _ _ | (refine Mine.new ?_ ?_; focus simp <;> omega) | (refine Mine.grown hgrow6 ?_ ?_; focus omega) | (refine Mine.grown hgrow5 ?_ ?_; focus omega) | apply Mine.drew | apply Mine.alloc | apply Below.drew | apply alloc_b
                      intro m5
                      obtain ⟨⟨z0, z1, z2, z3⟩, y0, y1, y2, y3⟩ := m5.four
                      clear m5)
                   | skip)
              | (refine step_append_sl (by rfl) _ _ _ (by rfl) w4 30 i0 _ 4 72 Try.underlying22 hi0 hz0 hz1 hz2 rfl (by omega) 1 [.string nm, .int .u32 hs', .slice ta tn tc, .slice sa sn sc] (by rfl) (by omega) n (encAll KV.cells l) (by rfl)
                    (oneCells_all l) (by simp only [maxLen]; omega) (by omega) ?_ (Mine.own (cs := #[.string nm, .int .u32 hs', .slice ta tn tc, .slice sa sn sc]) ?_ rfl (by decide)) (Hsl.out.far ?_) ?_
                 · repeat first | exact Below.refl _ _ | apply Below.drew | apply alloc_b
                 · repeat first | exact Below.refl _ _ | (refine Mine.new ?_ ?_; focus simp <;> omega) | apply Mine.drew | apply Mine.alloc | apply Below.drew | apply alloc_b
                 · repeat first | exact Below.refl _ _ | apply Below.drew | apply alloc_b
                 intro g5 cap5 w5 hown5 hgrow5 hat5 hlt5 hb5
                 have hsz5 := hb5.size
                 try simp at hat5)
              | (refine step_append_sl (by rfl) _ _ _ (by rfl) w4 30 i0 _ 4 72 Try.underlying22 hi0 hz0 hz1 hz2 rfl (by omega) (1 + n) ([.string nm, .int .u32 hs', .slice ta tn tc, .slice sa sn sc] ++ encAll KV.cells l) (by rfl) (by omega) 1 [.string nm, .int .u32 hs', .slice ta tn tc, .slice sa sn sc] (by rfl)
                    (KV.oneCells ⟨nm, hs', ta, tn, tc, sa, sn, sc, ts, ss⟩) (by simp only [maxLen]; omega) (by omega) ?_ ?_ (Mine.sl (cs := #[.string nm, .int .u32 hs', .slice ta tn tc, .slice sa sn sc]) (w0 := w4) (e := 30) ?_ rfl) ?_
                 · repeat first | exact hb5 | apply Below.drew | apply alloc_b
                 · repeat first | exact hown5 | apply own_drew | apply own_alloc
                 · repeat first | exact hb5 | exact Below.refl _ _ | (refine Mine.new ?_ ?_; focus simp <;> omega) | (refine Mine.grown hgrow5 ?_ ?_; focus omega) | apply Mine.drew | apply Mine.alloc | apply Below.drew | apply alloc_b
                 intro g6 cap6 w6 hown6 hgrow6 hat6 hlt6 hb6
                 have hsz6 := hb6.size
                 try simp at hat6))
          all_goals
            go_wp2_with fail
            go_meet
            case rel =>
              refine ⟨rfl, rfl, ?_⟩
              apply And.right
              assumption
        case rest =>
          obtain ⟨rfl, rfl, hb5⟩ := hcut
          have hb45 := hb4.trans (hb5.mono hb4.size)
          have hb15 := hb14.trans (hb5.mono hb14.size)
          have hb05 : Below w.heap.size w wc := hw0.trans (hb15.mono hw0.size)
          clear q0 q1 q2 q3
          obtain ⟨q0, q1, q2, q3⟩ := box4 hb15
          have hnew : Below wc.heap.size wc (wc.alloc (.cells #[.string nm, .int .u32 hs', .slice ta tn tc, .slice sa sn sc] 30)) := (Below.refl _ _).alloc (Nat.le_refl _) _
          have c6 := lookup_alone (some ⟨wc.heap.size, 0, none⟩) 1 ⟨nm, hs', ta, tn, tc, sa, sn, sc, ts, ss⟩ (wc.alloc (.cells #[.string nm, .int .u32 hs', .slice ta tn tc, .slice sa sn sc] 30))
            (Mine.sl (w0 := wc) (e := 30) (cs := #[.string nm, .int .u32 hs', .slice ta tn tc, .slice sa sn sc]) (Mine.new rfl (Below.refl _ _)) rfl)
          dsimp only at c6
          obtain ⟨p0, p1, _, _⟩ := box4 (hb15.trans (hnew.mono hb15.size))
          clear hb14 hb04 hb4 hb45 hb5
          go_wp2_with (fail)
          refine c6.mono ?_
          clear c6
          rintro e w6 ⟨rfl, hb6⟩
          have hb06 : Below w.heap.size w w6 := hb05.trans ((hnew.mono hb05.size).trans (hb6.mono (Nat.le_trans hb05.size hnew.size)))
          clear q0 q1 q2 q3 p0 p1 hb05 hb15 hnew hb6
          go_wp2_with (fail)
          go_ret
          refine ⟨rfl, ?_⟩
          repeat first | exact hb06 | apply Below.drew | (refine Below.setCell ?_ ?_ _) | (refine Below.alloc ?_ ?_ _) | exact hb06.size

end Go.Proofs.Ytnnbhklkakhkkaa

/-
  The walk of note.VerifierList: the verifiers by name and hash, in a map of slices.
-/
import Derived.Test.YtnnbhklkakhkkaaDoorGroups
namespace Go.Proofs.YtnnbhklkakhkkaaDoor
open Go.RowKit

theorem run_zero_vs (w : World) : (zeroValue 100).run Tryd.prog w = .ok (.slice none 0 0) w := by kernel_rfl

theorem vCells_elem {w : World} {B n k : Nat} {A : Option Addr} {l : List KV} (h : Sl w B 1 A n (vCells l)) (hk : k < n) :
    ∃ b o x, A = some ⟨b, o, none⟩ ∧ b < B ∧ l[k]? = some x ∧ w.cell? ⟨b, o + k, none⟩ = some x.iface := by
  obtain ⟨b, o, e, hb, hc⟩ := h.2 (by omega)
  have hl : k < l.length := by have := h.1; simp [vCells] at this; omega
  refine ⟨b, o, l[k], e, hb, List.getElem?_eq_getElem hl, hc k _ ?_⟩
  simp [vCells, hl]

theorem grp_take_succ {l : List KV} {k : Nat} {x : KV} (h : l[k]? = some x) : l.take (k + 1) = l.take k ++ [x] := by rw [List.take_add_one, h]; rfl

/-- what the map of note.VerifierList is good for -/
def VMap (w : World) (B : Nat) (l : List KV) : Prop := ∃ base L, VGroups w base B l L
theorem VMap.below {w w' : World} {B : Nat} {l : List KV} (h : VMap w B l) (hb : Below w.heap.size w w') : VMap w' B l := by
  obtain ⟨base, L, h⟩ := h
  exact ⟨base, L, h.below hb⟩
theorem VMap.lt {w : World} {B : Nat} {l : List KV} (h : VMap w B l) : B < w.heap.size := by
  obtain ⟨base, L, h⟩ := h
  exact h.map.lt

set_option maxHeartbeats 1000000 in
theorem list_any (A : Option Addr) (n c : Nat) (l : List KV) (w : World) (hs : Sl w w.heap.size 1 A n (vCells l)) (hn : n ≤ 2147483660) :
    Calls Tryd.prog 46 #[.slice A n c] w fun e w' => e = .returned (.iface 156 (.map (some w.heap.size))) ∧ VMap w' w.heap.size l ∧ Below w.heap.size w w' := by
  have hmm := @run_makeMap Tryd.prog
  obtain ⟨i0, hi, hz0, hz1, hz2⟩ := info_parts ifaceInfo
  have Hl : Hid (l.length = n) := by have := hs.1; simp [vCells] at this; exact this
  go_enter Tryd.func46, Tryd.ntmps46
  go_wp2
  clear hmm
  go_loopw [10] (fun i wr => ∃ k : Nat, k ≤ n ∧ i = .int .i64 k ∧ Below w.heap.size w wr ∧ ∃ L, Hid (VGroups wr (w.heap.size + 1) w.heap.size (l.take k) L)) (fun i _ => n - (intOf i).toNat)
  case atStart => exact ⟨0, Nat.zero_le _, rfl, (Below.refl _ _).alloc (Nat.le_refl _) _, [], VGroups.nil (heap_alloc_new w _)⟩
  case round =>
    obtain ⟨k, hk, rfl, hb, L, hG⟩ := hrel
    by_cases hlt : k < n
    · obtain ⟨b, o, x, rfl, hblt, hx, hc⟩ := vCells_elem (hs.below hb) hlt
      have Hx := Lib.hid hx
      clear hx hs
      have cN := vName_any x wr
      dsimp only [KV.iface, KV.val] at hc cN
      have m1 := vName_method
      have m2 := vHash_method
      go_wp2_with (fail)
      refine cN.mono ?_
      clear cN
      rintro e w1 ⟨rfl, hb1⟩
      have cH := vHash_any x w1
      dsimp only [KV.val] at cH
      go_wp2_with (fail)
      refine cH.mono ?_
      clear cH m1 m2
      rintro e w2 ⟨rfl, hb2⟩
      have hb02 : Below wr.heap.size wr w2 := hb1.trans (hb2.mono hb1.size)
      have hbw2 : Below w.heap.size w w2 := hb.trans (hb02.mono hb.size)
      have hG2 : VGroups w2 (w.heap.size + 1) w.heap.size (l.take k) L := hG.out.below hb02
      have hGa : VGroups ((w2.alloc (.cells #[.string x.name, .int .u32 x.hash] 125)).alloc (.cells #[.iface 158 (.agg #[.string x.name, .int .u32 x.hash, .slice x.ta x.tn x.tc, .slice x.sa x.sn x.sc])] 150))
        (w.heap.size + 1) w.heap.size (l.take k) L := hG2.below (((Below.refl _ _).alloc (Nat.le_refl _) _).alloc (by simp) _)
      have hnews : ∀ j u, [x.iface][j]? = some u → ((w2.alloc (.cells #[.string x.name, .int .u32 x.hash] 125)).alloc (.cells #[.iface 158 (.agg #[.string x.name, .int .u32 x.hash, .slice x.ta x.tn x.tc, .slice x.sa x.sn x.sc])] 150)).cell? ((⟨w2.heap.size + 1, 0, none⟩ : Addr).add j) = some u := new_cells (by simp)
      have hsz : ((w2.alloc (.cells #[.string x.name, .int .u32 x.hash] 125)).alloc (.cells #[.iface 158 (.agg #[.string x.name, .int .u32 x.hash, .slice x.ta x.tn x.tc, .slice x.sa x.sn x.sc])] 150)).heap.size = w2.heap.size + 2 := by simp
      have hbW : Below w.heap.size w ((w2.alloc (.cells #[.string x.name, .int .u32 x.hash] 125)).alloc (.cells #[.iface 158 (.agg #[.string x.name, .int .u32 x.hash, .slice x.ta x.tn x.tc, .slice x.sa x.sn x.sc])] 150)) := (hbw2.alloc hbw2.size _).alloc (by have := hbw2.size; simp; omega) _
      clear hG hG2 hb02 hb1 hb2 hc
      have HGa := Lib.hid hGa
      cases hp : place L x.name x.hash with
      | some i =>
        obtain ⟨e, he, hn1, hn2⟩ := place_lt hp
        have hme := run_mapEntry_found hGa.map Tryd.underlying156 hp he
        obtain ⟨hown, _⟩ := hGa.own e (List.mem_of_getElem? he)
        have hlen : (grp (l.take k) e.name e.hash).length ≤ k := by
          unfold grp
          exact Nat.le_trans (List.length_filter_le _ _) (by rw [List.length_take]; omega)
        dsimp only [nh] at hme
        have Hp := Lib.hid hp
        have He := Lib.hid he
        have Hn := Lib.hid (And.intro hn1 hn2)
        have Hnews := Lib.hid hnews
        have Hsz := Lib.hid hsz
        clear hp he hn1 hn2 hGa hnews hsz
        generalize hW : (w2.alloc (.cells #[.string x.name, .int .u32 x.hash] 125)).alloc (.cells #[.iface 158 (.agg #[.string x.name, .int .u32 x.hash, .slice x.ta x.tn x.tc, .slice x.sa x.sn x.sc])] 150) = W at *
        go_wp2_with (at_builtin; refine wpList_append_own_at _ rfl _ _ 100 rfl (w.heap.size + 1) 150 i0 _ 1 16 Tryd.underlying100 hi hz0 hz1 hz2 rfl (by decide) _ _ _ rfl hown ⟨w2.heap.size + 1, 0, none⟩ 1 1 [x.iface] rfl rfl Hnews.out ?c2 ?c3 ?c4 ?c5 ?_)
        case c2 => simp [KV.iface, Value.oneCell']
        case c3 => simp only [maxLen]; omega
        case c4 => omega
        case c5 => have := hbw2.size; have := Hsz.out; omega
        intro v' w3 hown' hgrow _ hat
        have hg2 := HGa.out.more He.out Hn.out hown' hgrow hat
        have hb3 : Below w.heap.size w w3 := below_own hbW ⟨hown.1, hown.2.imp id fun ⟨g, cap, cur, h1, h2, h3⟩ => ⟨g, cap, cur, h1, Nat.le_of_succ_le h2, h3⟩⟩ hgrow (Nat.le_refl _)
        have hb4 : Below w.heap.size w (setMap w3 w.heap.size (L.set i { e with val := v' })) := setMap_below hb3 (Nat.le_refl _)
        have hes : (Instr.entryStore 156 (.map (some w.heap.size)) (.int .i64 i) v').run Tryd.prog w3 = .ok () (setMap w3 w.heap.size (L.set i { e with val := v' })) := by
          rw [run_entryStore_nh (L := L) ?_ He.out v', setMap, List.length_set]
          exact (hgrow.block w.heap.size HGa.out.map.lt (fun q => own_ne_map HGa.out.map hown q.symm)).trans HGa.out.map
        have Hg2 := Lib.hid hg2
        have Hb4 := Lib.hid hb4
        clear hg2 hb3 hb4 hown' hgrow hat hown hme hbW
        generalize setMap w3 w.heap.size (L.set i { e with val := v' }) = w4 at *
        go_wp2
        go_roundw
        case rel => exact ⟨k + 1, by omega, by go_num, Hb4.out, _, by rw [grp_take_succ Hx.out]; exact Hg2⟩
        case measure => simp [intOf]; omega
      | none =>
        have hme := run_mapEntry_new hGa.map Tryd.underlying156 run_zero_vs hp
        dsimp only [nh] at hme
        have Hp := Lib.hid hp
        have Hsz := Lib.hid hsz
        generalize hW : (w2.alloc (.cells #[.string x.name, .int .u32 x.hash] 125)).alloc (.cells #[.iface 158 (.agg #[.string x.name, .int .u32 x.hash, .slice x.ta x.tn x.tc, .slice x.sa x.sn x.sc])] 150) = W at *
        have hW1e : ({ W with heap := W.heap.setIfInBounds w.heap.size (.map (entries (L ++ [⟨x.name, x.hash, .slice none 0 0⟩])) (L.length + 1)) } : World) = setMap W w.heap.size (L ++ [⟨x.name, x.hash, .slice none 0 0⟩]) := by
          simp [setMap]
        rw [hW1e] at hme
        have hnews2 : ∀ j u, [x.iface][j]? = some u → (setMap W w.heap.size (L ++ [⟨x.name, x.hash, .slice none 0 0⟩])).cell? ((⟨w2.heap.size + 1, 0, none⟩ : Addr).add j) = some u := fun j u hu => setMap_cell hGa.map (hnews j u hu)
        have hb3 : Below w.heap.size w (setMap W w.heap.size (L ++ [⟨x.name, x.hash, .slice none 0 0⟩])) := setMap_below hbW (Nat.le_refl _)
        have Hsz2 : Hid ((setMap W w.heap.size (L ++ [⟨x.name, x.hash, .slice none 0 0⟩])).heap.size = w2.heap.size + 2) := by rw [setMap_size]; exact hsz
        have Hm1 : Hid (MapAt (setMap W w.heap.size (L ++ [⟨x.name, x.hash, .slice none 0 0⟩])) w.heap.size (L ++ [⟨x.name, x.hash, .slice none 0 0⟩])) := setMap_at hGa.map
        have Hnews := Lib.hid hnews2
        have Hb3 := Lib.hid hb3
        clear hp hGa hnews hnews2 hsz hW1e hb3 hbW
        generalize hW1 : setMap W w.heap.size (L ++ [⟨x.name, x.hash, .slice none 0 0⟩]) = W1 at *
        have HW1 := Lib.hid hW1
        clear hW1
        have hown := World.ownsRow_nil W1 (w.heap.size + 1) 150 1
        go_wp2_with (at_builtin; refine wpList_append_own_at _ rfl _ _ 100 rfl (w.heap.size + 1) 150 i0 _ 1 16 Tryd.underlying100 hi hz0 hz1 hz2 rfl (by decide) _ _ _ rfl hown ⟨w2.heap.size + 1, 0, none⟩ 1 1 [x.iface] rfl rfl Hnews.out ?d2 ?d3 ?d4 ?d5 ?_)
        case d2 => simp [KV.iface, Value.oneCell']
        case d3 => simp [maxLen]
        case d4 => omega
        case d5 => have := hbw2.size; have := Hsz2.out; omega
        intro v' w3 hown' hgrow hnn hat
        have hat' : v'.ownBlock = some W.heap.size := by
          have e1 : W1.heap.size = W.heap.size := by rw [Hsz2.out, Hsz.out]
          rcases hat with h | h
          · exfalso
            rcases hown'.2 with ⟨h0, h1⟩ | ⟨g, cap, cur, h1, _⟩
            · omega
            · rw [h1] at h; simp [Value.ownBlock] at h
          · rw [h, e1]
        have hb13 : Below W1.heap.size W1 w3 := (Below.refl _ _).grown hgrow (Nat.le_refl _) (by simp [Value.ownBlock])
        have hbs : Below W.heap.size (setMap W w.heap.size (L ++ [⟨x.name, x.hash, .slice none 0 0⟩])) w3 := by
          rw [HW1.out]
          exact hb13.mono (by rw [Hsz2.out, Hsz.out]; exact Nat.le_refl _)
        have hg2 := HGa.out.new Hp.out (by simpa using hown') hbs hat'
        have hm3 : MapAt w3 w.heap.size (L ++ [⟨x.name, x.hash, .slice none 0 0⟩]) := Hm1.out.below hb13 (by have := hbw2.size; have := Hsz2.out; omega)
        have hb3w : Below w.heap.size w w3 := Hb3.out.trans (hb13.mono (by have := hbw2.size; have := Hsz2.out; omega))
        have hb4 : Below w.heap.size w (setMap w3 w.heap.size (L ++ [⟨x.name, x.hash, v'⟩])) := setMap_below hb3w (Nat.le_refl _)
        have hes : (Instr.entryStore 156 (.map (some w.heap.size)) (.int .i64 L.length) v').run Tryd.prog w3 = .ok () (setMap w3 w.heap.size (L ++ [⟨x.name, x.hash, v'⟩])) := by
          rw [run_entryStore_nh (L := L ++ [⟨x.name, x.hash, .slice none 0 0⟩]) (i := L.length) (e := ⟨x.name, x.hash, .slice none 0 0⟩) hm3 (by simp) v', setMap]
          simp
        have Hg2 := Lib.hid hg2
        have Hb4 := Lib.hid hb4
        clear hg2 hb3w hb4 hown' hgrow hat hat' hown hme hm3 hbs hb13 hnn
        generalize setMap w3 w.heap.size (L ++ [⟨x.name, x.hash, v'⟩]) = w4 at *
        go_wp2
        go_roundw
        case rel => exact ⟨k + 1, by omega, by go_num, Hb4.out, _, by rw [grp_take_succ Hx.out]; exact Hg2⟩
        case measure => simp [intOf]; omega
    · clear hs
      go_wp2
      go_ret
      obtain rfl : k = n := by omega
      have hg := hG.out
      rw [List.take_of_length_le (by have := Hl.out; omega)] at hg
      exact ⟨rfl, ⟨_, _, hg⟩, hb⟩

end Go.Proofs.YtnnbhklkakhkkaaDoor

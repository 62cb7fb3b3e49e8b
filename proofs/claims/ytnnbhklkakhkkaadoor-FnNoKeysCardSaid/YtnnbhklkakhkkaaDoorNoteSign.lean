/-
  SIGNING: the walk of the code's own Sign.
-/
import Derived.Test.YtnnbhklkakhkkaaDoorBufX
import Derived.BigQuiet
import Derived.Deep.QuietTactic
import Derived.Deep.CutBlock
import Derived.Deep.LoopGhost
import Derived.Deep.RegionWith
import Derived.Deep.RegionLaw
import Derived.Deep.RegionHeld3
namespace Go.Proofs.YtnnbhklkakhkkaaDoor
open Go.RowKit Go.Lib

/-- what the sentinels hold: errors that are not nil -/
def Errs (w : World) : Prop := (∃ t p, w.cell? ⟨0, 0, none⟩ = some (.iface t (.pointer p))) ∧ (∃ t p, w.cell? ⟨1, 0, none⟩ = some (.iface t (.pointer p)))
theorem Errs.below {w w' : World} (h : Errs w) (hb : Below w.heap.size w w') : Errs w' := by
  have lt : ∀ {a : Addr} {v : Value}, w.cell? a = some v → w'.cell? a = some v := fun {a v} hc => (hb.cell (World.block_lt_of_cell? w a hc)).trans hc
  obtain ⟨⟨t, p, h1⟩, ⟨t2, p2, h2⟩⟩ := h
  exact ⟨⟨t, p, lt h1⟩, ⟨t2, p2, lt h2⟩⟩

/-- what Sign leaves: bytes of its own, or an error -/
def NPost (w : World) (r : Option (List UInt8)) (e : Ending) (w' : World) : Prop :=
  Below w.heap.size w w' ∧ match r with
  | some x => ∃ A c, e = .returned (.tuple #[.slice A x.length c, .nilIface]) ∧ Sl w' w'.heap.size 1 A x.length (byteCells x) ∧ x.length ≤ c
  | none => ∃ t p, e = .returned (.tuple #[.slice none 0 0, .iface t (.pointer p)])

theorem npost_none {w w' : World} {e : Ending} (hb : Below w.heap.size w w') (t : TypeId) (p : Option Addr) (he : e = .returned (.tuple #[.slice none 0 0, .iface t (.pointer p)])) : NPost w none e w' := ⟨hb, t, p, he⟩

theorem putObj_below {a w : World} {B C : Nat} {o : Obj} (h : Below C a w) (hC : C ≤ B) : Below C a (putObj w B o) :=
  ⟨h.os, h.tape, h.output, by rw [putObj_size]; exact h.size, fun k hk => by rw [putObj_far (by omega)]; exact h.block k hk⟩
theorem newLines_name {l : List MV} {m : MV} (h : m ∈ l) : m.name.size ≤ (newLines l).length := by
  induction l with
  | nil => cases h
  | cons x t ih =>
    unfold newLines
    rw [List.flatMap_cons, List.length_append]
    rcases List.mem_cons.1 h with rfl | h
    · unfold lineL
      simp only [List.length_append]
      have : m.name.data.toList.length = m.name.size := by simp
      omega
    · have := ih h
      unfold newLines at this
      omega
theorem Tabs.below' {a w : World} (h : Tabs a) (hb : Below a.heap.size a w) : Tabs w := h.below hb
theorem all_false_of' {α : Type} {p : α → Bool} {l : List α} {k : Nat} {x : α} (h : l[k]? = some x) (hp : p x = false) : l.all p = false := by
  rw [List.all_eq_false]
  exact ⟨x, List.mem_of_getElem? h, by simp [hp]⟩

theorem mSign_nil (v : Value) (w : World) : (nilAhead 330 67 v "Sign").run Tryd.prog w = .ok (some false) w := by kernel_rfl
theorem mSign_ok' (m : MV) (hf : m.fails = false) (A : Value) (w : World) :
    Calls Tryd.prog 119 #[.agg #[.string m.name, .int .u32 m.hash, .string m.sig, .bool m.fails], A] w fun e w' =>
      ∃ c, e = .returned (.tuple #[.slice (some ⟨w.heap.size + 1, 0, none⟩) m.sig.size c, .nilIface]) ∧ m.sig.size ≤ c ∧ Sl w' w'.heap.size 1 (some ⟨w.heap.size + 1, 0, none⟩) m.sig.size (byteCells m.sig.data.toList) ∧ Below w.heap.size w w' := by
  rw [hf]; exact mSign_ok _ _ _ _ _
theorem mSign_fails' (m : MV) (hf : m.fails = true) (A : Value) (w : World) :
    Calls Tryd.prog 119 #[.agg #[.string m.name, .int .u32 m.hash, .string m.sig, .bool m.fails], A] w fun e w' => ∃ p, e = .returned (.tuple #[.slice none 0 0, .iface 207 (.pointer p)]) ∧ Below w.heap.size w w' := by
  rw [hf]; exact mSign_fails _ _ _ _ _

/-- what the call of a key's Sign leaves in the loop over the new keys -/
def SignGot (w w1 wx : World) (bs : Nat) (ls : List UInt8) (ks : List (ByteArray × Int)) (m : MV) (v13 v14 : Value) : Prop :=
  MS w1 wx bs ls ks ∧ Below w.heap.size w wx ∧ ((m.fails = true ∧ ∃ t p, v14 = .iface t (.pointer p)) ∨
    (m.fails = false ∧ v14 = .nilIface ∧ ∃ A c, v13 = .slice A m.sig.size c ∧ m.sig.size ≤ c ∧ Sl wx wx.heap.size 1 A m.sig.size (byteCells m.sig.data.toList)))

theorem undrew {B : Nat} {w w' : World} (h : Below B w.drew w') : Below B w w' := ⟨h.os, h.tape, h.output, h.size, h.block⟩
theorem undrew0 {w : World} (_h : Below w.heap.size w w) : Below w.heap.size w w.drew := ⟨rfl, rfl, rfl, Nat.le_refl _, fun _ _ => rfl⟩

theorem IsBuffer.fr {T e : TypeId} {B b b2 g2 : Nat} {bs : List Value} {w w' : World} (h : IsBuffer T e B b bs w) (hf : Fr w w' b2 g2) (hb : b2 < B) (hg : g2 < B) : IsBuffer T e B b bs w' := by
  obtain ⟨hB, v, lr, hbk, hown, hne⟩ := h
  have lt : ∀ {k : Nat} {o : Obj}, B ≤ k → w.heap[k]? = some o → w'.heap[k]? = some o := fun {k o} hk ho => (hf.block k (Array.getElem?_eq_some_iff.1 ho).1 (by omega) (by omega)).trans ho
  refine ⟨hB, v, lr, lt hB hbk, ⟨hown.1, ?_⟩, hne⟩
  rcases hown.2 with h' | ⟨g, cap, cur, hv, hBg, hg, hr⟩
  · exact .inl h'
  · exact .inr ⟨g, cap, cur, hv, hBg, lt hBg hg, hr⟩

theorem make_have (w : World) : (Instr.makeMap 119 .none).run Tryd.prog w = .ok (.map (some w.heap.size)) (w.alloc (.map #[] 0)) := @run_makeMap Tryd.prog _ _

set_option maxHeartbeats 8000000 in
set_option maxRecDepth 100000 in
theorem noteSign_new (nb k c c1 c2 : Nat) (SA A1 A2 : Option Addr) (text : ByteArray) (ms : List MV) (w : World)
    (q0 : w.cell? ⟨nb, 0, none⟩ = some (.string text)) (q1 : w.cell? ⟨nb, 1, none⟩ = some (.slice A1 0 c1)) (q2 : w.cell? ⟨nb, 2, none⟩ = some (.slice A2 0 c2))
    (hs : Sl w w.heap.size 1 SA k (ms.map MV.iface)) (hok : ∀ m ∈ ms, m.Ok) (hT : Tabs w) (hE : Errs w) (hk : k ≤ 2147483647) (hlim : text.size + 1 + (newLines ms).length ≤ 2147483648) :
    Calls Tryd.prog 31 #[.pointer (some ⟨nb, 0, none⟩), .slice SA k c] w (NPost w (if endsNl text && ms.all signs then some (text.data.toList ++ [10] ++ newLines ms) else none)) := by
  have hsz : text.size ≤ 2147483648 := by omega
  have cs := fun W => hasSuf_any text W (by omega)
  have hnb : nb < w.heap.size := World.block_lt_of_cell? w _ q0
  obtain ⟨⟨et1, ep1, he1⟩, ⟨et2, ep2, he2⟩⟩ := id hE
  have HE := Lib.hid hE
  have HT := Lib.hid hT
  have Hs := Lib.hid hs
  have Hok := Lib.hid hok
  have hg1 : 0 < w.heap.size := World.block_lt_of_cell? w _ he1
  have hne1 : w.heap.size ≠ 0 := by omega
  have hne1' : 0 ≠ w.heap.size := by omega
  have hnb1 : w.heap.size ≠ nb := by omega
  have hnb1' : nb ≠ w.heap.size := by omega
  have hb0 : Below w.heap.size w (w.alloc (.cells #[.slice none 0 0, .int .i64 0, .int .i8 0] 115)) := (Below.refl _ _).alloc (Nat.le_refl _) _
  have HB0 := Lib.hid hb0
  clear hE hT hs hok hb0
  cases hnl : endsNl text
  · have Hnl := Lib.hid hnl
    rw [hnl] at cs
    have Cs := Lib.hid cs
    clear cs hnl
    simp only [Bool.false_and, Bool.false_eq_true, if_false]
    go_enter Tryd.func31, Tryd.ntmps31
    go_wp2_with (fail)
    refine (Cs.out _).mono ?_
    clear Cs
    rintro e w1 ⟨rfl, rfl⟩
    go_upto_region 3 with (fail)
    go_quiet (fail)
    go_wp2_with (fail)
    go_ret2
    exact npost_none ⟨HB0.out.os, HB0.out.tape, HB0.out.output, HB0.out.size, HB0.out.block⟩ _ _ rfl
  · have Hnl := Lib.hid hnl
    rw [hnl] at cs
    have Cs := Lib.hid cs
    clear cs hnl he1 he2
    have cw := writeK w.heap.size [] text (w.alloc (.cells #[.slice none 0 0, .int .i64 0, .int .i8 0] 115)) (Lib.fresh_isBuffer 115 5 w) (by simp; omega)
    rw [List.nil_append] at cw
    have Cw := Lib.hid cw
    clear cw
    simp only [Bool.true_and]
    obtain ⟨r, hr⟩ : ∃ r, r = (if ms.all signs = true then some (text.data.toList ++ [10] ++ newLines ms) else none) := ⟨_, rfl⟩
    rw [← hr]
    have Hr := Lib.hid hr
    clear hr
    go_enter Tryd.func31, Tryd.ntmps31
    go_wp2_with (fail)
    refine (Cs.out _).mono ?_
    clear Cs
    rintro e w1 ⟨rfl, rfl⟩
    go_wp2_with (fail)
    refine Cw.out.mono ?_
    clear Cw
    rintro e w1 ⟨rfl, hbuf, hb1, hk1⟩
    have hb01 := HB0.out.trans hb1
    have hmk := make_have
    have Hbuf := Lib.hid hbuf
    have Hb01 := Lib.hid hb01
    clear hbuf hb1 hk1 hb01 q0
    have hms : MS w1 ((w1.alloc (.cells #[.slice none 0 0, .int .i64 0, .int .i8 0] 115)).alloc (.map #[] 0)) w1.heap.size [] [] := by
      have hf := Lib.fresh_isBuffer 115 5 w1
      have ha : Below (w1.alloc (.cells #[.slice none 0 0, .int .i64 0, .int .i8 0] 115)).heap.size (w1.alloc (.cells #[.slice none 0 0, .int .i64 0, .int .i8 0] 115)) ((w1.alloc (.cells #[.slice none 0 0, .int .i64 0, .int .i8 0] 115)).alloc (.map #[] 0)) := (Below.refl _ _).alloc (Nat.le_refl _) _
      have hsz1 : (w1.alloc (.cells #[.slice none 0 0, .int .i64 0, .int .i8 0] 115)).heap.size = w1.heap.size + 1 := by simp
      refine ⟨IsBuffer.far hf ha, HaveAt.made ?_, ((Below.refl _ _).alloc (Nat.le_refl _) _).alloc (by omega) _⟩
      have h := heap_alloc_new (w1.alloc (.cells #[.slice none 0 0, .int .i64 0, .int .i8 0] 115)) (.map #[] 0)
      rwa [hsz1] at h
    have Hms := Lib.hid hms
    have hbsw : w.heap.size ≤ w1.heap.size := Hb01.out.size
    clear hms
    go_upto_block 0 with (fail)
    generalize (w1.alloc (.cells #[.slice none 0 0, .int .i64 0, .int .i8 0] 115)).alloc (.map #[] 0) = w2 at *
    obtain ⟨bs, hbs⟩ : ∃ bs, bs = w1.heap.size := ⟨_, rfl⟩
    rw [← hbs] at Hms hbsw ⊢
    obtain ⟨gb, hbr0, hgb0⟩ := buf_row Hbuf.out (endsNl_ne Hnl.out)
    have hgbl : gb < bs := by rw [hbs]; exact hbr0.lt.2
    have hbbl : w.heap.size < bs := by rw [hbs]; exact hbr0.lt.1
    have Hbr0 := Lib.hid hbr0
    have Hbs := Lib.hid hbs
    clear hbs hbr0
    go_cut [] (fun wc => Hid (MS w1 wc bs (newLines ms) (keysOf ms)) ∧ Hid (ms.all signs = true))
    case first =>
      as_aux_lemma =>
        go_wp2_with (fail)
        go_loopg [40] k (fun gk v40 wr => ∃ i : Nat, gk + i = k ∧ v40 = .int .i64 (i : Int) ∧ Hid (MS w1 wr bs (newLines (ms.take i)) (keysOf (ms.take i))) ∧ Hid ((ms.take i).all signs = true))
        case atStart => exact ⟨0, rfl, rfl, Hms.out, rfl⟩
        case round =>
          obtain ⟨i, hgk, rfl, Hm, Ha⟩ := hrel
          by_cases hlt : i < k
          · obtain ⟨m, hm⟩ : ∃ m, ms[i]? = some m := ⟨_, List.getElem?_eq_getElem (by have := Hs.out.1; simp at this; omega)⟩
            obtain ⟨sb, so, hSA, hsb, hsc⟩ := Hs.out.2 (by omega)
            have hcell0 := hsc i m.iface (by rw [List.getElem?_map, hm]; rfl)
            have hbr : Below w.heap.size w wr := Hb01.out.trans (Hm.out.low.mono hbsw)
            have hcell : wr.cell? ⟨sb, so + i, none⟩ = some (.iface 67 (.agg #[.string m.name, .int .u32 m.hash, .string m.sig, .bool m.fails])) := (hbr.cell (p := ⟨_, _, _⟩) hsb).trans hcell0
            have hmok := Hok.out m (List.mem_of_getElem? hm)
            have hlo := hmok.lo
            have hhi := hmok.hi
            have Hmi := Lib.hid hm
            have Hbr := Lib.hid hbr
            have Hmok := Lib.hid hmok
            subst hSA
            clear hm hsc hcell0 hbr hmok
            have m1 := mName_method
            have m2 := mHash_method
            have m3 := mSign_method
            have Cn := fun W => Lib.hid (mName_any m W)
            have Ch := fun W => Lib.hid (mHash_any m W)
            go_wp2_with (fail)
            refine (Cn _).out.mono ?_
            clear Cn
            rintro e wa ⟨rfl, hba⟩
            have Hm1 := Lib.hid (Hm.out.far hba)
            have Hbra := Lib.hid (Hbr.out.trans (hba.mono Hbr.out.size))
            clear hba hcell
            go_wp2_with (fail)
            refine (Ch _).out.mono ?_
            clear Ch
            rintro e wb ⟨rfl, hbb⟩
            have Hm2 := Lib.hid (Hm1.out.far hbb)
            have Hbrb := Lib.hid (Hbra.out.trans (hbb.mono Hbra.out.size))
            clear hbb Hm1 Hbra
            obtain ⟨o, hput, hhave, _⟩ := run_have_put Hm2.out.hav Tryd.underlying119 m.name m.hash
            have Hm3 := Lib.hid (Hm2.out.put hhave)
            have Hbrc := Lib.hid (putObj_below Hbrb.out (o := o) (show w.heap.size ≤ bs + 1 by omega))
            clear hhave Hm2 Hbrb
            have hnm : m.name.size ≤ 2147483648 := by
              have := newLines_name (List.mem_of_getElem? Hmi.out)
              omega
            go_upto_region 13 with (fail)
            generalize putObj wb (bs + 1) o = wc at *
            clear hput m1 m2
            have Cv := Lib.hid (valid_any m.name wc (by omega) (HT.out.below' Hbrc.out))
            go_wp2_with (fail)
            refine Cv.out.mono ?_
            clear Cv
            rintro e wd ⟨rfl, hbd⟩
            have Hm4 := Lib.hid (Hm3.out.far hbd)
            have Hbrd := Lib.hid (Hbrc.out.trans (hbd.mono Hbrc.out.size))
            clear hbd Hm3 Hbrc
            cases hv : nameOk m.name
            · have hno : ms.all signs = false := all_false_of' Hmi.out (by unfold signs; rw [hv, Bool.false_and])
              have Hr0 := Lib.hid hno
              obtain ⟨⟨et1, ep1, he1⟩, ⟨et2, ep2, he2⟩⟩ := HE.out.below Hbrd.out
              clear hv hno he1
              go_upto_region 14 with (fail)
              go_quiet (fail)
              go_wp2_with (fail)
              go_ret2
              rw [Hr.out, Hr0.out]
              exact npost_none ⟨Hbrd.out.os, Hbrd.out.tape, Hbrd.out.output, Hbrd.out.size, Hbrd.out.block⟩ _ _ rfl
            · have Hv := Lib.hid hv
              clear hv
              have Hrow := Lib.hid (Hbr0.out.low (by omega) (by omega) Hm4.out.low)
              have m4 := mSign_nil
              go_upto_region 15 with (fail)
              go_cut [13, 14] (fun v13 v14 wx => SignGot w w1 wx bs (newLines (ms.take i)) (keysOf (ms.take i) ++ [(m.name, m.hash)]) m v13 v14)
              case first =>
                rcases Bool.eq_false_or_eq_true m.fails with hf | hf
                rotate_left
                · have Hf := Lib.hid hf
                  clear hf
                  go_region_with (first
                    | (go_at_call 53
                       refine (bytes_row w.heap.size gb text.data.toList _ ?_).mono ?_
                       · exact Hrow.out
                       rintro e wz ⟨capz, rfl, hcapz, nz, rfl⟩)
                    | (go_at_call 119
                       refine (mSign_ok' m Hf.out _ _).mono ?_
                       rintro e wz ⟨cz, rfl, hcz, hslz, hbz⟩))
                  all_goals (
                    go_wp2_with (fail)
                    go_meet
                    case rel => exact ⟨(Hm4.out.far (below_drewNg wd _)).far hbz, (Hbrd.out.trans ((below_drewNg wd _).mono Hbrd.out.size)).trans (hbz.mono Hbrd.out.size), .inr ⟨Hf.out, rfl, _, _, rfl, hcz, hslz⟩⟩)
                · have Hf := Lib.hid hf
                  clear hf
                  go_region_with (first
                    | (go_at_call 53
                       refine (bytes_row w.heap.size gb text.data.toList _ ?_).mono ?_
                       · exact Hrow.out
                       rintro e wz ⟨capz, rfl, hcapz, nz, rfl⟩)
                    | (go_at_call 119
                       refine (mSign_fails' m Hf.out _ _).mono ?_
                       rintro e wz ⟨pz, rfl, hbz⟩))
                  all_goals (
                    go_wp2_with (fail)
                    go_meet
                    case rel => exact ⟨(Hm4.out.far (below_drewNg wd _)).far hbz, (Hbrd.out.trans ((below_drewNg wd _).mono Hbrd.out.size)).trans (hbz.mono Hbrd.out.size), .inl ⟨Hf.out, _, _, rfl⟩⟩)
              case rest =>
                obtain ⟨hm5, hbre, hgot⟩ := hcut
                have Hm5 := Lib.hid hm5
                have Hbre := Lib.hid hbre
                clear hm5 hbre
                rcases hgot with ⟨hf, et, ep, rfl⟩ | ⟨hf, rfl, AS, cS, rfl, hcS, hslS⟩
                · have hno : ms.all signs = false := all_false_of' Hmi.out (by unfold signs; rw [hf]; simp)
                  have Hr0 := Lib.hid hno
                  clear hf hno
                  go_wp2_with (fail)
                  go_ret2
                  rw [Hr.out, Hr0.out]
                  exact npost_none Hbre.out _ _ rfl
                · have Hf := Lib.hid hf
                  have Hsl := Lib.hid hslS
                  clear hf hslS
                  have Cp := fun d W hR => Lib.hid (bePut_int d m.hash hlo hhi (.int .u8 0) (.int .u8 0) (.int .u8 0) (.int .u8 0) 128 W hR)
                  go_wp2_with (fail)
                  refine (Cp _ _ (heap_alloc_new _ _)).out.mono ?_
                  clear Cp
                  rintro e wf ⟨rfl, hbf, hszf, hrf⟩
                  have hbe : Below wc.heap.size wc wf := ((Below.refl wc.heap.size wc).alloc (Nat.le_refl _) _).trans hbf
                  have Hm6 := Lib.hid (Hm5.out.far hbe)
                  have Hbrf := Lib.hid (Hbre.out.trans (hbe.mono Hbre.out.size))
                  have HslF := Lib.hid ((Hsl.out.below hbe).more hbe.size)
                  have hlt1 : wc.heap.size < wf.heap.size := (Array.getElem?_eq_some_iff.1 hrf).1
                  have Hrf := Lib.hid hrf
                  have hsg := newLines_sig (List.mem_of_getElem? Hmi.out)
                  obtain ⟨i0, hi0, hz0, hz1, hz2⟩ := info_parts byteInfo
                  clear hbf hbe hrf Hsl Hm5 Hbre hszf
                  go_upto_region 20 with (fail)
                  go_cut [16] (fun v16 wx => v16 = .string ⟨(newB64 m).toArray⟩ ∧ Hid (MS w1 wx bs (newLines (ms.take i)) (keysOf (ms.take i) ++ [(m.name, m.hash)])) ∧ Hid (Below w.heap.size w wx))
                  case first =>
                    go_region_held3 (fun w' => Below wf.heap.size wf w') (first | exact undrew0 (Below.refl _ _) | exact Below.refl _ _ | assumption | exact Below.drew (by assumption))
                      (first
                      | (go_at_call 55
                         refine (stdEnc_any _).mono ?_
                         rintro e wz ⟨rfl, hbz, hEz⟩
                         first
                           | have hfz : Below wf.heap.size wf wz := hfa.trans ((undrew hbz).mono hfa.size)
                           | have hfz : Below wf.heap.size wf wz := hfa.trans (hbz.mono hfa.size)
                           | have hfz : Below wf.heap.size wf wz := undrew hbz
                           | have hfz : Below wf.heap.size wf wz := hbz)
                      | (go_at_call 56
                         refine (encStr_any _ _ _ _ (hash4 m.hash.toNat ++ m.sig.data.toList) _ ?_ ?_ ?_ ?_ ?_).mono ?_
                         · first | exact hEz | exact (hba.block _ (Array.getElem?_eq_some_iff.1 hEz).1).trans hEz | exact ((undrew hba).block _ (Array.getElem?_eq_some_iff.1 hEz).1).trans hEz
                         · first | exact sl_join hsa | exact sl_join ((hsa.below hbz).more hbz.size) | exact sl_join ((hsa.below (undrew hbz)).more (undrew hbz).size)
                         · exact hcap'
                         · omega
                         · omega
                         rintro e wy ⟨rfl, hby⟩
                         first
                           | have hfy : Below wf.heap.size wf wy := hfa.trans (hby.mono hfa.size)
                           | have hfy : Below wf.heap.size wf wy := hfz.trans (hby.mono hfz.size)
                           | have hfy : Below wf.heap.size wf wy := hfa.trans ((undrew hby).mono hfa.size)
                           | have hfy : Below wf.heap.size wf wy := hfz.trans ((undrew hby).mono hfz.size))
                      | (refine step_app4 (by rfl) _ _ _ (by rfl) 5 128 i0 _ Tryd.underlying68 hi0 hz0 hz1 hz2 rfl wc.heap.size (byteCells (hash4 m.hash.toNat)) rfl (by rfl) m.sig.size (byteCells m.sig.data.toList) (by rfl) (by omega) ?_ ?_ ?_
                         · first | exact Hrf.out | exact (hfz.block _ hlt1).trans Hrf.out
                         · first | exact HslF.out | exact (HslF.out.below hfz).more hfz.size
                         intro b' o' cap' wa hsa hba hcap'
                         first
                           | have hfa : Below wf.heap.size wf wa := hfz.trans ((undrew hba).mono hfz.size)
                           | have hfa : Below wf.heap.size wf wa := hfz.trans (hba.mono hfz.size)
                           | have hfa : Below wf.heap.size wf wa := undrew hba
                           | have hfa : Below wf.heap.size wf wa := hba))
                    all_goals (
                      go_wp2_with (fail)
                      go_meet
                      case rel => exact ⟨rfl, Hm6.out.far hfy, Hbrf.out.trans (hfy.mono Hbrf.out.size)⟩)
                  case rest =>
                    obtain ⟨rfl, Hm7, Hbrg⟩ := hcut
                    clear Hm6 Hbrf HslF Hrf hlt1 hi0 hz0 hz1 hz2
                    have hle := newLines_le (l := ms) (i + 1)
                    rw [newLines_next Hmi.out] at hle
                    have hlen : (lineL m.name.data.toList (newB64 m)).length = 4 + m.name.size + 1 + (newB64 m).length + 1 := by simp [lineL, dash]; omega
                    rw [List.length_append, hlen] at hle
                    have hb64 : (⟨(newB64 m).toArray⟩ : ByteArray).size = (newB64 m).length := by simp [ByteArray.size]
                    have Hb64 := Lib.hid hb64
                    clear hlen hb64
                    have C1 := Lib.hid (Hm7.out.write ⟨#[226, 128, 148, 32]⟩ (by show _ + 4 ≤ _; omega))
                    go_wp2_with (fail)
                    refine C1.out.mono ?_
                    clear C1
                    rintro e wg ⟨rfl, hg⟩
                    have C2 := Lib.hid (hg.write m.name (by simp only [List.length_append]; show _ + 4 + _ ≤ _; omega))
                    clear hg
                    go_wp2_with (fail)
                    refine C2.out.mono ?_
                    clear C2
                    rintro e wh ⟨rfl, hg⟩
                    have hnl2 : m.name.data.toList.length = m.name.size := by simp
                    have C3 := Lib.hid (hg.write ⟨#[32]⟩ (by simp only [List.length_append, hnl2]; show _ + 4 + _ + 1 ≤ _; omega))
                    clear hg
                    go_wp2_with (fail)
                    refine C3.out.mono ?_
                    clear C3
                    rintro e wi ⟨rfl, hg⟩
                    have C4 := Lib.hid (hg.write ⟨(newB64 m).toArray⟩ (by rw [Hb64.out]; simp only [List.length_append, hnl2]; show _ + 4 + _ + 1 + _ ≤ _; omega))
                    clear hg
                    go_wp2_with (fail)
                    refine C4.out.mono ?_
                    clear C4
                    rintro e wj ⟨rfl, hg⟩
                    have C5 := Lib.hid (hg.write ⟨#[10]⟩ (by simp only [List.length_append, hnl2]; show _ + 4 + _ + 1 + _ + 1 ≤ _; omega))
                    clear hg hnl2
                    go_wp2_with (fail)
                    refine C5.out.mono ?_
                    clear C5
                    rintro e wk ⟨rfl, hg⟩
                    have Hg := Lib.hid hg
                    clear hg
                    go_wp2_with (fail)
                    go_roundg (gk - 1)
                    case measure => omega
                    case rel =>
                      refine ⟨i + 1, by omega, by go_num, ?_, ?_⟩
                      · show MS w1 wk bs (newLines (ms.take (i + 1))) (keysOf (ms.take (i + 1)))
                        have h := Hg.out
                        rw [newLines_next Hmi.out, keysOf_next Hmi.out]
                        have e : newLines (ms.take i) ++ lineL m.name.data.toList (newB64 m) = newLines (ms.take i) ++ [226, 128, 148, 32] ++ m.name.data.toList ++ [32] ++ newB64 m ++ [10] := by simp [lineL, dash]
                        rw [e]
                        exact h
                      · show (ms.take (i + 1)).all signs = true
                        rw [List.take_add_one, Hmi.out, List.all_append, Ha.out]
                        simp [signs, Hv.out, Hf.out]
          · obtain rfl : i = k := by omega
            have hlk : ms.length = i := by have := Hs.out.1; simpa using this
            go_wp2_with (fail)
            go_meet
            case rel =>
              have h1 := Hm.out
              have h2 := Ha.out
              rw [List.take_of_length_le (by omega)] at h1 h2
              exact ⟨h1, h2⟩
    case rest =>
      obtain ⟨Hm, Ha⟩ := hcut
      have hbrc := Hbr0.out.low hbbl hgbl Hm.out.low
      have htl : text.data.toList.length = text.size := by simp
      have hl1 : text.data.toList.length + (⟨#[10]⟩ : ByteArray).size ≤ 2147483648 := by show _ + 1 ≤ _; omega
      have C1 := Lib.hid (writeString_row w.heap.size gb text.data.toList ⟨#[10]⟩ wc hbrc (List.length_pos_iff.2 (endsNl_ne Hnl.out)) (by decide) hl1)
      clear htl hl1
      clear hbrc
      go_wp2_with (fail)
      refine C1.out.mono ?_
      clear C1
      rintro e wd ⟨rfl, g2, hbr2, hfr, hg2⟩
      have Hbr2 := Lib.hid hbr2
      have Hfr := Lib.hid hfr
      clear hbr2 hfr
      have hbw2 : Below w.heap.size w wd := (Hb01.out.trans (Hm.out.low.mono hbsw)).trans (Hfr.out.below (Nat.le_refl _) (by omega) (Nat.le_trans (by omega) (Nat.le_of_lt (Nat.lt_trans (Nat.lt_succ_self bs) Hm.out.lt))))
      have p1 := (hbw2.cell (p := ⟨nb, 1, none⟩) hnb).trans q1
      have p2 := (hbw2.cell (p := ⟨nb, 2, none⟩) hnb).trans q2
      have Hbw2 := Lib.hid hbw2
      clear hbw2 q1 q2
      go_upto_region 28 with (fail)
      go_region
      have hbW : Below wd.heap.size wd (wd.alloc (.cells #[.slice A1 0 c1, .slice A2 0 c2] 74)).drew := ((Below.refl _ _).alloc (Nat.le_refl _) _).drew
      have hrW : (wd.alloc (.cells #[.slice A1 0 c1, .slice A2 0 c2] 74)).drew.heap[wd.heap.size]? = some (.cells #[.slice A1 0 c1, .slice A2 0 c2] 74 (0, 0)) := heap_alloc_new wd _
      generalize (wd.alloc (.cells #[.slice A1 0 c1, .slice A2 0 c2] 74)).drew = W at *
      have k0 : W.cell? ⟨wd.heap.size, 0, none⟩ = some (.slice A1 0 c1) := cell_of_row _ _ 0 _ _ _ hrW
      have k1 : W.cell? ⟨wd.heap.size, 1, none⟩ = some (.slice A2 0 c2) := cell_of_row _ _ 1 _ _ _ hrW
      have HbW := Lib.hid hbW
      clear hbW hrW p1 p2
      go_wp2_with (fail)
      go_loopw [95] (fun v wr => ∃ i : Nat, i ≤ 2 ∧ v = .int .i64 (i : Int) ∧ wr = W) (fun v _ => 2 - (RowKit.intOf v).toNat)
      case atStart => exact ⟨0, by omega, rfl, rfl⟩
      case round =>
        obtain ⟨i, hi2, rfl, rfl⟩ := hrel
        have hi3 : i = 0 ∨ i = 1 ∨ i = 2 := by omega
        rcases hi3 with rfl | rfl | rfl
        · simp only [Int.cast_ofNat_Int]
          go_wp2_with (fail)
          go_loopw [101] (fun v wx => v = .int .i64 0 ∧ wx = wr) (fun _ _ => 0)
          case atStart => exact ⟨rfl, by trivial⟩
          case round =>
            obtain ⟨rfl, rfl⟩ := hrel
            go_wp2_with (fail)
            go_roundw
            case rel => exact ⟨1, by omega, rfl, by trivial⟩
            case measure => simp [RowKit.intOf]
        · simp only [Int.cast_ofNat_Int]
          go_wp2_with (fail)
          go_loopw [101] (fun v wx => v = .int .i64 0 ∧ wx = wr) (fun _ _ => 0)
          case atStart => exact ⟨rfl, by trivial⟩
          case round =>
            obtain ⟨rfl, rfl⟩ := hrel
            go_wp2_with (fail)
            go_roundw
            case rel => exact ⟨2, by omega, rfl, by trivial⟩
            case measure => simp [RowKit.intOf]
        · simp only [Int.cast_ofNat_Int]
          clear k0 k1
          have hbsl := Hm.out.lt
          have hbuf2 : IsBuffer 115 5 bs bs (byteCells (newLines ms)) wr := IsBuffer.far (IsBuffer.fr Hm.out.buf Hfr.out hbbl hgbl) HbW.out
          have Cb := Lib.hid (buf_bytes bs (newLines ms) wr hbuf2)
          have hbr3 : BufRow wr w.heap.size g2 (text.data.toList ++ [10]) := Hbr2.out.low Hbr2.out.lt.1 Hbr2.out.lt.2 HbW.out
          have hbw3 : Below w.heap.size w wr := Hbw2.out.trans (HbW.out.mono Hbw2.out.size)
          have Hbr3 := Lib.hid hbr3
          have Hbw3 := Lib.hid hbw3
          have Hbuf2 := Lib.hid hbuf2
          clear hbuf2 hbr3 hbw3
          go_wp2_with (fail)
          refine Cb.out.mono ?_
          clear Cb
          rintro e wx ⟨AS, cS, rfl, hslS, hcS, hAS, nx, rfl⟩
          have hbr4 : BufRow (wr.drewN nx) w.heap.size g2 (text.data.toList ++ [10]) := Hbr3.out
          have hgg : w.heap.size < g2 := by rcases hg2 with h | h <;> omega
          have htl : text.data.toList.length = text.size := by simp
          have Cw := Lib.hid (write_buf w.heap.size g2 cS AS (text.data.toList ++ [10]) (newLines ms) (wr.drewN nx) hbr4 hgg hslS (fun a h => by have := hAS a h; omega) (by rw [List.length_append, htl]; show _ + 1 + _ ≤ _; omega))
          have Hbw4 := Lib.hid (Hbw3.out.trans ((below_drewNg wr nx).mono Hbw3.out.size))
          clear hbr4 htl hslS hAS
          go_wp2_with (fail)
          refine Cw.out.mono ?_
          clear Cw
          rintro e wy ⟨rfl, hbuf5, hby⟩
          obtain ⟨L, hL⟩ : ∃ L, L = text.data.toList ++ [10] ++ newLines ms := ⟨_, rfl⟩
          rw [← hL] at hbuf5
          have HL := Lib.hid hL
          clear hL
          have Cb := Lib.hid (buf_bytes w.heap.size L wy hbuf5)
          have Hbw5 := Lib.hid (Hbw4.out.trans hby)
          clear hbuf5 hby
          go_wp2_with (fail)
          refine Cb.out.mono ?_
          clear Cb
          rintro e wz ⟨A9, c9, rfl, hsl9, hc9, _, nz, rfl⟩
          have Hsl9 := Lib.hid hsl9
          have Hc9 := Lib.hid hc9
          have Hbw6 := Lib.hid (Hbw5.out.trans ((below_drewNg wy nz).mono Hbw5.out.size))
          clear hsl9 hc9
          go_wp2_with (fail)
          go_ret2
          rw [Hr.out, Ha.out, ← HL.out]
          exact ⟨Hbw6.out, A9, c9, rfl, Hsl9.out, Hc9.out⟩

end Go.Proofs.YtnnbhklkakhkkaaDoor

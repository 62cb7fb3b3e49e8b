/-
  SIGNING: the walk of the code's own Sign, of a note that may have signatures.
-/
import Derived.Test.YtnnbhklkakhkkaaDoorOldW
namespace Go.Proofs.YtnnbhklkakhkkaaDoor
open Go.RowKit Go.Lib

theorem signR_nl {text : ByteArray} {ms : List MV} {os : List SV} (h : endsNl text = false) : signR text ms os = none := by
  unfold signR
  rw [h]
  rfl
theorem signR_signs {text : ByteArray} {ms : List MV} {os : List SV} (h : ms.all signs = false) : signR text ms os = none := by
  unfold signR
  rw [h, Bool.false_and, Bool.and_false]
  rfl
theorem signR_olds {text : ByteArray} {ms : List MV} {os : List SV} (h : os.all (oldOk (keysOf ms)) = false) : signR text ms os = none := by
  unfold signR
  rw [h, Bool.and_false, Bool.and_false]
  rfl
theorem signR_some {text : ByteArray} {ms : List MV} {os : List SV} (h1 : endsNl text = true) (h2 : ms.all signs = true) (h3 : os.all (oldOk (keysOf ms)) = true) : signR text ms os = some (text.data.toList ++ [10] ++ oldLines (keysOf ms) os ++ newLines ms) := by
  unfold signR
  rw [h1, h2, h3]
  rfl
/-- what reading an old signature's base64 leaves -/
def DecGot (w wx : World) (l : List UInt8) (v ev : Value) : Prop :=
  Below w.heap.size w wx ∧ ((decL l = none ∧ ∃ e, ev = .iface 204 e) ∨
    ∃ y g c, decL l = some y ∧ v = .slice (some ⟨g, 0, none⟩) y.length c ∧ ev = .nilIface ∧ y.length ≤ 2147483647 ∧ g < wx.heap.size ∧ RowAt wx g 0 (byteCells y))
theorem decGot {w w1 wx : World} {l : List UInt8} {e : Ending} (h : SPost w1 l e wx) (hb : Below w.heap.size w w1) : ∃ v ev, e = .returned (.tuple #[v, ev]) ∧ DecGot w wx l v ev := by
  obtain ⟨h1, h2⟩ := h
  have hbw := hb.trans (h1.mono hb.size)
  cases hd : decL l with
  | none =>
    rw [hd] at h2
    obtain ⟨A, n, c, ev, rfl⟩ := h2
    exact ⟨_, _, rfl, hbw, .inl ⟨hd, _, rfl⟩⟩
  | some y =>
    rw [hd] at h2
    obtain ⟨g, c, rfl, hg, hyc, hc, R, hR, hy⟩ := h2
    refine ⟨_, _, rfl, hbw, .inr ⟨y, g, c, hd, rfl, rfl, by omega, (Array.getElem?_eq_some_iff.1 hR).1, fun j u hu => ?_⟩⟩
    rw [Nat.zero_add, cell_of_row wx _ j R 5 _ hR]
    rw [← hy, List.getElem?_take] at hu
    split at hu
    · simpa using hu
    · cases hu

theorem OAt.join {W w7 w' : World} {b g2 g7 : Nat} {l : List UInt8} (h : Fr W w7 b g2) (hg : g7 = g2 ∨ W.heap.size ≤ g7) (h' : OAt w7 w' b g7 l) : OAt W w' b g2 l := by
  obtain ⟨g, k1, k2, k3⟩ := h'
  have := h.size
  exact ⟨g, k1, h.comp k2 hg, by omega⟩
theorem nameOk_pos {s : ByteArray} (h : nameOk s = true) : 1 ≤ s.size := by
  rcases Nat.eq_zero_or_pos s.size with h0 | h0
  · have hs : s = ⟨#[]⟩ := bytes_ext (List.eq_nil_of_length_eq_zero (by simpa using h0))
    unfold nameOk at h
    rw [Bool.and_eq_true, Bool.and_eq_true, decide_eq_true_eq] at h
    exact absurd hs h.2.1
  · exact h0

def offs (n1 n2 i : Nat) : Nat := if i = 0 then 0 else if i = 1 then n1 else n1 + n2

set_option maxHeartbeats 8000000 in
set_option maxRecDepth 100000 in
theorem noteSign_any (nb k c n1 c1 n2 c2 : Nat) (SA A1 A2 : Option Addr) (text : ByteArray) (ms : List MV) (l1 l2 os : List SV) (w : World)
    (q0 : w.cell? ⟨nb, 0, none⟩ = some (.string text)) (q1 : w.cell? ⟨nb, 1, none⟩ = some (.slice A1 n1 c1)) (q2 : w.cell? ⟨nb, 2, none⟩ = some (.slice A2 n2 c2))
    (hs : Sl w w.heap.size 1 SA k (ms.map MV.iface)) (hok : ∀ m ∈ ms, m.Ok) (hs1 : Sl w w.heap.size 3 A1 n1 (encAll SV.cells l1)) (hs2 : Sl w w.heap.size 3 A2 n2 (encAll SV.cells l2)) (hos : os = l1 ++ l2)
    (hsz : ∀ x ∈ os, x.name.size ≤ 2147483647 ∧ x.b64.size ≤ 2147483647) (hcl : endsNl text = true → ms.all signs = true → Clean (keysOf ms) os) (hT : Tabs w) (hE : Errs w) (hk : k ≤ 2147483647) (hn1 : n1 ≤ 2147483647) (hn2 : n2 ≤ 2147483647)
    (hlimT : text.size + 1 + (oldLines (keysOf ms) os).length + (newLines ms).length ≤ 2147483648) (r : Option (List UInt8)) (hr : r = signR text ms os) :
    Calls Tryd.prog 31 #[.pointer (some ⟨nb, 0, none⟩), .slice SA k c] w (NPost w r) := by
  have hlim : text.size + 1 + (newLines ms).length ≤ 2147483648 := by omega
  have Hlim := Lib.hid hlimT
  have Hr := Lib.hid hr
  have Hs1 := Lib.hid hs1
  have Hs2 := Lib.hid hs2
  have Hos := Lib.hid hos
  have Hsz := Lib.hid hsz
  have Hcl := Lib.hid hcl
  clear hlimT hr hs1 hs2 hos hsz hcl
  have htsz : text.size ≤ 2147483648 := by omega
  have cs := fun W => hasSuf_any text W (by omega)
  have hnb : nb < w.heap.size := World.block_lt_of_cell? w _ q0
  obtain ⟨⟨et1, ep1, he1⟩, ⟨et2, ep2, he2⟩⟩ := id hE
  have HE := Lib.hid hE
  have HT := Lib.hid hT
  have Hs := Lib.hid hs
  have Hok := Lib.hid hok
  have hg1 : 0 < w.heap.size := World.block_lt_of_cell? w _ he1
  have hne1 : w.heap.size ≠ 0 := by omega
  have hne1' : 0 ≠ w.heap.size := by omega
  have hnb1 : w.heap.size ≠ nb := by omega
  have hnb1' : nb ≠ w.heap.size := by omega
  have hb0 : Below w.heap.size w (w.alloc (.cells #[.slice none 0 0, .int .i64 0, .int .i8 0] 115)) := (Below.refl _ _).alloc (Nat.le_refl _) _
  have HB0 := Lib.hid hb0
  clear hE hT hs hok hb0
  cases hnl : endsNl text
  · have Hnl := Lib.hid hnl
    rw [hnl] at cs
    have Cs := Lib.hid cs
    clear cs hnl
    have hrn : r = none := by rw [Hr.out]; exact signR_nl Hnl.out
    rw [hrn]
    clear hrn
    go_enter Tryd.func31, Tryd.ntmps31
    go_wp2_with (fail)
    refine (Cs.out _).mono ?_
    clear Cs
    rintro e w1 ⟨rfl, rfl⟩
    go_upto_region 3 with (fail)
    go_quiet (fail)
    go_wp2_with (fail)
    go_ret2
    exact npost_none ⟨HB0.out.os, HB0.out.tape, HB0.out.output, HB0.out.size, HB0.out.block⟩ _ _ rfl
  · have Hnl := Lib.hid hnl
    rw [hnl] at cs
    have Cs := Lib.hid cs
    clear cs hnl he1 he2
    have cw := writeK w.heap.size [] text (w.alloc (.cells #[.slice none 0 0, .int .i64 0, .int .i8 0] 115)) (Lib.fresh_isBuffer 115 5 w) (by simp; omega)
    rw [List.nil_append] at cw
    have Cw := Lib.hid cw
    clear cw
    go_enter Tryd.func31, Tryd.ntmps31
    go_wp2_with (fail)
    refine (Cs.out _).mono ?_
    clear Cs
    rintro e w1 ⟨rfl, rfl⟩
    go_wp2_with (fail)
    refine Cw.out.mono ?_
    clear Cw
    rintro e w1 ⟨rfl, hbuf, hb1, hk1⟩
    have hb01 := HB0.out.trans hb1
    have hmk := make_have
    have Hbuf := Lib.hid hbuf
    have Hb01 := Lib.hid hb01
    clear hbuf hb1 hk1 hb01 q0
    have hms : MS w1 ((w1.alloc (.cells #[.slice none 0 0, .int .i64 0, .int .i8 0] 115)).alloc (.map #[] 0)) w1.heap.size [] [] := by
      have hf := Lib.fresh_isBuffer 115 5 w1
      have ha : Below (w1.alloc (.cells #[.slice none 0 0, .int .i64 0, .int .i8 0] 115)).heap.size (w1.alloc (.cells #[.slice none 0 0, .int .i64 0, .int .i8 0] 115)) ((w1.alloc (.cells #[.slice none 0 0, .int .i64 0, .int .i8 0] 115)).alloc (.map #[] 0)) := (Below.refl _ _).alloc (Nat.le_refl _) _
      have hsz1 : (w1.alloc (.cells #[.slice none 0 0, .int .i64 0, .int .i8 0] 115)).heap.size = w1.heap.size + 1 := by simp
      refine ⟨IsBuffer.far hf ha, HaveAt.made ?_, ((Below.refl _ _).alloc (Nat.le_refl _) _).alloc (by omega) _⟩
      have h := heap_alloc_new (w1.alloc (.cells #[.slice none 0 0, .int .i64 0, .int .i8 0] 115)) (.map #[] 0)
      rwa [hsz1] at h
    have Hms := Lib.hid hms
    have hbsw : w.heap.size ≤ w1.heap.size := Hb01.out.size
    clear hms
    go_upto_block 0 with (fail)
    generalize (w1.alloc (.cells #[.slice none 0 0, .int .i64 0, .int .i8 0] 115)).alloc (.map #[] 0) = w2 at *
    obtain ⟨bs, hbs⟩ : ∃ bs, bs = w1.heap.size := ⟨_, rfl⟩
    rw [← hbs] at Hms hbsw ⊢
    obtain ⟨gb, hbr0, hgb0⟩ := buf_row Hbuf.out (endsNl_ne Hnl.out)
    have hgbl : gb < bs := by rw [hbs]; exact hbr0.lt.2
    have hbbl : w.heap.size < bs := by rw [hbs]; exact hbr0.lt.1
    have Hbr0 := Lib.hid hbr0
    have Hbs := Lib.hid hbs
    clear hbs hbr0
    go_cut [] (fun wc => Hid (MS w1 wc bs (newLines ms) (keysOf ms)) ∧ Hid (ms.all signs = true))
    case first =>
      --DEV
      as_aux_lemma =>
        go_wp2_with (fail)
        go_loopg [40] k (fun gk v40 wr => ∃ i : Nat, gk + i = k ∧ v40 = .int .i64 (i : Int) ∧ Hid (MS w1 wr bs (newLines (ms.take i)) (keysOf (ms.take i))) ∧ Hid ((ms.take i).all signs = true))
        case atStart => exact ⟨0, rfl, rfl, Hms.out, rfl⟩
        case round =>
          obtain ⟨i, hgk, rfl, Hm, Ha⟩ := hrel
          by_cases hlt : i < k
          · obtain ⟨m, hm⟩ : ∃ m, ms[i]? = some m := ⟨_, List.getElem?_eq_getElem (by have := Hs.out.1; simp at this; omega)⟩
            obtain ⟨sb, so, hSA, hsb, hsc⟩ := Hs.out.2 (by omega)
            have hcell0 := hsc i m.iface (by rw [List.getElem?_map, hm]; rfl)
            have hbr : Below w.heap.size w wr := Hb01.out.trans (Hm.out.low.mono hbsw)
            have hcell : wr.cell? ⟨sb, so + i, none⟩ = some (.iface 67 (.agg #[.string m.name, .int .u32 m.hash, .string m.sig, .bool m.fails])) := (hbr.cell (p := ⟨_, _, _⟩) hsb).trans hcell0
            have hmok := Hok.out m (List.mem_of_getElem? hm)
            have hlo := hmok.lo
            have hhi := hmok.hi
            have Hmi := Lib.hid hm
            have Hbr := Lib.hid hbr
            have Hmok := Lib.hid hmok
            subst hSA
            clear hm hsc hcell0 hbr hmok
            have m1 := mName_method
            have m2 := mHash_method
            have m3 := mSign_method
            have Cn := fun W => Lib.hid (mName_any m W)
            have Ch := fun W => Lib.hid (mHash_any m W)
            go_wp2_with (fail)
            refine (Cn _).out.mono ?_
            clear Cn
            rintro e wa ⟨rfl, hba⟩
            have Hm1 := Lib.hid (Hm.out.far hba)
            have Hbra := Lib.hid (Hbr.out.trans (hba.mono Hbr.out.size))
            clear hba hcell
            go_wp2_with (fail)
            refine (Ch _).out.mono ?_
            clear Ch
            rintro e wb ⟨rfl, hbb⟩
            have Hm2 := Lib.hid (Hm1.out.far hbb)
            have Hbrb := Lib.hid (Hbra.out.trans (hbb.mono Hbra.out.size))
            clear hbb Hm1 Hbra
            obtain ⟨o, hput, hhave, _⟩ := run_have_put Hm2.out.hav Tryd.underlying119 m.name m.hash
            have Hm3 := Lib.hid (Hm2.out.put hhave)
            have Hbrc := Lib.hid (putObj_below Hbrb.out (o := o) (show w.heap.size ≤ bs + 1 by omega))
            clear hhave Hm2 Hbrb
            have hnm : m.name.size ≤ 2147483648 := by
              have := newLines_name (List.mem_of_getElem? Hmi.out)
              omega
            go_upto_region 13 with (fail)
            generalize putObj wb (bs + 1) o = wc at *
            clear hput m1 m2
            have Cv := Lib.hid (valid_any m.name wc (by omega) (HT.out.below' Hbrc.out))
            go_wp2_with (fail)
            refine Cv.out.mono ?_
            clear Cv
            rintro e wd ⟨rfl, hbd⟩
            have Hm4 := Lib.hid (Hm3.out.far hbd)
            have Hbrd := Lib.hid (Hbrc.out.trans (hbd.mono Hbrc.out.size))
            clear hbd Hm3 Hbrc
            cases hv : nameOk m.name
            · have hno : ms.all signs = false := all_false_of' Hmi.out (by unfold signs; rw [hv, Bool.false_and])
              have Hr0 := Lib.hid hno
              obtain ⟨⟨et1, ep1, he1⟩, ⟨et2, ep2, he2⟩⟩ := HE.out.below Hbrd.out
              clear hv hno he1
              go_upto_region 14 with (fail)
              go_quiet (fail)
              go_wp2_with (fail)
              go_ret2
              rw [show r = none by rw [Hr.out]; exact signR_signs Hr0.out]
              exact npost_none ⟨Hbrd.out.os, Hbrd.out.tape, Hbrd.out.output, Hbrd.out.size, Hbrd.out.block⟩ _ _ rfl
            · have Hv := Lib.hid hv
              clear hv
              have Hrow := Lib.hid (Hbr0.out.low (by omega) (by omega) Hm4.out.low)
              have m4 := mSign_nil
              go_upto_region 15 with (fail)
              go_cut [13, 14] (fun v13 v14 wx => SignGot w w1 wx bs (newLines (ms.take i)) (keysOf (ms.take i) ++ [(m.name, m.hash)]) m v13 v14)
              case first =>
                rcases Bool.eq_false_or_eq_true m.fails with hf | hf
                rotate_left
                · have Hf := Lib.hid hf
                  clear hf
                  go_region_with (first
                    | (go_at_call 53
                       refine (bytes_row w.heap.size gb text.data.toList _ ?_).mono ?_
                       · exact Hrow.out
                       rintro e wz ⟨capz, rfl, hcapz, nz, rfl⟩)
                    | (go_at_call 119
                       refine (mSign_ok' m Hf.out _ _).mono ?_
                       rintro e wz ⟨cz, rfl, hcz, hslz, hbz⟩))
                  all_goals (
                    go_wp2_with (fail)
                    go_meet
                    case rel => exact ⟨(Hm4.out.far (below_drewNg wd _)).far hbz, (Hbrd.out.trans ((below_drewNg wd _).mono Hbrd.out.size)).trans (hbz.mono Hbrd.out.size), .inr ⟨Hf.out, rfl, _, _, rfl, hcz, hslz⟩⟩)
                · have Hf := Lib.hid hf
                  clear hf
                  go_region_with (first
                    | (go_at_call 53
                       refine (bytes_row w.heap.size gb text.data.toList _ ?_).mono ?_
                       · exact Hrow.out
                       rintro e wz ⟨capz, rfl, hcapz, nz, rfl⟩)
                    | (go_at_call 119
                       refine (mSign_fails' m Hf.out _ _).mono ?_
                       rintro e wz ⟨pz, rfl, hbz⟩))
                  all_goals (
                    go_wp2_with (fail)
                    go_meet
                    case rel => exact ⟨(Hm4.out.far (below_drewNg wd _)).far hbz, (Hbrd.out.trans ((below_drewNg wd _).mono Hbrd.out.size)).trans (hbz.mono Hbrd.out.size), .inl ⟨Hf.out, _, _, rfl⟩⟩)
              case rest =>
                obtain ⟨hm5, hbre, hgot⟩ := hcut
                have Hm5 := Lib.hid hm5
                have Hbre := Lib.hid hbre
                clear hm5 hbre
                rcases hgot with ⟨hf, et, ep, rfl⟩ | ⟨hf, rfl, AS, cS, rfl, hcS, hslS⟩
                · have hno : ms.all signs = false := all_false_of' Hmi.out (by unfold signs; rw [hf]; simp)
                  have Hr0 := Lib.hid hno
                  clear hf hno
                  go_wp2_with (fail)
                  go_ret2
                  rw [show r = none by rw [Hr.out]; exact signR_signs Hr0.out]
                  exact npost_none Hbre.out _ _ rfl
                · have Hf := Lib.hid hf
                  have Hsl := Lib.hid hslS
                  clear hf hslS
                  have Cp := fun d W hR => Lib.hid (bePut_int d m.hash hlo hhi (.int .u8 0) (.int .u8 0) (.int .u8 0) (.int .u8 0) 128 W hR)
                  go_wp2_with (fail)
                  refine (Cp _ _ (heap_alloc_new _ _)).out.mono ?_
                  clear Cp
                  rintro e wf ⟨rfl, hbf, hszf, hrf⟩
                  have hbe : Below wc.heap.size wc wf := ((Below.refl wc.heap.size wc).alloc (Nat.le_refl _) _).trans hbf
                  have Hm6 := Lib.hid (Hm5.out.far hbe)
                  have Hbrf := Lib.hid (Hbre.out.trans (hbe.mono Hbre.out.size))
                  have HslF := Lib.hid ((Hsl.out.below hbe).more hbe.size)
                  have hlt1 : wc.heap.size < wf.heap.size := (Array.getElem?_eq_some_iff.1 hrf).1
                  have Hrf := Lib.hid hrf
                  have hsg := newLines_sig (List.mem_of_getElem? Hmi.out)
                  obtain ⟨i0, hi0, hz0, hz1, hz2⟩ := info_parts byteInfo
                  clear hbf hbe hrf Hsl Hm5 Hbre hszf
                  go_upto_region 20 with (fail)
                  go_cut [16] (fun v16 wx => v16 = .string ⟨(newB64 m).toArray⟩ ∧ Hid (MS w1 wx bs (newLines (ms.take i)) (keysOf (ms.take i) ++ [(m.name, m.hash)])) ∧ Hid (Below w.heap.size w wx))
                  case first =>
                    go_region_held3 (fun w' => Below wf.heap.size wf w') (first | exact undrew0 (Below.refl _ _) | exact Below.refl _ _ | assumption | exact Below.drew (by assumption))
                      (first
                      | (go_at_call 55
                         refine (stdEnc_any _).mono ?_
                         rintro e wz ⟨rfl, hbz, hEz⟩
                         first
                           | have hfz : Below wf.heap.size wf wz := hfa.trans ((undrew hbz).mono hfa.size)
                           | have hfz : Below wf.heap.size wf wz := hfa.trans (hbz.mono hfa.size)
                           | have hfz : Below wf.heap.size wf wz := undrew hbz
                           | have hfz : Below wf.heap.size wf wz := hbz)
                      | (go_at_call 56
                         refine (encStr_any _ _ _ _ (hash4 m.hash.toNat ++ m.sig.data.toList) _ ?_ ?_ ?_ ?_ ?_).mono ?_
                         · first | exact hEz | exact (hba.block _ (Array.getElem?_eq_some_iff.1 hEz).1).trans hEz | exact ((undrew hba).block _ (Array.getElem?_eq_some_iff.1 hEz).1).trans hEz
                         · first | exact sl_join hsa | exact sl_join ((hsa.below hbz).more hbz.size) | exact sl_join ((hsa.below (undrew hbz)).more (undrew hbz).size)
                         · exact hcap'
                         · omega
                         · omega
                         rintro e wy ⟨rfl, hby⟩
                         first
                           | have hfy : Below wf.heap.size wf wy := hfa.trans (hby.mono hfa.size)
                           | have hfy : Below wf.heap.size wf wy := hfz.trans (hby.mono hfz.size)
                           | have hfy : Below wf.heap.size wf wy := hfa.trans ((undrew hby).mono hfa.size)
                           | have hfy : Below wf.heap.size wf wy := hfz.trans ((undrew hby).mono hfz.size))
                      | (refine step_app4 (by rfl) _ _ _ (by rfl) 5 128 i0 _ Tryd.underlying68 hi0 hz0 hz1 hz2 rfl wc.heap.size (byteCells (hash4 m.hash.toNat)) rfl (by rfl) m.sig.size (byteCells m.sig.data.toList) (by rfl) (by omega) ?_ ?_ ?_
                         · first | exact Hrf.out | exact (hfz.block _ hlt1).trans Hrf.out
                         · first | exact HslF.out | exact (HslF.out.below hfz).more hfz.size
                         intro b' o' cap' wa hsa hba hcap'
                         first
                           | have hfa : Below wf.heap.size wf wa := hfz.trans ((undrew hba).mono hfz.size)
                           | have hfa : Below wf.heap.size wf wa := hfz.trans (hba.mono hfz.size)
                           | have hfa : Below wf.heap.size wf wa := undrew hba
                           | have hfa : Below wf.heap.size wf wa := hba))
                    all_goals (
                      go_wp2_with (fail)
                      go_meet
                      case rel => exact ⟨rfl, Hm6.out.far hfy, Hbrf.out.trans (hfy.mono Hbrf.out.size)⟩)
                  case rest =>
                    obtain ⟨rfl, Hm7, Hbrg⟩ := hcut
                    clear Hm6 Hbrf HslF Hrf hlt1 hi0 hz0 hz1 hz2
                    have hle := newLines_le (l := ms) (i + 1)
                    rw [newLines_next Hmi.out] at hle
                    have hlen : (lineL m.name.data.toList (newB64 m)).length = 4 + m.name.size + 1 + (newB64 m).length + 1 := by simp [lineL, dash]; omega
                    rw [List.length_append, hlen] at hle
                    have hb64 : (⟨(newB64 m).toArray⟩ : ByteArray).size = (newB64 m).length := by simp [ByteArray.size]
                    have Hb64 := Lib.hid hb64
                    clear hlen hb64
                    have C1 := Lib.hid (Hm7.out.write ⟨#[226, 128, 148, 32]⟩ (by show _ + 4 ≤ _; omega))
                    go_wp2_with (fail)
                    refine C1.out.mono ?_
                    clear C1
                    rintro e wg ⟨rfl, hg⟩
                    have C2 := Lib.hid (hg.write m.name (by simp only [List.length_append]; show _ + 4 + _ ≤ _; omega))
                    clear hg
                    go_wp2_with (fail)
                    refine C2.out.mono ?_
                    clear C2
                    rintro e wh ⟨rfl, hg⟩
                    have hnl2 : m.name.data.toList.length = m.name.size := by simp
                    have C3 := Lib.hid (hg.write ⟨#[32]⟩ (by simp only [List.length_append, hnl2]; show _ + 4 + _ + 1 ≤ _; omega))
                    clear hg
                    go_wp2_with (fail)
                    refine C3.out.mono ?_
                    clear C3
                    rintro e wi ⟨rfl, hg⟩
                    have C4 := Lib.hid (hg.write ⟨(newB64 m).toArray⟩ (by rw [Hb64.out]; simp only [List.length_append, hnl2]; show _ + 4 + _ + 1 + _ ≤ _; omega))
                    clear hg
                    go_wp2_with (fail)
                    refine C4.out.mono ?_
                    clear C4
                    rintro e wj ⟨rfl, hg⟩
                    have C5 := Lib.hid (hg.write ⟨#[10]⟩ (by simp only [List.length_append, hnl2]; show _ + 4 + _ + 1 + _ + 1 ≤ _; omega))
                    clear hg hnl2
                    go_wp2_with (fail)
                    refine C5.out.mono ?_
                    clear C5
                    rintro e wk ⟨rfl, hg⟩
                    have Hg := Lib.hid hg
                    clear hg
                    go_wp2_with (fail)
                    go_roundg (gk - 1)
                    case measure => omega
                    case rel =>
                      refine ⟨i + 1, by omega, by go_num, ?_, ?_⟩
                      · show MS w1 wk bs (newLines (ms.take (i + 1))) (keysOf (ms.take (i + 1)))
                        have h := Hg.out
                        rw [newLines_next Hmi.out, keysOf_next Hmi.out]
                        have e : newLines (ms.take i) ++ lineL m.name.data.toList (newB64 m) = newLines (ms.take i) ++ [226, 128, 148, 32] ++ m.name.data.toList ++ [32] ++ newB64 m ++ [10] := by simp [lineL, dash]
                        rw [e]
                        exact h
                      · show (ms.take (i + 1)).all signs = true
                        rw [List.take_add_one, Hmi.out, List.all_append, Ha.out]
                        simp [signs, Hv.out, Hf.out]
          · obtain rfl : i = k := by omega
            have hlk : ms.length = i := by have := Hs.out.1; simpa using this
            go_wp2_with (fail)
            go_meet
            case rel =>
              have h1 := Hm.out
              have h2 := Ha.out
              rw [List.take_of_length_le (by omega)] at h1 h2
              exact ⟨h1, h2⟩
      --VED
    case rest =>
      obtain ⟨Hm, Ha⟩ := hcut
      have hbrc := Hbr0.out.low hbbl hgbl Hm.out.low
      have htl : text.data.toList.length = text.size := by simp
      have hl1 : text.data.toList.length + (⟨#[10]⟩ : ByteArray).size ≤ 2147483648 := by show _ + 1 ≤ _; omega
      have C1 := Lib.hid (writeString_row w.heap.size gb text.data.toList ⟨#[10]⟩ wc hbrc (List.length_pos_iff.2 (endsNl_ne Hnl.out)) (by decide) hl1)
      clear htl hl1
      clear hbrc
      go_wp2_with (fail)
      refine C1.out.mono ?_
      clear C1
      rintro e wd ⟨rfl, g2, hbr2, hfr, hg2⟩
      have Hbr2 := Lib.hid hbr2
      have Hfr := Lib.hid hfr
      clear hbr2 hfr
      have hbw2 : Below w.heap.size w wd := (Hb01.out.trans (Hm.out.low.mono hbsw)).trans (Hfr.out.below (Nat.le_refl _) (by omega) (Nat.le_trans (by omega) (Nat.le_of_lt (Nat.lt_trans (Nat.lt_succ_self bs) Hm.out.lt))))
      have p1 := (hbw2.cell (p := ⟨nb, 1, none⟩) hnb).trans q1
      have p2 := (hbw2.cell (p := ⟨nb, 2, none⟩) hnb).trans q2
      have Hbw2 := Lib.hid hbw2
      clear hbw2 q1 q2
      go_upto_region 28 with (fail)
      go_region
      have hbW : Below wd.heap.size wd (wd.alloc (.cells #[.slice A1 n1 c1, .slice A2 n2 c2] 74)).drew := ((Below.refl _ _).alloc (Nat.le_refl _) _).drew
      have hrW : (wd.alloc (.cells #[.slice A1 n1 c1, .slice A2 n2 c2] 74)).drew.heap[wd.heap.size]? = some (.cells #[.slice A1 n1 c1, .slice A2 n2 c2] 74 (0, 0)) := heap_alloc_new wd _
      generalize (wd.alloc (.cells #[.slice A1 n1 c1, .slice A2 n2 c2] 74)).drew = W at *
      have k0 : W.cell? ⟨wd.heap.size, 0, none⟩ = some (.slice A1 n1 c1) := cell_of_row _ _ 0 _ _ _ hrW
      have k1 : W.cell? ⟨wd.heap.size, 1, none⟩ = some (.slice A2 n2 c2) := cell_of_row _ _ 1 _ _ _ hrW
      have HbW := Lib.hid hbW
      have Hw3 := Lib.hid (Hbw2.out.trans (hbW.mono Hbw2.out.size))
      have hwdW : wd.heap.size < W.heap.size := (Array.getElem?_eq_some_iff.1 hrW).1
      have hbsl := Hm.out.lt
      have hgg : w.heap.size < g2 := by rcases hg2 with h | h <;> omega
      have hg2d : g2 < wd.heap.size := Hbr2.out.lt.2
      have hbd : w.heap.size < wd.heap.size := Hbr2.out.lt.1
      have hav : HaveAt W (bs + 1) (keysOf ms) := (Hm.out.hav.kept (Hfr.out.block (bs + 1) (by omega) (by omega) (by omega))).kept (HbW.out.block _ (by have := Hfr.out.size; omega))
      have hgN : bs + 1 ≠ g2 := by rcases hg2 with h | h <;> omega
      have hoat : OAt W W w.heap.size g2 (text.data.toList ++ [10]) := OAt.start (Hbr2.out.low hbd hg2d HbW.out)
      have Hav := Lib.hid hav
      have Hk0 := Lib.hid k0
      have Hk1 := Lib.hid k1
      have Hoat := Lib.hid hoat
      clear hbW hrW p1 p2 hav k0 k1 hoat
      obtain ⟨T, hT⟩ : ∃ T, T = text.data.toList ++ [10] := ⟨_, rfl⟩
      have hTl : T.length = text.size + 1 := by rw [hT]; simp
      rw [← hT] at Hoat Hbr2
      have HTt := Lib.hid hT
      clear hT
      go_wp2_with (fail)
      go_loopw [95] (fun v wr => ∃ i : Nat, i ≤ 2 ∧ v = .int .i64 (i : Int) ∧ Hid (OAt W wr w.heap.size g2 (T ++ oldLines (keysOf ms) (os.take (offs n1 n2 i)))) ∧ Hid ((os.take (offs n1 n2 i)).all (oldOk (keysOf ms)) = true)) (fun v _ => 2 - (RowKit.intOf v).toNat)
      case atStart => exact ⟨0, by omega, rfl, Lib.hid (by have h := Hoat.out; simpa [offs, oldLines] using h), Lib.hid (by simp [offs])⟩
      case round =>
        obtain ⟨i, hi2, rfl, Ho, Hall⟩ := hrel
        by_cases hi : i < 2
        · have hsel : ∃ A n c L, wr.cell? ⟨wd.heap.size, i, none⟩ = some (.slice A n c) ∧ Sl w w.heap.size 3 A n (encAll SV.cells L) ∧ n ≤ 2147483647 ∧ offs n1 n2 (i + 1) = offs n1 n2 i + n ∧ ∀ (j : Nat) (s : SV), L[j]? = some s → os[offs n1 n2 i + j]? = some s := by
            have hblk : ∀ j, wr.cell? ⟨wd.heap.size, j, none⟩ = W.cell? ⟨wd.heap.size, j, none⟩ := fun j => by
              unfold World.cell?
              rw [Ho.out.block hwdW (by omega) (by omega)]
            obtain rfl | rfl : i = 0 ∨ i = 1 := by omega
            · refine ⟨A1, n1, c1, l1, (hblk 0).trans Hk0.out, Hs1.out, hn1, by simp [offs], fun j s hj => ?_⟩
              rw [Hos.out, List.getElem?_append_left (by simpa [offs] using (List.getElem?_eq_some_iff.1 hj).1)]
              simpa [offs] using hj
            · have hl1 := Hs1.out.count SV.cells_length (by omega)
              refine ⟨A2, n2, c2, l2, (hblk 1).trans Hk1.out, Hs2.out, hn2, by simp [offs], fun j s hj => ?_⟩
              rw [Hos.out, List.getElem?_append_right (by simp [offs]; omega)]
              simpa [offs, hl1] using hj
          obtain ⟨A, n, cc, L, hcell, hsl, hn, hoff, hL⟩ := hsel
          have Hsl := Lib.hid hsl
          have Hoff := Lib.hid hoff
          have HL := Lib.hid hL
          have Hl := Lib.hid (hsl.count SV.cells_length (by omega))
          obtain ⟨off, hof⟩ : ∃ off, off = offs n1 n2 i := ⟨_, rfl⟩
          rw [← hof] at Ho Hall Hoff HL
          have Hof := Lib.hid hof
          clear hsl hoff hL hof
          go_wp2_with (fail)
          have e96 : decide ((i : Int) < 2) = true := by simp; omega
          simp only [e96]
          clear e96
          go_loopw [101] (fun v wx => ∃ j : Nat, j ≤ n ∧ v = .int .i64 (j : Int) ∧ Hid (OAt W wx w.heap.size g2 (T ++ oldLines (keysOf ms) (os.take (off + j)))) ∧ Hid ((os.take (off + j)).all (oldOk (keysOf ms)) = true)) (fun v _ => n - (RowKit.intOf v).toNat)
          case atStart => exact ⟨0, by omega, rfl, Ho, Hall⟩
          case round =>
            clear hcell Ho Hall
            obtain ⟨j, hj, rfl, Ho, Hall⟩ := hrel
            by_cases hlt : j < n
            · --DEV
              have hbx : Below w.heap.size w wr := Hw3.out.trans (Ho.out.below (Nat.le_refl _) (by omega) (by have := Hw3.out.size; omega))
              obtain ⟨b3, o3, x, rfl, hb3, hx, f0, f1, f2⟩ := SV.elem (Hsl.out.below hbx) hlt
              have hox := HL.out j x hx
              have hxs := Hsz.out x (List.mem_of_getElem? hox)
              have hnm : x.name.size ≤ 2147483647 := hxs.1
              have hb6 : x.b64.size ≤ 2147483647 := hxs.2
              have Hox := Lib.hid hox
              have Hbx := Lib.hid hbx
              clear hox hxs hx hbx
              have hlw : w.heap.size < wr.heap.size := Nat.lt_of_lt_of_le (Nat.lt_trans hbd hwdW) Ho.out.size
              go_upto_region 34 with (fail)
              go_quiet (fail)
              have hba : Below wr.heap.size wr ((wr.alloc (.cells #[.string x.name, .int .u32 x.hash, .string x.b64] 134)).drewN nq) := ((Below.refl _ _).alloc (Nat.le_refl _) _).trans ⟨rfl, rfl, rfl, Nat.le_refl _, fun _ _ => rfl⟩
              have hra : ((wr.alloc (.cells #[.string x.name, .int .u32 x.hash, .string x.b64] 134)).drewN nq).heap[wr.heap.size]? = some (.cells #[.string x.name, .int .u32 x.hash, .string x.b64] 134 (0, 0)) := heap_alloc_new wr _
              generalize (wr.alloc (.cells #[.string x.name, .int .u32 x.hash, .string x.b64] 134)).drewN nq = w4 at *
              have Ho4 := Lib.hid (Ho.out.far hba)
              have Hz4 := Lib.hid hba
              have Hb4 := Lib.hid (Hbx.out.trans (hba.mono Hbx.out.size))
              have Hra := Lib.hid hra
              have hl4 : wr.heap.size < w4.heap.size := (Array.getElem?_eq_some_iff.1 hra).1
              have Cv := Lib.hid (valid_any x.name w4 (by omega) (HT.out.below' Hb4.out))
              clear hba hra f0 f1 f2
              go_wp2_with (fail)
              refine Cv.out.mono ?_
              clear Cv
              rintro e w5 ⟨rfl, hb5⟩
              have Ho5 := Lib.hid (Ho4.out.far hb5)
              have Hz5 := Lib.hid (Hz4.out.trans (hb5.mono Hz4.out.size))
              have Hb5 := Lib.hid (Hb4.out.trans (hb5.mono Hb4.out.size))
              have hr5 := (hb5.block _ hl4).trans Hra.out
              have hl5 : wr.heap.size < w5.heap.size := Nat.lt_of_lt_of_le hl4 hb5.size
              have Hr5 := Lib.hid hr5
              clear hb5 Ho4 Hb4 Hra hr5 Hz4
              cases hv : nameOk x.name
              · have hno : os.all (oldOk (keysOf ms)) = false := olds_no Hox.out (oldOk_name hv)
                have hrn : r = none := by rw [Hr.out]; exact signR_olds hno
                have Hrn := Lib.hid hrn
                obtain ⟨⟨et1, ep1, he1⟩, ⟨et2, ep2, he2⟩⟩ := HE.out.below Hb5.out
                clear hv hno he2 hrn
                go_upto_region 36 with (fail)
                go_quiet (fail)
                go_wp2_with (fail)
                go_ret2
                rw [Hrn.out]
                exact npost_none ⟨Hb5.out.os, Hb5.out.tape, Hb5.out.output, Hb5.out.size, Hb5.out.block⟩ _ _ rfl
              · have Hv := Lib.hid hv
                clear hv
                have hv5 : HaveAt w5 (bs + 1) (keysOf ms) := Hav.out.kept (Ho5.out.block (by have := Hav.out.lt; omega) (by omega) hgN)
                have hlk := run_have_look (T := 119) hv5 Tryd.underlying119 (fun _ => rfl) x.name x.hash
                cases hh : hasKey (keysOf ms) x.name x.hash
                · rw [hh] at hlk
                  have Hh := Lib.hid hh
                  have f2 : w5.cell? ⟨wr.heap.size, 2, none⟩ = some (.string x.b64) := cell_of_row _ _ 2 _ _ _ Hr5.out
                  have hnn : noNl x.b64.data.toList := Hcl.out Hnl.out Ha.out (off + j) x Hox.out Hall.out Hv.out Hh.out
                  have Hnn := Lib.hid hnn
                  clear hh hv5 hnn
                  go_upto_region 38 with (fail)
                  go_cut [23, 24] (fun v23 v24 wx => DecGot w5 wx x.b64.data.toList v23 v24)
                  case first =>
                    clear hlk
                    go_region_with (first
                      | (go_at_call 55
                         refine (stdEnc_any _).mono ?_
                         rintro e wz ⟨rfl, hbz, hEz⟩
                         have f2z : wz.cell? ⟨wr.heap.size, 2, none⟩ = some (.string x.b64) := (hbz.cell (p := ⟨_, _, _⟩) hl5).trans f2)
                      | (go_at_call 57
                         refine (decStr_any _ x.b64 _ hEz hb6 Hnn.out).mono ?_
                         rintro e wy hsp
                         obtain ⟨v9, ev9, rfl, hgot⟩ := decGot hsp hbz))
                    all_goals (
                      go_wp2_with (fail)
                      go_meet
                      case rel => first | exact hgot | exact ⟨undrew hgot.1, hgot.2⟩)
                  case rest =>
                    obtain ⟨hb7, hgot⟩ := hcut
                    have Hz6 := Lib.hid (Hz5.out.trans (hb7.mono Hz5.out.size))
                    have Hb6 := Lib.hid (Hb5.out.trans (hb7.mono Hb5.out.size))
                    have Hr6 := Lib.hid ((hb7.block _ hl5).trans Hr5.out)
                    have hl6 : wr.heap.size < wc.heap.size := Nat.lt_of_lt_of_le hl5 hb7.size
                    clear hb7 Ho5 Hb5 Hr5 f2 Hz5
                    rcases hgot with ⟨hd, ev, rfl⟩ | ⟨y, g9, c9, hd, rfl, rfl, hyl, hg9, hrow9⟩
                    · have hno : os.all (oldOk (keysOf ms)) = false := olds_no Hox.out (by rw [oldOk_raw Hv.out Hh.out, hd]; rfl)
                      have hrn : r = none := by rw [Hr.out]; exact signR_olds hno
                      have Hrn := Lib.hid hrn
                      obtain ⟨⟨et1, ep1, he1⟩, ⟨et2, ep2, he2⟩⟩ := HE.out.below Hb6.out
                      clear hno he2 hrn
                      go_upto_region 40 with (fail)
                      go_quiet (fail)
                      go_wp2_with (fail)
                      go_ret2
                      rw [Hrn.out]
                      exact npost_none ⟨Hb6.out.os, Hb6.out.tape, Hb6.out.output, Hb6.out.size, Hb6.out.block⟩ _ _ rfl
                    · by_cases hy4 : y.length < 4
                      · have hno : os.all (oldOk (keysOf ms)) = false := olds_no Hox.out (by rw [oldOk_raw Hv.out Hh.out, hd]; simp [rawOk]; omega)
                        have hrn : r = none := by rw [Hr.out]; exact signR_olds hno
                        have Hrn := Lib.hid hrn
                        obtain ⟨⟨et1, ep1, he1⟩, ⟨et2, ep2, he2⟩⟩ := HE.out.below Hb6.out
                        clear hno he2 hrn
                        go_upto_region 40 with (fail)
                        go_quiet (fail)
                        go_wp2_with (fail)
                        go_ret2
                        rw [Hrn.out]
                        exact npost_none ⟨Hb6.out.os, Hb6.out.tape, Hb6.out.output, Hb6.out.size, Hb6.out.block⟩ _ _ rfl
                      · have cb := beU_any g9 0 y.length c9 y wc hrow9 (by omega) rfl hyl
                        have Cb := Lib.hid cb
                        have Hd := Lib.hid hd
                        clear cb hd hrow9
                        go_wp2_with (fail)
                        refine Cb.out.mono ?_
                        clear Cb
                        rintro e w7 ⟨rfl, k7, hw7⟩
                        have hb7 : Below wc.heap.size wc w7 := by rw [hw7]; exact ⟨rfl, rfl, rfl, Nat.le_refl _, fun _ _ => rfl⟩
                        have Hz7 := Lib.hid (Hz6.out.trans (hb7.mono Hz6.out.size))
                        have Hb7 := Lib.hid (Hb6.out.trans (hb7.mono Hb6.out.size))
                        have Hr7 := Lib.hid ((hb7.block _ hl6).trans Hr6.out)
                        have hl7 : wr.heap.size < w7.heap.size := Nat.lt_of_lt_of_le hl6 hb7.size
                        clear hb7 hw7 Hz6 Hb6 Hr6
                        by_cases hbe : (be4 y : Int) = x.hash
                        · have hraw : rawOk (decL x.b64.data.toList) x.hash = true := by rw [Hd.out]; simp [rawOk, hbe]; omega
                          have hb1 : 1 ≤ x.b64.size := rawOk_ne hraw
                          have Hraw := Lib.hid hraw
                          have hbn : ((be4 y : Int) != x.hash) = false := by rw [hbe]; simp
                          have hnn1 : 1 ≤ x.name.size := nameOk_pos Hv.out
                          clear hraw hbe
                          obtain ⟨g7, hr7, hf7, hg7⟩ := Ho.out
                          have hg7l : g7 < wr.heap.size := hr7.lt.2
                          have hrow7 : BufRow w7 w.heap.size g7 (T ++ oldLines (keysOf ms) (os.take (off + j))) := hr7.low hlw hg7l Hz7.out
                          have hfr7 : Fr W w7 w.heap.size g2 := hf7.far Hz7.out
                          have Hfr7 := Lib.hid hfr7
                          obtain ⟨L0, hL0⟩ : ∃ L0, L0 = T ++ oldLines (keysOf ms) (os.take (off + j)) := ⟨_, rfl⟩
                          rw [← hL0] at hrow7
                          have hlen : L0.length + (4 + x.name.size + 1 + x.b64.size + 1) ≤ 2147483648 := by
                            have hle := oldLines_le (ks := keysOf ms) (l := os) (off + j + 1)
                            rw [oldLines_next Hox.out, oldLine_line Hh.out, List.length_append, oldLine_len] at hle
                            have hl := Hlim.out
                            rw [hL0, List.length_append, hTl]
                            omega
                          have hL1 : 1 ≤ L0.length := by rw [hL0, List.length_append, hTl]; omega
                          have HL0 := Lib.hid hL0
                          clear hr7 hf7 hfr7 hL0
                          have hnl2 : x.name.data.toList.length = x.name.size := by simp
                          have hbl2 : x.b64.data.toList.length = x.b64.size := by simp
                          have C1 := Lib.hid ((OAt.start hrow7).write ⟨#[226, 128, 148, 32]⟩ hL1 (by decide) (by show _ + 4 ≤ _; omega))
                          clear hrow7
                          go_wp2_with (fail)
                          refine C1.out.mono ?_
                          clear C1
                          rintro e w8 ⟨rfl, ho8⟩
                          have hr8 := (ho8.block hl7 (by omega) (by omega)).trans Hr7.out
                          have n8 : w8.cell? ⟨wr.heap.size, 0, none⟩ = some (.string x.name) := cell_of_row _ _ 0 _ _ _ hr8
                          have C2 := Lib.hid (ho8.write x.name (by simp only [List.length_append]; omega) hnn1 (by simp only [List.length_append]; show _ + 4 + _ ≤ _; omega))
                          clear ho8 hr8
                          go_wp2_with (fail)
                          refine C2.out.mono ?_
                          clear C2
                          rintro e w9 ⟨rfl, ho9⟩
                          have C3 := Lib.hid (ho9.write ⟨#[32]⟩ (by simp only [List.length_append]; omega) (by decide) (by simp only [List.length_append, hnl2]; show _ + 4 + _ + 1 ≤ _; omega))
                          clear ho9 n8
                          go_wp2_with (fail)
                          refine C3.out.mono ?_
                          clear C3
                          rintro e w10 ⟨rfl, ho10⟩
                          have hr10 := (ho10.block hl7 (by omega) (by omega)).trans Hr7.out
                          have n10 : w10.cell? ⟨wr.heap.size, 2, none⟩ = some (.string x.b64) := cell_of_row _ _ 2 _ _ _ hr10
                          have C4 := Lib.hid (ho10.write x.b64 (by simp only [List.length_append]; omega) hb1 (by simp only [List.length_append, hnl2]; show _ + 4 + _ + 1 + _ ≤ _; omega))
                          clear ho10 hr10
                          go_wp2_with (fail)
                          refine C4.out.mono ?_
                          clear C4
                          rintro e w11 ⟨rfl, ho11⟩
                          have C5 := Lib.hid (ho11.write ⟨#[10]⟩ (by simp only [List.length_append]; omega) (by decide) (by simp only [List.length_append, hnl2, hbl2]; show _ + 4 + _ + 1 + _ + 1 ≤ _; omega))
                          clear ho11 n10
                          go_wp2_with (fail)
                          refine C5.out.mono ?_
                          clear C5
                          rintro e w12 ⟨rfl, ho12⟩
                          have ho := OAt.join Hfr7.out hg7 ho12
                          have Hj := Lib.hid ho
                          clear ho ho12
                          go_wp2_with (fail)
                          go_roundw
                          case rel =>
                            refine ⟨j + 1, by omega, by go_num, Lib.hid ?_, Lib.hid ?_⟩
                            · rw [← Nat.add_assoc, oldLines_next Hox.out, oldLine_line Hh.out]
                              have h := Hj.out
                              rw [HL0.out] at h
                              have e : T ++ (oldLines (keysOf ms) (os.take (off + j)) ++ lineL x.name.data.toList x.b64.data.toList) = T ++ oldLines (keysOf ms) (os.take (off + j)) ++ [226, 128, 148, 32] ++ x.name.data.toList ++ [32] ++ x.b64.data.toList ++ [10] := by simp [lineL, dash]
                              rw [e]
                              exact h
                            · rw [← Nat.add_assoc, oldOks_next Hox.out, Hall.out, oldOk_raw Hv.out Hh.out, Hraw.out]
                              rfl
                          case measure => simp [RowKit.intOf]; omega
                        · have hno : os.all (oldOk (keysOf ms)) = false := olds_no Hox.out (by rw [oldOk_raw Hv.out Hh.out, Hd.out]; simp [rawOk, hbe])
                          have hrn : r = none := by rw [Hr.out]; exact signR_olds hno
                          have Hrn := Lib.hid hrn
                          obtain ⟨⟨et1, ep1, he1⟩, ⟨et2, ep2, he2⟩⟩ := HE.out.below Hb7.out
                          have hbn : ((be4 y : Int) != x.hash) = true := by simpa using hbe
                          clear hno he2 hrn hbe
                          go_upto_region 40 with (fail)
                          go_quiet (fail)
                          go_wp2_with (fail)
                          go_ret2
                          rw [Hrn.out]
                          exact npost_none ⟨Hb7.out.os, Hb7.out.tape, Hb7.out.output, Hb7.out.size, Hb7.out.block⟩ _ _ rfl
                · rw [hh] at hlk
                  have Hh := Lib.hid hh
                  clear hh hv5
                  go_wp2_with (fail)
                  go_roundw
                  case rel =>
                    refine ⟨j + 1, by omega, by go_num, Lib.hid ?_, Lib.hid ?_⟩
                    · rw [← Nat.add_assoc, oldLines_next Hox.out, oldLine_skip Hh.out, List.append_nil]
                      exact Ho5.out
                    · rw [← Nat.add_assoc, oldOks_next Hox.out, Hall.out, oldOk_skip Hv.out Hh.out]
                      rfl
                  case measure => simp [RowKit.intOf]; omega
              --VED
            · obtain rfl : j = n := by omega
              go_wp2_with (fail)
              go_roundw
              case rel =>
                refine ⟨i + 1, by omega, by go_num, Lib.hid ?_, Lib.hid ?_⟩
                · rw [Hoff.out]
                  exact Ho.out
                · rw [Hoff.out]
                  exact Hall.out
              case measure => simp [RowKit.intOf]; omega
        · obtain rfl : i = 2 := by omega
          simp only [Int.cast_ofNat_Int]
          have hl1 := Hs1.out.count SV.cells_length (by omega)
          have hl2 := Hs2.out.count SV.cells_length (by omega)
          have htk : os.take (offs n1 n2 2) = os := List.take_of_length_le (by rw [Hos.out, List.length_append, hl1, hl2]; simp [offs])
          rw [htk] at Ho Hall
          clear htk hl1 hl2
          have hrs : r = some (T ++ oldLines (keysOf ms) os ++ newLines ms) := by rw [Hr.out, signR_some Hnl.out Ha.out Hall.out, HTt.out]
          have Hrs := Lib.hid hrs
          clear hrs
          obtain ⟨g7, hr7, hf7, hg7⟩ := Ho.out
          have hfa : Fr wc wr w.heap.size gb := (Hfr.out.far HbW.out).comp hf7 (by omega)
          have hbuf2 : IsBuffer 115 5 bs bs (byteCells (newLines ms)) wr := IsBuffer.fr Hm.out.buf hfa hbbl hgbl
          have hgg7 : w.heap.size < g7 := by have := HbW.out.size; omega
          have Cb := Lib.hid (buf_bytes bs (newLines ms) wr hbuf2)
          have hbw3 : Below w.heap.size w wr := Hw3.out.trans (Ho.out.below (Nat.le_refl _) (by omega) (by have := Hw3.out.size; omega))
          obtain ⟨L1, hL1⟩ : ∃ L1, L1 = T ++ oldLines (keysOf ms) os := ⟨_, rfl⟩
          rw [← hL1] at hr7 Hrs
          have hL1l : L1.length + (newLines ms).length ≤ 2147483648 := by rw [hL1, List.length_append, hTl]; exact Hlim.out
          have Hbr3 := Lib.hid hr7
          have Hbw3 := Lib.hid hbw3
          clear hbuf2 hr7 hbw3 hf7 hfa hL1
          go_wp2_with (fail)
          refine Cb.out.mono ?_
          clear Cb
          rintro e wx ⟨AS, cS, rfl, hslS, hcS, hAS, nx, rfl⟩
          have hbr4 : BufRow (wr.drewN nx) w.heap.size g7 L1 := Hbr3.out
          have Cw := Lib.hid (write_buf w.heap.size g7 cS AS L1 (newLines ms) (wr.drewN nx) hbr4 hgg7 hslS (fun a h => by have := hAS a h; omega) hL1l)
          have Hbw4 := Lib.hid (Hbw3.out.trans ((below_drewNg wr nx).mono Hbw3.out.size))
          clear hbr4 hslS hAS
          go_wp2_with (fail)
          refine Cw.out.mono ?_
          clear Cw
          rintro e wy ⟨rfl, hbuf5, hby⟩
          obtain ⟨L, hL⟩ : ∃ L, L = L1 ++ newLines ms := ⟨_, rfl⟩
          rw [← hL] at hbuf5 Hrs
          have HL := Lib.hid hL
          clear hL
          have Cb := Lib.hid (buf_bytes w.heap.size L wy hbuf5)
          have Hbw5 := Lib.hid (Hbw4.out.trans hby)
          clear hbuf5 hby
          go_wp2_with (fail)
          refine Cb.out.mono ?_
          clear Cb
          rintro e wz ⟨A9, c9, rfl, hsl9, hc9, _, nz, rfl⟩
          have Hsl9 := Lib.hid hsl9
          have Hc9 := Lib.hid hc9
          have Hbw6 := Lib.hid (Hbw5.out.trans ((below_drewNg wy nz).mono Hbw5.out.size))
          clear hsl9 hc9
          go_wp2_with (fail)
          go_ret2
          rw [Hrs.out]
          exact ⟨Hbw6.out, A9, c9, rfl, Hsl9.out, Hc9.out⟩

end Go.Proofs.YtnnbhklkakhkkaaDoor

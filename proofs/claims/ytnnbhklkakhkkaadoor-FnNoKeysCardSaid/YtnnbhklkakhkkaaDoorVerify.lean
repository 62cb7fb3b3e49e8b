/-
  The walk of impl.verifier's Verify: a key accepts a signature of a text.
-/
import Derived.Test.YtnnbhklkakhkkaaDoorOpenP
import Derived.BigQuiet
import Derived.Deep.QuietTactic
namespace Go.Proofs.YtnnbhklkakhkkaaDoor
open Go.RowKit Go.Lib

theorem vVerify_method (v : Value) (w : World) : (method 330 158 v "Verify").run Tryd.prog w = .ok (127, v) w := by kernel_rfl

/-- a row of bytes as a text -/
theorem conv_row {w : World} {b o c : Nat} {l : List UInt8} (h : RowAt w b o (byteCells l)) : (convert 68 9 (.slice (some ⟨b, o, none⟩) l.length c)).run Tryd.prog w = .ok (.string (str l)) w :=
  run_convert_bytes_back (P := Tryd.prog) w 68 9 5 ⟨b, o, none⟩ c l Tryd.underlying68 Tryd.underlying5 Tryd.underlying9 (fun j hj => by
    rw [Lib.addr_add]
    exact h j _ (by unfold byteCells; rw [List.getElem?_map, List.getElem?_eq_getElem hj]; rfl))

/-- .. none of the first i pairs is it -/
def noneTo (k : KV) (text sig : ByteArray) (i : Nat) : Prop := ∀ j, j < i → ¬ (k.texts[j]? = some text ∧ k.sigs[j]? = some sig)
theorem noneTo.next {k : KV} {text sig : ByteArray} {i : Nat} (h : noneTo k text sig i) (hn : ¬ (k.texts[i]? = some text ∧ k.sigs[i]? = some sig)) : noneTo k text sig (i + 1) := fun j hj => by
  by_cases he : j = i
  · subst he; exact hn
  · exact h j (by omega)
theorem accK_iff {k : KV} {text sig : ByteArray} : accK k text sig = true ↔ ∃ j : Nat, k.texts[j]? = some text ∧ k.sigs[j]? = some sig := by
  unfold accK
  rw [List.any_eq_true]
  constructor
  · rintro ⟨⟨a, b⟩, hm, h⟩
    rw [decide_eq_true_eq] at h
    obtain ⟨rfl, rfl⟩ := h
    obtain ⟨j, hj⟩ := List.mem_iff_getElem?.1 hm
    rw [List.getElem?_zip_eq_some] at hj
    exact ⟨j, hj⟩
  · rintro ⟨j, h⟩
    exact ⟨(text, sig), List.mem_of_getElem? (List.getElem?_zip_eq_some.2 h), decide_eq_true ⟨rfl, rfl⟩⟩
theorem accK_false {k : KV} {text sig : ByteArray} (h : noneTo k text sig k.texts.length) : accK k text sig = false := by
  rw [Bool.eq_false_iff]
  intro ha
  obtain ⟨j, hj⟩ := accK_iff.1 ha
  exact h j (List.getElem?_eq_some_iff.1 hj.1).1 hj

set_option maxHeartbeats 4000000 in
set_option maxRecDepth 100000 in
theorem verify_any (k : KV) (mb mo mc sb so sc : Nat) (tl sl : List UInt8) (w : World) (hk : k.At w w.heap.size) (hok : k.tn ≤ 2147483647 ∧ k.sn ≤ 2147483647)
    (hm : RowAt w mb mo (byteCells tl)) (hs : RowAt w sb so (byteCells sl)) (ht : 0 < tl.length) (hs0 : 0 < sl.length) (ht2 : tl.length ≤ 2147483647) (hs2 : sl.length ≤ 2147483647) :
    Calls Tryd.prog 127 #[.agg #[.string k.name, .int .u32 k.hash, .slice k.ta k.tn k.tc, .slice k.sa k.sn k.sc], .slice (some ⟨mb, mo, none⟩) tl.length mc, .slice (some ⟨sb, so, none⟩) sl.length sc] w fun e w' => e = .returned (.bool (accK k (str tl) (str sl))) ∧ Below w.heap.size w w' := by
  obtain ⟨hkt, hks⟩ := hk
  have hmb : mb < w.heap.size := by
    cases tl with
    | nil => simp at ht
    | cons a t => exact World.block_lt_of_cell? w ⟨mb, mo + 0, none⟩ (hm 0 _ rfl)
  have hsb : sb < w.heap.size := by
    cases sl with
    | nil => simp at hs0
    | cons a t => exact World.block_lt_of_cell? w ⟨sb, so + 0, none⟩ (hs 0 _ rfl)
  have hlt : k.texts.length = k.tn := by have := hkt.1; rw [strCells_length] at this; omega
  have hls : k.sigs.length = k.sn := by have := hks.1; rw [strCells_length] at this; omega
  have Hkt := Lib.hid hkt
  have Hks := Lib.hid hks
  have Hlt := Lib.hid hlt
  have Hls := Lib.hid hls
  have Hm := Lib.hid hm
  have Hs := Lib.hid hs
  clear hkt hks hlt hls hm hs
  obtain ⟨tn, htn⟩ : ∃ n, n = k.tn := ⟨_, rfl⟩
  obtain ⟨sn, hsn⟩ : ∃ n, n = k.sn := ⟨_, rfl⟩
  rw [← htn, ← hsn] at hok ⊢
  obtain ⟨hok1, hok2⟩ := hok
  have Htn := Lib.hid htn
  have Hsn := Lib.hid hsn
  clear htn hsn
  go_enter Tryd.func127, Tryd.ntmps127
  go_wp2_with (fail)
  go_loopw [13] (fun v wr => ∃ i : Nat, i ≤ tn ∧ v = .int .i64 i ∧ Hid (noneTo k (str tl) (str sl) i) ∧ Hid (Below (w.heap.size + 1) (w.alloc (.cells #[.string k.name, .int .u32 k.hash, .slice k.ta tn k.tc, .slice k.sa sn k.sc] 158)) wr)) (fun v _ => tn - (intOf v).toNat)
  case atStart => exact ⟨0, by omega, rfl, fun j hj => by omega, Below.refl _ _⟩
  case round =>
    obtain ⟨i, hi, rfl, Hn, Hb⟩ := hrel
    have hb := Hb.out
    have hw0 : Below w.heap.size w (w.alloc (.cells #[.string k.name, .int .u32 k.hash, .slice k.ta tn k.tc, .slice k.sa sn k.sc] 158)) := (Below.refl _ _).alloc (Nat.le_refl _) _
    have hbw : Below w.heap.size w wr := hw0.trans (hb.mono (by simp))
    have hbox : wr.heap[w.heap.size]? = some (.cells #[.string k.name, .int .u32 k.hash, .slice k.ta tn k.tc, .slice k.sa sn k.sc] 158 (0, 0)) := (hb.block _ (by omega)).trans (heap_alloc_new w _)
    have q3 := cell_of_row _ _ 3 _ _ _ hbox
    simp at q3
    have Hbw := Lib.hid hbw
    have hcm : ∀ n, (convert 68 9 (.slice (some ⟨mb, mo, none⟩) tl.length mc)).run Tryd.prog (wr.drewN n) = .ok (.string (str tl)) (wr.drewN n) := fun n => conv_row ((Hm.out.below Hbw.out hmb).keep fun _ => rfl)
    have hcs : ∀ n, (convert 68 9 (.slice (some ⟨sb, so, none⟩) sl.length sc)).run Tryd.prog (wr.drewN n) = .ok (.string (str sl)) (wr.drewN n) := fun n => conv_row ((Hs.out.below Hbw.out hsb).keep fun _ => rfl)
    clear hb hw0 hbw hbox
    by_cases hlt : i < tn
    · obtain ⟨tb, ot, t, hta, htb, hti, htc⟩ := (Hkt.out.below Hbw.out).str (k := i) (by rw [← Htn.out]; exact hlt)
      have Hti := Lib.hid hti
      have Hta := Lib.hid hta
      by_cases h1 : i < sn
      · obtain ⟨gb, og, g, hsa, hgb, hgi, hgc⟩ := (Hks.out.below Hbw.out).str (k := i) (by rw [← Hsn.out]; exact h1)
        have Hgi := Lib.hid hgi
        rw [hsa] at q3
        by_cases h2 : t = str tl
        · by_cases h3 : g = str sl
          · have Ha := Lib.hid (accK_iff.2 ⟨i, by rw [Hti.out, h2], by rw [Hgi.out, h3]⟩)
            rw [hta] at Hb ⊢
            clear hta hti hgi hsa
            subst h2 h3
            go_upto_region 4 with (fail)
            go_quiet (fail)
            go_wp2_with (fail)
            go_ret
            exact ⟨ret_bool Ha.out.symm, ⟨Hbw.out.os, Hbw.out.tape, Hbw.out.output, Hbw.out.size, Hbw.out.block⟩⟩
          · have Hn1 := Lib.hid (Hn.out.next fun hh => h3 (by have := hh.2; rw [Hgi.out] at this; injection this))
            have hne3 : (g.toList == (str sl).toList) = false := by rw [beq_eq_false_iff_ne]; exact fun h => h3 ((str_eq_iff _ _).1 h)
            rw [hta] at Hb ⊢
            clear hta hti hgi hsa
            subst h2
            go_upto_region 4 with (fail)
            go_quiet (fail)
            go_wp2_with (fail)
            go_roundw
            case rel => exact ⟨i + 1, by omega, by go_num, Hn1, ⟨Hb.out.os, Hb.out.tape, Hb.out.output, Hb.out.size, Hb.out.block⟩⟩
            case measure => simp [intOf]; omega
        · have Hn1 := Lib.hid (Hn.out.next fun hh => h2 (by have := hh.1; rw [Hti.out] at this; injection this))
          have hne2 : (t.toList == (str tl).toList) = false := by rw [beq_eq_false_iff_ne]; exact fun h => h2 ((str_eq_iff _ _).1 h)
          rw [hta] at Hb ⊢
          clear hta hti hgi hsa
          go_upto_region 4 with (fail)
          go_quiet (fail)
          go_wp2_with (fail)
          go_roundw
          case rel => exact ⟨i + 1, by omega, by go_num, Hn1, ⟨Hb.out.os, Hb.out.tape, Hb.out.output, Hb.out.size, Hb.out.block⟩⟩
          case measure => simp [intOf]; omega
      · have Hn1 := Lib.hid (Hn.out.next fun hh => by
          have := (List.getElem?_eq_some_iff.1 hh.2).1
          have h5 := Hls.out
          have h6 := Hsn.out
          omega)
        rw [hta] at Hb ⊢
        clear hta hti
        go_upto_region 4 with (fail)
        go_quiet (fail)
        go_wp2_with (fail)
        go_roundw
        case rel => exact ⟨i + 1, by omega, by go_num, Hn1, ⟨Hb.out.os, Hb.out.tape, Hb.out.output, Hb.out.size, Hb.out.block⟩⟩
        case measure => simp [intOf]; omega
    · have Ha := Lib.hid (accK_false (k := k) (text := str tl) (sig := str sl) (fun j hj => Hn.out j (by have h5 := Hlt.out; have h6 := Htn.out; omega)))
      go_wp2_with (fail)
      go_ret
      exact ⟨ret_bool Ha.out.symm, Hbw.out⟩

end Go.Proofs.YtnnbhklkakhkkaaDoor

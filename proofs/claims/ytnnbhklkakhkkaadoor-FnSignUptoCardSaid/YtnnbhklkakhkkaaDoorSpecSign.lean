/-
  THE REFERENCE SIGNS: the walk of spec.Sign.
-/
import Derived.Test.YtnnbhklkakhkkaaDoorConv
import Derived.Test.YtnnbhklkakhkkaaDoorSpecEnc
import Derived.Test.YtnnbhklkakhkkaaDoorNames
import Derived.Test.YtnnbhklkakhkkaaDoorRefuseL
namespace Go.Proofs.YtnnbhklkakhkkaaDoor
open Go.RowKit Go.Lib

/-- of the first k old signatures those that are reached and read have no new line inside -/
def CleanTo (ks : List (ByteArray × Int)) (os : List SV) (k : Nat) : Prop :=
  ∀ (i : Nat) (s : SV), i < k → os[i]? = some s → nameOk s.name = true → hasKey ks s.name s.hash = false → noNl s.b64.data.toList
section
variable {ks : List (ByteArray × Int)} {os : List SV} {k : Nat} {x : SV}
theorem clean_zero : CleanTo ks os 0 := fun i s h => absurd h (by omega)
theorem clean_next (h : CleanTo ks os k) (hx : os[k]? = some x) (hn : nameOk x.name = true → hasKey ks x.name x.hash = false → noNl x.b64.data.toList) : CleanTo ks os (k + 1) := fun i s hi hs h1 h2 => by
  by_cases hik : i < k
  · exact h i s hik hs h1 h2
  · obtain rfl : i = k := by omega
    rw [hx] at hs
    injection hs with hs
    subst hs
    exact hn h1 h2
theorem clean_all (h : CleanTo ks os k) (hk : os.length ≤ k) : Clean ks os := fun i s hs _ h1 h2 => h i s (by have := (List.getElem?_eq_some_iff.1 hs).1; omega) hs h1 h2
theorem clean_stop (h : CleanTo ks os k) (hx : os[k]? = some x) (hno : oldOk ks x = false) (hn : nameOk x.name = true → hasKey ks x.name x.hash = false → noNl x.b64.data.toList) : Clean ks os := fun i s hs ha h1 h2 => by
  by_cases hik : i < k + 1
  · exact clean_next h hx hn i s hik hs h1 h2
  · have hm : x ∈ os.take i := by
      have h0 : (os.take i)[k]? = some x := by rw [List.getElem?_take, if_pos (by omega), hx]
      exact List.mem_of_getElem? h0
    have := List.all_eq_true.1 ha x hm
    rw [hno] at this
    cases this
end

/-- the message, or nothing -/
def msgOf (r : Option (List UInt8)) : ByteArray := match r with
  | some x => str x
  | none => ⟨#[]⟩
/-- what spec.Sign leaves -/
def SgPost (w : World) (text : ByteArray) (ms : List MV) (os : List SV) (e : Ending) (w' : World) : Prop :=
  Below w.heap.size w w' ∧ ((∃ x y, e = .returned (.tuple #[.string x, .bool y, .bool false])) ∨
    ((endsNl text = true → ms.all signs = true → Clean (keysOf ms) os) ∧ e = .returned (.tuple #[.string (msgOf (signR text ms os)), .bool (signR text ms os).isSome, .bool true])))
theorem sg_none {w w' : World} {text : ByteArray} {ms : List MV} {os : List SV} {e : Ending} (hb : Below w.heap.size w w') (hr : signR text ms os = none) (hc : endsNl text = true → ms.all signs = true → Clean (keysOf ms) os)
    (he : e = .returned (.tuple #[.string ⟨#[]⟩, .bool false, .bool true])) : SgPost w text ms os e w' := ⟨hb, .inr ⟨hc, by rw [hr]; exact he⟩⟩
theorem sg_some {w w' : World} {text : ByteArray} {ms : List MV} {os : List SV} {e : Ending} {x : List UInt8} (hb : Below w.heap.size w w') (hr : signR text ms os = some x) (hc : endsNl text = true → ms.all signs = true → Clean (keysOf ms) os)
    (he : e = .returned (.tuple #[.string (str x), .bool true, .bool true])) : SgPost w text ms os e w' := ⟨hb, .inr ⟨hc, by rw [hr]; exact he⟩⟩
theorem sg_untold {w w' : World} {text : ByteArray} {ms : List MV} {os : List SV} {e : Ending} {x : ByteArray} {y : Bool} (hb : Below w.heap.size w w') (he : e = .returned (.tuple #[.string x, .bool y, .bool false])) : SgPost w text ms os e w' := ⟨hb, .inl ⟨x, y, he⟩⟩

theorem sgR_nl {text : ByteArray} {ms : List MV} {os : List SV} (h : endsNl text = false) : signR text ms os = none := by
  unfold signR
  rw [h]
  rfl
theorem sgR_signs {text : ByteArray} {ms : List MV} {os : List SV} (h : ms.all signs = false) : signR text ms os = none := by
  unfold signR
  rw [h, Bool.false_and, Bool.and_false]
  rfl
theorem sgR_olds {text : ByteArray} {ms : List MV} {os : List SV} (h : os.all (oldOk (keysOf ms)) = false) : signR text ms os = none := by
  unfold signR
  rw [h, Bool.and_false, Bool.and_false]
  rfl
theorem sgR_some {text : ByteArray} {ms : List MV} {os : List SV} (h1 : endsNl text = true) (h2 : ms.all signs = true) (h3 : os.all (oldOk (keysOf ms)) = true) : signR text ms os = some (text.data.toList ++ [10] ++ oldLines (keysOf ms) os ++ newLines ms) := by
  unfold signR
  rw [h1, h2, h3]
  rfl
theorem ends_at {s : ByteArray} (h : 0 < s.size) : endsNl s = decide (bAt s (s.size - 1) = 10) := by
  obtain ⟨x, hx, hs⟩ := last_byte h
  unfold endsNl bAt
  rw [hs, List.getD_eq_getElem?_getD, hx, Option.getD_some, Bool.eq_iff_iff, beq_iff_eq, decide_eq_true_eq]
  exact ⟨fun h => by rw [h]; rfl, fun h => UInt8.toNat_inj.1 (by simpa using h)⟩
theorem ends_empty {s : ByteArray} (h : s.size = 0) : endsNl s = false := by
  unfold endsNl
  rw [show s.data.toList = [] from List.eq_nil_of_length_eq_zero (by simpa using h)]
  rfl
theorem specEnc_str (l : List UInt8) (w : World) (hl : l.length ≤ 4294967296) : Calls Tryd.prog 36 #[.string (str l)] w fun e w' => e = .returned (.string (str (encL l))) ∧ Below w.heap.size w w' := by
  have h := specEnc_any (str l) w (by rw [str_size]; exact hl)
  rw [str_list] at h
  exact h
theorem specWrite_str (a : ByteArray) (l : List UInt8) (w : World) (ha : a.size ≤ 4294967296) (hl : l.length ≤ 4294967296) : Calls Tryd.prog 35 #[.string a, .string (str l)] w fun e w' => e = .returned (.string (str (lineL a.data.toList l))) ∧ w' = w := by
  have h := specWrite_any a (str l) w ha (by rw [str_size]; exact hl)
  rw [str_list] at h
  exact h
theorem newB64_len (m : MV) : (newB64 m).length = (4 + m.sig.size + 2) / 3 * 4 := by
  have hg : m.sig.data.toList.length = m.sig.size := by simp
  unfold newB64
  rw [encL_length, List.length_append, hg]
  rfl
theorem lineL_len (a : ByteArray) (l : List UInt8) : (lineL a.data.toList l).length = 4 + a.size + 1 + l.length + 1 := by simp [lineL, dash]; omega
theorem all_no {α : Type} {p : α → Bool} {l : List α} {k : Nat} {x : α} (h : l[k]? = some x) (hp : p x = false) : l.all p = false := by
  rw [List.all_eq_false]
  exact ⟨x, List.mem_of_getElem? h, by simp [hp]⟩
theorem hasKey_next {ms : List MV} {j : Nat} {m : MV} {a : ByteArray} {x : Int} (h : ms[j]? = some m) : hasKey (keysOf (ms.take (j + 1))) a x = (hasKey (keysOf (ms.take j)) a x || decide (m.name = a ∧ m.hash = x)) := by
  rw [keysOf_next h]
  unfold hasKey
  rw [List.any_append]
  simp
/-- reading, as three values -/
theorem dec_got {w w' : World} {l : List UInt8} {e : Ending} (h : DecPost w l e w') : ∃ R ok c, e = .returned (.tuple #[.string (str R), .bool ok, .bool c]) ∧ Below w.heap.size w w' ∧
    ((decL l = none ∧ ok = false ∧ R = []) ∨ (decL l = some R ∧ ok = true)) := by
  obtain ⟨hb, h⟩ := h
  cases hd : decL l with
  | none =>
    rw [hd] at h
    exact ⟨[], false, true, h, hb, .inl ⟨rfl, rfl, rfl⟩⟩
  | some x =>
    rw [hd] at h
    exact ⟨x, true, clearL l, h, hb, .inr ⟨rfl, rfl⟩⟩
theorem specHash_b (R : List UInt8) (w : World) (h : 4 ≤ R.length) : Calls Tryd.prog 39 #[.string (str R)] w fun e w' => e = .returned (.int .u32 (be4 R)) ∧ Below w.heap.size w w' :=
  (specHash_any (str R) w (by rw [str_size]; exact h)).mono fun e w' h => by
    obtain ⟨rfl, n, rfl⟩ := h
    exact ⟨by rw [str_list], rfl, rfl, rfl, Nat.le_refl _, fun _ _ => rfl⟩
/-- no new line inside, as a truth -/
def noNlB (l : List UInt8) : Bool := l.all fun c => decide (c.toNat ≠ 10) && decide (c.toNat ≠ 13)
theorem noNlB_iff {l : List UInt8} (h : noNlB l = true) : noNl l := fun c hc => by
  have := List.all_eq_true.1 h c hc
  simp only [Bool.and_eq_true, decide_eq_true_eq] at this
  exact ⟨fun e => this.1 (by rw [e]; rfl), fun e => this.2 (by rw [e]; rfl)⟩
theorem noNlB_next {s : ByteArray} {j : Nat} (h : j < s.size) : noNlB (s.data.toList.take (j + 1)) = (noNlB (s.data.toList.take j) && (decide (bAt s j ≠ 10) && decide (bAt s j ≠ 13))) := by
  have hg : s.data.toList[j]? = some (s.data.toList.getD j 0) := by rw [List.getD_eq_getElem?_getD, List.getElem?_eq_getElem (by simpa using h)]; rfl
  unfold noNlB bAt
  rw [List.take_add_one, hg, List.all_append]
  simp
theorem add_nl (s : ByteArray) : s ++ ⟨#[10]⟩ = str (s.data.toList ++ [10]) := bytes_ext (by rw [str_list]; simp [ByteArray.data_append])

set_option maxHeartbeats 8000000 in
set_option maxRecDepth 100000 in
theorem specSign_any (n c n1 c1 n2 c2 : Nat) (A A1 A2 : Option Addr) (text : ByteArray) (ms : List MV) (l1 l2 os : List SV) (w : World) (hs : Sl w w.heap.size 4 A n (encAll MV.cells ms)) (hs1 : Sl w w.heap.size 3 A1 n1 (encAll SV.cells l1)) (hs2 : Sl w w.heap.size 3 A2 n2 (encAll SV.cells l2))
    (hos : os = l1 ++ l2) (hok : ∀ m ∈ ms, m.Ok) (hm : ∀ m ∈ ms, m.name.size ≤ 2147483647 ∧ m.sig.size ≤ 2147483647) (hsz : ∀ x ∈ os, x.name.size ≤ 2147483647 ∧ x.b64.size ≤ 2147483647)
    (hn : n ≤ 2147483647) (hn1 : n1 ≤ 2147483647) (hn2 : n2 ≤ 2147483647) (hlim : text.size + 1 + (oldLines (keysOf ms) os).length + (newLines ms).length ≤ 2147483648) :
    Calls Tryd.prog 19 #[.agg #[.string text, .slice A1 n1 c1, .slice A2 n2 c2], .slice A n c] w (SgPost w text ms os) := by
  have hl1 := hs1.count SV.cells_length (by omega)
  have hl2 := hs2.count SV.cells_length (by omega)
  have Hl := Lib.hid (hs.count MV.cells_length (by omega))
  have hb0 : Below w.heap.size w (w.alloc (.cells #[.string text, .slice A1 n1 c1, .slice A2 n2 c2] 29)) := (Below.refl _ _).alloc (Nat.le_refl _) _
  have hr0 := heap_alloc_new w (.cells #[.string text, .slice A1 n1 c1, .slice A2 n2 c2] 29)
  have Hb0 := Lib.hid hb0
  have H0 := Lib.hid ((hs.below hb0).more hb0.size)
  have H1 := Lib.hid (far_b hs1 hb0)
  have H2 := Lib.hid (far_b hs2 hb0)
  have Hr0 := Lib.hid hr0
  have Hos := Lib.hid hos
  have Hok := Lib.hid hok
  have Hm := Lib.hid hm
  have Hsz := Lib.hid hsz
  have Hlim := Lib.hid hlim
  have htz : text.size ≤ 2147483647 := by omega
  have hgb := get_bAt text
  clear hs hok hb0 hs1 hs2 hr0 hos hm hsz hlim
  rcases Nat.eq_zero_or_pos text.size with h0 | h0
  · have hrn : signR text ms os = none := sgR_nl (ends_empty h0)
    have Hrn := Lib.hid hrn
    have He := Lib.hid (ends_empty h0)
    clear hrn
    obtain rfl : text = ByteArray.empty := by simpa using h0
    go_enter Tryd.func19, Tryd.ntmps19
    go_wp2_with (fail)
    go_ret3
    exact sg_none Hb0.out Hrn.out (fun h => by rw [He.out] at h; cases h) rfl
  · have e0 : ((text.size : Int) == 0) = false := by rw [beq_eq_false_iff_ne]; omega
    have e1 : ((text.size : Int) - 1).toNat = text.size - 1 := by omega
    by_cases hx : bAt text (text.size - 1) = 10
    rotate_left
    · have he : endsNl text = false := by rw [ends_at h0, decide_eq_false hx]
      have Hrn := Lib.hid (sgR_nl (ms := ms) (os := os) he)
      have He := Lib.hid he
      have e2 : ((bAt text (text.size - 1) : Int) != 10) = true := by simp; omega
      clear he
      go_enter Tryd.func19, Tryd.ntmps19
      go_wp2_with (fail)
      go_ret3
      exact sg_none Hb0.out Hrn.out (fun h => by rw [He.out] at h; cases h) rfl
    · have he : endsNl text = true := by rw [ends_at h0, decide_eq_true hx]
      have He := Lib.hid he
      have e2 : ((bAt text (text.size - 1) : Int) != 10) = false := by rw [hx]; rfl
      clear he
      go_enter Tryd.func19, Tryd.ntmps19
      go_upto_region 4 with (fail)
      clear hgb e1 hx e2 e0
      rw [add_nl]
      obtain ⟨T, hT⟩ : ∃ T, T = text.data.toList ++ [10] := ⟨_, rfl⟩
      have hTl : T.length = text.size + 1 := by rw [hT]; simp
      rw [← hT]
      have HT := Lib.hid hT
      clear hT
      generalize w.alloc (.cells #[.string text, .slice A1 n1 c1, .slice A2 n2 c2] 29) = w0 at *
      have hlt0 : w.heap.size < w0.heap.size := (Array.getElem?_eq_some_iff.1 Hr0.out).1
      rw [show (⟨#[]⟩ : ByteArray) = str [] from rfl]
      go_wp2_with (fail)
      go_loopw [8, 39] (fun v8 v39 wr => ∃ i : Nat, i ≤ n ∧ v39 = .int .i64 (i : Int) ∧ v8 = .string (str (newLines (ms.take i))) ∧ Hid (Below w0.heap.size w0 wr) ∧ Hid ((ms.take i).all signs = true)) (fun _ v _ => n - (RowKit.intOf v).toNat)
      case atStart => exact ⟨0, Nat.zero_le _, rfl, rfl, Below.refl _ _, rfl⟩
      case round =>
        obtain ⟨i, hi, rfl, rfl, Hb, Ha⟩ := hrel
        by_cases hlt : i < n
        · --DEV
          obtain ⟨b, o, x, rfl, hblt, hx, c0, c1', c2', c3⟩ := MV.elem (H0.out.below Hb.out) hlt
          have hxm := List.mem_of_getElem? hx
          have hxo := Hok.out x hxm
          have hxz := Hm.out x hxm
          have hlo := hxo.lo
          have hhi := hxo.hi
          have hxn := hxz.1
          have hxs := hxz.2
          have hba : Below wr.heap.size wr (wr.alloc (.cells #[.string x.name, .int .u32 x.hash, .string x.sig, .bool x.fails] 30)) := (Below.refl _ _).alloc (Nat.le_refl _) _
          have hra := heap_alloc_new wr (.cells #[.string x.name, .int .u32 x.hash, .string x.sig, .bool x.fails] 30)
          have Hx := Lib.hid hx
          have Hba := Lib.hid hba
          have Hra := Lib.hid hra
          clear hx hxm hxo hxz hba hra
          go_upto_region 7 with (fail)
          generalize wr.alloc (.cells #[.string x.name, .int .u32 x.hash, .string x.sig, .bool x.fails] 30) = w1 at *
          have hl1' : wr.heap.size < w1.heap.size := (Array.getElem?_eq_some_iff.1 Hra.out).1
          have n0 : w1.cell? ⟨wr.heap.size, 0, none⟩ = some (.string x.name) := cell_of_row _ _ 0 _ _ _ Hra.out
          have cn := Lib.hid (name_any x.name w1 (by omega))
          clear c0 c1' c2' c3
          go_wp2_with (fail)
          refine cn.out.mono ?_
          clear cn
          rintro e w2 ⟨rfl, hb2⟩
          have Hr2 := Lib.hid ((hb2.block _ hl1').trans Hra.out)
          have Hz2 := Lib.hid (Hba.out.trans (hb2.mono Hba.out.size))
          have hl2' : wr.heap.size < w2.heap.size := Nat.lt_of_lt_of_le hl1' hb2.size
          have n3 : w2.cell? ⟨wr.heap.size, 3, none⟩ = some (.bool x.fails) := cell_of_row _ _ 3 _ _ _ Hr2.out
          have Hb2 := Lib.hid (Hb0.out.trans ((Hb.out.trans (Hz2.out.mono Hb.out.size)).mono Hb0.out.size))
          clear hb2 n0 Hra Hba
          cases hv : nameOk x.name
          · have hno : ms.all signs = false := all_no Hx.out (by unfold signs; rw [hv]; rfl)
            have Hno := Lib.hid hno
            clear hno hv
            go_wp2_with (fail)
            go_ret3
            exact sg_none Hb2.out (sgR_signs Hno.out) (fun _ h => by rw [Hno.out] at h; cases h) rfl
          · rcases Bool.eq_false_or_eq_true x.fails with hf | hf
            · have hno : ms.all signs = false := all_no Hx.out (by unfold signs; rw [hf]; simp)
              have Hno := Lib.hid hno
              rw [hf] at n3
              clear hno hv hf
              go_wp2_with (fail)
              go_ret3
              exact sg_none Hb2.out (sgR_signs Hno.out) (fun _ h => by rw [Hno.out] at h; cases h) rfl
            · have Hsx := Lib.hid (show signs x = true by unfold signs; rw [hv, hf]; rfl)
              rw [hf] at n3
              clear hv hf
              have hz1 : (str (newLines (ms.take i))).size ≤ 2147483648 := by
                rw [str_size]
                have := newLines_le (l := ms) i
                have := Hlim.out
                omega
              have hz2 : (str (lineL x.name.data.toList (newB64 x))).size ≤ 8589934592 := by
                rw [str_size, lineL_len, newB64_len]
                omega
              have hj := run_join (P := Tryd.prog) (newLines (ms.take i)) (lineL x.name.data.toList (newB64 x)) (by rw [str_size] at hz1 hz2; omega)
              clear hz1 hz2
              have hz3 : (newB64 x).length ≤ 4294967296 := by rw [newB64_len]; omega
              have hz4 : (hash4 x.hash.toNat ++ x.sig.data.toList).length ≤ 4294967296 := by
                rw [List.length_append]
                have : x.sig.data.toList.length = x.sig.size := by simp
                have h4 : (hash4 x.hash.toNat).length = 4 := rfl
                omega
              go_upto_region 9 with (fail)
              have hS : ∀ {w'}, Below w2.heap.size w2 w' → (w'.cell? ⟨wr.heap.size, 0, none⟩ = some (.string x.name) ∧ w'.cell? ⟨wr.heap.size, 1, none⟩ = some (.int .u32 x.hash) ∧ w'.cell? ⟨wr.heap.size, 2, none⟩ = some (.string x.sig)) ∧ Below w2.heap.size w2 w' := fun hb =>
                ⟨⟨cell_of_row _ _ 0 _ _ _ ((hb.block _ hl2').trans Hr2.out), cell_of_row _ _ 1 _ _ _ ((hb.block _ hl2').trans Hr2.out), cell_of_row _ _ 2 _ _ _ ((hb.block _ hl2').trans Hr2.out)⟩, hb⟩
              clear n3
              go_region_held3 (fun w' => (w'.cell? ⟨wr.heap.size, 0, none⟩ = some (.string x.name) ∧ w'.cell? ⟨wr.heap.size, 1, none⟩ = some (.int .u32 x.hash) ∧ w'.cell? ⟨wr.heap.size, 2, none⟩ = some (.string x.sig)) ∧ Below w2.heap.size w2 w')
                ((refine hS ?_
                  repeat first | exact Below.refl _ _ | assumption | apply Below.drew | apply alloc_bs))
                (first
                | (go_at_call 37
                   refine (specBytes_any x.hash hlo hhi x.sig _ (by omega)).mono ?_
                   rintro e wa ⟨rfl, hba0⟩
                   first
                     | have hba : Below w2.heap.size w2 wa := hba0
                     | have hba : Below w2.heap.size w2 wa := undrew' hba0
                     | have hba : Below w2.heap.size w2 wa := undrew' (undrew' hba0))
                | (go_at_call 36
                   refine (specEnc_str (hash4 x.hash.toNat ++ x.sig.data.toList) _ hz4).mono ?_
                   rintro e wb ⟨rfl, hbb0⟩
                   first
                     | have hbb1 : Below wa.heap.size wa wb := hbb0
                     | have hbb1 : Below wa.heap.size wa wb := undrew' hbb0
                     | have hbb1 : Below wa.heap.size wa wb := undrew' (undrew' hbb0)
                   have hbb : Below w2.heap.size w2 wb := hba.trans (hbb1.mono hba.size))
                | (go_at_call 35
                   refine (specWrite_str x.name (newB64 x) _ (by omega) hz3).mono ?_
                   rintro e wd ⟨rfl, rfl⟩))
              all_goals (
                go_wp2_with (fail)
                go_roundw
                case rel =>
                  refine ⟨i + 1, by omega, by go_num, by rw [newLines_next Hx.out], Lib.hid (Hb.out.trans ((Hz2.out.trans (hbb.mono Hz2.out.size)).mono Hb.out.size)), Lib.hid ?_⟩
                  rw [List.take_add_one, Hx.out, List.all_append, Ha.out]
                  simp [Hsx.out]
                case measure => simp [RowKit.intOf]; omega)
          --VED
        · obtain rfl : i = n := by omega
          rw [List.take_of_length_le (by have := Hl.out; omega)] at Ha ⊢
          go_upto_region 11 with (fail)
          obtain ⟨i0, hi0, hz0, hz1, hz2⟩ := info_parts specSigInfo
          have Hrw := Lib.hid ((Hb.out.block _ hlt0).trans Hr0.out)
          have H1r := Lib.hid (far_b H1.out Hb.out)
          have H2r := Lib.hid (far_b H2.out Hb.out)
          have hltw : w.heap.size < wr.heap.size := Nat.lt_of_lt_of_le hlt0 Hb.out.size
          go_cut [69, 70, 71] (fun v69 v70 v71 wx => Both wr wx l1 l2 v69 ∧ v70 = .int .i64 ((l1.length + l2.length : Nat) : Int) ∧ v71 = .int .i64 0)
          case first =>
            --DEV
            have hS : ∀ {w'}, Below wr.heap.size wr w' → (w'.cell? ⟨w.heap.size, 1, none⟩ = some (.slice A1 n1 c1) ∧ w'.cell? ⟨w.heap.size, 2, none⟩ = some (.slice A2 n2 c2)) ∧ Below wr.heap.size wr w' := fun hb =>
              ⟨⟨cell_of_row _ _ 1 _ _ _ ((hb.block _ hltw).trans Hrw.out), cell_of_row _ _ 2 _ _ _ ((hb.block _ hltw).trans Hrw.out)⟩, hb⟩
            go_region_held3 (fun w' => (w'.cell? ⟨w.heap.size, 1, none⟩ = some (.slice A1 n1 c1) ∧ w'.cell? ⟨w.heap.size, 2, none⟩ = some (.slice A2 n2 c2)) ∧ Below wr.heap.size wr w')
              ((refine hS ?_
                repeat first | exact Below.refl _ _ | assumption | apply Below.drew | apply alloc_bs))
              (first
                | (refine step_append_any (by rfl) _ _ _ (by rfl) wr 64 i0 _ 3 40 Tryd.underlying27 hi0 hz0 hz1 hz2 rfl (by decide) (.slice (some ⟨wr.heap.size, 0, none⟩) 0 0) 0 [] (by rfl) A1 n1 c1 (encAll SV.cells l1) (by rfl) encAll_ones (by simp only [maxLen]; omega) (by omega) ?_ ?_ ?_ ?_
                   · repeat first | exact Below.refl _ _ | apply Below.drew | apply alloc_bs
                   · refine own_made (by rfl) ?_
                     repeat first | exact Below.refl _ _ | apply Below.drew | apply alloc_bs
                   · refine far_b H1r.out ?_
                     repeat first | exact Below.refl _ _ | apply Below.drew | apply alloc_bs
                   intro B1 cap1 wa hown1 hba)
                | (refine step_append_any (by rfl) _ _ _ (by rfl) wr 64 i0 _ 3 40 Tryd.underlying27 hi0 hz0 hz1 hz2 rfl (by decide) (.slice B1 (0 + n1) cap1) (0 + n1) ([] ++ encAll SV.cells l1) (by rfl) A2 n2 c2 (encAll SV.cells l2) (by rfl) encAll_ones (by simp only [maxLen]; omega) (by omega) ?_ ?_ ?_ ?_
                   · repeat first | exact Below.refl _ _ | assumption | apply Below.drew | apply alloc_bs
                   · repeat first | exact hown1 | apply own_drew | apply own_alloc
                   · refine far_b H2r.out ?_
                     repeat first | exact Below.refl _ _ | assumption | apply Below.drew | apply alloc_bs
                   intro B2 cap2 wb hown2 hbb))
            all_goals (
              go_wp2_with (fail)
              go_meet
              case rel => exact ⟨both_of hown2 hbb hl1 hl2, by rw [hl1, hl2]; simp, rfl⟩)
            --VED
          case rest =>
            obtain ⟨⟨B, cap, rfl, hown, hb1⟩, rfl, rfl⟩ := hcut
            obtain ⟨B', cap', e, hslB, _⟩ := own_form hown
            injection e with e1 e2 e3
            subst e1
            subst e3
            rw [← Hos.out] at hslB
            obtain ⟨N, hN⟩ : ∃ N, N = l1.length + l2.length := ⟨_, rfl⟩
            rw [← hN] at hslB ⊢
            have hNo : os.length = N := by rw [Hos.out, List.length_append, hN]
            have hN2 : N ≤ 4294967296 := by omega
            have HslB := Lib.hid hslB
            have Hb1 := Lib.hid (Hb.out.trans (hb1.mono Hb.out.size))
            have HNo := Lib.hid hNo
            clear hown hb1 hslB hNo hN hl1 hl2 hi0 hz0 hz1 hz2
            go_wp2_with (fail)
            go_loopw [7, 71] (fun v7 v71 wx => ∃ k : Nat, k ≤ N ∧ v71 = .int .i64 (k : Int) ∧ v7 = .string (str (T ++ oldLines (keysOf ms) (os.take k))) ∧ Hid (Below wc.heap.size wc wx) ∧ Hid ((os.take k).all (oldOk (keysOf ms)) = true) ∧ Hid (CleanTo (keysOf ms) os k)) (fun _ v _ => N - (RowKit.intOf v).toNat)
            case atStart => exact ⟨0, Nat.zero_le _, rfl, by simp [oldLines], Below.refl _ _, rfl, clean_zero⟩
            case round =>
              obtain ⟨k, hk, rfl, rfl, Hbk, Hok', Hck⟩ := hrel
              have Hbw := Lib.hid (Hb0.out.trans ((Hb1.out.trans (Hbk.out.mono Hb1.out.size)).mono Hb0.out.size))
              by_cases hlt2 : k < N
              · obtain ⟨b, o, x, rfl, hblt, hx, f0, f1, f2⟩ := SV.elem (HslB.out.below Hbk.out) hlt2
                have hxz := Hsz.out x (List.mem_of_getElem? hx)
                have hxn := hxz.1
                have hxb := hxz.2
                have hba : Below wr.heap.size wr (wr.alloc (.cells #[.string x.name, .int .u32 x.hash, .string x.b64] 64)) := (Below.refl _ _).alloc (Nat.le_refl _) _
                have hra := heap_alloc_new wr (.cells #[.string x.name, .int .u32 x.hash, .string x.b64] 64)
                have Hx := Lib.hid hx
                have Hba := Lib.hid hba
                have Hra := Lib.hid hra
                clear hx hxz hba hra
                go_upto_region 14 with (fail)
                generalize wr.alloc (.cells #[.string x.name, .int .u32 x.hash, .string x.b64] 64) = w1 at *
                obtain ⟨G, hG⟩ : ∃ G, G = wr.heap.size := ⟨_, rfl⟩
                rw [← hG]
                have hra : w1.heap[G]? = some (.cells #[.string x.name, .int .u32 x.hash, .string x.b64] 64 (0, 0)) := by rw [hG]; exact Hra.out
                have hl1' : G < w1.heap.size := (Array.getElem?_eq_some_iff.1 hra).1
                have n0 : w1.cell? ⟨G, 0, none⟩ = some (.string x.name) := cell_of_row _ _ 0 _ _ _ hra
                have HraG := Lib.hid hra
                have HG := Lib.hid hG
                clear hG hra
                have cn := Lib.hid (name_any x.name w1 (by omega))
                clear f0 f1 f2
                go_wp2_with (fail)
                refine cn.out.mono ?_
                clear cn
                rintro e w2 ⟨rfl, hb2⟩
                have Hr2 := Lib.hid ((hb2.block _ hl1').trans HraG.out)
                have Hz2 := Lib.hid (Hba.out.trans (hb2.mono Hba.out.size))
                have hl2' : G < w2.heap.size := Nat.lt_of_lt_of_le hl1' hb2.size
                have Hb2 := Lib.hid (Hbw.out.trans (Hz2.out.mono Hbw.out.size))
                clear hb2 n0 Hra Hba HraG
                cases hv : nameOk x.name
                · have Hv := Lib.hid hv
                  clear hv
                  go_wp2_with (fail)
                  go_ret3
                  exact sg_none Hb2.out (sgR_olds (olds_no Hx.out (oldOk_name Hv.out))) (fun _ _ => clean_stop Hck.out Hx.out (oldOk_name Hv.out) (fun h => by rw [Hv.out] at h; cases h)) rfl
                · have Hv := Lib.hid hv
                  clear hv
                  have H0r := Lib.hid (far_b H0.out (Hb1.out.trans ((Hbk.out.mono Hb1.out.size).trans (Hz2.out.mono (Nat.le_trans Hb1.out.size Hbk.out.size)))))
                  go_wp2_with (fail)
                  go_loopw [13, 81] (fun v13 v81 wx => ∃ j : Nat, j ≤ i ∧ v81 = .int .i64 (j : Int) ∧ v13 = .bool (hasKey (keysOf (ms.take j)) x.name x.hash) ∧ Hid (Below w2.heap.size w2 wx)) (fun _ v _ => i - (RowKit.intOf v).toNat)
                  case atStart => exact ⟨0, Nat.zero_le _, rfl, rfl, Below.refl _ _⟩
                  case round =>
                    obtain ⟨j, hj, rfl, rfl, Hbj⟩ := hrel
                    by_cases hlj : j < i
                    · obtain ⟨b, o, m, rfl, hblt, hm, m0, m1, m2, m3⟩ := MV.elem (H0r.out.below Hbj.out) hlj
                      have Hmj := Lib.hid hm
                      have g0 : wr.cell? ⟨G, 0, none⟩ = some (.string x.name) := cell_of_row _ _ 0 _ _ _ ((Hbj.out.block _ hl2').trans Hr2.out)
                      have g1 : wr.cell? ⟨G, 1, none⟩ = some (.int .u32 x.hash) := cell_of_row _ _ 1 _ _ _ ((Hbj.out.block _ hl2').trans Hr2.out)
                      have hGw : G < wr.heap.size := Nat.lt_of_lt_of_le hl2' Hbj.out.size
                      have hGn : G ≠ wr.heap.size := by omega
                      have hGn' : wr.heap.size ≠ G := by omega
                      have Hbj' := Lib.hid (Hbj.out.alloc (o := .cells #[.string m.name, .int .u32 m.hash, .string m.sig, .bool m.fails] 30) Hbj.out.size)
                      have hnx := hasKey_next (a := x.name) (x := x.hash) hm
                      clear hm
                      rcases Bool.eq_false_or_eq_true (hasKey (keysOf (ms.take j)) x.name x.hash) with hh | hh
                      · rw [hh] at hnx ⊢
                        have Hnx := Lib.hid hnx
                        clear hnx hh
                        go_wp2_with (fail)
                        go_roundw
                        case rel => exact ⟨j + 1, by omega, by go_num, by rw [Hnx.out]; rfl, Hbj'⟩
                        case measure => simp [RowKit.intOf]; omega
                      · rw [hh] at hnx ⊢
                        by_cases he : m.name = x.name
                        · have e1 : (m.name.toList == x.name.toList) = true := by rw [he]; simp
                          by_cases hq : m.hash = x.hash
                          · have e2 : (m.hash == x.hash) = true := by rw [hq]; simp
                            have Hnx := Lib.hid (hnx.trans (show (false || decide (m.name = x.name ∧ m.hash = x.hash)) = true by rw [decide_eq_true ⟨he, hq⟩]; rfl))
                            clear hnx hh he hq
                            go_wp2_with (fail)
                            go_roundw
                            case rel => exact ⟨j + 1, by omega, by go_num, by rw [Hnx.out], Hbj'⟩
                            case measure => simp [RowKit.intOf]; omega
                          · have e2 : (m.hash == x.hash) = false := by simpa using hq
                            have Hnx := Lib.hid (hnx.trans (show (false || decide (m.name = x.name ∧ m.hash = x.hash)) = false by rw [decide_eq_false (fun h => hq h.2)]; rfl))
                            clear hnx hh he hq
                            go_wp2_with (fail)
                            go_roundw
                            case rel => exact ⟨j + 1, by omega, by go_num, by rw [Hnx.out], Hbj'⟩
                            case measure => simp [RowKit.intOf]; omega
                        · have e1 : (m.name.toList == x.name.toList) = false := by
                            rw [beq_eq_false_iff_ne]
                            exact fun h => he ((str_eq_iff _ _).1 h)
                          have Hnx := Lib.hid (hnx.trans (show (false || decide (m.name = x.name ∧ m.hash = x.hash)) = false by rw [decide_eq_false (fun h => he h.1)]; rfl))
                          clear hnx hh he
                          go_wp2_with (fail)
                          go_roundw
                          case rel => exact ⟨j + 1, by omega, by go_num, by rw [Hnx.out], Hbj'⟩
                          case measure => simp [RowKit.intOf]; omega
                      --VED
                    · obtain rfl : j = i := by omega
                      rw [List.take_of_length_le (l := ms) (i := j) (by have := Hl.out; omega)]
                      have Hzj := Lib.hid (Hbk.out.trans ((Hz2.out.trans (Hbj.out.mono Hz2.out.size)).mono Hbk.out.size))
                      have Hbwj := Lib.hid (Hb2.out.trans (Hbj.out.mono Hb2.out.size))
                      have Hrj := Lib.hid ((Hbj.out.block _ hl2').trans Hr2.out)
                      have hGw : G < wr.heap.size := Nat.lt_of_lt_of_le hl2' Hbj.out.size
                      rcases Bool.eq_false_or_eq_true (hasKey (keysOf ms) x.name x.hash) with hh | hh
                      · have Hh := Lib.hid hh
                        rw [hh]
                        clear hh
                        go_wp2_with (fail)
                        go_roundw
                        case rel =>
                          refine ⟨k + 1, by omega, by go_num, ?_, Hzj, Lib.hid ?_, Lib.hid ?_⟩
                          · rw [oldLines_next Hx.out, oldLine_skip Hh.out, List.append_nil]
                          · rw [oldOks_next Hx.out, Hok'.out, oldOk_skip Hv.out Hh.out]
                            rfl
                          · exact clean_next Hck.out Hx.out (fun _ h => by rw [Hh.out] at h; cases h)
                        case measure => simp [RowKit.intOf]; omega
                      · have Hh := Lib.hid hh
                        rw [hh]
                        clear hh
                        have g2 : wr.cell? ⟨G, 2, none⟩ = some (.string x.b64) := cell_of_row _ _ 2 _ _ _ Hrj.out
                        have cd := Lib.hid (specDec_any x.b64 wr hxb)
                        go_wp2_with (fail)
                        refine cd.out.mono ?_
                        clear cd
                        rintro e w3 hpost
                        obtain ⟨R, ok, cl0, rfl, hb3, hgot⟩ := dec_got hpost
                        have Hr3 := Lib.hid ((hb3.block _ hGw).trans Hrj.out)
                        have Hz3 := Lib.hid (Hzj.out.trans (hb3.mono Hzj.out.size))
                        have Hb3 := Lib.hid (Hbwj.out.trans (hb3.mono Hbwj.out.size))
                        have hG3 : G < w3.heap.size := Nat.lt_of_lt_of_le hGw hb3.size
                        have Hgot := Lib.hid hgot
                        have g3 : w3.cell? ⟨G, 2, none⟩ = some (.string x.b64) := cell_of_row _ _ 2 _ _ _ Hr3.out
                        have hgx := get_bAt x.b64
                        clear hpost hb3 hgot g2
                        go_wp2_with (fail)
                        go_loopw [18, 112] (fun v18 v112 wx => ∃ p : Nat, p ≤ x.b64.size ∧ v112 = .int .i64 (p : Int) ∧ v18 = .bool (cl0 && noNlB (x.b64.data.toList.take p)) ∧ wx = w3) (fun _ v _ => x.b64.size - (RowKit.intOf v).toNat)
                        case atStart => exact ⟨0, Nat.zero_le _, rfl, by simp [noNlB], rfl⟩
                        case round =>
                          obtain ⟨p, hp, rfl, rfl, hw⟩ := hrel
                          obtain rfl := hw.symm
                          by_cases hlp : p < x.b64.size
                          · --DEV
                            have hnx := noNlB_next hlp
                            rcases Bool.eq_false_or_eq_true (cl0 && noNlB (x.b64.data.toList.take p)) with hc | hc
                            · rw [hc]
                              by_cases q1 : bAt x.b64 p = 10
                              · have e1 : ((bAt x.b64 p : Int) != 10) = false := by rw [q1]; rfl
                                have Hn := Lib.hid (show (cl0 && noNlB (x.b64.data.toList.take (p + 1))) = false by rw [hnx, ← Bool.and_assoc, hc, decide_eq_false (by omega)]; rfl)
                                clear hnx hc q1
                                go_wp2_with (fail)
                                go_roundw
                                case rel => exact ⟨p + 1, by omega, by go_num, by rw [Hn.out], by trivial⟩
                                case measure => simp [RowKit.intOf]; omega
                              · have e1 : ((bAt x.b64 p : Int) != 10) = true := by simp; omega
                                by_cases q2 : bAt x.b64 p = 13
                                · have e2 : ((bAt x.b64 p : Int) != 13) = false := by rw [q2]; rfl
                                  have Hn := Lib.hid (show (cl0 && noNlB (x.b64.data.toList.take (p + 1))) = false by rw [hnx, ← Bool.and_assoc, hc, decide_eq_false (p := bAt x.b64 p ≠ 13) (by omega)]; simp)
                                  clear hnx hc q1 q2
                                  go_wp2_with (fail)
                                  go_roundw
                                  case rel => exact ⟨p + 1, by omega, by go_num, by rw [Hn.out], by trivial⟩
                                  case measure => simp [RowKit.intOf]; omega
                                · have e2 : ((bAt x.b64 p : Int) != 13) = true := by simp; omega
                                  have Hn := Lib.hid (show (cl0 && noNlB (x.b64.data.toList.take (p + 1))) = true by rw [hnx, ← Bool.and_assoc, hc, decide_eq_true q1, decide_eq_true q2]; rfl)
                                  clear hnx hc q1 q2
                                  go_wp2_with (fail)
                                  go_roundw
                                  case rel => exact ⟨p + 1, by omega, by go_num, by rw [Hn.out], by trivial⟩
                                  case measure => simp [RowKit.intOf]; omega
                            · rw [hc]
                              have Hn := Lib.hid (show (cl0 && noNlB (x.b64.data.toList.take (p + 1))) = false by rw [hnx, ← Bool.and_assoc, hc]; rfl)
                              clear hnx hc
                              go_wp2_with (fail)
                              go_roundw
                              case rel => exact ⟨p + 1, by omega, by go_num, by rw [Hn.out], by trivial⟩
                              case measure => simp [RowKit.intOf]; omega
                            --VED
                          · obtain rfl : p = x.b64.size := by omega
                            rw [List.take_of_length_le (l := x.b64.data.toList) (i := x.b64.size) (by simp)]
                            rcases Bool.eq_false_or_eq_true (cl0 && noNlB x.b64.data.toList) with hc | hc
                            rotate_left
                            · rw [hc]
                              clear hc
                              go_wp2_with (fail)
                              go_ret3
                              exact sg_untold Hb3.out rfl
                            · rw [hc]
                              have Hnn := Lib.hid (noNlB_iff (Bool.and_eq_true_iff.1 hc).2)
                              clear hc
                              go_upto_region 31 with (fail)
                              have hRz := str_size R
                              rcases Hgot.out with ⟨hd, rfl, rfl⟩ | ⟨hd, rfl⟩
                              · have Hno := Lib.hid (show oldOk (keysOf ms) x = false by rw [oldOk_raw Hv.out Hh.out, hd]; rfl)
                                clear hd hRz
                                go_quiet (fail)
                                go_wp2_with (fail)
                                go_ret3
                                refine sg_none ?_ (sgR_olds (olds_no Hx.out Hno.out)) (fun _ _ => clean_stop Hck.out Hx.out Hno.out (fun _ _ => Hnn.out)) rfl
                                exact Hb3.out.trans ⟨rfl, rfl, rfl, Nat.le_refl _, fun _ _ => rfl⟩
                              · by_cases h4 : R.length < 4
                                · have Hno := Lib.hid (show oldOk (keysOf ms) x = false by rw [oldOk_raw Hv.out Hh.out, hd]; simp [rawOk]; omega)
                                  have hz4 : decide (((str R).size : Int) < 4) = true := by rw [decide_eq_true_eq]; omega
                                  clear hd hRz h4
                                  go_quiet (fail)
                                  go_wp2_with (fail)
                                  go_ret3
                                  refine sg_none ?_ (sgR_olds (olds_no Hx.out Hno.out)) (fun _ _ => clean_stop Hck.out Hx.out Hno.out (fun _ _ => Hnn.out)) rfl
                                  exact Hb3.out.trans ⟨rfl, rfl, rfl, Nat.le_refl _, fun _ _ => rfl⟩
                                · have hz4 : decide (((str R).size : Int) < 4) = false := by rw [decide_eq_false_iff_not]; omega
                                  have h1' : w3.cell? ⟨G, 1, none⟩ = some (.int .u32 x.hash) := cell_of_row _ _ 1 _ _ _ Hr3.out
                                  obtain ⟨bb, hbb⟩ : ∃ bb, bb = ((be4 R : Int) != x.hash) := ⟨_, rfl⟩
                                  have Hd := Lib.hid hd
                                  have Hbb := Lib.hid hbb
                                  clear hd hbb hRz
                                  go_cut [146] (fun v146 wx => v146 = .bool bb ∧ Hid (Below w3.heap.size w3 wx))
                                  case first =>
                                    have hS : ∀ {w'}, Below w3.heap.size w3 w' → w'.cell? ⟨G, 1, none⟩ = some (.int .u32 x.hash) ∧ Below w3.heap.size w3 w' := fun hb => ⟨cell_of_row _ _ 1 _ _ _ ((hb.block _ hG3).trans Hr3.out), hb⟩
                                    clear g3 h1'
                                    go_region_held3 (fun w' => w'.cell? ⟨G, 1, none⟩ = some (.int .u32 x.hash) ∧ Below w3.heap.size w3 w')
                                      ((refine hS ?_
                                        repeat first | exact Below.refl _ _ | assumption | apply Below.drew | apply alloc_bs))
                                      (first
                                      | (go_at_call 39
                                         refine (specHash_b R _ (by omega)).mono ?_
                                         rintro e w4 ⟨rfl, hb40⟩
                                         first
                                           | have hb4 : Below w3.heap.size w3 w4 := hb40
                                           | have hb4 : Below w3.heap.size w3 w4 := undrew' hb40
                                           | have hb4 : Below w3.heap.size w3 w4 := undrew' (undrew' hb40)
                                           | have hb4 : Below w3.heap.size w3 w4 := undrew' (undrew' (undrew' hb40))))
                                    all_goals (
                                      go_wp2_with (fail)
                                      go_meet
                                      case rel => exact ⟨by first | rfl | rw [Hbb.out], hb4⟩)
                                  case rest =>
                                    obtain ⟨rfl, Hb4⟩ := hcut
                                    have Hz4 := Lib.hid (Hz3.out.trans (Hb4.out.mono Hz3.out.size))
                                    have Hb4w := Lib.hid (Hb3.out.trans (Hb4.out.mono Hb3.out.size))
                                    have Hr4 := Lib.hid ((Hb4.out.block _ hG3).trans Hr3.out)
                                    have hbb := Hbb.out
                                    cases bb
                                    · have hbe : (be4 R : Int) = x.hash := by simpa using hbb.symm
                                      have Hok1 := Lib.hid (show oldOk (keysOf ms) x = true by rw [oldOk_raw Hv.out Hh.out, Hd.out]; simp [rawOk, hbe]; omega)
                                      have g0 : wc.cell? ⟨G, 0, none⟩ = some (.string x.name) := cell_of_row _ _ 0 _ _ _ Hr4.out
                                      have g2 : wc.cell? ⟨G, 2, none⟩ = some (.string x.b64) := cell_of_row _ _ 2 _ _ _ Hr4.out
                                      have hj := run_join (P := Tryd.prog) (T ++ oldLines (keysOf ms) (os.take k)) (lineL x.name.data.toList x.b64.data.toList) (by
                                        have h1 := oldLines_le (ks := keysOf ms) (l := os) k
                                        have h2 := Hlim.out
                                        have h3 : x.b64.data.toList.length = x.b64.size := by simp
                                        rw [List.length_append, hTl, lineL_len, h3]
                                        omega)
                                      have cw := Lib.hid (specWrite_any x.name x.b64 wc (by omega) (by omega))
                                      clear hbb hbe g3 h1'
                                      go_wp2_with (fail)
                                      refine cw.out.mono ?_
                                      clear cw
                                      rintro e w4 ⟨rfl, hw⟩
                                      obtain rfl := hw.symm
                                      go_wp2_with (fail)
                                      go_roundw
                                      case rel =>
                                        refine ⟨k + 1, by omega, by go_num, ?_, Hz4, Lib.hid ?_, Lib.hid ?_⟩
                                        · rw [oldLines_next Hx.out, oldLine_line Hh.out]
                                        · rw [oldOks_next Hx.out, Hok'.out, Hok1.out]
                                          rfl
                                        · exact clean_next Hck.out Hx.out (fun _ _ => Hnn.out)
                                      case measure => simp [RowKit.intOf]; omega
                                    · have hbe : ¬ (be4 R : Int) = x.hash := by simpa using hbb.symm
                                      have Hno := Lib.hid (show oldOk (keysOf ms) x = false by rw [oldOk_raw Hv.out Hh.out, Hd.out]; simp [rawOk, hbe])
                                      clear hbb hbe g3 h1'
                                      go_wp2_with (fail)
                                      go_ret3
                                      exact sg_none Hb4w.out (sgR_olds (olds_no Hx.out Hno.out)) (fun _ _ => clean_stop Hck.out Hx.out Hno.out (fun _ _ => Hnn.out)) rfl
              · obtain rfl : k = N := by omega
                rw [List.take_of_length_le (by have := HNo.out; omega)] at Hok' ⊢
                have hj := run_join (P := Tryd.prog) (T ++ oldLines (keysOf ms) os) (newLines ms) (by
                  have := Hlim.out
                  rw [List.length_append, hTl]
                  omega)
                go_wp2_with (fail)
                go_ret3
                exact sg_some Hbw.out (by rw [sgR_some He.out Ha.out Hok'.out, HT.out]; simp) (fun _ _ => clean_all Hck.out (by have := HNo.out; omega)) rfl

end Go.Proofs.YtnnbhklkakhkkaaDoor

/-
  OPENING: the walk of the code's own Open.
-/
import Derived.Test.YtnnbhklkakhkkaaDoorOpenH
import Derived.Test.YtnnbhklkakhkkaaDoorAppendG
import Derived.Lib.SlBytesConst
import Derived.BigQuiet
import Derived.Deep.QuietTactic
import Derived.Deep.CutBlock
import Derived.Deep.DeepCutAuto
namespace Go.Proofs.YtnnbhklkakhkkaaDoor
open Go.RowKit Go.Lib

set_option maxHeartbeats 2000000 in
set_option maxRecDepth 100000 in
/-- beUint32 (as in the text of the old signatures) -/
theorem beRow_any (b o n c : Nat) (l : List UInt8) (w : World) (hc : RowAt w b o (byteCells l)) (hn : 4 ≤ n) (hl : l.length = n) (hn2 : n ≤ 2147483647) :
    Calls Tryd.prog 58 #[.slice (some ⟨b, o, none⟩) n c] w fun e w' => e = .returned (.int .u32 (be4 l)) ∧ ∃ k, w' = w.drewN k := by
  obtain ⟨s, hs⟩ : ∃ s, s = str l := ⟨_, rfl⟩
  have hsl : s.data.toList = l := by rw [hs, str_list]
  have get : ∀ j, j < 4 → w.cell? ⟨b, o + j, none⟩ = some (.int .u8 (bAt s j : Int)) := fun j hj => hc j _ (by
    unfold byteCells bAt
    rw [hsl, List.getElem?_map, List.getD_eq_getElem?_getD, List.getElem?_eq_getElem (by omega)]
    rfl)
  rw [← hsl, be4_bAt]
  have k0 := get 0 (by omega)
  have k1 := get 1 (by omega)
  have k2 := get 2 (by omega)
  have k3 := get 3 (by omega)
  rw [Nat.add_zero] at k0
  have o1 := orA (bAt s 0) (bAt s 1) (bAt_lt _ _) (bAt_lt _ _)
  have o2 := orB (bAt s 0) (bAt s 1) (bAt s 2) (bAt_lt _ _) (bAt_lt _ _) (bAt_lt _ _)
  have o3 := orC (bAt s 0) (bAt s 1) (bAt s 2) (bAt s 3) (bAt_lt _ _) (bAt_lt _ _) (bAt_lt _ _) (bAt_lt _ _)
  have l0 := bAt_lt s 0; have l1 := bAt_lt s 1; have l2 := bAt_lt s 2; have l3 := bAt_lt s 3
  clear get hc hs hsl
  go_enter Tryd.func58, Tryd.ntmps58
  go_wp2_with (fail)
  go_quiet (fail)
  go_wp2_with (fail)
  go_ret
  exact ⟨rfl, _, rfl⟩

def ErrsO (w : World) : Prop := ∃ p, w.cell? ⟨0, 0, none⟩ = some (.iface 207 (.pointer p))
theorem ErrsO.below {w w' : World} (h : ErrsO w) (hb : Below w.heap.size w w') : ErrsO w' := by
  obtain ⟨p, h⟩ := h
  exact ⟨p, (hb.cell (World.block_lt_of_cell? w _ h)).trans h⟩

/-- what Open leaves -/
def OPost (w : World) (text : ByteArray) (r : Except OEnd (List SV × List SV)) (e : Ending) (w' : World) : Prop :=
  Below w.heap.size w w' ∧ match r with
  | .error .mal => ∃ p, e = .returned (.tuple #[.pointer none, .iface 207 (.pointer p)])
  | .error (.inv a x) => ∃ g, e = .returned (.tuple #[.pointer none, .iface 103 (.pointer (some ⟨g, 0, none⟩))]) ∧ w.heap.size ≤ g ∧ w'.heap[g]? = some (.cells #[.string a, .int .u32 x] 105 (0, 0))
  | .ok (sg, un) => ∃ N, w.heap.size ≤ N ∧ NoteAt w.heap.size w' N text sg un ∧
      if sg = [] then ∃ g, e = .returned (.tuple #[.pointer none, .iface 107 (.pointer (some ⟨g, 0, none⟩))]) ∧ w.heap.size ≤ g ∧ w'.heap[g]? = some (.cells #[.pointer (some ⟨N, 0, none⟩)] 109 (0, 0))
      else e = .returned (.tuple #[.pointer (some ⟨N, 0, none⟩), .nilIface])
theorem opost_mal {w w' : World} {text : ByteArray} {r : Except OEnd (List SV × List SV)} {e : Ending} (hr : r = .error .mal) (hb : Below w.heap.size w w') (p : Option Addr) (he : e = .returned (.tuple #[.pointer none, .iface 207 (.pointer p)])) : OPost w text r e w' := by
  subst hr
  exact ⟨hb, p, he⟩

theorem opost_un {w wr : World} {N M U : Nat} {text : ByteArray} {un : List SV} {ks : List (ByteArray × Int)} {us : List ByteArray} {r : Except OEnd (List SV × List SV)} (hr : r = .ok ([], un)) (h : OS w N M U text [] un ks us wr) :
    OPost w text r (.returned (.tuple #[.pointer none, .iface 107 (.pointer (some ⟨wr.heap.size, 0, none⟩))])) (wr.alloc (.cells #[.pointer (some ⟨N, 0, none⟩)] 109)) := by
  subst hr
  have hb : Below wr.heap.size wr (wr.alloc (.cells #[.pointer (some ⟨N, 0, none⟩)] 109)) := (Below.refl _ _).alloc (Nat.le_refl _) _
  refine ⟨h.low.trans (hb.mono h.low.size), N, h.geN, h.note.keep fun g _ _ hg => hb.block g (Array.getElem?_eq_some_iff.1 hg).1, ?_⟩
  rw [if_pos rfl]
  exact ⟨_, rfl, h.low.size, heap_alloc_new wr _⟩
theorem opost_ok {w wr : World} {N M U : Nat} {text : ByteArray} {sg un : List SV} {ks : List (ByteArray × Int)} {us : List ByteArray} {r : Except OEnd (List SV × List SV)} (hr : r = .ok (sg, un)) (hne : sg ≠ []) (h : OS w N M U text sg un ks us wr) :
    OPost w text r (.returned (.tuple #[.pointer (some ⟨N, 0, none⟩), .nilIface])) wr := by
  subst hr
  refine ⟨h.low, N, h.geN, h.note, ?_⟩
  rw [if_neg hne]
theorem dash_row {w : World} {g : Nat} {t : TypeId} {fz : Nat × Nat} (h : w.heap[g]? = some (.cells #[.int .u8 226, .int .u8 128, .int .u8 148, .int .u8 32] t fz)) : RowAt w g 0 (byteCells dash) := fun j u hu => by
  rw [Nat.zero_add, cell_of_row _ _ j _ _ _ h]
  simpa [byteCells, dash] using hu
theorem lineP_nodash {L : List UInt8} (h : ¬ L.take 4 = dash) : lineP L = none := by
  unfold lineP
  rw [if_neg h]
/-- .. behind the dash -/
def lpOf (nm b64 : ByteArray) : Option (List UInt8) → Option (SV × List UInt8)
  | none => none
  | some y => if nameOk nm && decide (b64 ≠ ⟨#[]⟩) && decide (5 ≤ y.length) then some (⟨nm, be4 y, b64⟩, y.drop 4) else none
theorem lineP_eq {L : List UInt8} (h : L.take 4 = dash) : lineP L = lpOf (cutB 32 (str (L.drop 4))).1 (cutB 32 (str (L.drop 4))).2.1 (decL (cutB 32 (str (L.drop 4))).2.1.data.toList) := by
  unfold lineP
  rw [if_pos h]
  cases decL (cutB 32 (str (L.drop 4))).2.1.data.toList <;> rfl
theorem cutB_size (c : UInt8) (s : ByteArray) : (cutB c s).1.size ≤ s.size ∧ (cutB c s).2.1.size ≤ s.size := by
  unfold cutB
  split
  · exact ⟨by rw [ByteArray.size_extract]; omega, by rw [ByteArray.size_extract]; omega⟩
  · exact ⟨Nat.le_refl _, Nat.zero_le _⟩
theorem cutB_mem {c : UInt8} {s : ByteArray} {x : UInt8} (h : x ∈ (cutB c s).2.1.data.toList) : x ∈ s.data.toList := by
  unfold cutB at h
  split at h
  · dsimp only at h
    rw [ByteArray.data_extract, Array.toList_extract, List.extract_eq_take_drop] at h
    exact List.mem_of_mem_drop (List.mem_of_mem_take h)
  · cases h
theorem cutB_join {s : ByteArray} (h : (cutB 32 s).2.1 ≠ ⟨#[]⟩) : s = str ((cutB 32 s).1.data.toList ++ [32] ++ (cutB 32 s).2.1.data.toList) := by
  by_cases h0 : 0 ≤ idxB 32 s
  · obtain ⟨k, hk, hlt⟩ := idxB_lt h0
    have hx : s.data.toList[k]? = some 32 := by
      unfold idxB at hk
      split at hk
      · next hl =>
        have e : s.data.toList.idxOf 32 = k := by omega
        have hl' : s.data.toList.idxOf 32 < s.data.toList.length := by rw [e]; simpa using hlt
        rw [← e, List.getElem?_eq_getElem hl', List.getElem_idxOf]
      · omega
    unfold cutB
    rw [if_pos h0, hk, Int.toNat_natCast]
    dsimp only
    rw [ByteArray.data_extract, Array.toList_extract, List.extract_eq_take_drop, ByteArray.data_extract, Array.toList_extract, List.extract_eq_take_drop, List.drop_zero, Nat.sub_zero,
      show List.take (s.size - (k + 1)) (List.drop (k + 1) s.data.toList) = List.drop (k + 1) s.data.toList from List.take_of_length_le (by rw [List.length_drop]; simp)]
    apply bytes_ext
    rw [str_list, List.append_assoc]
    obtain ⟨hl, hg⟩ := List.getElem?_eq_some_iff.1 hx
    conv => lhs; rw [← List.take_append_drop k s.data.toList, List.drop_eq_getElem_cons hl, hg]
    rfl
  · exfalso
    apply h
    unfold cutB
    rw [if_neg h0]
theorem be4_take (y : List UInt8) : be4 (y.take 4) = be4 y := by
  have e : ∀ i, i < 4 → (y.take 4).getD i 0 = y.getD i 0 := fun i hi => by
    rw [List.getD_eq_getElem?_getD, List.getElem?_take, if_pos hi, ← List.getD_eq_getElem?_getD]
  unfold be4
  rw [e 0 (by omega), e 1 (by omega), e 2 (by omega), e 3 (by omega)]
section
variable {keys : List KV} {text : ByteArray} {L : List UInt8} {t : List (List UInt8)} {st st' : List SV × List SV} {sg un : List SV} {X : SV} {sig : List UInt8} {kv : KV} {kr : List KV}
theorem openL_ok (h : stepO keys text st L = .ok st') : openL keys text (L :: t) st = openL keys text t st' := by
  conv => lhs; unfold openL
  rw [h]
theorem openL_err {e : OEnd} (h : stepO keys text st L = .error e) : openL keys text (L :: t) st = .error e := by
  conv => lhs; unfold openL
  rw [h]
theorem step_un_old (hl : lineP L = some (X, sig)) (hg : grp keys X.name X.hash = []) (h : inTexts (un.map lineT) (lineT X) = true) : stepO keys text (sg, un) L = .ok (sg, un) := by
  unfold stepO
  rw [hl]
  dsimp only
  rw [hg]
  dsimp only
  rw [h, if_pos rfl]
theorem step_un_new (hl : lineP L = some (X, sig)) (hg : grp keys X.name X.hash = []) (h : inTexts (un.map lineT) (lineT X) = false) : stepO keys text (sg, un) L = .ok (sg, un ++ [X]) := by
  unfold stepO
  rw [hl]
  dsimp only
  rw [hg]
  dsimp only
  rw [h, if_neg (by decide)]
theorem step_sg_old (hl : lineP L = some (X, sig)) (hg : grp keys X.name X.hash = kv :: kr) (h : hasKey (sg.map keyOf) X.name X.hash = true) : stepO keys text (sg, un) L = .ok (sg, un) := by
  unfold stepO
  rw [hl]
  dsimp only
  rw [hg]
  dsimp only
  rw [h, if_pos rfl]
theorem step_sg_new (hl : lineP L = some (X, sig)) (hg : grp keys X.name X.hash = kv :: kr) (h : hasKey (sg.map keyOf) X.name X.hash = false) (ha : accK kv text (str sig) = true) : stepO keys text (sg, un) L = .ok (sg ++ [X], un) := by
  unfold stepO
  rw [hl]
  dsimp only
  rw [hg]
  dsimp only
  rw [h, if_neg (by decide), ha, if_pos rfl]
theorem step_sg_bad (hl : lineP L = some (X, sig)) (hg : grp keys X.name X.hash = kv :: kr) (h : hasKey (sg.map keyOf) X.name X.hash = false) (ha : accK kv text (str sig) = false) : stepO keys text (sg, un) L = .error (.inv X.name X.hash) := by
  unfold stepO
  rw [hl]
  dsimp only
  rw [hg]
  dsimp only
  rw [h, if_neg (by decide), ha, if_neg (by decide)]
end
theorem row_putObj {w : World} {b o B : Nat} {l : List UInt8} {ob : Obj} (h : RowAt w b o (byteCells l)) (hm : ∃ es c, w.heap[B]? = some (.map es c)) : RowAt (putObj w B ob) b o (byteCells l) := fun j u hu => by
  obtain ⟨es, c, hm⟩ := hm
  have h0 := h j u hu
  have hne : b ≠ B := by
    rintro rfl
    unfold World.cell? at h0
    rw [hm] at h0
    simp at h0
  have : (putObj w B ob).heap[b]? = w.heap[b]? := putObj_far hne
  unfold World.cell? at h0 ⊢
  rw [this]
  exact h0
theorem opost_inv {w W : World} {text nm : ByteArray} {x : Int} {r : Except OEnd (List SV × List SV)} (hr : r = .error (.inv nm x)) (h : Below w.heap.size w W) :
    OPost w text r (.returned (.tuple #[.pointer none, .iface 103 (.pointer (some ⟨W.heap.size, 0, none⟩))])) (W.alloc (.cells #[.string nm, .int .u32 x] 105)) := by
  subst hr
  exact ⟨h.alloc h.size _, _, rfl, h.size, heap_alloc_new W _⟩
theorem asNil (w : World) : (Instr.typeAssert .nilIface 70 153 true).run Tryd.prog w = .ok (.tuple #[.pointer none, .bool false]) w := by kernel_rfl
theorem zero_false (w : World) : (zeroValue 4).run Tryd.prog w = .ok (.bool false) w := by kernel_rfl
theorem openL_mal {keys : List KV} {text : ByteArray} {L : List UInt8} {t : List (List UInt8)} {st : List SV × List SV} (h : lineP L = none) : openL keys text (L :: t) st = .error .mal := by
  unfold openL stepO
  rw [h]
/-- what reading the base64 of a line leaves -/
def GotRaw (w wx : World) (l : List UInt8) (v ev : Value) : Prop :=
  Below w.heap.size w wx ∧ ((decL l = none ∧ ∃ e, ev = .iface 204 e) ∨
    ∃ y g c, decL l = some y ∧ v = .slice (some ⟨g, 0, none⟩) y.length c ∧ ev = .nilIface ∧ y.length ≤ c ∧ c ≤ 2147483647 ∧ g < wx.heap.size ∧ RowAt wx g 0 (byteCells y))
theorem gotRaw {w wx : World} {l : List UInt8} {e : Ending} (h : SPost w l e wx) : ∃ v ev, e = .returned (.tuple #[v, ev]) ∧ GotRaw w wx l v ev := by
  obtain ⟨h1, h2⟩ := h
  cases hd : decL l with
  | none =>
    rw [hd] at h2
    obtain ⟨A, n, c, ev, rfl⟩ := h2
    exact ⟨_, _, rfl, h1, .inl ⟨hd, _, rfl⟩⟩
  | some y =>
    rw [hd] at h2
    obtain ⟨g, c, rfl, hg, hyc, hc, R, hR, hy⟩ := h2
    refine ⟨_, _, rfl, h1, .inr ⟨y, g, c, hd, rfl, rfl, hyc, hc, (Array.getElem?_eq_some_iff.1 hR).1, fun j u hu => ?_⟩⟩
    rw [Nat.zero_add, cell_of_row wx _ j R 5 _ hR]
    rw [← hy, List.getElem?_take] at hu
    split at hu
    · simpa using hu
    · cases hu
theorem openAt_plain {keys : List KV} {s : ByteArray} {j : Int} (h : plainB s = false) : openAt keys s j = .error .mal := by
  unfold openAt
  rw [h]
  rfl
theorem openAt_split {keys : List KV} {s : ByteArray} {j : Int} (h : splitOk s j = false) : openAt keys s j = .error .mal := by
  unfold openAt
  rw [h, Bool.and_false]
  rfl
theorem make_texts (w : World) : (Instr.makeMap 144 .none).run Tryd.prog w = .ok (.map (some w.heap.size)) (w.alloc (.map #[] 0)) := @run_makeMap Tryd.prog _ _

/-- where the first loop stands -/
def Going (s : ByteArray) (k : Nat) : Prop := ∃ f, (s.data.toList.drop k).length ≤ f ∧ okGo f (s.data.toList.drop k) = plainB s
theorem Going.bad {s : ByteArray} {k : Nat} (h : Going s k) (hk : k < s.size) (hb : badHead (s.data.toList.drop k) = true) : plainB s = false := by
  obtain ⟨f, hl, h⟩ := h
  have h1 : s.data.toList.drop k ≠ [] := by intro he; have := congrArg List.length he; simp at this; omega
  cases f with
  | zero => simp at hl; omega
  | succ f =>
    rw [← h]
    unfold okGo
    rw [if_neg h1, hb]
    rfl
theorem Going.next {s : ByteArray} {k : Nat} (h : Going s k) (hk : k < s.size) (hb : badHead (s.data.toList.drop k) = false) : Going s (k + (decodeL (s.data.toList.drop k)).2) := by
  obtain ⟨f, hl, h⟩ := h
  have h1 : s.data.toList.drop k ≠ [] := by intro he; have := congrArg List.length he; simp at this; omega
  have hw := decodeL_width (s.data.toList.drop k)
  cases f with
  | zero => simp at hl; omega
  | succ f =>
    refine ⟨f, by simp at hl ⊢; omega, ?_⟩
    rw [← h]
    conv => rhs; unfold okGo
    rw [if_neg h1, hb, List.drop_drop]
    rfl
theorem Going.done {s : ByteArray} (h : Going s s.size) : plainB s = true := by
  obtain ⟨f, hl, h⟩ := h
  rw [← h, List.drop_of_length_le (by simp)]
  cases f <;> rfl
theorem decode_le {s : ByteArray} {k : Nat} (hk : k < s.size) : k + (decodeL (s.data.toList.drop k)).2 ≤ s.size := by
  have h1 : s.data.toList.drop k ≠ [] := by intro he; have := congrArg List.length he; simp at this; omega
  have := decodeL_le _ h1
  simp at this
  omega

theorem make_seen (w : World) : (Instr.makeMap 119 .none).run Tryd.prog w = .ok (.map (some w.heap.size)) (w.alloc (.map #[] 0)) := @run_makeMap Tryd.prog _ _
theorem openAt_go {keys : List KV} {s : ByteArray} {j : Int} (h1 : plainB s = true) (h2 : splitOk s j = true) : openAt keys s j = openL keys (textAt s j) (linesAt s j) ([], []) := by
  unfold openAt
  rw [h1, h2]
  rfl
theorem textAt_take (s : ByteArray) (k : Nat) : textAt s (k : Int) = str (s.data.toList.take (k + 1)) := by
  unfold textAt
  apply bytes_ext
  rw [Int.toNat_natCast, ByteArray.data_extract, Array.toList_extract, List.extract_eq_take_drop, str_list, List.drop_zero, Nat.sub_zero]
theorem ownsRow_nil (w : World) (base e size : Nat) : w.ownsRow base e size (.slice none 0 0) 0 [] := ⟨by simp, .inl ⟨rfl, rfl⟩⟩
theorem os_start (w w2 : World) (text : ByteArray) (h : Below w.heap.size w w2) :
    OS w w2.heap.size (w2.heap.size + 1) (w2.heap.size + 1 + 1) text [] [] [] [] (((w2.alloc (.cells #[.string text, .slice none 0 0, .slice none 0 0] 77)).alloc (.map #[] 0)).alloc (.map #[] 0)) := by
  have s1 : (w2.alloc (.cells #[.string text, .slice none 0 0, .slice none 0 0] 77)).heap.size = w2.heap.size + 1 := by simp
  have s2 : ((w2.alloc (.cells #[.string text, .slice none 0 0, .slice none 0 0] 77)).alloc (.map #[] 0)).heap.size = w2.heap.size + 1 + 1 := by simp
  have h1 := heap_alloc_new w2 (.cells #[.string text, .slice none 0 0, .slice none 0 0] 77)
  have hab : Below w.heap.size w (w2.alloc (.cells #[.string text, .slice none 0 0, .slice none 0 0] 77)) := h.alloc h.size _
  generalize w2.alloc (.cells #[.string text, .slice none 0 0, .slice none 0 0] 77) = a at *
  have h2 := heap_alloc_new a (.map #[] 0)
  have hb2 : Below a.heap.size a (a.alloc (.map #[] 0)) := (Below.refl _ _).alloc (Nat.le_refl _) _
  have l1 : w2.heap.size < a.heap.size := by omega
  have e1 := (hb2.block _ l1).trans h1
  generalize a.alloc (.map #[] 0) = b at *
  have h3 := heap_alloc_new b (.map #[] 0)
  have hb3 : Below b.heap.size b (b.alloc (.map #[] 0)) := (Below.refl _ _).alloc (Nat.le_refl _) _
  have e2 := (hb3.block _ (by omega)).trans e1
  have e3 := (hb3.block _ (by omega)).trans h2
  have hw2 := h.size
  rw [s1] at e3
  rw [s2] at h3
  exact { low := (hab.trans ((hb2.trans (hb3.mono hb2.size)).mono (by omega))), geN := h.size, geM := by omega, geU := by omega, neMU := by omega,
          note := ⟨_, _, e2, ownsRow_nil _ _ _ _, ownsRow_nil _ _ _ _, fun k hk => by cases hk⟩, hm := HaveAt.made e3, hu := TextsAt.made h3 }

theorem plain_ctl {s : ByteArray} (h : plainB s = true) : ∀ x ∈ s.data.toList, 32 ≤ x.toNat ∨ x = 10 := by
  unfold plainB ctlB at h
  rw [Bool.and_eq_true, List.all_eq_true] at h
  intro x hx
  have := h.1 x hx
  rw [Bool.or_eq_true, decide_eq_true_eq, decide_eq_true_eq] at this
  exact this.imp id fun h => UInt8.toNat_inj.1 h
/-- the length in a slot -/
def lenV : Value → Nat
  | .slice _ n _ => n
  | _ => 0
/-- where the loop over the lines stands -/
def LI (w : World) (g N M U : Nat) (text : ByteArray) (keys : List KV) (r : Except OEnd (List SV × List SV)) (n : Nat) (A : Option Addr) (q : Nat) (wr : World) : Prop :=
  ∃ (R : List UInt8) (sg un : List SV), R.length = n ∧ OS w N M U text sg un (sg.map keyOf) (un.map lineT) wr ∧ (0 < n → ∃ p, A = some ⟨g, p, none⟩ ∧ RowAt w g p (byteCells R)) ∧ (0 < n → R.getD (n - 1) 0 = 10) ∧
    (∀ x ∈ R, 32 ≤ x.toNat ∨ x = 10) ∧ openL keys text (linesL R []) (sg, un) = r ∧ q + (linesL R []).length ≤ 100 ∧ sg.length + un.length ≤ q ∧ n ≤ 2147483647

/-- what stands behind a line -/
def Tl (w : World) (g p : Nat) (R : List UInt8) : Prop := RowAt w g p (byteCells R) ∧ (0 < R.length → R.getD (R.length - 1) 0 = 10) ∧ ∀ x ∈ R, 32 ≤ x.toNat ∨ x = 10
section
variable {w wr : World} {g N M U : Nat} {text : ByteArray} {keys : List KV} {r : Except OEnd (List SV × List SV)} {A : Option Addr}
theorem li_next {p q : Nat} {R : List UInt8} {sg un : List SV} (ht : Tl w g p R) (hA : 0 < R.length → A = some ⟨g, p, none⟩) (ho : OS w N M U text sg un (sg.map keyOf) (un.map lineT) wr) (hr : openL keys text (linesL R []) (sg, un) = r)
    (hq : q + (linesL R []).length ≤ 100) (hsu : sg.length + un.length ≤ q) (hn : R.length ≤ 2147483647) : LI w g N M U text keys r R.length A q wr :=
  ⟨R, sg, un, rfl, ho, fun h => ⟨p, hA h, ht.1⟩, ht.2.1, ht.2.2, hr, hq, hsu, hn⟩
theorem li_done {q : Nat} (h : LI w g N M U text keys r 0 A q wr) : ∃ sg un : List SV, OS w N M U text sg un (sg.map keyOf) (un.map lineT) wr ∧ r = .ok (sg, un) ∧ sg.length + un.length ≤ 100 := by
  obtain ⟨R, sg, un, h1, h2, _, _, _, h6, h7, h8, _⟩ := h
  obtain rfl : R = [] := List.eq_nil_of_length_eq_zero h1
  exact ⟨sg, un, h2, h6.symm, by omega⟩
theorem li_round {n q : Nat} (h : LI w g N M U text keys r n A q wr) (hn : 0 < n) : ∃ (L R : List UInt8) (p : Nat) (sg un : List SV), n = L.length + 1 + R.length ∧ A = some ⟨g, p, none⟩ ∧ RowAt w g p (byteCells (L ++ 10 :: R)) ∧ Lib.indexByte (L ++ 10 :: R) 10 = (L.length : Int) ∧
    RowAt w g p (byteCells L) ∧ Tl w g (p + (L.length + 1)) R ∧ OS w N M U text sg un (sg.map keyOf) (un.map lineT) wr ∧ (∀ x ∈ L, 32 ≤ x.toNat) ∧ openL keys text (L :: linesL R []) (sg, un) = r ∧ q + 1 + (linesL R []).length ≤ 100 ∧ sg.length + un.length ≤ q ∧ n ≤ 2147483647 := by
  obtain ⟨R0, sg, un, h1, h2, h3, h4, h5, h6, h7, h8, h9⟩ := h
  obtain ⟨p, hA, hrow⟩ := h3 hn
  obtain ⟨k, k1, k2, k3, k4⟩ := nl_ex R0 ⟨n - 1, by omega, h4 hn⟩
  have e : R0 = R0.take k ++ 10 :: R0.drop (k + 1) := by
    conv => lhs; rw [← List.take_append_drop k R0, List.drop_eq_getElem_cons k2]
    rw [List.getD_eq_getElem?_getD, List.getElem?_eq_getElem k2] at k3
    rw [show R0[k] = 10 from k3]
  have hl : (R0.take k).length = k := by rw [List.length_take]; omega
  have hd : (R0.drop (k + 1)).length = n - (k + 1) := by rw [List.length_drop, h1]
  have hcut := linesL_cut R0 [] k k4 k2 k3
  rw [List.nil_append] at hcut
  rw [hcut] at h6 h7
  refine ⟨R0.take k, R0.drop (k + 1), p, sg, un, by rw [hl, hd]; omega, hA, by rw [← e]; exact hrow, by rw [← e, hl]; exact k1, row_take hrow k, ⟨by rw [hl]; exact row_drop hrow (k + 1), ?_, fun x hx => h5 x (List.mem_of_mem_drop hx)⟩, h2, fun x hx => ?_, h6, by rw [List.length_cons] at h7; omega, h8, h9⟩
  · intro hp
    rw [hd] at hp
    have h := h4 hn
    rw [hd, List.getD_eq_getElem?_getD, List.getElem?_drop, ← List.getD_eq_getElem?_getD, show k + 1 + (n - (k + 1) - 1) = n - 1 by omega]
    exact h
  · rcases h5 x (List.mem_of_mem_take hx) with h | h
    · exact h
    · exfalso
      subst h
      obtain ⟨i, hi, he⟩ := List.getElem_of_mem hx
      rw [hl] at hi
      refine k4 i hi ?_
      rw [List.getElem_take] at he
      rw [List.getD_eq_getElem?_getD, List.getElem?_eq_getElem (by omega)]
      exact he
end

set_option maxHeartbeats 16000000 in
set_option maxRecDepth 100000 in
theorem noteOpen_any (g c B : Nat) (s : ByteArray) (keys : List KV) (j : Int) (r : Except OEnd (List SV × List SV)) (w : World) (hrow : RowAt w g 0 (byteCells s.data.toList)) (hg : g < w.heap.size) (hsc : s.size ≤ c) (hs : s.size ≤ 2147483647)
    (hV : VMap w B keys) (hat : ∀ k ∈ keys, k.At w w.heap.size ∧ k.tn ≤ 2147483647 ∧ k.sn ≤ 2147483647) (hone : ∀ a x, (grp keys a x).length ≤ 1) (hT : Tabs w) (hE : ErrsO w) (hj : IsLast s j) (h100 : splitOk s j = true → (linesAt s j).length ≤ 100) (hr : r = openAt keys s j) :
    Calls Tryd.prog 45 #[.slice (some ⟨g, 0, none⟩) s.size c, .iface 156 (.map (some B))] w (OPost w (textAt s j) r) := by
  have Hrow := Lib.hid hrow
  have HV := Lib.hid hV
  have Hat := Lib.hid hat
  have Hone := Lib.hid hone
  have HT := Lib.hid hT
  have HE := Lib.hid hE
  have Hj := Lib.hid hj
  have H100 := Lib.hid h100
  have Hr := Lib.hid hr
  have hsl : s.data.toList.length = s.size := by simp
  clear hrow hV hat hone hT hE hj h100 hr
  go_enter Tryd.func45, Tryd.ntmps45
  go_upto_block 0 with (fail)
  go_cut [6] (fun _ wc => Hid (Below w.heap.size w wc) ∧ Hid (plainB s = true))
  case first =>
    --DEV
    as_aux_lemma =>
      go_wp2_with (fail)
      go_loopw [6] (fun v wr => ∃ k : Nat, k ≤ s.size ∧ v = .int .i64 (k : Int) ∧ Hid (Going s k) ∧ Hid (Below w.heap.size w wr)) (fun v _ => s.size - (RowKit.intOf v).toNat)
      case atStart => exact ⟨0, by omega, rfl, ⟨s.size, by simp, okGo_plain s⟩, Below.refl _ _⟩
      case round =>
        obtain ⟨k, hk, rfl, Hgo, Hb⟩ := hrel
        by_cases hlt : k < s.size
        · have hw1 := decodeL_width (s.data.toList.drop k)
          have hw2 := decode_le hlt
          have hr1 := decodeL_rune (s.data.toList.drop k)
          have hdl : (s.data.toList.drop k).length = s.size - k := by simp
          have cr := rune_any g k (c - k) (s.data.toList.drop k) wr (by have := row_drop (Hrow.out.below Hb.out hg) k; rwa [Nat.zero_add] at this) (by omega) (HT.out.below Hb.out)
          rw [hdl] at cr
          have Cr := Lib.hid cr
          have Hbad := Lib.hid (Going.bad Hgo.out hlt)
          have Hnext := Lib.hid (Going.next Hgo.out hlt)
          unfold badHead at Hbad Hnext
          clear cr hdl Hgo
          generalize (decodeL (s.data.toList.drop k)).1 = R at *
          generalize (decodeL (s.data.toList.drop k)).2 = Z at *
          go_wp2_with (fail)
          refine Cr.out.mono ?_
          clear Cr
          rintro e w1 ⟨rfl, hb1⟩
          have Hb1 := Lib.hid (Hb.out.trans (hb1.mono Hb.out.size))
          clear hb1
          by_cases h1 : R < 32
          · by_cases h2 : R = 10
            · have Hn := Lib.hid (Hnext.out (by rw [h2]; simp))
              have e1 : decide ((R : Int) < 32) = true := by simp; omega
              have e2 : ((R : Int) != 10) = false := by simp; omega
              have e3 : ((R : Int) == 65533) = false := by rw [beq_eq_false_iff_ne]; omega
              go_wp2_with (fail)
              go_roundw
              case rel => exact ⟨k + Z, by omega, by go_num, Hn, Hb1⟩
              case measure => simp [RowKit.intOf]; omega
            · have Hp := Lib.hid (Hbad.out (by rw [decide_eq_true h1, decide_eq_true h2]; rfl))
              have e1 : decide ((R : Int) < 32) = true := by simp; omega
              have e2 : ((R : Int) != 10) = true := by simp; omega
              obtain ⟨ep, he⟩ := HE.out.below Hb1.out
              have hrm := openAt_plain (keys := keys) (j := j) Hp.out
              have Hrm := Lib.hid (Hr.out.trans hrm)
              clear hrm
              go_upto_region 7 with (fail)
              go_quiet (fail)
              go_wp2_with (fail)
              go_ret2
              exact opost_mal Hrm.out ⟨Hb1.out.os, Hb1.out.tape, Hb1.out.output, Hb1.out.size, Hb1.out.block⟩ _ rfl
          · have e1 : decide ((R : Int) < 32) = false := by simp; omega
            by_cases h3 : R = 65533
            · have e3 : ((R : Int) == 65533) = true := by simp; omega
              by_cases h4 : Z = 1
              · have e4 : ((Z : Int) == 1) = true := by simp; omega
                have Hp := Lib.hid (Hbad.out (by rw [decide_eq_true h3, decide_eq_true h4]; simp))
                obtain ⟨ep, he⟩ := HE.out.below Hb1.out
                have hrm := openAt_plain (keys := keys) (j := j) Hp.out
                have Hrm := Lib.hid (Hr.out.trans hrm)
                clear hrm
                go_upto_region 7 with (fail)
                go_quiet (fail)
                go_wp2_with (fail)
                go_ret2
                exact opost_mal Hrm.out ⟨Hb1.out.os, Hb1.out.tape, Hb1.out.output, Hb1.out.size, Hb1.out.block⟩ _ rfl
              · have e4 : ((Z : Int) == 1) = false := by rw [beq_eq_false_iff_ne]; omega
                have Hn := Lib.hid (Hnext.out (by rw [decide_eq_false h1, decide_eq_false h4]; simp))
                go_wp2_with (fail)
                go_roundw
                case rel => exact ⟨k + Z, by omega, by go_num, Hn, Hb1⟩
                case measure => simp [RowKit.intOf]; omega
            · have e3 : ((R : Int) == 65533) = false := by rw [beq_eq_false_iff_ne]; omega
              have Hn := Lib.hid (Hnext.out (by rw [decide_eq_false h1, decide_eq_false h3]; simp))
              go_wp2_with (fail)
              go_roundw
              case rel => exact ⟨k + Z, by omega, by go_num, Hn, Hb1⟩
              case measure => simp [RowKit.intOf]; omega
        · obtain rfl : k = s.size := by omega
          go_wp2_with (fail)
          go_meet
          case rel => exact ⟨Hb, Lib.hid (Going.done Hgo.out)⟩
    --VED
  case rest =>
    obtain ⟨Hb, Hpl⟩ := hcut
    have hrA := heap_alloc_new wc (.cells #[.int .u8 10, .int .u8 10] 5 (2, 3))
    have hbA : Below wc.heap.size wc (wc.alloc (.cells #[.int .u8 10, .int .u8 10] 5 (2, 3))) := (Below.refl _ _).alloc (Nat.le_refl _) _
    have hbA0 := Hb.out.trans (hbA.mono Hb.out.size)
    have Cl := Lib.hid (lastIndex_any g 0 s.size c wc.heap.size 0 2 s _ (fun k hk => row_get (Hrow.out.below hbA0 hg) (by omega)) rfl hs hsc (cell_of_row _ _ 0 _ _ _ hrA) (cell_of_row _ _ 1 _ _ _ hrA))
    have HbA := Lib.hid hbA0
    have kc := Lib.run_convert_bytes_const (P := Tryd.prog) wc 68 5 #[.int .u8 10, .int .u8 10] 2 2 Tryd.underlying68 Tryd.underlying5
    clear hbA hbA0 hrA
    go_wp2_with (fail)
    refine Cl.out.mono ?_
    clear Cl
    rintro e w1 ⟨j', rfl, hj', hb1⟩
    obtain rfl : j' = j := isLast_unique hj' Hj.out
    have Hb1 := Lib.hid (HbA.out.trans (hb1.mono HbA.out.size))
    clear hb1 HbA hj'
    rcases Hj.out with ⟨hm1, -⟩ | ⟨k, hjk, hk1, -, -⟩
    · skip
      --DEV
      subst hm1
      have Hrm := Lib.hid (Hr.out.trans (openAt_split (keys := keys) (show splitOk s (-1) = false from rfl)))
      obtain ⟨ep, he⟩ := HE.out.below Hb1.out
      clear kc
      go_upto_region 11 with (fail)
      go_quiet (fail)
      go_wp2_with (fail)
      go_ret2
      exact opost_mal Hrm.out ⟨Hb1.out.os, Hb1.out.tape, Hb1.out.output, Hb1.out.size, Hb1.out.block⟩ _ rfl
      --VED
    · subst hjk
      clear kc
      by_cases hmore : k + 2 < s.size
      · obtain ⟨n, hn⟩ : ∃ n, s.size = k + 2 + (n + 1) := ⟨s.size - (k + 2) - 1, by omega⟩
        rw [hn]
        rw [hn] at hsc hs
        have Hn := Lib.hid hn
        have i1 : ¬ c = k + 2 := by omega
        have ek : decide ((k : Int) < 0) = false := by rw [decide_eq_false_iff_not]; omega
        have en : ((n : Int) + 1 == 0) = false := by rw [beq_eq_false_iff_ne]; omega
        clear hn hmore hk1 hsl
        go_upto_region 12 with (fail)
        go_quiet (fail)
        go_upto_region 13 with (fail)
        have Hb2 := Lib.hid (Hb1.out.trans ((below_drewNg w1 nq).mono Hb1.out.size))
        generalize w1.drewN nq = w2 at *
        clear Hb1
        rw [show k + 2 + (n + 1) - (k + 2) = n + 1 by omega]
        have hl8 : w2.cell? ⟨g, k + 2 + n, none⟩ = some (.int .u8 (bAt s (k + 2 + n) : Int)) := by
          have h := row_get (Hrow.out.below Hb2.out hg) (i := k + 2 + n) (by have := Hn.out; simp; omega)
          rw [Nat.zero_add] at h
          exact h
        by_cases hlast : bAt s (k + 2 + n) = 10
        · rw [hlast] at hl8
          have hsp : splitOk s (k : Int) = true := by
            unfold splitOk
            have h := Hn.out
            rw [h, decide_eq_true (by omega), decide_eq_true (by rw [Int.toNat_natCast]; omega), show k + 2 + (n + 1) - 1 = k + 2 + n by omega, decide_eq_true hlast]
            rfl
          have Hgo := Lib.hid (openAt_go (keys := keys) Hpl.out hsp)
          have H100' := Lib.hid (H100.out hsp)
          have Hlast := Lib.hid hlast
          have hct : (convert 68 9 (.slice (some ⟨g, 0, none⟩) (k + 1) c)).run Tryd.prog w2 = .ok (.string (textAt s k)) w2 := by
            have h := conv_row (c := c) (row_take (Hrow.out.below Hb2.out hg) (k + 1))
            rw [List.length_take, Nat.min_eq_left (by have := Hn.out; simp; omega), ← textAt_take] at h
            exact h
          have hm1 := make_seen
          have hm2 := make_texts
          have Hos := Lib.hid (os_start w w2 (textAt s k) Hb2.out)
          have Hctl := Lib.hid (plain_ctl Hpl.out)
          clear hsp hlast H100
          go_upto_region 18 with (fail)
          clear hct hm1 hm2 hl8 ek en
          generalize ((w2.alloc (.cells #[.string (textAt s k), .slice none 0 0, .slice none 0 0] 77)).alloc (.map #[] 0)).alloc (.map #[] 0) = w3 at *
          clear Hb2
          generalize w2.heap.size = N at *
          generalize N + 1 = M at *
          generalize M + 1 = U at *
          have Hrr := Lib.hid (Hr.out.trans Hgo.out)
          have Htext := Lib.hid (textAt_take s k)
          unfold linesAt at Hrr H100'
          generalize textAt s (k : Int) = T at *
          rw [Int.toNat_natCast] at Hrr H100'
          have hdl : (s.data.toList.drop (k + 2)).length = n + 1 := by rw [List.length_drop]; have := Hn.out; simp; omega
          have Hli : Hid (LI w g N M U T keys r (n + 1) (some ⟨g, k + 2, none⟩) 0 w3) := by
            have htl : Tl w g (k + 2) (s.data.toList.drop (k + 2)) := ⟨by have h := row_drop Hrow.out (k + 2); rw [Nat.zero_add] at h; exact h, fun _ => ?_, fun x hx => Hctl.out x (List.mem_of_mem_drop hx)⟩
            · have h := li_next (A := some ⟨g, k + 2, none⟩) (q := 0) (sg := []) (un := []) htl (fun _ => rfl) Hos.out Hrr.out.symm (by rw [Nat.zero_add]; exact H100'.out) (Nat.le_refl _) (by omega)
              rw [hdl] at h
              exact Lib.hid h
            · rw [hdl, Nat.add_sub_cancel, List.getD_eq_getElem?_getD, List.getElem?_drop, ← List.getD_eq_getElem?_getD]
              exact UInt8.toNat_inj.1 Hlast.out
          clear Hgo H100' Hos Hrr Hlast Hctl hdl Hr
          go_wp2_with (fail)
          go_loopw [11, 15] (fun v11 v15 wr => ∃ (n : Nat) (A : Option Addr) (cap q : Nat), v11 = .slice A n cap ∧ v15 = .int .i64 (q : Int) ∧ n ≤ cap ∧ Hid (LI w g N M U T keys r n A q wr)) (fun v _ _ => lenV v)
          case atStart => exact ⟨n + 1, _, _, 0, rfl, rfl, by omega, Hli⟩
          case round =>
            clear Hli
            obtain ⟨m, A, cap, q, rfl, rfl, hcap, Hli⟩ := hrel
            rcases Nat.eq_zero_or_pos m with hm0 | hm0
            · skip
              --DEV
              subst hm0
              obtain ⟨sg, un, hos, hrk, hsu⟩ := li_done Hli.out
              obtain ⟨v1, v2, hN, ho1, ho2, hne⟩ := id hos.note
              obtain ⟨A1, c1, rfl, hs1, hc1, hc1'⟩ := own_form ho1
              have q1 : wr.cell? ⟨N, 1, none⟩ = some (.slice A1 sg.length c1) := cell_of_row _ _ 1 _ _ _ hN
              have Hos := Lib.hid hos
              have Hrk := Lib.hid hrk
              clear hos hrk hN ho1 ho2 hne hs1 hc1 hc1' hsu
              by_cases hsg : sg = []
              · subst hsg
                simp only [List.length_nil] at q1
                go_wp2_with (fail)
                go_ret2
                exact opost_un Hrk.out Hos.out
              · have e1 : ((sg.length : Int) == 0) = false := by
                  rw [beq_eq_false_iff_ne]
                  have := List.length_pos_iff.2 hsg
                  omega
                go_wp2_with (fail)
                go_ret2
                exact opost_ok Hrk.out hsg Hos.out
              --VED
            · obtain ⟨L, R, p, sg, un, hm, rfl, hrow, hidx, hrowL, htl, hos, hbL, hrk, hq, hsu, hmx⟩ := li_round Hli.out hm0
              obtain ⟨nL, hnL⟩ : ∃ x, x = L.length := ⟨_, rfl⟩
              obtain ⟨nR, hnR⟩ : ∃ x, x = R.length := ⟨_, rfl⟩
              rw [← hnL, ← hnR] at hm
              rw [← hnL] at htl
              subst hm
              have hgw : g < wr.heap.size := Nat.lt_of_lt_of_le hg hos.low.size
              have cn := nl_any g p cap nL (L ++ 10 :: R) wr (hrow.below hos.low hg) (by rw [hidx, hnL])
              rw [show (L ++ 10 :: R).length = nL + 1 + nR by simp [hnL, hnR]; omega] at cn
              have Cn := Lib.hid cn
              have HnL := Lib.hid hnL
              have HnR := Lib.hid hnR
              have HrowL := Lib.hid hrowL
              have Htl := Lib.hid htl
              have Hos := Lib.hid hos
              have HbL := Lib.hid hbL
              have Hrk := Lib.hid hrk
              have Hq := Lib.hid hq
              clear cn hnL hnR hrow hidx hrowL htl hos hbL hrk hq Hli
              go_wp2_with (fail)
              refine Cn.out.mono ?_
              clear Cn
              rintro e w' ⟨rfl, hw⟩
              obtain rfl := hw.symm
              clear hw
              go_upto_region 22 with (fail)
              go_cut [11] (fun v11 wx => wx = wr ∧ ∃ A', v11 = .slice A' nR (cap - (nL + 1)) ∧ Hid (0 < nR → A' = some ⟨g, p + (nL + 1), none⟩))
              case first =>
                by_cases hcc : cap = nL + 1
                · obtain rfl : nR = 0 := by omega
                  subst hcc
                  go_wp2_with (fail)
                  go_meet
                  case rel => exact ⟨rfl, _, by rw [Nat.sub_self], Lib.hid fun h => by omega⟩
                · go_wp2_with (fail)
                  go_meet
                  case rel => exact ⟨rfl, _, rfl, Lib.hid fun h => rfl⟩
              case rest =>
                obtain ⟨hw, A', rfl, HA'⟩ := hcut
                obtain rfl := hw.symm
                clear hw
                have hrD := heap_alloc_new wr (.cells #[.int .u8 226, .int .u8 128, .int .u8 148, .int .u8 32] 5 (4, 5))
                have hbD : Below wr.heap.size wr (wr.alloc (.cells #[.int .u8 226, .int .u8 128, .int .u8 148, .int .u8 32] 5 (4, 5))) := (Below.refl _ _).alloc (Nat.le_refl _) _
                have kc := Lib.run_convert_bytes_const (P := Tryd.prog) wr 68 5 #[.int .u8 226, .int .u8 128, .int .u8 148, .int .u8 32] 4 4 Tryd.underlying68 Tryd.underlying5
                have hbL' : Below w.heap.size w (wr.alloc (.cells #[.int .u8 226, .int .u8 128, .int .u8 148, .int .u8 32] 5 (4, 5))) := Hos.out.low.trans (hbD.mono Hos.out.low.size)
                have cp := pre_any g p cap wr.heap.size 4 L _ (HrowL.out.below hbL' hg) (dash_row hrD) (by have := HnL.out; omega)
                rw [← HnL.out] at cp
                have Cp := Lib.hid cp
                have Hos4 := Lib.hid (Hos.out.far hbD)
                clear hrD hbD cp hbL'
                go_wp2_with (fail)
                refine Cp.out.mono ?_
                clear Cp kc
                rintro e w' ⟨rfl, hw⟩
                obtain rfl := hw.symm
                clear hw
                generalize wr.alloc (.cells #[.int .u8 226, .int .u8 128, .int .u8 148, .int .u8 32] 5 (4, 5)) = w4 at *
                clear Hos hgw
                by_cases hd : L.take 4 = dash
                · rw [decide_eq_true hd]
                  obtain ⟨n4, rfl⟩ : ∃ n4, nL = 4 + n4 := ⟨nL - 4, by
                    have h := congrArg List.length hd
                    rw [List.length_take, ← HnL.out] at h
                    have h4 : dash.length = 4 := rfl
                    omega⟩
                  have hBl : (L.drop 4).length = n4 := by rw [List.length_drop, ← HnL.out]; omega
                  have hct := conv_row (c := cap - 4) ((row_drop HrowL.out 4).below Hos4.out.low hg)
                  rw [hBl] at hct
                  have Hd := Lib.hid hd
                  have HBl := Lib.hid hBl
                  have i4 : ¬ cap = 4 := by omega
                  have cz := zzCut_any (str (L.drop 4)) 32 w4 (by rw [str_size, hBl]; omega)
                  obtain ⟨nm, hnm⟩ : ∃ x, x = (cutB 32 (str (L.drop 4))).1 := ⟨_, rfl⟩
                  obtain ⟨b64, hb64⟩ : ∃ x, x = (cutB 32 (str (L.drop 4))).2.1 := ⟨_, rfl⟩
                  obtain ⟨fnd, hfnd⟩ : ∃ x, x = (cutB 32 (str (L.drop 4))).2.2 := ⟨_, rfl⟩
                  rw [← hnm, ← hb64, ← hfnd] at cz
                  have Hlp : Hid (lineP L = lpOf nm b64 (decL b64.data.toList)) := Lib.hid (by rw [lineP_eq hd, hnm, hb64])
                  have Hnm := Lib.hid (show nm.size ≤ 2147483647 by
                    have := (cutB_size 32 (str (L.drop 4))).1
                    rw [← hnm, str_size, hBl] at this
                    omega)
                  have Hb64 := Lib.hid (show b64.size ≤ 2147483647 by
                    have := (cutB_size 32 (str (L.drop 4))).2
                    rw [← hb64, str_size, hBl] at this
                    omega)
                  have Hnn := Lib.hid (show ∀ x ∈ b64.data.toList, x ≠ 10 ∧ x ≠ 13 from fun x hx => by
                    rw [hb64] at hx
                    have h := cutB_mem hx
                    rw [str_list] at h
                    have h := HbL.out x (List.mem_of_mem_drop h)
                    exact ⟨by rintro rfl; simp at h, by rintro rfl; simp at h⟩)
                  have HlT : Hid (b64 ≠ ⟨#[]⟩ → str (L.drop 4) = str (nm.data.toList ++ [32] ++ b64.data.toList)) := Lib.hid fun h => by
                    rw [hnm, hb64]
                    exact cutB_join (by rw [← hb64]; exact h)
                  have Cz := Lib.hid cz
                  clear cz hnm hb64 hfnd hBl hd
                  go_wp2_with (fail)
                  refine Cz.out.mono ?_
                  clear Cz hct
                  rintro e w5 ⟨rfl, hb5⟩
                  have Hos5 := Lib.hid (Hos4.out.far hb5)
                  clear Hos4 hb5
                  go_wp2_with (fail)
                  refine (stdEnc_any _).mono ?_
                  rintro e w6 ⟨rfl, hb6, hE6⟩
                  have Hos6 := Lib.hid (Hos5.out.far hb6)
                  have C := Lib.hid (decStr_any w5.heap.size b64 w6 hE6 Hb64.out Hnn.out)
                  clear Hos5 hb6 hE6
                  go_wp2_with (fail)
                  refine C.out.mono ?_
                  clear C
                  intro e w7 hsp
                  obtain ⟨v9, ev9, rfl, hgot⟩ := gotRaw hsp
                  have Hos7 := Lib.hid (Hos6.out.far hgot.1)
                  clear Hos6 hsp
                  obtain ⟨hbR, hgot⟩ := hgot
                  clear hbR
                  rcases hgot with ⟨hdn, ev, rfl⟩ | ⟨y, g9, c9, hdy, rfl, rfl, hyc, hc9, hg9, hrow9⟩
                  · have Hrm := Lib.hid (Hrk.out.symm.trans (openL_mal (by rw [Hlp.out, hdn]; rfl)))
                    obtain ⟨ep, he⟩ := HE.out.below Hos7.out.low
                    have Hlow := Lib.hid Hos7.out.low
                    clear hdn
                    go_upto_region 29 with (fail)
                    go_quiet (fail)
                    go_wp2_with (fail)
                    go_ret2
                    exact opost_mal Hrm.out ⟨Hlow.out.os, Hlow.out.tape, Hlow.out.output, Hlow.out.size, Hlow.out.block⟩ _ rfl
                  · have Cv := Lib.hid (valid_any nm w7 (by have := Hnm.out; omega) (HT.out.below Hos7.out.low))
                    have Hlp2 := Lib.hid (Hlp.out.trans (congrArg (lpOf nm b64) hdy))
                    have Hrow9 := Lib.hid hrow9
                    clear hdy hrow9 Hlp
                    obtain ⟨ny, hny⟩ : ∃ x, x = y.length := ⟨_, rfl⟩
                    rw [← hny] at hyc ⊢
                    have Hny := Lib.hid hny
                    clear hny
                    go_wp2_with (fail)
                    refine Cv.out.mono ?_
                    clear Cv
                    rintro e w8 ⟨rfl, hb8⟩
                    have Hos8 := Lib.hid (Hos7.out.far hb8)
                    have Hrow8 := Lib.hid (Hrow9.out.below hb8 hg9)
                    have hg8 : g9 < w8.heap.size := Nat.lt_of_lt_of_le hg9 hb8.size
                    clear Hos7 hb8 Hrow9 hg9
                    have Hlow := Lib.hid Hos8.out.low
                    obtain ⟨ep, he⟩ := HE.out.below Hos8.out.low
                    cases hv : nameOk nm
                    · have Hrm := Lib.hid (Hrk.out.symm.trans (openL_mal (by rw [Hlp2.out]; unfold lpOf; rw [hv]; rfl)))
                      clear hv
                      go_upto_region 29 with (fail)
                      go_quiet (fail)
                      go_wp2_with (fail)
                      go_ret2
                      exact opost_mal Hrm.out ⟨Hlow.out.os, Hlow.out.tape, Hlow.out.output, Hlow.out.size, Hlow.out.block⟩ _ rfl
                    · by_cases hbe : b64 = ⟨#[]⟩
                      · have Hrm := Lib.hid (Hrk.out.symm.trans (openL_mal (by rw [Hlp2.out]; unfold lpOf; rw [decide_eq_false (fun h => h hbe), Bool.and_false]; rfl)))
                        have ht0 : b64.toList = [] := by rw [hbe, ByteArray.toList_eq]
                        clear hv hbe
                        go_upto_region 29 with (fail)
                        go_quiet (fail)
                        go_wp2_with (fail)
                        go_ret2
                        exact opost_mal Hrm.out ⟨Hlow.out.os, Hlow.out.tape, Hlow.out.output, Hlow.out.size, Hlow.out.block⟩ _ rfl
                      · have ht0 : (b64.toList == []) = false := by
                          rw [ByteArray.toList_eq, beq_eq_false_iff_ne]
                          exact fun h => hbe (bytes_ext h)
                        by_cases h5 : ny < 5
                        · have Hrm := Lib.hid (Hrk.out.symm.trans (openL_mal (by rw [Hlp2.out]; unfold lpOf; dsimp only; rw [decide_eq_false (p := 5 ≤ y.length) (by rw [← Hny.out]; omega), Bool.and_false]; rfl)))
                          have e5 : decide ((ny : Int) < 5) = true := by simp; omega
                          clear hv hbe
                          go_upto_region 29 with (fail)
                          go_quiet (fail)
                          go_wp2_with (fail)
                          go_ret2
                          exact opost_mal Hrm.out ⟨Hlow.out.os, Hlow.out.tape, Hlow.out.output, Hlow.out.size, Hlow.out.block⟩ _ rfl
                        · have e5 : decide ((ny : Int) < 5) = false := by simp; omega
                          obtain ⟨x, hx⟩ : ∃ x : Int, x = (be4 y : Int) := ⟨_, rfl⟩
                          have Hlp3 : Hid (lineP L = some (⟨nm, x, b64⟩, y.drop 4)) := Lib.hid (by rw [Hlp2.out, hx]; unfold lpOf; dsimp only; rw [hv, decide_eq_true hbe, decide_eq_true (p := 5 ≤ y.length) (by rw [← Hny.out]; omega)]; rfl)
                          have HlT2 := Lib.hid (HlT.out hbe)
                          have cb := beRow_any g9 0 4 c9 (y.take 4) w8 (row_take Hrow8.out 4) (by omega) (by rw [List.length_take, ← Hny.out]; omega) (by omega)
                          rw [be4_take, ← hx] at cb
                          have Cb := Lib.hid cb
                          have i9 : ¬ c9 = 4 := by omega
                          have hq1 : (q : Int) + 1 ≤ 100 := by have := Hq.out; omega
                          clear cb hx hv hbe Hlp2 HlT he Hlow
                          go_wp2_with (fail)
                          refine Cb.out.mono ?_
                          clear Cb
                          rintro e w9 ⟨rfl, k9, hw9⟩
                          have hb9 : Below w8.heap.size w8 w9 := by rw [hw9]; exact below_drewNg w8 k9
                          have Hos9 := Lib.hid (Hos8.out.far hb9)
                          have Hrow9 := Lib.hid (row_drop (Hrow8.out.below hb9 hg8) 4)
                          have hg9 : g9 < w9.heap.size := Nat.lt_of_lt_of_le hg8 hb9.size
                          clear hb9 hw9 Hos8 Hrow8 hg8
                          have m1 := verifier_method
                          rcases hgk : grp keys nm x with _ | ⟨kv, kr⟩
                          · skip
                            --DEV
                            have Cv := Lib.hid (verifier_none B keys nm x w9 (HV.out.below Hos9.out.low) hgk)
                            have Hgk := Lib.hid hgk
                            have a1 := asUnknown
                            clear hgk
                            go_wp2_with (fail)
                            refine Cv.out.mono ?_
                            clear Cv m1
                            rintro e w10 ⟨rfl, hb10⟩
                            have Hos10 := Lib.hid (Hos9.out.far hb10)
                            clear hb10 Hos9 Hrow9 hg9
                            have hct := conv_row (c := cap - 4) ((row_drop HrowL.out 4).below Hos10.out.low hg)
                            obtain ⟨S, hS⟩ : ∃ S, S = lineT ⟨nm, x, b64⟩ := ⟨_, rfl⟩
                            rw [HBl.out, show str (L.drop 4) = S from HlT2.out.trans hS.symm] at hct
                            have hlk := run_text_look (T := 144) Hos10.out.hu Tryd.underlying144 Tryd.underlying9 zero_false S
                            cases hh : inTexts (un.map lineT) S
                            · have Hh := Lib.hid (show inTexts (un.map lineT) (lineT ⟨nm, x, b64⟩) = false by rw [← hS]; exact hh)
                              have HS := Lib.hid hS
                              rw [hh] at hlk
                              have Hrk2 := Lib.hid ((openL_ok (step_un_new Hlp3.out Hgk.out Hh.out)).symm.trans Hrk.out)
                              obtain ⟨o, hput, hu, _⟩ := run_text_put (T := 144) Hos10.out.hu Tryd.underlying144 Tryd.underlying9 S
                              have Hos11 := Lib.hid (Hos10.out.putU hu)
                              obtain ⟨v1, v2, hN, ho1, ho2, hne⟩ := id Hos11.out.note
                              clear hu hh hS
                              go_upto_region 40 with (fail)
                              clear hput hlk hct a1
                              generalize putObj w10 U o = w11 at *
                              have q2 : w11.cell? ⟨N, 2, none⟩ = some v2 := cell_of_row _ _ 2 _ _ _ hN
                              have hbE : Below w11.heap.size w11 (w11.alloc (.cells #[.string nm, .int .u32 x, .string b64] 134)) := (Below.refl _ _).alloc (Nat.le_refl _) _
                              have hNE := (hbE.block N (Array.getElem?_eq_some_iff.1 hN).1).trans hN
                              have ho1E := own_below ho1 hbE
                              have ho2E := own_below ho2 hbE
                              have Hos12 := Lib.hid (Hos11.out.far hbE)
                              have hsz11 := Hos11.out.low.size
                              obtain ⟨i0, hi, hz0, hz1, hz2⟩ := info_parts noteSigInfo
                              have hnews := new_cells (w := w11) (cs := #[.string nm, .int .u32 x, .string b64]) (t := 134) rfl
                              have hone : ∀ u ∈ (⟨nm, x, b64⟩ : SV).cells, u.oneCell' = true := SV.oneCells _
                              have hul : un.length ≤ 100 := by omega
                              have Hne := Lib.hid hne
                              have HhN := Lib.hid hN
                              have HNE := Lib.hid hNE
                              have Ho1E := Lib.hid ho1E
                              have Hone' := Lib.hid hone
                              clear hN hbE hNE ho1 ho2 ho1E hne hone Hos10 Hos11
                              go_wp2_with (at_builtin; refine wpList_append_own_at _ rfl _ _ 74 rfl w.heap.size 134 i0 _ 3 40 Tryd.underlying74 hi hz0 hz1 hz2 rfl (by decide) _ _ _ rfl ho2E ⟨w11.heap.size, 0, none⟩ 1 1 (SV.cells ⟨nm, x, b64⟩) rfl rfl ?c1 ?c2 ?c3 ?c4 ?c5 ?_)
                              case c1 => first | exact hnews | exact fun _ _ h => h
                              case c2 => exact Hone'.out
                              case c3 => simp only [maxLen]; omega
                              case c4 => omega
                              case c5 => omega
                              intro v' w13 hown' hgrow _ hloc
                              have kN : w13.heap[N]? = some (.cells #[.string T, v1, v2] 77 (0, 0)) := (hgrow.block N (Array.getElem?_eq_some_iff.1 HNE.out).1 (own_other ho2E HNE.out fun cur he => sig_ne_note (by injection he))).trans HNE.out
                              have p2 : w13.cell? ⟨N, 2, none⟩ = some v2 := cell_of_row _ _ 2 _ _ _ kN
                              have z2 : w13.frozen? ⟨N, 2, none⟩ = false := frozen_of_row _ _ 2 _ _ kN
                              have Hos13 := Lib.hid (OS.pushUn Hos12.out HNE.out Ho1E.out ho2E Hne.out hown' hgrow (hloc.imp id fun h => h.trans (by simp)))
                              obtain ⟨Av, cv, rfl, _, _, _⟩ := own_form hown'
                              clear kN hown' hgrow hloc ho2E hnews hi hz0 hz1 hz2 Hos12 q2
                              go_wp2_with (fail)
                              go_roundw
                              case rel =>
                                have ho := Hos13.out
                                rw [HS.out] at ho
                                have h := li_next (un := un ++ [⟨nm, x, b64⟩]) Htl.out (by rw [← HnR.out]; exact HA'.out) (by rw [List.map_append]; exact ho) Hrk2.out Hq.out (by rw [List.length_append]; simp; omega) (by rw [← HnR.out]; omega)
                                rw [← HnR.out] at h
                                exact ⟨nR, A', _, q + 1, rfl, by go_num, by omega, Lib.hid h⟩
                              case measure => show nR < 4 + n4 + 1 + nR; omega
                            · have Hh := Lib.hid (show inTexts (un.map lineT) (lineT ⟨nm, x, b64⟩) = true by rw [← hS]; exact hh)
                              rw [hh] at hlk
                              have Hrk2 := Lib.hid ((openL_ok (step_un_old Hlp3.out Hgk.out Hh.out)).symm.trans Hrk.out)
                              clear hh hS
                              go_wp2_with (fail)
                              go_roundw
                              case rel =>
                                have h := li_next Htl.out (by rw [← HnR.out]; exact HA'.out) Hos10.out Hrk2.out Hq.out (by omega) (by rw [← HnR.out]; omega)
                                rw [← HnR.out] at h
                                exact ⟨nR, A', _, q + 1, rfl, by go_num, by omega, Lib.hid h⟩
                              case measure => show nR < 4 + n4 + 1 + nR; omega
                            --VED
                          · obtain ⟨hkm, hkn, hkh⟩ : kv ∈ keys ∧ kv.name = nm ∧ kv.hash = x := by
                              have h : kv ∈ grp keys nm x := by rw [hgk]; simp
                              unfold grp at h
                              simpa using h
                            have hkr : kr = [] := by
                              have h := Hone.out nm x
                              rw [hgk, List.length_cons] at h
                              exact List.eq_nil_of_length_eq_zero (by omega)
                            subst hkr
                            obtain ⟨hka, hkok⟩ := Hat.out kv hkm
                            have cv := verifier_one B keys nm x w9 (HV.out.below Hos9.out.low) kv hgk
                            dsimp only [KV.iface, KV.val] at cv
                            have cN := fun W => vN kv W
                            have cH := fun W => vH kv W
                            rw [hkn, hkh] at cv
                            simp only [hkn, hkh] at cN cH
                            have Cv := Lib.hid cv
                            have CN := Lib.hid cN
                            have CH := Lib.hid cH
                            have Hka := Lib.hid (hka.more (Nat.le_refl _))
                            have Hkok := Lib.hid hkok
                            have Hkn := Lib.hid hkn
                            have Hkh := Lib.hid hkh
                            have Hgk := Lib.hid hgk
                            have a1 := asNil
                            have m2 := vName_method
                            have m3 := vHash_method
                            have m4 := vVerify_method
                            clear hkm hgk hka hkok hkn hkh cv cN cH
                            go_wp2_with (fail)
                            refine Cv.out.mono ?_
                            clear Cv m1
                            rintro e w10 ⟨rfl, hb10⟩
                            have Hos10 := Lib.hid (Hos9.out.far hb10)
                            have Hrow10 := Lib.hid (Hrow9.out.below hb10 hg9)
                            have hg10 : g9 < w10.heap.size := Nat.lt_of_lt_of_le hg9 hb10.size
                            clear hb10 Hos9 Hrow9 hg9
                            go_wp2_with (fail)
                            refine (CN.out _).mono ?_
                            clear CN
                            rintro e w11 ⟨rfl, hb11⟩
                            have Hos11 := Lib.hid (Hos10.out.far hb11)
                            have Hrow11 := Lib.hid (Hrow10.out.below hb11 hg10)
                            have hg11 : g9 < w11.heap.size := Nat.lt_of_lt_of_le hg10 hb11.size
                            have en1 : (nm.toList == nm.toList) = true := by simp
                            have ex1 : (x == x) = true := by simp
                            clear hb11 Hos10 Hrow10 hg10 a1
                            go_wp2_with (fail)
                            refine (CH.out _).mono ?_
                            clear CH
                            rintro e w12 ⟨rfl, hb12⟩
                            have Hos12 := Lib.hid (Hos11.out.far hb12)
                            have Hrow12 := Lib.hid (Hrow11.out.below hb12 hg11)
                            have hg12 : g9 < w12.heap.size := Nat.lt_of_lt_of_le hg11 hb12.size
                            clear hb12 Hos11 Hrow11 hg11
                            have hlk := run_have_look (T := 119) Hos12.out.hm Tryd.underlying119 zero_false nm x
                            cases hh : hasKey (sg.map keyOf) nm x
                            · have Hh := Lib.hid hh
                              rw [hh] at hlk
                              obtain ⟨o, hput, hm13, _⟩ := run_have_put (T := 119) Hos12.out.hm Tryd.underlying119 nm x
                              have Hos13 := Lib.hid (Hos12.out.putM hm13)
                              have Hrow13 : Hid (RowAt (putObj w12 M o) g9 (0 + 4) (byteCells (y.drop 4))) := Lib.hid (row_putObj Hrow12.out Hos12.out.hm.noCells)
                              clear hm13 hh
                              go_upto_region 47 with (fail)
                              clear hput hlk m2 m3
                              have hl13 : g9 < (putObj w12 M o).heap.size := by rw [putObj_size]; exact hg12
                              generalize putObj w12 M o = w13 at *
                              have cvf := verify_any kv g 0 c g9 4 (c9 - 4) (s.data.toList.take (k + 1)) (y.drop 4) w13 ((Hka.out.below Hos13.out.low).more Hos13.out.low.size) Hkok.out (row_take (Hrow.out.below Hos13.out.low hg) (k + 1)) Hrow13.out
                                (by rw [List.length_take]; have := Hn.out; simp; omega) (by rw [List.length_drop, ← Hny.out]; omega) (by rw [List.length_take]; have := Hn.out; simp; omega) (by rw [List.length_drop, ← Hny.out]; omega)
                              rw [show (s.data.toList.take (k + 1)).length = k + 1 by rw [List.length_take]; have := Hn.out; simp; omega, show (y.drop 4).length = ny - 4 by rw [List.length_drop, ← Hny.out], ← Htext.out, Hkn.out, Hkh.out] at cvf
                              have Cvf := Lib.hid cvf
                              clear cvf Hrow13 hl13 Hos12 Hrow12
                              go_wp2_with (fail)
                              refine Cvf.out.mono ?_
                              clear Cvf m4
                              rintro e w14 ⟨rfl, hb14⟩
                              have Hos14 := Lib.hid (Hos13.out.far hb14)
                              clear hb14 Hos13
                              cases hac : accK kv T (str (y.drop 4))
                              · have Hrk2 := Lib.hid ((openL_err (step_sg_bad Hlp3.out Hgk.out Hh.out hac)).symm.trans Hrk.out)
                                clear hac
                                go_wp2_with (fail)
                                go_ret2
                                exact opost_inv Hrk2.out.symm Hos14.out.low
                              · have Hrk2 := Lib.hid ((openL_ok (step_sg_new Hlp3.out Hgk.out Hh.out hac)).symm.trans Hrk.out)
                                obtain ⟨v1, v2, hN, ho1, ho2, hne⟩ := id Hos14.out.note
                                clear hac
                                have q1 : w14.cell? ⟨N, 1, none⟩ = some v1 := cell_of_row _ _ 1 _ _ _ hN
                                have hbE : Below w14.heap.size w14 (w14.alloc (.cells #[.string nm, .int .u32 x, .string b64] 134)) := (Below.refl _ _).alloc (Nat.le_refl _) _
                                have hNE := (hbE.block N (Array.getElem?_eq_some_iff.1 hN).1).trans hN
                                have ho1E := own_below ho1 hbE
                                have ho2E := own_below ho2 hbE
                                have hsz14 := Hos14.out.low.size
                                have Hos15 := Lib.hid (Hos14.out.far hbE)
                                obtain ⟨i0, hi, hz0, hz1, hz2⟩ := info_parts noteSigInfo
                                have hnews := new_cells (w := w14) (cs := #[.string nm, .int .u32 x, .string b64]) (t := 134) rfl
                                have hone : ∀ u ∈ (⟨nm, x, b64⟩ : SV).cells, u.oneCell' = true := SV.oneCells _
                                have hsl : sg.length ≤ 100 := by omega
                                have Hne := Lib.hid hne
                                have HNE := Lib.hid hNE
                                have Ho2E := Lib.hid ho2E
                                have Hone' := Lib.hid hone
                                clear hN hbE hNE ho1 ho2 ho2E hne hone Hos14
                                go_wp2_with (at_builtin; refine wpList_append_own_at _ rfl _ _ 74 rfl w.heap.size 134 i0 _ 3 40 Tryd.underlying74 hi hz0 hz1 hz2 rfl (by decide) _ _ _ rfl ho1E ⟨w14.heap.size, 0, none⟩ 1 1 (SV.cells ⟨nm, x, b64⟩) rfl rfl ?d1 ?d2 ?d3 ?d4 ?d5 ?_)
                                case d1 => first | exact hnews | exact fun _ _ h => h
                                case d2 => exact Hone'.out
                                case d3 => simp only [maxLen]; omega
                                case d4 => omega
                                case d5 => first | omega | exact Nat.le_trans hsz14 (by simp)
                                intro v' w16 hown' hgrow _ hloc
                                have kN : w16.heap[N]? = some (.cells #[.string T, v1, v2] 77 (0, 0)) := (hgrow.block N (Array.getElem?_eq_some_iff.1 HNE.out).1 (own_other ho1E HNE.out fun cur he => sig_ne_note (by injection he))).trans HNE.out
                                have p1 : w16.cell? ⟨N, 1, none⟩ = some v1 := cell_of_row _ _ 1 _ _ _ kN
                                have z1 : w16.frozen? ⟨N, 1, none⟩ = false := frozen_of_row _ _ 1 _ _ kN
                                have Hos16 := Lib.hid (OS.pushSg Hos15.out HNE.out ho1E Ho2E.out Hne.out hown' hgrow (hloc.imp id fun h => h.trans (by simp)))
                                obtain ⟨Av, cv, rfl, _, _, _⟩ := own_form hown'
                                clear kN hown' hgrow hloc ho1E hnews hi hz0 hz1 hz2 Hos15 q1
                                go_wp2_with (fail)
                                go_roundw
                                case rel =>
                                  have h := li_next (sg := sg ++ [⟨nm, x, b64⟩]) Htl.out (by rw [← HnR.out]; exact HA'.out) (by rw [List.map_append]; exact Hos16.out) Hrk2.out Hq.out (by rw [List.length_append]; simp; omega) (by rw [← HnR.out]; omega)
                                  rw [← HnR.out] at h
                                  exact ⟨nR, A', _, q + 1, rfl, by go_num, by omega, Lib.hid h⟩
                                case measure => show nR < 4 + n4 + 1 + nR; omega
                            · have Hh := Lib.hid hh
                              rw [hh] at hlk
                              have Hrk2 := Lib.hid ((openL_ok (step_sg_old Hlp3.out Hgk.out Hh.out)).symm.trans Hrk.out)
                              clear hh
                              go_wp2_with (fail)
                              go_roundw
                              case rel =>
                                have h := li_next Htl.out (by rw [← HnR.out]; exact HA'.out) Hos12.out Hrk2.out Hq.out (by omega) (by rw [← HnR.out]; omega)
                                rw [← HnR.out] at h
                                exact ⟨nR, A', _, q + 1, rfl, by go_num, by omega, Lib.hid h⟩
                              case measure => show nR < 4 + n4 + 1 + nR; omega
                · rw [decide_eq_false hd]
                  have Hrm := Lib.hid (Hrk.out.symm.trans (openL_mal (lineP_nodash hd)))
                  obtain ⟨ep, he⟩ := HE.out.below Hos4.out.low
                  have Hlow := Lib.hid Hos4.out.low
                  clear hd
                  go_upto_region 24 with (fail)
                  go_quiet (fail)
                  go_wp2_with (fail)
                  go_ret2
                  exact opost_mal Hrm.out ⟨Hlow.out.os, Hlow.out.tape, Hlow.out.output, Hlow.out.size, Hlow.out.block⟩ _ rfl
        · skip
          --DEV
          have hsp : splitOk s (k : Int) = false := by
            unfold splitOk
            have h := Hn.out
            rw [h, show k + 2 + (n + 1) - 1 = k + 2 + n by omega, decide_eq_false hlast, Bool.and_false]
          have Hrm := Lib.hid (Hr.out.trans (openAt_split (keys := keys) hsp))
          obtain ⟨ep, he⟩ := HE.out.below Hb2.out
          have e1 : ((bAt s (k + 2 + n) : Int) != 10) = true := by simp; omega
          clear hsp hlast
          go_upto_region 14 with (fail)
          go_quiet (fail)
          go_wp2_with (fail)
          go_ret2
          exact opost_mal Hrm.out ⟨Hb2.out.os, Hb2.out.tape, Hb2.out.output, Hb2.out.size, Hb2.out.block⟩ _ rfl
          --VED
      · skip
        --DEV
        have hs2 : s.size = k + 2 := by omega
        have hsp : splitOk s (k : Int) = false := by
          unfold splitOk
          rw [decide_eq_false (p := ((k : Int).toNat + 2 < s.size)) (by rw [Int.toNat_natCast]; omega), Bool.and_false]
          rfl
        have Hrm := Lib.hid (Hr.out.trans (openAt_split (keys := keys) hsp))
        obtain ⟨ep, he⟩ := HE.out.below Hb1.out
        rw [hs2]
        rw [hs2] at hsc hs
        clear hsp hs2 hmore hk1 hsl
        by_cases i1 : c = k + 2
        · subst i1
          go_upto_region 12 with (fail)
          go_quiet (fail)
          go_upto_region 14 with (fail)
          go_quiet (fail)
          go_wp2_with (fail)
          go_ret2
          exact opost_mal Hrm.out ⟨Hb1.out.os, Hb1.out.tape, Hb1.out.output, Hb1.out.size, Hb1.out.block⟩ _ rfl
        · go_upto_region 12 with (fail)
          go_quiet (fail)
          go_upto_region 14 with (fail)
          go_quiet (fail)
          go_wp2_with (fail)
          go_ret2
          exact opost_mal Hrm.out ⟨Hb1.out.os, Hb1.out.tape, Hb1.out.output, Hb1.out.size, Hb1.out.block⟩ _ rfl
        --VED

end Go.Proofs.YtnnbhklkakhkkaaDoor

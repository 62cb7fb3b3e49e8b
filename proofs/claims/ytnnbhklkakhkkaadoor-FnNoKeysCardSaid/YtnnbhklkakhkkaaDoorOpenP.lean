/-
  OPENING, the plain part: the lines of a message, what a line says, what comes of them. No walk.
-/
import Derived.Test.YtnnbhklkakhkkaaDoorStrSet
import Derived.Test.YtnnbhklkakhkkaaDoorCut
import Derived.Test.YtnnbhklkakhkkaaDoorLastIdx
import Derived.Test.YtnnbhklkakhkkaaDoorUtfGo
import Derived.Test.YtnnbhklkakhkkaaDoorLookup
import Derived.Test.YtnnbhklkakhkkaaDoorConvNote
import Derived.Test.YtnnbhklkakhkkaaDoorSpecEnc
import Derived.Maps.AppendAt
namespace Go.Proofs.YtnnbhklkakhkkaaDoor
open Go.RowKit Go.Lib

/-- the lines of a text that ends with a new line; what stands behind the last new line is left out -/
def linesL : List UInt8 → List UInt8 → List (List UInt8)
  | [], _ => []
  | c :: t, acc => if c = 10 then acc :: linesL t [] else linesL t (acc ++ [c])

theorem linesL_cut : ∀ (l acc : List UInt8) (i : Nat), (∀ j, j < i → l.getD j 0 ≠ 10) → i < l.length → l.getD i 0 = 10 → linesL l acc = (acc ++ l.take i) :: linesL (l.drop (i + 1)) []
  | [], _, i, _, h, _ => by simp at h
  | c :: t, acc, 0, _, _, h0 => by
    simp at h0
    simp [linesL, h0]
  | c :: t, acc, i + 1, h, hl, h0 => by
    have hc : c ≠ 10 := by have := h 0 (by omega); simpa using this
    have ih := linesL_cut t (acc ++ [c]) i (fun j hj => by have := h (j + 1) (by omega); simpa using this) (by simpa using hl) (by simpa using h0)
    simp only [linesL, hc, if_false, ih, List.take_succ_cons, List.drop_succ_cons, List.append_assoc, List.singleton_append]

/-- a signature's line behind the dash -/
def lineT (x : SV) : ByteArray := str (x.name.data.toList ++ [32] ++ x.b64.data.toList)

/-- what a line says: the signature, its bytes behind the hash -/
def lineP (l : List UInt8) : Option (SV × List UInt8) :=
  if l.take 4 = dash then
    match decL (cutB 32 (str (l.drop 4))).2.1.data.toList with
    | none => none
    | some y => if nameOk (cutB 32 (str (l.drop 4))).1 && decide ((cutB 32 (str (l.drop 4))).2.1 ≠ ⟨#[]⟩) && decide (5 ≤ y.length) then some (⟨(cutB 32 (str (l.drop 4))).1, be4 y, (cutB 32 (str (l.drop 4))).2.1⟩, y.drop 4) else none
  else none

/-- does a key accept the signature of a text? -/
def accK (k : KV) (text sig : ByteArray) : Bool := (k.texts.zip k.sigs).any fun p => decide (p.1 = text ∧ p.2 = sig)
def keyOf (x : SV) : ByteArray × Int := (x.name, x.hash)

inductive OEnd
  | mal
  | inv (a : ByteArray) (x : Int)

/-- one line more -/
def stepO (keys : List KV) (text : ByteArray) (st : List SV × List SV) (l : List UInt8) : Except OEnd (List SV × List SV) :=
  match lineP l with
  | none => .error .mal
  | some (x, sig) =>
    match grp keys x.name x.hash with
    | [] => if inTexts (st.2.map lineT) (lineT x) then .ok st else .ok (st.1, st.2 ++ [x])
    | k :: _ => if hasKey (st.1.map keyOf) x.name x.hash then .ok st else if accK k text (str sig) then .ok (st.1 ++ [x], st.2) else .error (.inv x.name x.hash)

/-- all lines -/
def openL (keys : List KV) (text : ByteArray) : List (List UInt8) → List SV × List SV → Except OEnd (List SV × List SV)
  | [], st => .ok st
  | l :: t, st => match stepO keys text st l with
    | .error e => .error e
    | .ok st' => openL keys text t st'

def textAt (s : ByteArray) (j : Int) : ByteArray := s.extract 0 (j.toNat + 1)
def linesAt (s : ByteArray) (j : Int) : List (List UInt8) := linesL (s.data.toList.drop (j.toNat + 2)) []
/-- is the message split as one must be? -/
def splitOk (s : ByteArray) (j : Int) : Bool := decide (0 ≤ j) && decide (j.toNat + 2 < s.size) && decide (bAt s (s.size - 1) = 10)

/-- what comes of opening a message, whose last empty line stands at j -/
def openAt (keys : List KV) (s : ByteArray) (j : Int) : Except OEnd (List SV × List SV) :=
  if plainB s && splitOk s j then openL keys (textAt s j) (linesAt s j) ([], []) else .error .mal

theorem isLast_unique {s : ByteArray} {i j : Int} (hi : IsLast s i) (hj : IsLast s j) : i = j := by
  rcases hi with ⟨rfl, h1⟩ | ⟨k, rfl, h1, h2, h3⟩ <;> rcases hj with ⟨rfl, g1⟩ | ⟨m, rfl, g1, g2, g3⟩
  · rfl
  · exact absurd g2 (h1 m g1)
  · exact absurd h2 (g1 k h1)
  · rcases Nat.lt_trichotomy k m with h | h | h
    · exact absurd g2 (h3 m h g1)
    · rw [h]
    · exact absurd h2 (g3 k h h1)

theorem isLast_ex (s : ByteArray) : ∃ j, IsLast s j := by
  have key : ∀ n, n ≤ s.size → (∀ m, n ≤ m → m + 1 < s.size → ¬ NN s m) → ∃ j, IsLast s j := by
    intro n
    induction n with
    | zero => intro _ h; exact ⟨-1, .inl ⟨rfl, fun m hm => h m (Nat.zero_le _) hm⟩⟩
    | succ n ih =>
      intro hn h
      by_cases hc : n + 1 < s.size ∧ NN s n
      · exact ⟨(n : Int), .inr ⟨n, rfl, hc.1, hc.2, fun m hm hm2 => h m (by omega) hm2⟩⟩
      · refine ih (by omega) fun m hm hm2 => ?_
        by_cases he : m = n
        · subst he
          exact fun hN => hc ⟨hm2, hN⟩
        · exact h m (by omega) hm2
  exact key s.size (Nat.le_refl _) (fun m hm hm2 => by omega)

/-! ## what Open has built up -/
/-- the note at block N -/
def NoteAt (base : Nat) (w : World) (N : Nat) (text : ByteArray) (sg un : List SV) : Prop :=
  ∃ v1 v2, w.heap[N]? = some (.cells #[.string text, v1, v2] 77 (0, 0)) ∧ w.ownsRow base 134 3 v1 sg.length (encAll SV.cells sg) ∧
    w.ownsRow base 134 3 v2 un.length (encAll SV.cells un) ∧ (∀ k, v1.ownBlock = some k → v2.ownBlock ≠ some k)

structure OS (w : World) (N M U : Nat) (text : ByteArray) (sg un : List SV) (ks : List (ByteArray × Int)) (us : List ByteArray) (wr : World) : Prop where
  low : Below w.heap.size w wr
  geN : w.heap.size ≤ N
  geM : w.heap.size ≤ M
  geU : w.heap.size ≤ U
  neMU : M ≠ U
  note : NoteAt w.heap.size wr N text sg un
  hm : HaveAt wr M ks
  hu : TextsAt wr U us

theorem NoteAt.keep {base : Nat} {w w' : World} {N : Nat} {text : ByteArray} {sg un : List SV} (h : NoteAt base w N text sg un)
    (hk : ∀ (g : Nat) (cs : Array Value) (t : TypeId), w.heap[g]? = some (Obj.cells cs t (0, 0)) → w'.heap[g]? = w.heap[g]?) : NoteAt base w' N text sg un := by
  obtain ⟨v1, v2, h1, h2, h3, h4⟩ := h
  have hown : ∀ {v : Value} {l : List SV}, w.ownsRow base 134 3 v l.length (encAll SV.cells l) → w'.ownsRow base 134 3 v l.length (encAll SV.cells l) := by
    intro v l ho
    refine ⟨ho.1, ?_⟩
    rcases ho.2 with h | ⟨g, cap, cur, r1, r2, r3, r4⟩
    · exact .inl h
    · exact .inr ⟨g, cap, cur, r1, r2, (hk g _ _ r3).trans r3, r4⟩
  exact ⟨v1, v2, (hk N _ _ h1).trans h1, hown h2, hown h3, h4⟩

section
variable {w wr w' : World} {N M U : Nat} {text : ByteArray} {sg un : List SV} {ks : List (ByteArray × Int)} {us : List ByteArray}

theorem OS.far (h : OS w N M U text sg un ks us wr) (hb : Below wr.heap.size wr w') : OS w N M U text sg un ks us w' :=
  { low := h.low.trans (hb.mono h.low.size), geN := h.geN, geM := h.geM, geU := h.geU, neMU := h.neMU,
    note := h.note.keep fun g _ _ hg => hb.block g (Array.getElem?_eq_some_iff.1 hg).1,
    hm := h.hm.kept (hb.block M h.hm.lt), hu := h.hu.kept (hb.block U h.hu.lt) }

theorem below_putObj {B g : Nat} {a : World} {o : Obj} (h : Below B a wr) (hg : B ≤ g) : Below B a (putObj wr g o) :=
  ⟨h.os, h.tape, h.output, by rw [putObj_size]; exact h.size, fun k hk => (putObj_far (by omega)).trans (h.block k hk)⟩

theorem OS.putU (h : OS w N M U text sg un ks us wr) {o : Obj} {us' : List ByteArray} (hu : TextsAt (putObj wr U o) U us') : OS w N M U text sg un ks us' (putObj wr U o) := by
  obtain ⟨es, c, hmap⟩ := h.hu.noCells
  exact { low := below_putObj h.low h.geU, geN := h.geN, geM := h.geM, geU := h.geU, neMU := h.neMU,
          note := h.note.keep fun g _ _ hg => putObj_far (by rintro rfl; rw [hmap] at hg; cases hg),
          hm := h.hm.kept (putObj_far h.neMU), hu := hu }
theorem OS.putM (h : OS w N M U text sg un ks us wr) {o : Obj} {ks' : List (ByteArray × Int)} (hm : HaveAt (putObj wr M o) M ks') : OS w N M U text sg un ks' us (putObj wr M o) := by
  obtain ⟨es, c, hmap⟩ := h.hm.noCells
  exact { low := below_putObj h.low h.geM, geN := h.geN, geM := h.geM, geU := h.geU, neMU := h.neMU,
          note := h.note.keep fun g _ _ hg => putObj_far (by rintro rfl; rw [hmap] at hg; cases hg),
          hm := hm, hu := h.hu.kept (putObj_far h.neMU.symm) }

/-- no block of the note's own rows is a map or the note itself -/
theorem own_other {base size n : Nat} {e : TypeId} {v : Value} {xs : List Value} {g : Nat} {o : Obj} (h : w.ownsRow base e size v n xs) (hg : w.heap[g]? = some o) (hne : ∀ cur, o ≠ .cells cur e (0, 0)) : some g ≠ v.ownBlock := by
  intro he
  rcases h.2 with ⟨rfl, _⟩ | ⟨g', cap, cur, rfl, _, hh, _⟩
  · cases he
  · simp [Value.ownBlock] at he
    subst he
    rw [hg] at hh
    injection hh with hh
    exact hne _ hh

theorem sig_ne_note : 77 ≠ 134 := by decide

/-- a signature of an unknown key is put into the note -/
theorem OS.pushUn {W w1 : World} {v1 v2 v' : Value} {x : SV} (h : OS w N M U text sg un ks us W) (hN : W.heap[N]? = some (.cells #[.string text, v1, v2] 77 (0, 0)))
    (ho1 : W.ownsRow w.heap.size 134 3 v1 sg.length (encAll SV.cells sg)) (ho2 : W.ownsRow w.heap.size 134 3 v2 un.length (encAll SV.cells un)) (hne : ∀ k, v1.ownBlock = some k → v2.ownBlock ≠ some k)
    (hown : w1.ownsRow w.heap.size 134 3 v' (un.length + 1) (encAll SV.cells un ++ x.cells)) (hg : W.grownBy w1 v2.ownBlock) (hloc : v'.ownBlock = v2.ownBlock ∨ v'.ownBlock = some W.heap.size) :
    OS w N M U text sg (un ++ [x]) ks us (w1.setCell ⟨N, 2, none⟩ v') := by
  have hNlt := (Array.getElem?_eq_some_iff.1 hN).1
  have kN : w1.heap[N]? = W.heap[N]? := hg.block N hNlt (own_other ho2 hN fun cur he => sig_ne_note (by injection he))
  have k1 : w1.ownsRow w.heap.size 134 3 v1 sg.length (encAll SV.cells sg) := ho1.kept hg (by
    cases he : v1.ownBlock with
    | none => exact .inl rfl
    | some k => exact .inr (fun e => hne k he e.symm))
  have far : ∀ k, k ≠ N → (w1.setCell ⟨N, 2, none⟩ v').heap[k]? = w1.heap[k]? := fun k hk => heap_setCell_other w1 _ k v' hk
  have kown : ∀ {v : Value} {n : Nat} {xs : List Value}, w1.ownsRow w.heap.size 134 3 v n xs → (w1.setCell ⟨N, 2, none⟩ v').ownsRow w.heap.size 134 3 v n xs := by
    intro v n xs ho
    refine ⟨ho.1, ?_⟩
    rcases ho.2 with h | ⟨g, cap, cur, r1, r2, r3, r4⟩
    · exact .inl h
    · exact .inr ⟨g, cap, cur, r1, r2, (far g (by
        rintro rfl
        rw [kN, hN] at r3
        injection r3 with r3
        injection r3 with _ r3
        exact sig_ne_note r3)).trans r3, r4⟩
  obtain ⟨em, cm, hmap⟩ := h.hm.noCells
  obtain ⟨eu, cu, humap⟩ := h.hu.noCells
  have hsize : (w1.setCell ⟨N, 2, none⟩ v').heap.size = w1.heap.size := by simp
  refine { low := ⟨hg.os.trans h.low.os, hg.tape.trans h.low.tape, hg.output.trans h.low.output, by rw [hsize]; exact Nat.le_trans h.low.size hg.size, fun k hk => ?_⟩,
           geN := h.geN, geM := h.geM, geU := h.geU, neMU := h.neMU, note := ⟨v1, v', ?_, kown k1, ?_, fun k hk => ?_⟩, hm := h.hm.kept ?_, hu := h.hu.kept ?_ }
  · rw [far k (by have := h.geN; omega), hg.block k (Nat.lt_of_lt_of_le hk h.low.size) (fun e => by have := (ho2.lt k e.symm).1; omega)]
    exact h.low.block k hk
  · have := heap_setCell_same w1 N 2 _ _ v' (kN.trans hN)
    simpa using this
  · have := kown hown
    rw [encAll_append, encAll_one, List.length_append]
    exact this
  · rcases hloc with hl | hl
    · rw [hl]; exact hne k hk
    · rw [hl]
      have := (ho1.lt k hk).2
      intro e
      injection e with e
      omega
  · rw [far M (by rintro rfl; rw [hN] at hmap; cases hmap)]
    exact hg.block M h.hm.lt (own_other ho2 hmap fun cur he => by cases he)
  · rw [far U (by rintro rfl; rw [hN] at humap; cases humap)]
    exact hg.block U h.hu.lt (own_other ho2 humap fun cur he => by cases he)

/-- a verified signature is put into the note -/
theorem OS.pushSg {W w1 : World} {v1 v2 v' : Value} {x : SV} (h : OS w N M U text sg un ks us W) (hN : W.heap[N]? = some (.cells #[.string text, v1, v2] 77 (0, 0)))
    (ho1 : W.ownsRow w.heap.size 134 3 v1 sg.length (encAll SV.cells sg)) (ho2 : W.ownsRow w.heap.size 134 3 v2 un.length (encAll SV.cells un)) (hne : ∀ k, v1.ownBlock = some k → v2.ownBlock ≠ some k)
    (hown : w1.ownsRow w.heap.size 134 3 v' (sg.length + 1) (encAll SV.cells sg ++ x.cells)) (hg : W.grownBy w1 v1.ownBlock) (hloc : v'.ownBlock = v1.ownBlock ∨ v'.ownBlock = some W.heap.size) :
    OS w N M U text (sg ++ [x]) un ks us (w1.setCell ⟨N, 1, none⟩ v') := by
  have hNlt := (Array.getElem?_eq_some_iff.1 hN).1
  have kN : w1.heap[N]? = W.heap[N]? := hg.block N hNlt (own_other ho1 hN fun cur he => sig_ne_note (by injection he))
  have k1 : w1.ownsRow w.heap.size 134 3 v2 un.length (encAll SV.cells un) := ho2.kept hg (by
    cases he : v2.ownBlock with
    | none => exact .inl rfl
    | some k => exact .inr (fun e => hne k e.symm he))
  have far : ∀ k, k ≠ N → (w1.setCell ⟨N, 1, none⟩ v').heap[k]? = w1.heap[k]? := fun k hk => heap_setCell_other w1 _ k v' hk
  have kown : ∀ {v : Value} {n : Nat} {xs : List Value}, w1.ownsRow w.heap.size 134 3 v n xs → (w1.setCell ⟨N, 1, none⟩ v').ownsRow w.heap.size 134 3 v n xs := by
    intro v n xs ho
    refine ⟨ho.1, ?_⟩
    rcases ho.2 with h | ⟨g, cap, cur, r1, r2, r3, r4⟩
    · exact .inl h
    · exact .inr ⟨g, cap, cur, r1, r2, (far g (by
        rintro rfl
        rw [kN, hN] at r3
        injection r3 with r3
        injection r3 with _ r3
        exact sig_ne_note r3)).trans r3, r4⟩
  obtain ⟨em, cm, hmap⟩ := h.hm.noCells
  obtain ⟨eu, cu, humap⟩ := h.hu.noCells
  have hsize : (w1.setCell ⟨N, 1, none⟩ v').heap.size = w1.heap.size := by simp
  refine { low := ⟨hg.os.trans h.low.os, hg.tape.trans h.low.tape, hg.output.trans h.low.output, by rw [hsize]; exact Nat.le_trans h.low.size hg.size, fun k hk => ?_⟩,
           geN := h.geN, geM := h.geM, geU := h.geU, neMU := h.neMU, note := ⟨v', v2, ?_, ?_, kown k1, fun k hk hk2 => ?_⟩, hm := h.hm.kept ?_, hu := h.hu.kept ?_ }
  · rw [far k (by have := h.geN; omega), hg.block k (Nat.lt_of_lt_of_le hk h.low.size) (fun e => by have := (ho1.lt k e.symm).1; omega)]
    exact h.low.block k hk
  · have := heap_setCell_same w1 N 1 _ _ v' (kN.trans hN)
    simpa using this
  · have := kown hown
    rw [encAll_append, encAll_one, List.length_append]
    exact this
  · rcases hloc with hl | hl
    · rw [hl] at hk; exact hne k hk hk2
    · rw [hl] at hk
      have := (ho2.lt k hk2).2
      injection hk with e
      omega
  · rw [far M (by rintro rfl; rw [hN] at hmap; cases hmap)]
    exact hg.block M h.hm.lt (own_other ho1 hmap fun cur he => by cases he)
  · rw [far U (by rintro rfl; rw [hN] at humap; cases humap)]
    exact hg.block U h.hu.lt (own_other ho1 humap fun cur he => by cases he)
end

end Go.Proofs.YtnnbhklkakhkkaaDoor

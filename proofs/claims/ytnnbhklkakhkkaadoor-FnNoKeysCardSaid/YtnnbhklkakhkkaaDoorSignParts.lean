/-
  SIGNING, in parts: what the code's own Sign answers, as a plain function; one line of a signature; the two buffers.
-/
import Derived.Test.YtnnbhklkakhkkaaDoorMakers
import Derived.Test.YtnnbhklkakhkkaaDoorHave
import Derived.Test.YtnnbhklkakhkkaaDoorBufW
import Derived.Test.YtnnbhklkakhkkaaDoorShelfC
import Derived.Test.YtnnbhklkakhkkaaDoorEncodeStr
import Derived.Test.YtnnbhklkakhkkaaDoorDecodeStr
import Derived.Test.YtnnbhklkakhkkaaDoorValidName
import Derived.Test.YtnnbhklkakhkkaaDoorApp4
import Derived.BigQuiet
import Derived.Deep.QuietTactic
namespace Go.Proofs.YtnnbhklkakhkkaaDoor
open Go.RowKit Go.Lib

/-- 'em dash, blank' -/
def dash : List UInt8 := [226, 128, 148, 32]
/-- a line of a signature -/
def lineL (name b64 : List UInt8) : List UInt8 := dash ++ name ++ [32] ++ b64 ++ [10]
/-- the base64 of a new signature -/
def newB64 (m : MV) : List UInt8 := encL (hash4 m.hash.toNat ++ m.sig.data.toList)
/-- the lines of the new signatures -/
def newLines (l : List MV) : List UInt8 := l.flatMap fun m => lineL m.name.data.toList (newB64 m)
def endsNl (s : ByteArray) : Bool := Lib.hasSuffix s.data.toList [10]
/-- may the key sign? -/
def signs (m : MV) : Bool := nameOk m.name && !m.fails
def keysOf (l : List MV) : List (ByteArray × Int) := l.map fun m => (m.name, m.hash)

theorem hasSuf_any (s : ByteArray) (w : World) (hs : s.size ≤ 9223372036854775807) :
    Calls Tryd.prog 51 #[.string s, .string ⟨#[10]⟩] w fun e w' => e = .returned (.bool (endsNl s)) ∧ w' = w :=
  Any.strings_HasSuffix Tryd.lays100 s ⟨#[10]⟩ w hs

/-- WriteString into a buffer of the call's own: what lies below it, and what is no row of bytes, stays -/
theorem writeK (b : Nat) (l : List UInt8) (s : ByteArray) (w : World) (h : IsBuffer 115 5 b b (byteCells l) w) (hlim : l.length + s.size ≤ 140737488355328) :
    Calls Tryd.prog 52 #[.pointer (some ⟨b, 0, none⟩), .string s] w fun e w' =>
      e = .returned (.tuple #[.int .i64 s.size, .nilIface]) ∧ IsBuffer 115 5 b b (byteCells (l ++ s.data.toList)) w' ∧ Below b w w' ∧ OthersKept 5 (some b) w w' := by
  refine (Any.Buffer_WriteString_k Tryd.laysM178 b b (byteCells l) s w h (Nat.le_of_lt h.lt) (byteCells_one l) (by rw [byteCells_length]; exact hlim)).mono ?_
  rintro e w' ⟨rfl, h1, h2, h3⟩
  exact ⟨rfl, by rw [show byteCells (l ++ s.data.toList) = byteCells l ++ byteCells s.data.toList by unfold byteCells; rw [List.map_append]]; exact h1, h2, h3⟩

theorem IsBuffer.far {T e : TypeId} {B b : Nat} {bs : List Value} {w w' : World} (h : IsBuffer T e B b bs w) (hb : Below w.heap.size w w') : IsBuffer T e B b bs w' := by
  obtain ⟨hB, v, lr, hbk, hown, hne⟩ := h
  have lt : ∀ {k : Nat} {o : Obj}, w.heap[k]? = some o → w'.heap[k]? = some o := fun {k o} ho => (hb.block k (Array.getElem?_eq_some_iff.1 ho).1).trans ho
  refine ⟨hB, v, lr, lt hbk, ⟨hown.1, ?_⟩, hne⟩
  rcases hown.2 with h' | ⟨g, cap, cur, hv, hBg, hg, hr⟩
  · exact .inl h'
  · exact .inr ⟨g, cap, cur, hv, hBg, lt hg, hr⟩

/-- where the loop over the new keys stands: the lines of the first ones are written, and their keys are noted -/
structure MS (W1 w : World) (bs : Nat) (ls : List UInt8) (ks : List (ByteArray × Int)) : Prop where
  buf : IsBuffer 115 5 bs bs (byteCells ls) w
  hav : HaveAt w (bs + 1) ks
  low : Below bs W1 w

section
variable {W1 w w' : World} {bs : Nat} {ls : List UInt8} {ks : List (ByteArray × Int)}
theorem MS.lt (h : MS W1 w bs ls ks) : bs + 1 < w.heap.size := h.hav.lt
theorem MS.far (h : MS W1 w bs ls ks) (hb : Below w.heap.size w w') : MS W1 w' bs ls ks :=
  ⟨IsBuffer.far h.buf hb, h.hav.kept (hb.block _ h.lt), h.low.trans (hb.mono (by have := h.lt; omega))⟩
theorem MS.put (h : MS W1 w bs ls ks) {o : Obj} {ks' : List (ByteArray × Int)} (hh : HaveAt (putObj w (bs + 1) o) (bs + 1) ks') : MS W1 (putObj w (bs + 1) o) bs ls ks' := by
  have hm := h.hav.noCells
  obtain ⟨es0, c0, hm⟩ := hm
  obtain ⟨hB, v, lr, hbk, hown, hne⟩ := h.buf
  have far : ∀ {k : Nat} {cs : Array Value} {t : TypeId} {fz : Nat × Nat}, w.heap[k]? = some (.cells cs t fz) → (putObj w (bs + 1) o).heap[k]? = some (.cells cs t fz) := fun {k cs t fz} hk => by
    rw [putObj_far (fun e => by rw [e, hm] at hk; cases hk), hk]
  refine ⟨⟨hB, v, lr, far hbk, ⟨hown.1, ?_⟩, hne⟩, hh, ⟨h.low.os, h.low.tape, h.low.output, by rw [putObj_size]; exact h.low.size, fun k hk => by rw [putObj_far (by omega)]; exact h.low.block k hk⟩⟩
  rcases hown.2 with h' | ⟨g, cap, cur, hv, hBg, hg, hr⟩
  · exact .inl h'
  · exact .inr ⟨g, cap, cur, hv, hBg, far hg, hr⟩
/-- one string more in the buffer -/
theorem MS.write (h : MS W1 w bs ls ks) (s : ByteArray) (hlim : ls.length + s.size ≤ 140737488355328) :
    Calls Tryd.prog 52 #[.pointer (some ⟨bs, 0, none⟩), .string s] w fun e w' => e = .returned (.tuple #[.int .i64 s.size, .nilIface]) ∧ MS W1 w' bs (ls ++ s.data.toList) ks := by
  refine (writeK bs ls s w h.buf hlim).mono ?_
  rintro e w' ⟨rfl, h1, h2, h3⟩
  obtain ⟨es0, c0, hm⟩ := h.hav.noCells
  exact ⟨rfl, h1, h.hav.kept ((h3 _ _ hm (by simp) (by intro cs fz e; cases e)).trans hm.symm), h.low.trans h2⟩
end

theorem BufRow.low {w w' : World} {b g B : Nat} {l : List UInt8} (h : BufRow w b g l) (hb : b < B) (hg : g < B) (hB : Below B w w') : BufRow w' b g l := by
  obtain ⟨hgb, cap, lr, cur, h1, h2, hr⟩ := h
  exact ⟨hgb, cap, lr, cur, (hB.block b hb).trans h1, (hB.block g hg).trans h2, hr⟩
theorem BufRow.lt {w : World} {b g : Nat} {l : List UInt8} (h : BufRow w b g l) : b < w.heap.size ∧ g < w.heap.size := by
  obtain ⟨hgb, cap, lr, cur, h1, h2, hr⟩ := h
  exact ⟨(Array.getElem?_eq_some_iff.1 h1).1, (Array.getElem?_eq_some_iff.1 h2).1⟩
/-- a buffer of the call's own that holds something has a row -/
theorem buf_row {b : Nat} {l : List UInt8} {w : World} (h : IsBuffer 115 5 b b (byteCells l) w) (hl : l ≠ []) : ∃ g, BufRow w b g l ∧ b < g := by
  obtain ⟨hB, lr, hc⟩ := h.cases
  rcases hc with ⟨hn, _⟩ | ⟨g, cap, cur, hbk, hBg, hg, hnc, hcm, hcs, htk, hgb⟩
  · exact absurd (List.eq_nil_of_length_eq_zero (by rw [← byteCells_length l, hn]; rfl)) hl
  · rw [byteCells_length] at hbk hnc htk
    exact ⟨g, ⟨hgb, cap, lr, cur, hbk, hg, hnc, hcm, hcs, htk⟩, by omega⟩
theorem endsNl_ne {s : ByteArray} (h : endsNl s = true) : s.data.toList ≠ [] := by
  intro h0
  unfold endsNl Lib.hasSuffix at h
  rw [h0] at h
  exact absurd h (by decide)

set_option maxHeartbeats 1000000 in
theorem bytes_row (b g : Nat) (l : List UInt8) (w : World) (h : BufRow w b g l) :
    Calls Tryd.prog 53 #[.pointer (some ⟨b, 0, none⟩)] w fun e w' => ∃ cap, e = .returned (.slice (some ⟨g, 0, none⟩) l.length cap) ∧ l.length ≤ cap ∧ ∃ n, w' = w.drewN n := by
  obtain ⟨hgb, cap, lr, cur, hbk, hg, hnc, hcm, hcs, htk⟩ := h
  have c0 : w.cell? ⟨b, 0, none⟩ = some (.slice (some ⟨g, 0, none⟩) l.length cap) := by rw [Lib.cell_of_heap hbk]; rfl
  have c1 : w.cell? ⟨b, 1, none⟩ = some (.int .i64 0) := by rw [Lib.cell_of_heap hbk]; rfl
  have hcm' := hcm
  unfold maxLen at hcm'
  clear hbk hg hcs htk
  go_enter Tryd.func53, Tryd.ntmps53
  go_wp2_with (fail)
  go_quiet (fail)
  go_wp2_with (fail)
  go_ret
  exact ⟨cap, rfl, hnc, _, rfl⟩

theorem bePut_int (d : Nat) (x : Int) (h0 : 0 ≤ x) (h1 : x < 4294967296) (a0 a1 a2 a3 : Value) (t : TypeId) (w : World) (hR : w.heap[d]? = some (.cells #[a0, a1, a2, a3] t (0, 0))) :
    Calls Tryd.prog 54 #[.slice (some ⟨d, 0, none⟩) 4 4, .int .u32 x] w fun e w' => e = .returned (.tuple #[]) ∧ Below d w w' ∧ w'.heap.size = w.heap.size ∧ w'.heap[d]? = some (.cells (byteCells (hash4 x.toNat)).toArray t (0, 0)) := by
  obtain ⟨n, rfl⟩ := Int.eq_ofNat_of_zero_le h0
  exact bePut_any d n a0 a1 a2 a3 t w hR (by omega)
theorem sl_join {w : World} {B n : Nat} {A : Option Addr} {a b : List UInt8} (h : Sl w B 1 A n (byteCells a ++ byteCells b)) : Sl w B 1 A n (byteCells (a ++ b)) := by
  rw [show byteCells (a ++ b) = byteCells a ++ byteCells b by unfold byteCells; rw [List.map_append]]; exact h
theorem newLines_sig {l : List MV} {m : MV} (h : m ∈ l) : m.sig.size + 4 ≤ (newLines l).length := by
  induction l with
  | nil => cases h
  | cons x t ih =>
    unfold newLines
    rw [List.flatMap_cons, List.length_append]
    rcases List.mem_cons.1 h with rfl | h
    · unfold lineL newB64
      simp only [List.length_append, encL_length]
      have : m.sig.data.toList.length = m.sig.size := by simp
      have h4 : (hash4 m.hash.toNat).length = 4 := rfl
      omega
    · have := ih h
      unfold newLines at this
      omega
theorem newLines_next {l : List MV} {i : Nat} {m : MV} (h : l[i]? = some m) : newLines (l.take (i + 1)) = newLines (l.take i) ++ lineL m.name.data.toList (newB64 m) := by
  unfold newLines
  rw [List.take_add_one, h, List.flatMap_append]
  simp
theorem keysOf_next {l : List MV} {i : Nat} {m : MV} (h : l[i]? = some m) : keysOf (l.take (i + 1)) = keysOf (l.take i) ++ [(m.name, m.hash)] := by
  unfold keysOf
  rw [List.take_add_one, h, List.map_append]
  rfl
theorem newLines_le {l : List MV} (i : Nat) : (newLines (l.take i)).length ≤ (newLines l).length := by
  conv => rhs; rw [← List.take_append_drop i l]
  unfold newLines
  rw [List.flatMap_append, List.length_append]
  omega

end Go.Proofs.YtnnbhklkakhkkaaDoor

/-
  DERIVED. GIVEN WITH THE SEED: THE PROGRAM's TIES (one call each: nine closed facts by the kernel) AND EACH ROW's TIE, after the 31st guide's Derived/Test/Toyas{Tie, Card}.lean. No idea stands in it: it is a product of the set-up. Laid BY PROGRAM, IN A SANDBOX (cutbox-door.mjs). By AI agents, Wed Nov 11 2026. No macro, syntax, notation, axiom, sorry.
-/
import Derived.Test.YtnnbhklkakhkkaaDoorRows
import Derived.LaidByTextLater
import Derived.SevenTiedAt
import Derived.LaidSub
import Derived.LaidOnce
namespace Go.Proofs.YtnnbhklkakhkkaaDoor
open Go
set_option maxRecDepth 100000
theorem seatTie1 : Tryd.prog.laidByTextLater [("unicode/utf8.acceptRanges", Rows.laid_unicode_utf8_acceptRanges), ("unicode.White_Space", Rows.laid_unicode_White_Space), ("bytes.ErrTooLarge", Rows.laid_bytes_ErrTooLarge), ("loop.example/pub-notesandsignatures/pub/sumdbnote.errMalformedNote", Rows.laid_loop_example_pub_notesandsignatures_pub_sumdbnote_errMalformedNote), ("loop.example/pub-notesandsignatures/pub/sumdbnote.errInvalidSigner", Rows.laid_loop_example_pub_notesandsignatures_pub_sumdbnote_errInvalidSigner), ("loop.example/pub-notesandsignatures/pub/sumdbnote.errMismatchedVerifier", Rows.laid_loop_example_pub_notesandsignatures_pub_sumdbnote_errMismatchedVerifier)] [.data, .listed, .sentinel, .sentinel, .sentinel, .sentinel] true :=
  Program.laidByTextLater_by_one 114 8 33 (by kernel_rfl) (by kernel_rfl) (by kernel_rfl) (by kernel_rfl) (by kernel_rfl) (by kernel_rfl) (fun _ _ => by kernel_rfl)
theorem pin_laid_unicode_utf8_first : Tryd.pinned.checked.prog.pinnedFits "unicode/utf8.first" = true := by kernel_rfl
theorem noOwnUnsafe : Tryd.pinned.checked.prog.headLifts.contains "ownunsafe" = false := by kernel_rfl
theorem fits1 : Tryd.pinned.checked.prog.listedFits [("unicode/utf8.acceptRanges", Rows.laid_unicode_utf8_acceptRanges), ("unicode.White_Space", Rows.laid_unicode_White_Space), ("unicode/utf8.first", Rows.laid_unicode_utf8_first)] = true := by
  unfold Program.listedFits
  rw [noOwnUnsafe]
  kernel_rfl
theorem tie : Tryd.prog.laidByTextLater [("unicode/utf8.acceptRanges", Rows.laid_unicode_utf8_acceptRanges), ("unicode.White_Space", Rows.laid_unicode_White_Space)] [.data, .listed] true :=
  Program.laidByTextLater.sub seatTie1 ["unicode/utf8.acceptRanges", "unicode.White_Space"] (by kernel_rfl) (by kernel_rfl)
theorem fnName_row_tie : Rows.fnNameRow.laidByTextAt .later Tryd.pinned [.data, .listed, .pinned] true :=
  OpenClaim.laidByTextAt_pinned rfl rfl tie rfl rfl rfl rfl (fun y hy _e => by
    simp only [Rows.fnNameRow, List.zip_cons_cons, List.zip_nil_right, List.mem_cons, List.mem_nil_iff, or_false] at hy
    rcases hy with rfl | rfl | rfl
    · cases _e
    · cases _e
    · exact ⟨pin_laid_unicode_utf8_first, by kernel_rfl⟩) fits1
theorem fits2 : Tryd.pinned.checked.prog.listedFits [("unicode/utf8.acceptRanges", Rows.laid_unicode_utf8_acceptRanges), ("unicode.White_Space", Rows.laid_unicode_White_Space), ("bytes.ErrTooLarge", Rows.laid_bytes_ErrTooLarge), ("loop.example/pub-notesandsignatures/pub/sumdbnote.errMalformedNote", Rows.laid_loop_example_pub_notesandsignatures_pub_sumdbnote_errMalformedNote), ("loop.example/pub-notesandsignatures/pub/sumdbnote.errInvalidSigner", Rows.laid_loop_example_pub_notesandsignatures_pub_sumdbnote_errInvalidSigner), ("unicode/utf8.first", Rows.laid_unicode_utf8_first)] = true := by
  unfold Program.listedFits
  rw [noOwnUnsafe]
  kernel_rfl
theorem tie2 : Tryd.prog.laidByTextLater [("unicode/utf8.acceptRanges", Rows.laid_unicode_utf8_acceptRanges), ("unicode.White_Space", Rows.laid_unicode_White_Space), ("bytes.ErrTooLarge", Rows.laid_bytes_ErrTooLarge), ("loop.example/pub-notesandsignatures/pub/sumdbnote.errMalformedNote", Rows.laid_loop_example_pub_notesandsignatures_pub_sumdbnote_errMalformedNote), ("loop.example/pub-notesandsignatures/pub/sumdbnote.errInvalidSigner", Rows.laid_loop_example_pub_notesandsignatures_pub_sumdbnote_errInvalidSigner)] [.data, .listed, .sentinel, .sentinel, .sentinel] true :=
  Program.laidByTextLater.sub seatTie1 ["unicode/utf8.acceptRanges", "unicode.White_Space", "bytes.ErrTooLarge", "loop.example/pub-notesandsignatures/pub/sumdbnote.errMalformedNote", "loop.example/pub-notesandsignatures/pub/sumdbnote.errInvalidSigner"] (by kernel_rfl) (by kernel_rfl)
theorem fnRefuse_row_tie : Rows.fnRefuseRow.laidByTextAt .later Tryd.pinned [.data, .listed, .sentinel, .sentinel, .sentinel, .pinned] true :=
  OpenClaim.laidByTextAt_pinned rfl rfl tie2 rfl rfl rfl rfl (fun y hy _e => by
    simp only [Rows.fnRefuseRow, List.zip_cons_cons, List.zip_nil_right, List.mem_cons, List.mem_nil_iff, or_false] at hy
    rcases hy with rfl | rfl | rfl | rfl | rfl | rfl
    · cases _e
    · cases _e
    · cases _e
    · cases _e
    · cases _e
    · exact ⟨pin_laid_unicode_utf8_first, by kernel_rfl⟩) fits2
theorem fnSign_row_tie : Rows.fnSignRow.laidByTextAt .later Tryd.pinned [.data, .listed, .sentinel, .sentinel, .sentinel, .pinned] true :=
  OpenClaim.laidByTextAt_pinned rfl rfl tie2 rfl rfl rfl rfl (fun y hy _e => by
    simp only [Rows.fnSignRow, List.zip_cons_cons, List.zip_nil_right, List.mem_cons, List.mem_nil_iff, or_false] at hy
    rcases hy with rfl | rfl | rfl | rfl | rfl | rfl
    · cases _e
    · cases _e
    · cases _e
    · cases _e
    · cases _e
    · exact ⟨pin_laid_unicode_utf8_first, by kernel_rfl⟩) fits2
theorem fits3 : Tryd.pinned.checked.prog.listedFits [("unicode/utf8.acceptRanges", Rows.laid_unicode_utf8_acceptRanges), ("unicode.White_Space", Rows.laid_unicode_White_Space), ("loop.example/pub-notesandsignatures/pub/sumdbnote.errMalformedNote", Rows.laid_loop_example_pub_notesandsignatures_pub_sumdbnote_errMalformedNote), ("loop.example/pub-notesandsignatures/pub/sumdbnote.errMismatchedVerifier", Rows.laid_loop_example_pub_notesandsignatures_pub_sumdbnote_errMismatchedVerifier), ("unicode/utf8.first", Rows.laid_unicode_utf8_first)] = true := by
  unfold Program.listedFits
  rw [noOwnUnsafe]
  kernel_rfl
theorem tie3 : Tryd.prog.laidByTextLater [("unicode/utf8.acceptRanges", Rows.laid_unicode_utf8_acceptRanges), ("unicode.White_Space", Rows.laid_unicode_White_Space), ("loop.example/pub-notesandsignatures/pub/sumdbnote.errMalformedNote", Rows.laid_loop_example_pub_notesandsignatures_pub_sumdbnote_errMalformedNote), ("loop.example/pub-notesandsignatures/pub/sumdbnote.errMismatchedVerifier", Rows.laid_loop_example_pub_notesandsignatures_pub_sumdbnote_errMismatchedVerifier)] [.data, .listed, .sentinel, .sentinel] true :=
  Program.laidByTextLater.sub seatTie1 ["unicode/utf8.acceptRanges", "unicode.White_Space", "loop.example/pub-notesandsignatures/pub/sumdbnote.errMalformedNote", "loop.example/pub-notesandsignatures/pub/sumdbnote.errMismatchedVerifier"] (by kernel_rfl) (by kernel_rfl)
theorem fnNoKeys_row_tie : Rows.fnNoKeysRow.laidByTextAt .later Tryd.pinned [.data, .listed, .sentinel, .sentinel, .pinned] true :=
  OpenClaim.laidByTextAt_pinned rfl rfl tie3 rfl rfl rfl rfl (fun y hy _e => by
    simp only [Rows.fnNoKeysRow, List.zip_cons_cons, List.zip_nil_right, List.mem_cons, List.mem_nil_iff, or_false] at hy
    rcases hy with rfl | rfl | rfl | rfl | rfl
    · cases _e
    · cases _e
    · cases _e
    · cases _e
    · exact ⟨pin_laid_unicode_utf8_first, by kernel_rfl⟩) fits3
theorem fits4 : Tryd.pinned.checked.prog.listedFits [("unicode/utf8.acceptRanges", Rows.laid_unicode_utf8_acceptRanges), ("unicode.White_Space", Rows.laid_unicode_White_Space), ("bytes.ErrTooLarge", Rows.laid_bytes_ErrTooLarge), ("loop.example/pub-notesandsignatures/pub/sumdbnote.errMalformedNote", Rows.laid_loop_example_pub_notesandsignatures_pub_sumdbnote_errMalformedNote), ("loop.example/pub-notesandsignatures/pub/sumdbnote.errInvalidSigner", Rows.laid_loop_example_pub_notesandsignatures_pub_sumdbnote_errInvalidSigner), ("loop.example/pub-notesandsignatures/pub/sumdbnote.errMismatchedVerifier", Rows.laid_loop_example_pub_notesandsignatures_pub_sumdbnote_errMismatchedVerifier), ("unicode/utf8.first", Rows.laid_unicode_utf8_first)] = true := by
  unfold Program.listedFits
  rw [noOwnUnsafe]
  kernel_rfl
theorem tie4 : Tryd.prog.laidByTextLater [("unicode/utf8.acceptRanges", Rows.laid_unicode_utf8_acceptRanges), ("unicode.White_Space", Rows.laid_unicode_White_Space), ("bytes.ErrTooLarge", Rows.laid_bytes_ErrTooLarge), ("loop.example/pub-notesandsignatures/pub/sumdbnote.errMalformedNote", Rows.laid_loop_example_pub_notesandsignatures_pub_sumdbnote_errMalformedNote), ("loop.example/pub-notesandsignatures/pub/sumdbnote.errInvalidSigner", Rows.laid_loop_example_pub_notesandsignatures_pub_sumdbnote_errInvalidSigner), ("loop.example/pub-notesandsignatures/pub/sumdbnote.errMismatchedVerifier", Rows.laid_loop_example_pub_notesandsignatures_pub_sumdbnote_errMismatchedVerifier)] [.data, .listed, .sentinel, .sentinel, .sentinel, .sentinel] true :=
  Program.laidByTextLater.sub seatTie1 ["unicode/utf8.acceptRanges", "unicode.White_Space", "bytes.ErrTooLarge", "loop.example/pub-notesandsignatures/pub/sumdbnote.errMalformedNote", "loop.example/pub-notesandsignatures/pub/sumdbnote.errInvalidSigner", "loop.example/pub-notesandsignatures/pub/sumdbnote.errMismatchedVerifier"] (by kernel_rfl) (by kernel_rfl)
theorem fnOther_row_tie : Rows.fnOtherRow.laidByTextAt .later Tryd.pinned [.data, .listed, .sentinel, .sentinel, .sentinel, .sentinel, .pinned] true :=
  OpenClaim.laidByTextAt_pinned rfl rfl tie4 rfl rfl rfl rfl (fun y hy _e => by
    simp only [Rows.fnOtherRow, List.zip_cons_cons, List.zip_nil_right, List.mem_cons, List.mem_nil_iff, or_false] at hy
    rcases hy with rfl | rfl | rfl | rfl | rfl | rfl | rfl
    · cases _e
    · cases _e
    · cases _e
    · cases _e
    · cases _e
    · cases _e
    · exact ⟨pin_laid_unicode_utf8_first, by kernel_rfl⟩) fits4
theorem fnSignOpen_row_tie : Rows.fnSignOpenRow.laidByTextAt .later Tryd.pinned [.data, .listed, .sentinel, .sentinel, .sentinel, .sentinel, .pinned] true :=
  OpenClaim.laidByTextAt_pinned rfl rfl tie4 rfl rfl rfl rfl (fun y hy _e => by
    simp only [Rows.fnSignOpenRow, List.zip_cons_cons, List.zip_nil_right, List.mem_cons, List.mem_nil_iff, or_false] at hy
    rcases hy with rfl | rfl | rfl | rfl | rfl | rfl | rfl
    · cases _e
    · cases _e
    · cases _e
    · cases _e
    · cases _e
    · cases _e
    · exact ⟨pin_laid_unicode_utf8_first, by kernel_rfl⟩) fits4
theorem fnSomeKnown_row_tie : Rows.fnSomeKnownRow.laidByTextAt .later Tryd.pinned [.data, .listed, .sentinel, .sentinel, .sentinel, .sentinel, .pinned] true :=
  OpenClaim.laidByTextAt_pinned rfl rfl tie4 rfl rfl rfl rfl (fun y hy _e => by
    simp only [Rows.fnSomeKnownRow, List.zip_cons_cons, List.zip_nil_right, List.mem_cons, List.mem_nil_iff, or_false] at hy
    rcases hy with rfl | rfl | rfl | rfl | rfl | rfl | rfl
    · cases _e
    · cases _e
    · cases _e
    · cases _e
    · cases _e
    · cases _e
    · exact ⟨pin_laid_unicode_utf8_first, by kernel_rfl⟩) fits4
theorem fnNameUpto_row_tie : Rows.fnNameUptoRow.laidByTextAt .later Tryd.pinned [.data, .listed, .pinned] true :=
  OpenClaim.laidByTextAt_pinned rfl rfl tie rfl rfl rfl rfl (fun y hy _e => by
    simp only [Rows.fnNameUptoRow, List.zip_cons_cons, List.zip_nil_right, List.mem_cons, List.mem_nil_iff, or_false] at hy
    rcases hy with rfl | rfl | rfl
    · cases _e
    · cases _e
    · exact ⟨pin_laid_unicode_utf8_first, by kernel_rfl⟩) fits1
theorem fnRefuseUpto_row_tie : Rows.fnRefuseUptoRow.laidByTextAt .later Tryd.pinned [.data, .listed, .sentinel, .sentinel, .sentinel, .pinned] true :=
  OpenClaim.laidByTextAt_pinned rfl rfl tie2 rfl rfl rfl rfl (fun y hy _e => by
    simp only [Rows.fnRefuseUptoRow, List.zip_cons_cons, List.zip_nil_right, List.mem_cons, List.mem_nil_iff, or_false] at hy
    rcases hy with rfl | rfl | rfl | rfl | rfl | rfl
    · cases _e
    · cases _e
    · cases _e
    · cases _e
    · cases _e
    · exact ⟨pin_laid_unicode_utf8_first, by kernel_rfl⟩) fits2
theorem fnSignUpto_row_tie : Rows.fnSignUptoRow.laidByTextAt .later Tryd.pinned [.data, .listed, .sentinel, .sentinel, .sentinel, .pinned] true :=
  OpenClaim.laidByTextAt_pinned rfl rfl tie2 rfl rfl rfl rfl (fun y hy _e => by
    simp only [Rows.fnSignUptoRow, List.zip_cons_cons, List.zip_nil_right, List.mem_cons, List.mem_nil_iff, or_false] at hy
    rcases hy with rfl | rfl | rfl | rfl | rfl | rfl
    · cases _e
    · cases _e
    · cases _e
    · cases _e
    · cases _e
    · exact ⟨pin_laid_unicode_utf8_first, by kernel_rfl⟩) fits2
theorem fnNoKeysUpto_row_tie : Rows.fnNoKeysUptoRow.laidByTextAt .later Tryd.pinned [.data, .listed, .sentinel, .sentinel, .pinned] true :=
  OpenClaim.laidByTextAt_pinned rfl rfl tie3 rfl rfl rfl rfl (fun y hy _e => by
    simp only [Rows.fnNoKeysUptoRow, List.zip_cons_cons, List.zip_nil_right, List.mem_cons, List.mem_nil_iff, or_false] at hy
    rcases hy with rfl | rfl | rfl | rfl | rfl
    · cases _e
    · cases _e
    · cases _e
    · cases _e
    · exact ⟨pin_laid_unicode_utf8_first, by kernel_rfl⟩) fits3
theorem fnOtherUpto_row_tie : Rows.fnOtherUptoRow.laidByTextAt .later Tryd.pinned [.data, .listed, .sentinel, .sentinel, .sentinel, .sentinel, .pinned] true :=
  OpenClaim.laidByTextAt_pinned rfl rfl tie4 rfl rfl rfl rfl (fun y hy _e => by
    simp only [Rows.fnOtherUptoRow, List.zip_cons_cons, List.zip_nil_right, List.mem_cons, List.mem_nil_iff, or_false] at hy
    rcases hy with rfl | rfl | rfl | rfl | rfl | rfl | rfl
    · cases _e
    · cases _e
    · cases _e
    · cases _e
    · cases _e
    · cases _e
    · exact ⟨pin_laid_unicode_utf8_first, by kernel_rfl⟩) fits4
theorem fnSignOpenUpto_row_tie : Rows.fnSignOpenUptoRow.laidByTextAt .later Tryd.pinned [.data, .listed, .sentinel, .sentinel, .sentinel, .sentinel, .pinned] true :=
  OpenClaim.laidByTextAt_pinned rfl rfl tie4 rfl rfl rfl rfl (fun y hy _e => by
    simp only [Rows.fnSignOpenUptoRow, List.zip_cons_cons, List.zip_nil_right, List.mem_cons, List.mem_nil_iff, or_false] at hy
    rcases hy with rfl | rfl | rfl | rfl | rfl | rfl | rfl
    · cases _e
    · cases _e
    · cases _e
    · cases _e
    · cases _e
    · cases _e
    · exact ⟨pin_laid_unicode_utf8_first, by kernel_rfl⟩) fits4
theorem fnSomeKnownUpto_row_tie : Rows.fnSomeKnownUptoRow.laidByTextAt .later Tryd.pinned [.data, .listed, .sentinel, .sentinel, .sentinel, .sentinel, .pinned] true :=
  OpenClaim.laidByTextAt_pinned rfl rfl tie4 rfl rfl rfl rfl (fun y hy _e => by
    simp only [Rows.fnSomeKnownUptoRow, List.zip_cons_cons, List.zip_nil_right, List.mem_cons, List.mem_nil_iff, or_false] at hy
    rcases hy with rfl | rfl | rfl | rfl | rfl | rfl | rfl
    · cases _e
    · cases _e
    · cases _e
    · cases _e
    · cases _e
    · cases _e
    · exact ⟨pin_laid_unicode_utf8_first, by kernel_rfl⟩) fits4
end Go.Proofs.YtnnbhklkakhkkaaDoor

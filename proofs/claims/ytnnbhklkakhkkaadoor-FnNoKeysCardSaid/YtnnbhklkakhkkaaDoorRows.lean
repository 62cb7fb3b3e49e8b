/-
  NARROWER THAN 'FOR EVERY INPUT', by the rows' own cells (each row's printed sentence says how): FnName: laid · FnRefuse: ifaces, laid · FnSign: ifaces, laid · FnNoKeys: ifaces, laid · FnOther: ifaces, laid · FnSignOpen: ifaces, laid · FnSomeKnown: ifaces, laid.
  DERIVED. THE GIVEN ROWS OF THIS SEAT. 7 by the template 'for every input the law returns true; each argument reads behind the call as it read before'; 0 by the template 'total and deterministic' (their statements: YtnnbhklkakhkkaaDoorTotals.lean).
  GIVEN WITH THE SEED: the statements are not yours to turn. If you find one false, say at which input.
  Laid BY PROGRAM, IN A SANDBOX (cutbox-rows.mjs): the forced cells as the released guide's own fill.sh prints them over the translation c224990dc57c5f3e… (all of the seat's roots in one cut). By AI agents, Wed Nov 11 2026. No macro, syntax, notation, axiom, sorry.
-/
import Derived.Test.YtnnbhklkakhkkaaDoorChecked
import GoSem.PinnedTables
import GoSem.Claim
import GoSem.ClaimJoined
import GoSem.ClaimMapViews
import Derived.JoinedTies
import Derived.KernelRfl
namespace Go.Proofs.YtnnbhklkakhkkaaDoor
/- THE CELL 'sum', in the pinned program and in every row, IS THE sha256 OF THE DUMP (.gsa) THAT YtnnbhklkakhkkaaDoorProg.lean LOADS. Nothing in Lean hashes anything: it is a label: what it is worth is what the hold of that sum in a sandbox is worth. -/
noncomputable def Tryd.pinned : Pinned := { name := "ytnnbhklkakhkkaadoor", sum := "c224990dc57c5f3e6b22365e792940faf31ccc9f06db947c98dd9b3c30666426", checked := Tryd.checked }
namespace Rows
def none {H : Type} : Left H := { results := [], args := [] }

/- WHAT THE LISTED PACKAGE-LEVEL VARIABLES READ AS WHEN THE CALL BEGINS. Each datum BY PROGRAM (the guide's laid-datum.mjs) off the statement by which the dump's own 'gosem.cut.vars' lays the variable. In a bare row this is a premise. The card (YtnnbhklkakhkkaaDoorCards.lean) ties it to the program's text. -/
def laid_unicode_utf8_acceptRanges {H : Type} : DataW H := .agg [.agg [.lit (.int .u8 128), .lit (.int .u8 191)], .agg [.lit (.int .u8 160), .lit (.int .u8 191)], .agg [.lit (.int .u8 128), .lit (.int .u8 159)], .agg [.lit (.int .u8 144), .lit (.int .u8 191)], .agg [.lit (.int .u8 128), .lit (.int .u8 143)], .agg [.lit (.int .u8 0), .lit (.int .u8 0)], .agg [.lit (.int .u8 0), .lit (.int .u8 0)], .agg [.lit (.int .u8 0), .lit (.int .u8 0)], .agg [.lit (.int .u8 0), .lit (.int .u8 0)], .agg [.lit (.int .u8 0), .lit (.int .u8 0)], .agg [.lit (.int .u8 0), .lit (.int .u8 0)], .agg [.lit (.int .u8 0), .lit (.int .u8 0)], .agg [.lit (.int .u8 0), .lit (.int .u8 0)], .agg [.lit (.int .u8 0), .lit (.int .u8 0)], .agg [.lit (.int .u8 0), .lit (.int .u8 0)], .agg [.lit (.int .u8 0), .lit (.int .u8 0)]]
def laid_unicode_White_Space {H : Type} : DataW H := .ptr (.agg [.slice [.agg [.lit (.int .u16 9), .lit (.int .u16 13), .lit (.int .u16 1)], .agg [.lit (.int .u16 32), .lit (.int .u16 133), .lit (.int .u16 101)], .agg [.lit (.int .u16 160), .lit (.int .u16 5760), .lit (.int .u16 5600)], .agg [.lit (.int .u16 8192), .lit (.int .u16 8202), .lit (.int .u16 1)], .agg [.lit (.int .u16 8232), .lit (.int .u16 8233), .lit (.int .u16 1)], .agg [.lit (.int .u16 8239), .lit (.int .u16 8287), .lit (.int .u16 48)], .agg [.lit (.int .u16 12288), .lit (.int .u16 12288), .lit (.int .u16 1)]] [], .nil, .lit (.int .i64 2)])
/-- One of Go's own tables, pinned by name: the form's constant. -/
def laid_unicode_utf8_first : DataW Unit := Go.Pinned.utf8First
def laid_bytes_ErrTooLarge {H : Type} : DataW H := .iface "*errors.errorString" (.ptr (.agg [.lit (.string [98, 121, 116, 101, 115, 46, 66, 117, 102, 102, 101, 114, 58, 32, 116, 111, 111, 32, 108, 97, 114, 103, 101])]))
def laid_loop_example_pub_notesandsignatures_pub_sumdbnote_errMalformedNote {H : Type} : DataW H := .iface "*errors.errorString" (.ptr (.agg [.lit (.string [109, 97, 108, 102, 111, 114, 109, 101, 100, 32, 110, 111, 116, 101])]))
def laid_loop_example_pub_notesandsignatures_pub_sumdbnote_errInvalidSigner {H : Type} : DataW H := .iface "*errors.errorString" (.ptr (.agg [.lit (.string [105, 110, 118, 97, 108, 105, 100, 32, 115, 105, 103, 110, 101, 114])]))
def laid_loop_example_pub_notesandsignatures_pub_sumdbnote_errMismatchedVerifier {H : Type} : DataW H := .iface "*errors.errorString" (.ptr (.agg [.lit (.string [118, 101, 114, 105, 102, 105, 101, 114, 32, 110, 97, 109, 101, 32, 111, 114, 32, 104, 97, 115, 104, 32, 100, 111, 101, 115, 110, 39, 116, 32, 109, 97, 116, 99, 104, 32, 115, 105, 103, 110, 97, 116, 117, 114, 101])]))

/-- 'laws.FnName': WHATEVER THE INPUT: true; the input reads as it did. -/
def fnNameSpec : ChangeSpec := { name := "fnName", fn := fun _ => fun
  | [d] => { results := [.lit (.bool true)], args := [d] }
  | _ => none }
def fnNameRow : OpenClaim := { program := "ytnnbhklkakhkkaadoor", sum := "c224990dc57c5f3e6b22365e792940faf31ccc9f06db947c98dd9b3c30666426", func := "loop.example/pub-notesandsignatures/laws.FnName", spec := "fnName", unfollowed := true, recurses := true, named := ["unicode/utf8.first", "unicode/utf8.acceptRanges", "unicode.White_Space"], plainKeys := false, apart := false, laid := [("unicode/utf8.acceptRanges", laid_unicode_utf8_acceptRanges), ("unicode.White_Space", laid_unicode_White_Space), ("unicode/utf8.first", laid_unicode_utf8_first)] }
def FnNameSaid : Prop := fnNameRow.holds Tryd.pinned (OpenSpec.ofChange fnNameSpec)

/-- ITS FALSE NEIGHBOUR: 'it returns false'. Refute it at one input. -/
def fnNameWrong : ChangeSpec := { name := "fnName", fn := fun _ => fun
  | [d] => { results := [.lit (.bool false)], args := [d] }
  | _ => none }
def FnNameWrongFalsely : Prop := fnNameRow.holds Tryd.pinned (OpenSpec.ofChange fnNameWrong)

/-- 'laws.FnRefuse': WHATEVER THE INPUT: true; the input reads as it did. -/
def fnRefuseSpec : ChangeSpec := { name := "fnRefuse", vars := ["loop.example/pub-notesandsignatures/pub/sumdbnote.errMalformedNote", "loop.example/pub-notesandsignatures/pub/sumdbnote.errInvalidSigner"], fn := fun _ => fun
  | [d1, d2, g1, g2] => { results := [.lit (.bool true)], args := [d1, d2], vars := [g1, g2] }
  | _ => none }
def fnRefuseRow : OpenClaim := { program := "ytnnbhklkakhkkaadoor", sum := "c224990dc57c5f3e6b22365e792940faf31ccc9f06db947c98dd9b3c30666426", func := "loop.example/pub-notesandsignatures/laws.FnRefuse", spec := "fnRefuse", unfollowed := true, recurses := true, named := ["loop.example/pub-notesandsignatures/pub/sumdbnote.errMalformedNote", "loop.example/pub-notesandsignatures/pub/sumdbnote.errInvalidSigner", "bytes.ErrTooLarge", "unicode/utf8.first", "unicode/utf8.acceptRanges", "unicode.White_Space"], ifaces := true, plainKeys := false, apart := false, laid := [("unicode/utf8.acceptRanges", laid_unicode_utf8_acceptRanges), ("unicode.White_Space", laid_unicode_White_Space), ("bytes.ErrTooLarge", laid_bytes_ErrTooLarge), ("loop.example/pub-notesandsignatures/pub/sumdbnote.errMalformedNote", laid_loop_example_pub_notesandsignatures_pub_sumdbnote_errMalformedNote), ("loop.example/pub-notesandsignatures/pub/sumdbnote.errInvalidSigner", laid_loop_example_pub_notesandsignatures_pub_sumdbnote_errInvalidSigner), ("unicode/utf8.first", laid_unicode_utf8_first)] }
def FnRefuseSaid : Prop := fnRefuseRow.holds Tryd.pinned (OpenSpec.ofChange fnRefuseSpec)

/-- ITS FALSE NEIGHBOUR: 'it returns false'. Refute it at one input. -/
def fnRefuseWrong : ChangeSpec := { name := "fnRefuse", vars := ["loop.example/pub-notesandsignatures/pub/sumdbnote.errMalformedNote", "loop.example/pub-notesandsignatures/pub/sumdbnote.errInvalidSigner"], fn := fun _ => fun
  | [d1, d2, g1, g2] => { results := [.lit (.bool false)], args := [d1, d2], vars := [g1, g2] }
  | _ => none }
def FnRefuseWrongFalsely : Prop := fnRefuseRow.holds Tryd.pinned (OpenSpec.ofChange fnRefuseWrong)

/-- 'laws.FnSign': WHATEVER THE INPUT: true; the input reads as it did. -/
def fnSignSpec : ChangeSpec := { name := "fnSign", vars := ["loop.example/pub-notesandsignatures/pub/sumdbnote.errMalformedNote", "loop.example/pub-notesandsignatures/pub/sumdbnote.errInvalidSigner"], fn := fun _ => fun
  | [d1, d2, g1, g2] => { results := [.lit (.bool true)], args := [d1, d2], vars := [g1, g2] }
  | _ => none }
def fnSignRow : OpenClaim := { program := "ytnnbhklkakhkkaadoor", sum := "c224990dc57c5f3e6b22365e792940faf31ccc9f06db947c98dd9b3c30666426", func := "loop.example/pub-notesandsignatures/laws.FnSign", spec := "fnSign", unfollowed := true, recurses := true, named := ["loop.example/pub-notesandsignatures/pub/sumdbnote.errMalformedNote", "loop.example/pub-notesandsignatures/pub/sumdbnote.errInvalidSigner", "bytes.ErrTooLarge", "unicode/utf8.first", "unicode/utf8.acceptRanges", "unicode.White_Space"], ifaces := true, plainKeys := false, apart := false, laid := [("unicode/utf8.acceptRanges", laid_unicode_utf8_acceptRanges), ("unicode.White_Space", laid_unicode_White_Space), ("bytes.ErrTooLarge", laid_bytes_ErrTooLarge), ("loop.example/pub-notesandsignatures/pub/sumdbnote.errMalformedNote", laid_loop_example_pub_notesandsignatures_pub_sumdbnote_errMalformedNote), ("loop.example/pub-notesandsignatures/pub/sumdbnote.errInvalidSigner", laid_loop_example_pub_notesandsignatures_pub_sumdbnote_errInvalidSigner), ("unicode/utf8.first", laid_unicode_utf8_first)] }
def FnSignSaid : Prop := fnSignRow.holds Tryd.pinned (OpenSpec.ofChange fnSignSpec)

/-- ITS FALSE NEIGHBOUR: 'it returns false'. Refute it at one input. -/
def fnSignWrong : ChangeSpec := { name := "fnSign", vars := ["loop.example/pub-notesandsignatures/pub/sumdbnote.errMalformedNote", "loop.example/pub-notesandsignatures/pub/sumdbnote.errInvalidSigner"], fn := fun _ => fun
  | [d1, d2, g1, g2] => { results := [.lit (.bool false)], args := [d1, d2], vars := [g1, g2] }
  | _ => none }
def FnSignWrongFalsely : Prop := fnSignRow.holds Tryd.pinned (OpenSpec.ofChange fnSignWrong)

/-- 'laws.FnNoKeys': WHATEVER THE INPUT: true; the input reads as it did. -/
def fnNoKeysSpec : ChangeSpec := { name := "fnNoKeys", vars := ["loop.example/pub-notesandsignatures/pub/sumdbnote.errMalformedNote", "loop.example/pub-notesandsignatures/pub/sumdbnote.errMismatchedVerifier"], fn := fun _ => fun
  | [d, g1, g2] => { results := [.lit (.bool true)], args := [d], vars := [g1, g2] }
  | _ => none }
def fnNoKeysRow : OpenClaim := { program := "ytnnbhklkakhkkaadoor", sum := "c224990dc57c5f3e6b22365e792940faf31ccc9f06db947c98dd9b3c30666426", func := "loop.example/pub-notesandsignatures/laws.FnNoKeys", spec := "fnNoKeys", inPlace := ["internal/bytealg.IndexByte"], unfollowed := true, recurses := true, named := ["loop.example/pub-notesandsignatures/pub/sumdbnote.errMalformedNote", "loop.example/pub-notesandsignatures/pub/sumdbnote.errMismatchedVerifier", "unicode/utf8.first", "unicode/utf8.acceptRanges", "unicode.White_Space"], ifaces := true, plainKeys := false, apart := false, laid := [("unicode/utf8.acceptRanges", laid_unicode_utf8_acceptRanges), ("unicode.White_Space", laid_unicode_White_Space), ("loop.example/pub-notesandsignatures/pub/sumdbnote.errMalformedNote", laid_loop_example_pub_notesandsignatures_pub_sumdbnote_errMalformedNote), ("loop.example/pub-notesandsignatures/pub/sumdbnote.errMismatchedVerifier", laid_loop_example_pub_notesandsignatures_pub_sumdbnote_errMismatchedVerifier), ("unicode/utf8.first", laid_unicode_utf8_first)] }
def FnNoKeysSaid : Prop := fnNoKeysRow.holds Tryd.pinned (OpenSpec.ofChange fnNoKeysSpec)

/-- ITS FALSE NEIGHBOUR: 'it returns false'. Refute it at one input. -/
def fnNoKeysWrong : ChangeSpec := { name := "fnNoKeys", vars := ["loop.example/pub-notesandsignatures/pub/sumdbnote.errMalformedNote", "loop.example/pub-notesandsignatures/pub/sumdbnote.errMismatchedVerifier"], fn := fun _ => fun
  | [d, g1, g2] => { results := [.lit (.bool false)], args := [d], vars := [g1, g2] }
  | _ => none }
def FnNoKeysWrongFalsely : Prop := fnNoKeysRow.holds Tryd.pinned (OpenSpec.ofChange fnNoKeysWrong)

/-- 'laws.FnOther': WHATEVER THE INPUT: true; the input reads as it did. -/
def fnOtherSpec : ChangeSpec := { name := "fnOther", vars := ["loop.example/pub-notesandsignatures/pub/sumdbnote.errMalformedNote", "loop.example/pub-notesandsignatures/pub/sumdbnote.errInvalidSigner", "loop.example/pub-notesandsignatures/pub/sumdbnote.errMismatchedVerifier"], fn := fun _ => fun
  | [d1, d2, d3, g1, g2, g3] => { results := [.lit (.bool true)], args := [d1, d2, d3], vars := [g1, g2, g3] }
  | _ => none }
def fnOtherRow : OpenClaim := { program := "ytnnbhklkakhkkaadoor", sum := "c224990dc57c5f3e6b22365e792940faf31ccc9f06db947c98dd9b3c30666426", func := "loop.example/pub-notesandsignatures/laws.FnOther", spec := "fnOther", inPlace := ["internal/bytealg.IndexByte"], unfollowed := true, recurses := true, named := ["loop.example/pub-notesandsignatures/pub/sumdbnote.errMalformedNote", "loop.example/pub-notesandsignatures/pub/sumdbnote.errInvalidSigner", "bytes.ErrTooLarge", "unicode/utf8.first", "unicode/utf8.acceptRanges", "unicode.White_Space", "loop.example/pub-notesandsignatures/pub/sumdbnote.errMismatchedVerifier"], ifaces := true, plainKeys := false, apart := false, laid := [("unicode/utf8.acceptRanges", laid_unicode_utf8_acceptRanges), ("unicode.White_Space", laid_unicode_White_Space), ("bytes.ErrTooLarge", laid_bytes_ErrTooLarge), ("loop.example/pub-notesandsignatures/pub/sumdbnote.errMalformedNote", laid_loop_example_pub_notesandsignatures_pub_sumdbnote_errMalformedNote), ("loop.example/pub-notesandsignatures/pub/sumdbnote.errInvalidSigner", laid_loop_example_pub_notesandsignatures_pub_sumdbnote_errInvalidSigner), ("loop.example/pub-notesandsignatures/pub/sumdbnote.errMismatchedVerifier", laid_loop_example_pub_notesandsignatures_pub_sumdbnote_errMismatchedVerifier), ("unicode/utf8.first", laid_unicode_utf8_first)] }
def FnOtherSaid : Prop := fnOtherRow.holds Tryd.pinned (OpenSpec.ofChange fnOtherSpec)

/-- ITS FALSE NEIGHBOUR: 'it returns false'. Refute it at one input. -/
def fnOtherWrong : ChangeSpec := { name := "fnOther", vars := ["loop.example/pub-notesandsignatures/pub/sumdbnote.errMalformedNote", "loop.example/pub-notesandsignatures/pub/sumdbnote.errInvalidSigner", "loop.example/pub-notesandsignatures/pub/sumdbnote.errMismatchedVerifier"], fn := fun _ => fun
  | [d1, d2, d3, g1, g2, g3] => { results := [.lit (.bool false)], args := [d1, d2, d3], vars := [g1, g2, g3] }
  | _ => none }
def FnOtherWrongFalsely : Prop := fnOtherRow.holds Tryd.pinned (OpenSpec.ofChange fnOtherWrong)

/-- 'laws.FnSignOpen': WHATEVER THE INPUT: true; the input reads as it did. -/
def fnSignOpenSpec : ChangeSpec := { name := "fnSignOpen", vars := ["loop.example/pub-notesandsignatures/pub/sumdbnote.errMalformedNote", "loop.example/pub-notesandsignatures/pub/sumdbnote.errInvalidSigner", "loop.example/pub-notesandsignatures/pub/sumdbnote.errMismatchedVerifier"], fn := fun _ => fun
  | [d1, d2, g1, g2, g3] => { results := [.lit (.bool true)], args := [d1, d2], vars := [g1, g2, g3] }
  | _ => none }
def fnSignOpenRow : OpenClaim := { program := "ytnnbhklkakhkkaadoor", sum := "c224990dc57c5f3e6b22365e792940faf31ccc9f06db947c98dd9b3c30666426", func := "loop.example/pub-notesandsignatures/laws.FnSignOpen", spec := "fnSignOpen", inPlace := ["internal/bytealg.IndexByte"], unfollowed := true, recurses := true, named := ["loop.example/pub-notesandsignatures/pub/sumdbnote.errMalformedNote", "loop.example/pub-notesandsignatures/pub/sumdbnote.errInvalidSigner", "bytes.ErrTooLarge", "unicode/utf8.first", "unicode/utf8.acceptRanges", "unicode.White_Space", "loop.example/pub-notesandsignatures/pub/sumdbnote.errMismatchedVerifier"], ifaces := true, plainKeys := false, apart := false, laid := [("unicode/utf8.acceptRanges", laid_unicode_utf8_acceptRanges), ("unicode.White_Space", laid_unicode_White_Space), ("bytes.ErrTooLarge", laid_bytes_ErrTooLarge), ("loop.example/pub-notesandsignatures/pub/sumdbnote.errMalformedNote", laid_loop_example_pub_notesandsignatures_pub_sumdbnote_errMalformedNote), ("loop.example/pub-notesandsignatures/pub/sumdbnote.errInvalidSigner", laid_loop_example_pub_notesandsignatures_pub_sumdbnote_errInvalidSigner), ("loop.example/pub-notesandsignatures/pub/sumdbnote.errMismatchedVerifier", laid_loop_example_pub_notesandsignatures_pub_sumdbnote_errMismatchedVerifier), ("unicode/utf8.first", laid_unicode_utf8_first)] }
def FnSignOpenSaid : Prop := fnSignOpenRow.holds Tryd.pinned (OpenSpec.ofChange fnSignOpenSpec)

/-- ITS FALSE NEIGHBOUR: 'it returns false'. Refute it at one input. -/
def fnSignOpenWrong : ChangeSpec := { name := "fnSignOpen", vars := ["loop.example/pub-notesandsignatures/pub/sumdbnote.errMalformedNote", "loop.example/pub-notesandsignatures/pub/sumdbnote.errInvalidSigner", "loop.example/pub-notesandsignatures/pub/sumdbnote.errMismatchedVerifier"], fn := fun _ => fun
  | [d1, d2, g1, g2, g3] => { results := [.lit (.bool false)], args := [d1, d2], vars := [g1, g2, g3] }
  | _ => none }
def FnSignOpenWrongFalsely : Prop := fnSignOpenRow.holds Tryd.pinned (OpenSpec.ofChange fnSignOpenWrong)

/-- 'laws.FnSomeKnown': WHATEVER THE INPUT: true; the input reads as it did. -/
def fnSomeKnownSpec : ChangeSpec := { name := "fnSomeKnown", vars := ["loop.example/pub-notesandsignatures/pub/sumdbnote.errMalformedNote", "loop.example/pub-notesandsignatures/pub/sumdbnote.errInvalidSigner", "loop.example/pub-notesandsignatures/pub/sumdbnote.errMismatchedVerifier"], fn := fun _ => fun
  | [d1, d2, d3, g1, g2, g3] => { results := [.lit (.bool true)], args := [d1, d2, d3], vars := [g1, g2, g3] }
  | _ => none }
def fnSomeKnownRow : OpenClaim := { program := "ytnnbhklkakhkkaadoor", sum := "c224990dc57c5f3e6b22365e792940faf31ccc9f06db947c98dd9b3c30666426", func := "loop.example/pub-notesandsignatures/laws.FnSomeKnown", spec := "fnSomeKnown", inPlace := ["internal/bytealg.IndexByte"], unfollowed := true, recurses := true, named := ["loop.example/pub-notesandsignatures/pub/sumdbnote.errMalformedNote", "loop.example/pub-notesandsignatures/pub/sumdbnote.errInvalidSigner", "bytes.ErrTooLarge", "unicode/utf8.first", "unicode/utf8.acceptRanges", "unicode.White_Space", "loop.example/pub-notesandsignatures/pub/sumdbnote.errMismatchedVerifier"], ifaces := true, plainKeys := false, apart := false, laid := [("unicode/utf8.acceptRanges", laid_unicode_utf8_acceptRanges), ("unicode.White_Space", laid_unicode_White_Space), ("bytes.ErrTooLarge", laid_bytes_ErrTooLarge), ("loop.example/pub-notesandsignatures/pub/sumdbnote.errMalformedNote", laid_loop_example_pub_notesandsignatures_pub_sumdbnote_errMalformedNote), ("loop.example/pub-notesandsignatures/pub/sumdbnote.errInvalidSigner", laid_loop_example_pub_notesandsignatures_pub_sumdbnote_errInvalidSigner), ("loop.example/pub-notesandsignatures/pub/sumdbnote.errMismatchedVerifier", laid_loop_example_pub_notesandsignatures_pub_sumdbnote_errMismatchedVerifier), ("unicode/utf8.first", laid_unicode_utf8_first)] }
def FnSomeKnownSaid : Prop := fnSomeKnownRow.holds Tryd.pinned (OpenSpec.ofChange fnSomeKnownSpec)

/-- ITS FALSE NEIGHBOUR: 'it returns false'. Refute it at one input. -/
def fnSomeKnownWrong : ChangeSpec := { name := "fnSomeKnown", vars := ["loop.example/pub-notesandsignatures/pub/sumdbnote.errMalformedNote", "loop.example/pub-notesandsignatures/pub/sumdbnote.errInvalidSigner", "loop.example/pub-notesandsignatures/pub/sumdbnote.errMismatchedVerifier"], fn := fun _ => fun
  | [d1, d2, d3, g1, g2, g3] => { results := [.lit (.bool false)], args := [d1, d2, d3], vars := [g1, g2, g3] }
  | _ => none }
def FnSomeKnownWrongFalsely : Prop := fnSomeKnownRow.holds Tryd.pinned (OpenSpec.ofChange fnSomeKnownWrong)

/- THE SECOND FORM. 'bulk': how many values and letters a reading holds, each counted each time it is reached (what is shared counts as often as it is met; a slice's spare places count too). A statement '..UptoSaid' is the law's where the arguments, and the package variables that the reading takes, are together of bulk at most 1048576: NARROWER than '..Said'. Prove '..Said' where nothing that the law and all that it calls make is longer than what came in: it says more and counts as full. Else prove '..UptoSaid'. A law counts once. -/
mutual
def uptoBulk {H : Type} : DataW H → Nat
  | .lit (.string bytes) => bytes.length + 1
  | .lit _ => 1
  | .nil => 1
  | .ptr d => uptoBulk d + 1
  | .slice elems spare => uptoBulkAll elems + uptoBulkAll spare + 1
  | .agg parts => uptoBulkAll parts + 1
  | .iface _ d => uptoBulk d + 1
  | .map entries => uptoBulkEntries entries + 1
  | .held _ => 1
def uptoBulkAll {H : Type} : List (DataW H) → Nat
  | [] => 0
  | d :: r => uptoBulk d + uptoBulkAll r
def uptoBulkEntries {H : Type} : List (Lit × DataW H) → Nat
  | [] => 0
  | x :: r => uptoBulkEntry x + uptoBulkEntries r
def uptoBulkEntry {H : Type} : Lit × DataW H → Nat
  | (.string bytes, d) => bytes.length + uptoBulk d + 1
  | (_, d) => uptoBulk d + 1
 end
def uptoSmall : (H : Type) → List (DataW H) → Bool := fun _ ds => decide (uptoBulkAll ds ≤ 1048576)
def OpenSpec.upto (s : _root_.Go.ChangeSpec) : _root_.Go.OpenSpec := { _root_.Go.OpenSpec.ofChange s with cond := some uptoSmall }

/-- 'laws.FnName', WHERE WHAT IT READS IS OF BULK AT MOST 1048576: true; the input reads as it did. -/
def fnNameUptoRow : OpenClaim := { program := "ytnnbhklkakhkkaadoor", sum := "c224990dc57c5f3e6b22365e792940faf31ccc9f06db947c98dd9b3c30666426", func := "loop.example/pub-notesandsignatures/laws.FnName", spec := "fnName", unfollowed := true, recurses := true, named := ["unicode/utf8.first", "unicode/utf8.acceptRanges", "unicode.White_Space"], plainKeys := false, apart := false, laid := [("unicode/utf8.acceptRanges", laid_unicode_utf8_acceptRanges), ("unicode.White_Space", laid_unicode_White_Space), ("unicode/utf8.first", laid_unicode_utf8_first)], narrowed := true }
def FnNameUptoSaid : Prop := fnNameUptoRow.holds Tryd.pinned (OpenSpec.upto fnNameSpec)

/-- 'laws.FnRefuse', WHERE WHAT IT READS IS OF BULK AT MOST 1048576: true; the input reads as it did. -/
def fnRefuseUptoRow : OpenClaim := { program := "ytnnbhklkakhkkaadoor", sum := "c224990dc57c5f3e6b22365e792940faf31ccc9f06db947c98dd9b3c30666426", func := "loop.example/pub-notesandsignatures/laws.FnRefuse", spec := "fnRefuse", unfollowed := true, recurses := true, named := ["loop.example/pub-notesandsignatures/pub/sumdbnote.errMalformedNote", "loop.example/pub-notesandsignatures/pub/sumdbnote.errInvalidSigner", "bytes.ErrTooLarge", "unicode/utf8.first", "unicode/utf8.acceptRanges", "unicode.White_Space"], ifaces := true, plainKeys := false, apart := false, laid := [("unicode/utf8.acceptRanges", laid_unicode_utf8_acceptRanges), ("unicode.White_Space", laid_unicode_White_Space), ("bytes.ErrTooLarge", laid_bytes_ErrTooLarge), ("loop.example/pub-notesandsignatures/pub/sumdbnote.errMalformedNote", laid_loop_example_pub_notesandsignatures_pub_sumdbnote_errMalformedNote), ("loop.example/pub-notesandsignatures/pub/sumdbnote.errInvalidSigner", laid_loop_example_pub_notesandsignatures_pub_sumdbnote_errInvalidSigner), ("unicode/utf8.first", laid_unicode_utf8_first)], narrowed := true }
def FnRefuseUptoSaid : Prop := fnRefuseUptoRow.holds Tryd.pinned (OpenSpec.upto fnRefuseSpec)

/-- 'laws.FnSign', WHERE WHAT IT READS IS OF BULK AT MOST 1048576: true; the input reads as it did. -/
def fnSignUptoRow : OpenClaim := { program := "ytnnbhklkakhkkaadoor", sum := "c224990dc57c5f3e6b22365e792940faf31ccc9f06db947c98dd9b3c30666426", func := "loop.example/pub-notesandsignatures/laws.FnSign", spec := "fnSign", unfollowed := true, recurses := true, named := ["loop.example/pub-notesandsignatures/pub/sumdbnote.errMalformedNote", "loop.example/pub-notesandsignatures/pub/sumdbnote.errInvalidSigner", "bytes.ErrTooLarge", "unicode/utf8.first", "unicode/utf8.acceptRanges", "unicode.White_Space"], ifaces := true, plainKeys := false, apart := false, laid := [("unicode/utf8.acceptRanges", laid_unicode_utf8_acceptRanges), ("unicode.White_Space", laid_unicode_White_Space), ("bytes.ErrTooLarge", laid_bytes_ErrTooLarge), ("loop.example/pub-notesandsignatures/pub/sumdbnote.errMalformedNote", laid_loop_example_pub_notesandsignatures_pub_sumdbnote_errMalformedNote), ("loop.example/pub-notesandsignatures/pub/sumdbnote.errInvalidSigner", laid_loop_example_pub_notesandsignatures_pub_sumdbnote_errInvalidSigner), ("unicode/utf8.first", laid_unicode_utf8_first)], narrowed := true }
def FnSignUptoSaid : Prop := fnSignUptoRow.holds Tryd.pinned (OpenSpec.upto fnSignSpec)

/-- 'laws.FnNoKeys', WHERE WHAT IT READS IS OF BULK AT MOST 1048576: true; the input reads as it did. -/
def fnNoKeysUptoRow : OpenClaim := { program := "ytnnbhklkakhkkaadoor", sum := "c224990dc57c5f3e6b22365e792940faf31ccc9f06db947c98dd9b3c30666426", func := "loop.example/pub-notesandsignatures/laws.FnNoKeys", spec := "fnNoKeys", inPlace := ["internal/bytealg.IndexByte"], unfollowed := true, recurses := true, named := ["loop.example/pub-notesandsignatures/pub/sumdbnote.errMalformedNote", "loop.example/pub-notesandsignatures/pub/sumdbnote.errMismatchedVerifier", "unicode/utf8.first", "unicode/utf8.acceptRanges", "unicode.White_Space"], ifaces := true, plainKeys := false, apart := false, laid := [("unicode/utf8.acceptRanges", laid_unicode_utf8_acceptRanges), ("unicode.White_Space", laid_unicode_White_Space), ("loop.example/pub-notesandsignatures/pub/sumdbnote.errMalformedNote", laid_loop_example_pub_notesandsignatures_pub_sumdbnote_errMalformedNote), ("loop.example/pub-notesandsignatures/pub/sumdbnote.errMismatchedVerifier", laid_loop_example_pub_notesandsignatures_pub_sumdbnote_errMismatchedVerifier), ("unicode/utf8.first", laid_unicode_utf8_first)], narrowed := true }
def FnNoKeysUptoSaid : Prop := fnNoKeysUptoRow.holds Tryd.pinned (OpenSpec.upto fnNoKeysSpec)

/-- 'laws.FnOther', WHERE WHAT IT READS IS OF BULK AT MOST 1048576: true; the input reads as it did. -/
def fnOtherUptoRow : OpenClaim := { program := "ytnnbhklkakhkkaadoor", sum := "c224990dc57c5f3e6b22365e792940faf31ccc9f06db947c98dd9b3c30666426", func := "loop.example/pub-notesandsignatures/laws.FnOther", spec := "fnOther", inPlace := ["internal/bytealg.IndexByte"], unfollowed := true, recurses := true, named := ["loop.example/pub-notesandsignatures/pub/sumdbnote.errMalformedNote", "loop.example/pub-notesandsignatures/pub/sumdbnote.errInvalidSigner", "bytes.ErrTooLarge", "unicode/utf8.first", "unicode/utf8.acceptRanges", "unicode.White_Space", "loop.example/pub-notesandsignatures/pub/sumdbnote.errMismatchedVerifier"], ifaces := true, plainKeys := false, apart := false, laid := [("unicode/utf8.acceptRanges", laid_unicode_utf8_acceptRanges), ("unicode.White_Space", laid_unicode_White_Space), ("bytes.ErrTooLarge", laid_bytes_ErrTooLarge), ("loop.example/pub-notesandsignatures/pub/sumdbnote.errMalformedNote", laid_loop_example_pub_notesandsignatures_pub_sumdbnote_errMalformedNote), ("loop.example/pub-notesandsignatures/pub/sumdbnote.errInvalidSigner", laid_loop_example_pub_notesandsignatures_pub_sumdbnote_errInvalidSigner), ("loop.example/pub-notesandsignatures/pub/sumdbnote.errMismatchedVerifier", laid_loop_example_pub_notesandsignatures_pub_sumdbnote_errMismatchedVerifier), ("unicode/utf8.first", laid_unicode_utf8_first)], narrowed := true }
def FnOtherUptoSaid : Prop := fnOtherUptoRow.holds Tryd.pinned (OpenSpec.upto fnOtherSpec)

/-- 'laws.FnSignOpen', WHERE WHAT IT READS IS OF BULK AT MOST 1048576: true; the input reads as it did. -/
def fnSignOpenUptoRow : OpenClaim := { program := "ytnnbhklkakhkkaadoor", sum := "c224990dc57c5f3e6b22365e792940faf31ccc9f06db947c98dd9b3c30666426", func := "loop.example/pub-notesandsignatures/laws.FnSignOpen", spec := "fnSignOpen", inPlace := ["internal/bytealg.IndexByte"], unfollowed := true, recurses := true, named := ["loop.example/pub-notesandsignatures/pub/sumdbnote.errMalformedNote", "loop.example/pub-notesandsignatures/pub/sumdbnote.errInvalidSigner", "bytes.ErrTooLarge", "unicode/utf8.first", "unicode/utf8.acceptRanges", "unicode.White_Space", "loop.example/pub-notesandsignatures/pub/sumdbnote.errMismatchedVerifier"], ifaces := true, plainKeys := false, apart := false, laid := [("unicode/utf8.acceptRanges", laid_unicode_utf8_acceptRanges), ("unicode.White_Space", laid_unicode_White_Space), ("bytes.ErrTooLarge", laid_bytes_ErrTooLarge), ("loop.example/pub-notesandsignatures/pub/sumdbnote.errMalformedNote", laid_loop_example_pub_notesandsignatures_pub_sumdbnote_errMalformedNote), ("loop.example/pub-notesandsignatures/pub/sumdbnote.errInvalidSigner", laid_loop_example_pub_notesandsignatures_pub_sumdbnote_errInvalidSigner), ("loop.example/pub-notesandsignatures/pub/sumdbnote.errMismatchedVerifier", laid_loop_example_pub_notesandsignatures_pub_sumdbnote_errMismatchedVerifier), ("unicode/utf8.first", laid_unicode_utf8_first)], narrowed := true }
def FnSignOpenUptoSaid : Prop := fnSignOpenUptoRow.holds Tryd.pinned (OpenSpec.upto fnSignOpenSpec)

/-- 'laws.FnSomeKnown', WHERE WHAT IT READS IS OF BULK AT MOST 1048576: true; the input reads as it did. -/
def fnSomeKnownUptoRow : OpenClaim := { program := "ytnnbhklkakhkkaadoor", sum := "c224990dc57c5f3e6b22365e792940faf31ccc9f06db947c98dd9b3c30666426", func := "loop.example/pub-notesandsignatures/laws.FnSomeKnown", spec := "fnSomeKnown", inPlace := ["internal/bytealg.IndexByte"], unfollowed := true, recurses := true, named := ["loop.example/pub-notesandsignatures/pub/sumdbnote.errMalformedNote", "loop.example/pub-notesandsignatures/pub/sumdbnote.errInvalidSigner", "bytes.ErrTooLarge", "unicode/utf8.first", "unicode/utf8.acceptRanges", "unicode.White_Space", "loop.example/pub-notesandsignatures/pub/sumdbnote.errMismatchedVerifier"], ifaces := true, plainKeys := false, apart := false, laid := [("unicode/utf8.acceptRanges", laid_unicode_utf8_acceptRanges), ("unicode.White_Space", laid_unicode_White_Space), ("bytes.ErrTooLarge", laid_bytes_ErrTooLarge), ("loop.example/pub-notesandsignatures/pub/sumdbnote.errMalformedNote", laid_loop_example_pub_notesandsignatures_pub_sumdbnote_errMalformedNote), ("loop.example/pub-notesandsignatures/pub/sumdbnote.errInvalidSigner", laid_loop_example_pub_notesandsignatures_pub_sumdbnote_errInvalidSigner), ("loop.example/pub-notesandsignatures/pub/sumdbnote.errMismatchedVerifier", laid_loop_example_pub_notesandsignatures_pub_sumdbnote_errMismatchedVerifier), ("unicode/utf8.first", laid_unicode_utf8_first)], narrowed := true }
def FnSomeKnownUptoSaid : Prop := fnSomeKnownUptoRow.holds Tryd.pinned (OpenSpec.upto fnSomeKnownSpec)

end Rows
end Go.Proofs.YtnnbhklkakhkkaaDoor

/-
  DERIVED. GIVEN WITH THE SEED: THE CARDS: each row of YtnnbhklkakhkkaaDoorRows.lean that lists a variable, with what it lists TIED to the program's text (the seventh form; the later family's looks); each row that meets fmt, with fmt's text TOLD by the authors' own Lean function (tested against real Go, not proved from fmt's source: count such statements apart). THE CARD IS WHAT COUNTS. Prove the row's statement (the work); the ties are given (YtnnbhklkakhkkaaDoorTie.lean); close each card by the builder's one call (the guide's Derived/Test/ToyasCard.lean, 'card_holds'). Laid BY PROGRAM, IN A SANDBOX (cutbox-door.mjs). By AI agents, Wed Nov 11 2026. No macro, syntax, notation, axiom, sorry.
-/
import Derived.Test.YtnnbhklkakhkkaaDoorRows
import GoSem.ClaimSeven
namespace Go.Proofs.YtnnbhklkakhkkaaDoor
namespace Rows

/-- THE TIED CARD OF 'laws.FnName'. -/
def fnNameCard : Claim7 := { stood := { row := fnNameRow, standIns := [], harness := (true, "b7a1a7df22129503cbaa07513f4d33b532c0d70b6fd5e01f90f5a5374bd6623b"), looks := true }, kinds := [], alts := [], laidByText := true, laidKinds := [.data, .listed, .pinned], laidTests := true, laidLooks := .later }
def FnNameCardSaid : Prop := Claim7.holds Tryd.pinned (.plain (OpenSpec.ofChange fnNameSpec)) fnNameCard

/-- THE TIED CARD OF 'laws.FnRefuse'. -/
def fnRefuseCard : Claim7 := { stood := { row := fnRefuseRow, standIns := [], harness := (true, "b7a1a7df22129503cbaa07513f4d33b532c0d70b6fd5e01f90f5a5374bd6623b"), looks := true }, kinds := [], alts := [], laidByText := true, laidKinds := [.data, .listed, .sentinel, .sentinel, .sentinel, .pinned], laidTests := true, laidLooks := .later }
def FnRefuseCardSaid : Prop := Claim7.holds Tryd.pinned (.plain (OpenSpec.ofChange fnRefuseSpec)) fnRefuseCard

/-- THE TIED CARD OF 'laws.FnSign'. -/
def fnSignCard : Claim7 := { stood := { row := fnSignRow, standIns := [], harness := (true, "b7a1a7df22129503cbaa07513f4d33b532c0d70b6fd5e01f90f5a5374bd6623b"), looks := true }, kinds := [], alts := [], laidByText := true, laidKinds := [.data, .listed, .sentinel, .sentinel, .sentinel, .pinned], laidTests := true, laidLooks := .later }
def FnSignCardSaid : Prop := Claim7.holds Tryd.pinned (.plain (OpenSpec.ofChange fnSignSpec)) fnSignCard

/-- THE TIED CARD OF 'laws.FnNoKeys'. -/
def fnNoKeysCard : Claim7 := { stood := { row := fnNoKeysRow, standIns := [], harness := (true, "b7a1a7df22129503cbaa07513f4d33b532c0d70b6fd5e01f90f5a5374bd6623b"), looks := true }, kinds := [], alts := [], laidByText := true, laidKinds := [.data, .listed, .sentinel, .sentinel, .pinned], laidTests := true, laidLooks := .later }
def FnNoKeysCardSaid : Prop := Claim7.holds Tryd.pinned (.plain (OpenSpec.ofChange fnNoKeysSpec)) fnNoKeysCard

/-- THE TIED CARD OF 'laws.FnOther'. -/
def fnOtherCard : Claim7 := { stood := { row := fnOtherRow, standIns := [], harness := (true, "b7a1a7df22129503cbaa07513f4d33b532c0d70b6fd5e01f90f5a5374bd6623b"), looks := true }, kinds := [], alts := [], laidByText := true, laidKinds := [.data, .listed, .sentinel, .sentinel, .sentinel, .sentinel, .pinned], laidTests := true, laidLooks := .later }
def FnOtherCardSaid : Prop := Claim7.holds Tryd.pinned (.plain (OpenSpec.ofChange fnOtherSpec)) fnOtherCard

/-- THE TIED CARD OF 'laws.FnSignOpen'. -/
def fnSignOpenCard : Claim7 := { stood := { row := fnSignOpenRow, standIns := [], harness := (true, "b7a1a7df22129503cbaa07513f4d33b532c0d70b6fd5e01f90f5a5374bd6623b"), looks := true }, kinds := [], alts := [], laidByText := true, laidKinds := [.data, .listed, .sentinel, .sentinel, .sentinel, .sentinel, .pinned], laidTests := true, laidLooks := .later }
def FnSignOpenCardSaid : Prop := Claim7.holds Tryd.pinned (.plain (OpenSpec.ofChange fnSignOpenSpec)) fnSignOpenCard

/-- THE TIED CARD OF 'laws.FnSomeKnown'. -/
def fnSomeKnownCard : Claim7 := { stood := { row := fnSomeKnownRow, standIns := [], harness := (true, "b7a1a7df22129503cbaa07513f4d33b532c0d70b6fd5e01f90f5a5374bd6623b"), looks := true }, kinds := [], alts := [], laidByText := true, laidKinds := [.data, .listed, .sentinel, .sentinel, .sentinel, .sentinel, .pinned], laidTests := true, laidLooks := .later }
def FnSomeKnownCardSaid : Prop := Claim7.holds Tryd.pinned (.plain (OpenSpec.ofChange fnSomeKnownSpec)) fnSomeKnownCard

/-- THE SECOND FORM's CARD OF 'laws.FnName'. -/
def fnNameUptoCard : Claim7 := { stood := { row := fnNameUptoRow, standIns := [], harness := (true, "b7a1a7df22129503cbaa07513f4d33b532c0d70b6fd5e01f90f5a5374bd6623b"), looks := true }, kinds := [], alts := [], laidByText := true, laidKinds := [.data, .listed, .pinned], laidTests := true, laidLooks := .later }
def FnNameUptoCardSaid : Prop := Claim7.holds Tryd.pinned (.plain (OpenSpec.upto fnNameSpec)) fnNameUptoCard

/-- THE SECOND FORM's CARD OF 'laws.FnRefuse'. -/
def fnRefuseUptoCard : Claim7 := { stood := { row := fnRefuseUptoRow, standIns := [], harness := (true, "b7a1a7df22129503cbaa07513f4d33b532c0d70b6fd5e01f90f5a5374bd6623b"), looks := true }, kinds := [], alts := [], laidByText := true, laidKinds := [.data, .listed, .sentinel, .sentinel, .sentinel, .pinned], laidTests := true, laidLooks := .later }
def FnRefuseUptoCardSaid : Prop := Claim7.holds Tryd.pinned (.plain (OpenSpec.upto fnRefuseSpec)) fnRefuseUptoCard

/-- THE SECOND FORM's CARD OF 'laws.FnSign'. -/
def fnSignUptoCard : Claim7 := { stood := { row := fnSignUptoRow, standIns := [], harness := (true, "b7a1a7df22129503cbaa07513f4d33b532c0d70b6fd5e01f90f5a5374bd6623b"), looks := true }, kinds := [], alts := [], laidByText := true, laidKinds := [.data, .listed, .sentinel, .sentinel, .sentinel, .pinned], laidTests := true, laidLooks := .later }
def FnSignUptoCardSaid : Prop := Claim7.holds Tryd.pinned (.plain (OpenSpec.upto fnSignSpec)) fnSignUptoCard

/-- THE SECOND FORM's CARD OF 'laws.FnNoKeys'. -/
def fnNoKeysUptoCard : Claim7 := { stood := { row := fnNoKeysUptoRow, standIns := [], harness := (true, "b7a1a7df22129503cbaa07513f4d33b532c0d70b6fd5e01f90f5a5374bd6623b"), looks := true }, kinds := [], alts := [], laidByText := true, laidKinds := [.data, .listed, .sentinel, .sentinel, .pinned], laidTests := true, laidLooks := .later }
def FnNoKeysUptoCardSaid : Prop := Claim7.holds Tryd.pinned (.plain (OpenSpec.upto fnNoKeysSpec)) fnNoKeysUptoCard

/-- THE SECOND FORM's CARD OF 'laws.FnOther'. -/
def fnOtherUptoCard : Claim7 := { stood := { row := fnOtherUptoRow, standIns := [], harness := (true, "b7a1a7df22129503cbaa07513f4d33b532c0d70b6fd5e01f90f5a5374bd6623b"), looks := true }, kinds := [], alts := [], laidByText := true, laidKinds := [.data, .listed, .sentinel, .sentinel, .sentinel, .sentinel, .pinned], laidTests := true, laidLooks := .later }
def FnOtherUptoCardSaid : Prop := Claim7.holds Tryd.pinned (.plain (OpenSpec.upto fnOtherSpec)) fnOtherUptoCard

/-- THE SECOND FORM's CARD OF 'laws.FnSignOpen'. -/
def fnSignOpenUptoCard : Claim7 := { stood := { row := fnSignOpenUptoRow, standIns := [], harness := (true, "b7a1a7df22129503cbaa07513f4d33b532c0d70b6fd5e01f90f5a5374bd6623b"), looks := true }, kinds := [], alts := [], laidByText := true, laidKinds := [.data, .listed, .sentinel, .sentinel, .sentinel, .sentinel, .pinned], laidTests := true, laidLooks := .later }
def FnSignOpenUptoCardSaid : Prop := Claim7.holds Tryd.pinned (.plain (OpenSpec.upto fnSignOpenSpec)) fnSignOpenUptoCard

/-- THE SECOND FORM's CARD OF 'laws.FnSomeKnown'. -/
def fnSomeKnownUptoCard : Claim7 := { stood := { row := fnSomeKnownUptoRow, standIns := [], harness := (true, "b7a1a7df22129503cbaa07513f4d33b532c0d70b6fd5e01f90f5a5374bd6623b"), looks := true }, kinds := [], alts := [], laidByText := true, laidKinds := [.data, .listed, .sentinel, .sentinel, .sentinel, .sentinel, .pinned], laidTests := true, laidLooks := .later }
def FnSomeKnownUptoCardSaid : Prop := Claim7.holds Tryd.pinned (.plain (OpenSpec.upto fnSomeKnownSpec)) fnSomeKnownUptoCard
end Rows
end Go.Proofs.YtnnbhklkakhkkaaDoor

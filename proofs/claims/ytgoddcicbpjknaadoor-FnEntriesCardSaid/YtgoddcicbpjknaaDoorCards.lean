/-
  DERIVED. GIVEN WITH THE SEED: THE CARDS: each row of YtgoddcicbpjknaaDoorRows.lean that lists a variable, with what it lists TIED to the program's text (the seventh form; the later family's looks); each row that meets fmt, with fmt's text TOLD by the authors' own Lean function (tested against real Go, not proved from fmt's source: count such statements apart). THE CARD IS WHAT COUNTS. Prove the row's statement (the work); the ties are given (YtgoddcicbpjknaaDoorTie.lean); close each card by the builder's one call (the guide's Derived/Test/ToyasCard.lean, 'card_holds'). Laid BY PROGRAM, IN A SANDBOX (cutbox-door.mjs). By AI agents, Wed Nov 11 2026. No macro, syntax, notation, axiom, sorry.
-/
import Derived.Test.YtgoddcicbpjknaaDoorRows
import GoSem.ClaimSeven
namespace Go.Proofs.YtgoddcicbpjknaaDoor
namespace Rows

/-- THE TIED CARD OF 'laws.FnEntries'. -/
def fnEntriesCard : Claim7 := { stood := { row := fnEntriesRow, standIns := [], harness := (true, "2d2b19ffa7fb70aede073af579ac99d946c5be255717c8e3420607e2b7498134"), looks := true }, kinds := [], alts := [], laidByText := true, laidKinds := [.data], laidTests := true, laidLooks := .later }
def FnEntriesCardSaid : Prop := Claim7.holds Tryd.pinned (.plain (OpenSpec.ofChange fnEntriesSpec)) fnEntriesCard

/-- THE TIED CARD OF 'laws.FnInitial'. -/
def fnInitialCard : Claim7 := { stood := { row := fnInitialRow, standIns := [], harness := (true, "2d2b19ffa7fb70aede073af579ac99d946c5be255717c8e3420607e2b7498134"), looks := true }, kinds := [], alts := [], laidByText := true, laidKinds := [.data], laidTests := true, laidLooks := .later }
def FnInitialCardSaid : Prop := Claim7.holds Tryd.pinned (.plain (OpenSpec.ofChange fnInitialSpec)) fnInitialCard

/-- THE TIED CARD OF 'laws.FnLoop'. -/
def fnLoopCard : Claim7 := { stood := { row := fnLoopRow, standIns := [], harness := (true, "2d2b19ffa7fb70aede073af579ac99d946c5be255717c8e3420607e2b7498134"), looks := true }, kinds := [], alts := [], laidByText := true, laidKinds := [.data], laidTests := true, laidLooks := .later }
def FnLoopCardSaid : Prop := Claim7.holds Tryd.pinned (.plain (OpenSpec.ofChange fnLoopSpec)) fnLoopCard

/-- THE TIED CARD OF 'laws.FnSignature'. -/
def fnSignatureCard : Claim7 := { stood := { row := fnSignatureRow, standIns := [], harness := (true, "2d2b19ffa7fb70aede073af579ac99d946c5be255717c8e3420607e2b7498134"), looks := true }, kinds := [], alts := [], laidByText := true, laidKinds := [.data], laidTests := true, laidLooks := .later }
def FnSignatureCardSaid : Prop := Claim7.holds Tryd.pinned (.plain (OpenSpec.ofChange fnSignatureSpec)) fnSignatureCard

/-- THE TIED CARD OF 'laws.FnRead'. -/
def fnReadCard : Claim7 := { stood := { row := fnReadRow, standIns := [], harness := (true, "2d2b19ffa7fb70aede073af579ac99d946c5be255717c8e3420607e2b7498134"), looks := true }, kinds := [], alts := [], laidByText := true, laidKinds := [.sentinel, .data], laidTests := true, laidLooks := .later }
def FnReadCardSaid : Prop := Claim7.holds Tryd.pinned (.plain (OpenSpec.ofChange fnReadSpec)) fnReadCard

/-- THE TIED CARD OF 'laws.FnReadAt'. -/
def fnReadAtCard : Claim7 := { stood := { row := fnReadAtRow, standIns := [], harness := (true, "2d2b19ffa7fb70aede073af579ac99d946c5be255717c8e3420607e2b7498134"), looks := true }, kinds := [], alts := [], laidByText := true, laidKinds := [.sentinel, .data], laidTests := true, laidLooks := .later }
def FnReadAtCardSaid : Prop := Claim7.holds Tryd.pinned (.plain (OpenSpec.ofChange fnReadAtSpec)) fnReadAtCard

/-- THE TIED CARD OF 'laws.FnSeek'. -/
def fnSeekCard : Claim7 := { stood := { row := fnSeekRow, standIns := [], harness := (true, "2d2b19ffa7fb70aede073af579ac99d946c5be255717c8e3420607e2b7498134"), looks := true }, kinds := [], alts := [], laidByText := true, laidKinds := [.sentinel, .data], laidTests := true, laidLooks := .later }
def FnSeekCardSaid : Prop := Claim7.holds Tryd.pinned (.plain (OpenSpec.ofChange fnSeekSpec)) fnSeekCard

/-- THE TIED CARD OF 'laws.FnWrite'. -/
def fnWriteCard : Claim7 := { stood := { row := fnWriteRow, standIns := [], harness := (true, "2d2b19ffa7fb70aede073af579ac99d946c5be255717c8e3420607e2b7498134"), looks := true }, kinds := [], alts := [], laidByText := true, laidKinds := [.sentinel, .data], laidTests := true, laidLooks := .later }
def FnWriteCardSaid : Prop := Claim7.holds Tryd.pinned (.plain (OpenSpec.ofChange fnWriteSpec)) fnWriteCard

/-- THE TIED CARD OF 'laws.FnCut'. -/
def fnCutCard : Claim7 := { stood := { row := fnCutRow, standIns := [], harness := (true, "2d2b19ffa7fb70aede073af579ac99d946c5be255717c8e3420607e2b7498134"), looks := true }, kinds := [], alts := [], laidByText := true, laidKinds := [.sentinel, .data], laidTests := true, laidLooks := .later }
def FnCutCardSaid : Prop := Claim7.holds Tryd.pinned (.plain (OpenSpec.ofChange fnCutSpec)) fnCutCard

/-- THE TIED CARD OF 'laws.FnStorage'. -/
def fnStorageCard : Claim7 := { stood := { row := fnStorageRow, standIns := [], harness := (true, "2d2b19ffa7fb70aede073af579ac99d946c5be255717c8e3420607e2b7498134"), looks := true }, kinds := [], alts := [], laidByText := true, laidKinds := [.sentinel, .data], laidTests := true, laidLooks := .later }
def FnStorageCardSaid : Prop := Claim7.holds Tryd.pinned (.plain (OpenSpec.ofChange fnStorageSpec)) fnStorageCard

/-- THE SECOND FORM's CARD OF 'laws.FnEntries'. -/
def fnEntriesUptoCard : Claim7 := { stood := { row := fnEntriesUptoRow, standIns := [], harness := (true, "2d2b19ffa7fb70aede073af579ac99d946c5be255717c8e3420607e2b7498134"), looks := true }, kinds := [], alts := [], laidByText := true, laidKinds := [.data], laidTests := true, laidLooks := .later }
def FnEntriesUptoCardSaid : Prop := Claim7.holds Tryd.pinned (.plain (OpenSpec.upto fnEntriesSpec)) fnEntriesUptoCard

/-- THE SECOND FORM's CARD OF 'laws.FnInitial'. -/
def fnInitialUptoCard : Claim7 := { stood := { row := fnInitialUptoRow, standIns := [], harness := (true, "2d2b19ffa7fb70aede073af579ac99d946c5be255717c8e3420607e2b7498134"), looks := true }, kinds := [], alts := [], laidByText := true, laidKinds := [.data], laidTests := true, laidLooks := .later }
def FnInitialUptoCardSaid : Prop := Claim7.holds Tryd.pinned (.plain (OpenSpec.upto fnInitialSpec)) fnInitialUptoCard

/-- THE SECOND FORM's CARD OF 'laws.FnLoop'. -/
def fnLoopUptoCard : Claim7 := { stood := { row := fnLoopUptoRow, standIns := [], harness := (true, "2d2b19ffa7fb70aede073af579ac99d946c5be255717c8e3420607e2b7498134"), looks := true }, kinds := [], alts := [], laidByText := true, laidKinds := [.data], laidTests := true, laidLooks := .later }
def FnLoopUptoCardSaid : Prop := Claim7.holds Tryd.pinned (.plain (OpenSpec.upto fnLoopSpec)) fnLoopUptoCard

/-- THE SECOND FORM's CARD OF 'laws.FnSignature'. -/
def fnSignatureUptoCard : Claim7 := { stood := { row := fnSignatureUptoRow, standIns := [], harness := (true, "2d2b19ffa7fb70aede073af579ac99d946c5be255717c8e3420607e2b7498134"), looks := true }, kinds := [], alts := [], laidByText := true, laidKinds := [.data], laidTests := true, laidLooks := .later }
def FnSignatureUptoCardSaid : Prop := Claim7.holds Tryd.pinned (.plain (OpenSpec.upto fnSignatureSpec)) fnSignatureUptoCard

/-- THE SECOND FORM's CARD OF 'laws.FnRead'. -/
def fnReadUptoCard : Claim7 := { stood := { row := fnReadUptoRow, standIns := [], harness := (true, "2d2b19ffa7fb70aede073af579ac99d946c5be255717c8e3420607e2b7498134"), looks := true }, kinds := [], alts := [], laidByText := true, laidKinds := [.sentinel, .data], laidTests := true, laidLooks := .later }
def FnReadUptoCardSaid : Prop := Claim7.holds Tryd.pinned (.plain (OpenSpec.upto fnReadSpec)) fnReadUptoCard

/-- THE SECOND FORM's CARD OF 'laws.FnReadAt'. -/
def fnReadAtUptoCard : Claim7 := { stood := { row := fnReadAtUptoRow, standIns := [], harness := (true, "2d2b19ffa7fb70aede073af579ac99d946c5be255717c8e3420607e2b7498134"), looks := true }, kinds := [], alts := [], laidByText := true, laidKinds := [.sentinel, .data], laidTests := true, laidLooks := .later }
def FnReadAtUptoCardSaid : Prop := Claim7.holds Tryd.pinned (.plain (OpenSpec.upto fnReadAtSpec)) fnReadAtUptoCard

/-- THE SECOND FORM's CARD OF 'laws.FnSeek'. -/
def fnSeekUptoCard : Claim7 := { stood := { row := fnSeekUptoRow, standIns := [], harness := (true, "2d2b19ffa7fb70aede073af579ac99d946c5be255717c8e3420607e2b7498134"), looks := true }, kinds := [], alts := [], laidByText := true, laidKinds := [.sentinel, .data], laidTests := true, laidLooks := .later }
def FnSeekUptoCardSaid : Prop := Claim7.holds Tryd.pinned (.plain (OpenSpec.upto fnSeekSpec)) fnSeekUptoCard

/-- THE SECOND FORM's CARD OF 'laws.FnCut'. -/
def fnCutUptoCard : Claim7 := { stood := { row := fnCutUptoRow, standIns := [], harness := (true, "2d2b19ffa7fb70aede073af579ac99d946c5be255717c8e3420607e2b7498134"), looks := true }, kinds := [], alts := [], laidByText := true, laidKinds := [.sentinel, .data], laidTests := true, laidLooks := .later }
def FnCutUptoCardSaid : Prop := Claim7.holds Tryd.pinned (.plain (OpenSpec.upto fnCutSpec)) fnCutUptoCard
end Rows
end Go.Proofs.YtgoddcicbpjknaaDoor

/-
  NARROWER THAN 'FOR EVERY INPUT', by the rows' own cells (each row's printed sentence says how): FnEntries: laid · FnInitial: laid · FnLoop: laid · FnSignature: laid · FnRead: laid · FnReadAt: laid · FnSeek: laid · FnWrite: calm, laid · FnCut: laid · FnStorage: calm, laid.
  DERIVED. THE GIVEN ROWS OF THIS SEAT. 10 by the template 'for every input the law returns true; each argument reads behind the call as it read before'; 0 by the template 'total and deterministic' (their statements: YtgoddcicbpjknaaDoorTotals.lean).
  GIVEN WITH THE SEED: the statements are not yours to turn. If you find one false, say at which input.
  Laid BY PROGRAM, IN A SANDBOX (cutbox-rows.mjs): the forced cells as the released guide's own fill.sh prints them over the translation 6a91933512541b22… (all of the seat's roots in one cut). By AI agents, Wed Nov 11 2026. No macro, syntax, notation, axiom, sorry.
-/
import Derived.Test.YtgoddcicbpjknaaDoorChecked
import GoSem.Claim
import GoSem.ClaimJoined
import GoSem.ClaimMapViews
import Derived.JoinedTies
import Derived.KernelRfl
namespace Go.Proofs.YtgoddcicbpjknaaDoor
/- THE CELL 'sum', in the pinned program and in every row, IS THE sha256 OF THE DUMP (.gsa) THAT YtgoddcicbpjknaaDoorProg.lean LOADS. Nothing in Lean hashes anything: it is a label: what it is worth is what the hold of that sum in a sandbox is worth. -/
noncomputable def Tryd.pinned : Pinned := { name := "ytgoddcicbpjknaadoor", sum := "6a91933512541b2299165befce7229a05fb394fb7fa1005a5e5ea3fe9e365a18", checked := Tryd.checked }
namespace Rows
def none {H : Type} : Left H := { results := [], args := [] }

/- WHAT THE LISTED PACKAGE-LEVEL VARIABLES READ AS WHEN THE CALL BEGINS. Each datum BY PROGRAM (the guide's laid-datum.mjs) off the statement by which the dump's own 'gosem.cut.vars' lays the variable. In a bare row this is a premise. The card (YtgoddcicbpjknaaDoorCards.lean) ties it to the program's text. -/
def laid_unicode_properties {H : Type} : DataW H := .agg [.lit (.int .u8 1), .lit (.int .u8 1), .lit (.int .u8 1), .lit (.int .u8 1), .lit (.int .u8 1), .lit (.int .u8 1), .lit (.int .u8 1), .lit (.int .u8 1), .lit (.int .u8 1), .lit (.int .u8 1), .lit (.int .u8 1), .lit (.int .u8 1), .lit (.int .u8 1), .lit (.int .u8 1), .lit (.int .u8 1), .lit (.int .u8 1), .lit (.int .u8 1), .lit (.int .u8 1), .lit (.int .u8 1), .lit (.int .u8 1), .lit (.int .u8 1), .lit (.int .u8 1), .lit (.int .u8 1), .lit (.int .u8 1), .lit (.int .u8 1), .lit (.int .u8 1), .lit (.int .u8 1), .lit (.int .u8 1), .lit (.int .u8 1), .lit (.int .u8 1), .lit (.int .u8 1), .lit (.int .u8 1), .lit (.int .u8 144), .lit (.int .u8 130), .lit (.int .u8 130), .lit (.int .u8 130), .lit (.int .u8 136), .lit (.int .u8 130), .lit (.int .u8 130), .lit (.int .u8 130), .lit (.int .u8 130), .lit (.int .u8 130), .lit (.int .u8 130), .lit (.int .u8 136), .lit (.int .u8 130), .lit (.int .u8 130), .lit (.int .u8 130), .lit (.int .u8 130), .lit (.int .u8 132), .lit (.int .u8 132), .lit (.int .u8 132), .lit (.int .u8 132), .lit (.int .u8 132), .lit (.int .u8 132), .lit (.int .u8 132), .lit (.int .u8 132), .lit (.int .u8 132), .lit (.int .u8 132), .lit (.int .u8 130), .lit (.int .u8 130), .lit (.int .u8 136), .lit (.int .u8 136), .lit (.int .u8 136), .lit (.int .u8 130), .lit (.int .u8 130), .lit (.int .u8 160), .lit (.int .u8 160), .lit (.int .u8 160), .lit (.int .u8 160), .lit (.int .u8 160), .lit (.int .u8 160), .lit (.int .u8 160), .lit (.int .u8 160), .lit (.int .u8 160), .lit (.int .u8 160), .lit (.int .u8 160), .lit (.int .u8 160), .lit (.int .u8 160), .lit (.int .u8 160), .lit (.int .u8 160), .lit (.int .u8 160), .lit (.int .u8 160), .lit (.int .u8 160), .lit (.int .u8 160), .lit (.int .u8 160), .lit (.int .u8 160), .lit (.int .u8 160), .lit (.int .u8 160), .lit (.int .u8 160), .lit (.int .u8 160), .lit (.int .u8 160), .lit (.int .u8 130), .lit (.int .u8 130), .lit (.int .u8 130), .lit (.int .u8 136), .lit (.int .u8 130), .lit (.int .u8 136), .lit (.int .u8 192), .lit (.int .u8 192), .lit (.int .u8 192), .lit (.int .u8 192), .lit (.int .u8 192), .lit (.int .u8 192), .lit (.int .u8 192), .lit (.int .u8 192), .lit (.int .u8 192), .lit (.int .u8 192), .lit (.int .u8 192), .lit (.int .u8 192), .lit (.int .u8 192), .lit (.int .u8 192), .lit (.int .u8 192), .lit (.int .u8 192), .lit (.int .u8 192), .lit (.int .u8 192), .lit (.int .u8 192), .lit (.int .u8 192), .lit (.int .u8 192), .lit (.int .u8 192), .lit (.int .u8 192), .lit (.int .u8 192), .lit (.int .u8 192), .lit (.int .u8 192), .lit (.int .u8 130), .lit (.int .u8 136), .lit (.int .u8 130), .lit (.int .u8 136), .lit (.int .u8 1), .lit (.int .u8 1), .lit (.int .u8 1), .lit (.int .u8 1), .lit (.int .u8 1), .lit (.int .u8 1), .lit (.int .u8 1), .lit (.int .u8 1), .lit (.int .u8 1), .lit (.int .u8 1), .lit (.int .u8 1), .lit (.int .u8 1), .lit (.int .u8 1), .lit (.int .u8 1), .lit (.int .u8 1), .lit (.int .u8 1), .lit (.int .u8 1), .lit (.int .u8 1), .lit (.int .u8 1), .lit (.int .u8 1), .lit (.int .u8 1), .lit (.int .u8 1), .lit (.int .u8 1), .lit (.int .u8 1), .lit (.int .u8 1), .lit (.int .u8 1), .lit (.int .u8 1), .lit (.int .u8 1), .lit (.int .u8 1), .lit (.int .u8 1), .lit (.int .u8 1), .lit (.int .u8 1), .lit (.int .u8 1), .lit (.int .u8 16), .lit (.int .u8 130), .lit (.int .u8 136), .lit (.int .u8 136), .lit (.int .u8 136), .lit (.int .u8 136), .lit (.int .u8 136), .lit (.int .u8 130), .lit (.int .u8 136), .lit (.int .u8 136), .lit (.int .u8 224), .lit (.int .u8 130), .lit (.int .u8 136), .lit (.int .u8 0), .lit (.int .u8 136), .lit (.int .u8 136), .lit (.int .u8 136), .lit (.int .u8 136), .lit (.int .u8 132), .lit (.int .u8 132), .lit (.int .u8 136), .lit (.int .u8 192), .lit (.int .u8 130), .lit (.int .u8 130), .lit (.int .u8 136), .lit (.int .u8 132), .lit (.int .u8 224), .lit (.int .u8 130), .lit (.int .u8 132), .lit (.int .u8 132), .lit (.int .u8 132), .lit (.int .u8 130), .lit (.int .u8 160), .lit (.int .u8 160), .lit (.int .u8 160), .lit (.int .u8 160), .lit (.int .u8 160), .lit (.int .u8 160), .lit (.int .u8 160), .lit (.int .u8 160), .lit (.int .u8 160), .lit (.int .u8 160), .lit (.int .u8 160), .lit (.int .u8 160), .lit (.int .u8 160), .lit (.int .u8 160), .lit (.int .u8 160), .lit (.int .u8 160), .lit (.int .u8 160), .lit (.int .u8 160), .lit (.int .u8 160), .lit (.int .u8 160), .lit (.int .u8 160), .lit (.int .u8 160), .lit (.int .u8 160), .lit (.int .u8 136), .lit (.int .u8 160), .lit (.int .u8 160), .lit (.int .u8 160), .lit (.int .u8 160), .lit (.int .u8 160), .lit (.int .u8 160), .lit (.int .u8 160), .lit (.int .u8 192), .lit (.int .u8 192), .lit (.int .u8 192), .lit (.int .u8 192), .lit (.int .u8 192), .lit (.int .u8 192), .lit (.int .u8 192), .lit (.int .u8 192), .lit (.int .u8 192), .lit (.int .u8 192), .lit (.int .u8 192), .lit (.int .u8 192), .lit (.int .u8 192), .lit (.int .u8 192), .lit (.int .u8 192), .lit (.int .u8 192), .lit (.int .u8 192), .lit (.int .u8 192), .lit (.int .u8 192), .lit (.int .u8 192), .lit (.int .u8 192), .lit (.int .u8 192), .lit (.int .u8 192), .lit (.int .u8 192), .lit (.int .u8 136), .lit (.int .u8 192), .lit (.int .u8 192), .lit (.int .u8 192), .lit (.int .u8 192), .lit (.int .u8 192), .lit (.int .u8 192), .lit (.int .u8 192), .lit (.int .u8 192)]
def laid_io_EOF {H : Type} : DataW H := .iface "*errors.errorString" (.ptr (.agg [.lit (.string [69, 79, 70])]))

/-- 'laws.FnEntries': WHATEVER THE INPUT: true; the input reads as it did. -/
def fnEntriesSpec : ChangeSpec := { name := "fnEntries", fn := fun _ => fun
  | [d1, d2, d3, d4] => { results := [.lit (.bool true)], args := [d1, d2, d3, d4] }
  | _ => none }
def fnEntriesRow : OpenClaim := { program := "ytgoddcicbpjknaadoor", sum := "6a91933512541b2299165befce7229a05fb394fb7fa1005a5e5ea3fe9e365a18", func := "loop.example/pub-g03453/laws.FnEntries", spec := "fnEntries", unfollowed := true, recurses := true, named := ["encoding/binary.LittleEndian", "unicode.properties", "unicode.PrintRanges"], apart := false, laid := [("unicode.properties", laid_unicode_properties)] }
def FnEntriesSaid : Prop := fnEntriesRow.holds Tryd.pinned (OpenSpec.ofChange fnEntriesSpec)

/-- ITS FALSE NEIGHBOUR: 'it returns false'. Refute it at one input. -/
def fnEntriesWrong : ChangeSpec := { name := "fnEntries", fn := fun _ => fun
  | [d1, d2, d3, d4] => { results := [.lit (.bool false)], args := [d1, d2, d3, d4] }
  | _ => none }
def FnEntriesWrongFalsely : Prop := fnEntriesRow.holds Tryd.pinned (OpenSpec.ofChange fnEntriesWrong)

/-- 'laws.FnInitial': WHATEVER THE INPUT: true; the input reads as it did. -/
def fnInitialSpec : ChangeSpec := { name := "fnInitial", fn := fun _ => fun
  | [d1, d2, d3] => { results := [.lit (.bool true)], args := [d1, d2, d3] }
  | _ => none }
def fnInitialRow : OpenClaim := { program := "ytgoddcicbpjknaadoor", sum := "6a91933512541b2299165befce7229a05fb394fb7fa1005a5e5ea3fe9e365a18", func := "loop.example/pub-g03453/laws.FnInitial", spec := "fnInitial", unfollowed := true, recurses := true, named := ["encoding/binary.LittleEndian", "unicode.properties", "unicode.PrintRanges"], apart := false, laid := [("unicode.properties", laid_unicode_properties)] }
def FnInitialSaid : Prop := fnInitialRow.holds Tryd.pinned (OpenSpec.ofChange fnInitialSpec)

/-- ITS FALSE NEIGHBOUR: 'it returns false'. Refute it at one input. -/
def fnInitialWrong : ChangeSpec := { name := "fnInitial", fn := fun _ => fun
  | [d1, d2, d3] => { results := [.lit (.bool false)], args := [d1, d2, d3] }
  | _ => none }
def FnInitialWrongFalsely : Prop := fnInitialRow.holds Tryd.pinned (OpenSpec.ofChange fnInitialWrong)

/-- 'laws.FnLoop': WHATEVER THE INPUT: true; the input reads as it did. -/
def fnLoopSpec : ChangeSpec := { name := "fnLoop", fn := fun _ => fun
  | [d1, d2, d3, d4, d5] => { results := [.lit (.bool true)], args := [d1, d2, d3, d4, d5] }
  | _ => none }
def fnLoopRow : OpenClaim := { program := "ytgoddcicbpjknaadoor", sum := "6a91933512541b2299165befce7229a05fb394fb7fa1005a5e5ea3fe9e365a18", func := "loop.example/pub-g03453/laws.FnLoop", spec := "fnLoop", unfollowed := true, recurses := true, named := ["encoding/binary.LittleEndian", "unicode.properties", "unicode.PrintRanges"], apart := false, laid := [("unicode.properties", laid_unicode_properties)] }
def FnLoopSaid : Prop := fnLoopRow.holds Tryd.pinned (OpenSpec.ofChange fnLoopSpec)

/-- ITS FALSE NEIGHBOUR: 'it returns false'. Refute it at one input. -/
def fnLoopWrong : ChangeSpec := { name := "fnLoop", fn := fun _ => fun
  | [d1, d2, d3, d4, d5] => { results := [.lit (.bool false)], args := [d1, d2, d3, d4, d5] }
  | _ => none }
def FnLoopWrongFalsely : Prop := fnLoopRow.holds Tryd.pinned (OpenSpec.ofChange fnLoopWrong)

/-- 'laws.FnSignature': WHATEVER THE INPUT: true; the input reads as it did. -/
def fnSignatureSpec : ChangeSpec := { name := "fnSignature", fn := fun _ => fun
  | [d1, d2, d3, d4, d5] => { results := [.lit (.bool true)], args := [d1, d2, d3, d4, d5] }
  | _ => none }
def fnSignatureRow : OpenClaim := { program := "ytgoddcicbpjknaadoor", sum := "6a91933512541b2299165befce7229a05fb394fb7fa1005a5e5ea3fe9e365a18", func := "loop.example/pub-g03453/laws.FnSignature", spec := "fnSignature", unfollowed := true, recurses := true, named := ["encoding/binary.LittleEndian", "unicode.properties", "unicode.PrintRanges"], apart := false, laid := [("unicode.properties", laid_unicode_properties)] }
def FnSignatureSaid : Prop := fnSignatureRow.holds Tryd.pinned (OpenSpec.ofChange fnSignatureSpec)

/-- ITS FALSE NEIGHBOUR: 'it returns false'. Refute it at one input. -/
def fnSignatureWrong : ChangeSpec := { name := "fnSignature", fn := fun _ => fun
  | [d1, d2, d3, d4, d5] => { results := [.lit (.bool false)], args := [d1, d2, d3, d4, d5] }
  | _ => none }
def FnSignatureWrongFalsely : Prop := fnSignatureRow.holds Tryd.pinned (OpenSpec.ofChange fnSignatureWrong)

/-- 'laws.FnRead': WHATEVER THE INPUT: true; the input reads as it did. -/
def fnReadSpec : ChangeSpec := { name := "fnRead", fn := fun _ => fun
  | [d1, d2, d3, d4, d5, d6] => { results := [.lit (.bool true)], args := [d1, d2, d3, d4, d5, d6] }
  | _ => none }
def fnReadRow : OpenClaim := { program := "ytgoddcicbpjknaadoor", sum := "6a91933512541b2299165befce7229a05fb394fb7fa1005a5e5ea3fe9e365a18", func := "loop.example/pub-g03453/laws.FnRead", spec := "fnRead", unfollowed := true, recurses := true, named := ["encoding/binary.LittleEndian", "unicode.properties", "unicode.PrintRanges", "io.EOF"], apart := false, laid := [("io.EOF", laid_io_EOF), ("unicode.properties", laid_unicode_properties)] }
def FnReadSaid : Prop := fnReadRow.holds Tryd.pinned (OpenSpec.ofChange fnReadSpec)

/-- ITS FALSE NEIGHBOUR: 'it returns false'. Refute it at one input. -/
def fnReadWrong : ChangeSpec := { name := "fnRead", fn := fun _ => fun
  | [d1, d2, d3, d4, d5, d6] => { results := [.lit (.bool false)], args := [d1, d2, d3, d4, d5, d6] }
  | _ => none }
def FnReadWrongFalsely : Prop := fnReadRow.holds Tryd.pinned (OpenSpec.ofChange fnReadWrong)

/-- 'laws.FnReadAt': WHATEVER THE INPUT: true; the input reads as it did. -/
def fnReadAtSpec : ChangeSpec := { name := "fnReadAt", fn := fun _ => fun
  | [d1, d2, d3, d4, d5, d6] => { results := [.lit (.bool true)], args := [d1, d2, d3, d4, d5, d6] }
  | _ => none }
def fnReadAtRow : OpenClaim := { program := "ytgoddcicbpjknaadoor", sum := "6a91933512541b2299165befce7229a05fb394fb7fa1005a5e5ea3fe9e365a18", func := "loop.example/pub-g03453/laws.FnReadAt", spec := "fnReadAt", unfollowed := true, recurses := true, named := ["encoding/binary.LittleEndian", "unicode.properties", "unicode.PrintRanges", "io.EOF"], apart := false, laid := [("io.EOF", laid_io_EOF), ("unicode.properties", laid_unicode_properties)] }
def FnReadAtSaid : Prop := fnReadAtRow.holds Tryd.pinned (OpenSpec.ofChange fnReadAtSpec)

/-- ITS FALSE NEIGHBOUR: 'it returns false'. Refute it at one input. -/
def fnReadAtWrong : ChangeSpec := { name := "fnReadAt", fn := fun _ => fun
  | [d1, d2, d3, d4, d5, d6] => { results := [.lit (.bool false)], args := [d1, d2, d3, d4, d5, d6] }
  | _ => none }
def FnReadAtWrongFalsely : Prop := fnReadAtRow.holds Tryd.pinned (OpenSpec.ofChange fnReadAtWrong)

/-- 'laws.FnSeek': WHATEVER THE INPUT: true; the input reads as it did. -/
def fnSeekSpec : ChangeSpec := { name := "fnSeek", fn := fun _ => fun
  | [d1, d2, d3, d4, d5, d6] => { results := [.lit (.bool true)], args := [d1, d2, d3, d4, d5, d6] }
  | _ => none }
def fnSeekRow : OpenClaim := { program := "ytgoddcicbpjknaadoor", sum := "6a91933512541b2299165befce7229a05fb394fb7fa1005a5e5ea3fe9e365a18", func := "loop.example/pub-g03453/laws.FnSeek", spec := "fnSeek", unfollowed := true, recurses := true, named := ["encoding/binary.LittleEndian", "unicode.properties", "unicode.PrintRanges", "io.EOF"], apart := false, laid := [("io.EOF", laid_io_EOF), ("unicode.properties", laid_unicode_properties)] }
def FnSeekSaid : Prop := fnSeekRow.holds Tryd.pinned (OpenSpec.ofChange fnSeekSpec)

/-- ITS FALSE NEIGHBOUR: 'it returns false'. Refute it at one input. -/
def fnSeekWrong : ChangeSpec := { name := "fnSeek", fn := fun _ => fun
  | [d1, d2, d3, d4, d5, d6] => { results := [.lit (.bool false)], args := [d1, d2, d3, d4, d5, d6] }
  | _ => none }
def FnSeekWrongFalsely : Prop := fnSeekRow.holds Tryd.pinned (OpenSpec.ofChange fnSeekWrong)

/-- 'laws.FnWrite': WHATEVER THE INPUT: true; the input reads as it did. -/
def fnWriteSpec : ChangeSpec := { name := "fnWrite", fn := fun _ => fun
  | [d1, d2, d3, d4, d5, d6, d7] => { results := [.lit (.bool true)], args := [d1, d2, d3, d4, d5, d6, d7] }
  | _ => none }
def fnWriteRow : OpenClaim := { program := "ytgoddcicbpjknaadoor", sum := "6a91933512541b2299165befce7229a05fb394fb7fa1005a5e5ea3fe9e365a18", func := "loop.example/pub-g03453/laws.FnWrite", spec := "fnWrite", unfollowed := true, recurses := true, named := ["encoding/binary.LittleEndian", "unicode.properties", "unicode.PrintRanges", "io.EOF"], apart := false, calm := true, outside := [.timePasses], laid := [("io.EOF", laid_io_EOF), ("unicode.properties", laid_unicode_properties)] }
def FnWriteSaid : Prop := fnWriteRow.holds Tryd.pinned (OpenSpec.ofChange fnWriteSpec)

/-- ITS FALSE NEIGHBOUR: 'it returns false'. Refute it at one input. -/
def fnWriteWrong : ChangeSpec := { name := "fnWrite", fn := fun _ => fun
  | [d1, d2, d3, d4, d5, d6, d7] => { results := [.lit (.bool false)], args := [d1, d2, d3, d4, d5, d6, d7] }
  | _ => none }
def FnWriteWrongFalsely : Prop := fnWriteRow.holds Tryd.pinned (OpenSpec.ofChange fnWriteWrong)

/-- 'laws.FnCut': WHATEVER THE INPUT: true; the input reads as it did. -/
def fnCutSpec : ChangeSpec := { name := "fnCut", fn := fun _ => fun
  | [d1, d2, d3, d4, d5, d6] => { results := [.lit (.bool true)], args := [d1, d2, d3, d4, d5, d6] }
  | _ => none }
def fnCutRow : OpenClaim := { program := "ytgoddcicbpjknaadoor", sum := "6a91933512541b2299165befce7229a05fb394fb7fa1005a5e5ea3fe9e365a18", func := "loop.example/pub-g03453/laws.FnCut", spec := "fnCut", unfollowed := true, recurses := true, named := ["encoding/binary.LittleEndian", "unicode.properties", "unicode.PrintRanges", "io.EOF"], apart := false, laid := [("io.EOF", laid_io_EOF), ("unicode.properties", laid_unicode_properties)] }
def FnCutSaid : Prop := fnCutRow.holds Tryd.pinned (OpenSpec.ofChange fnCutSpec)

/-- ITS FALSE NEIGHBOUR: 'it returns false'. Refute it at one input. -/
def fnCutWrong : ChangeSpec := { name := "fnCut", fn := fun _ => fun
  | [d1, d2, d3, d4, d5, d6] => { results := [.lit (.bool false)], args := [d1, d2, d3, d4, d5, d6] }
  | _ => none }
def FnCutWrongFalsely : Prop := fnCutRow.holds Tryd.pinned (OpenSpec.ofChange fnCutWrong)

/-- 'laws.FnStorage': WHATEVER THE INPUT: true; the input reads as it did. -/
def fnStorageSpec : ChangeSpec := { name := "fnStorage", fn := fun _ => fun
  | [d1, d2, d3, d4, d5] => { results := [.lit (.bool true)], args := [d1, d2, d3, d4, d5] }
  | _ => none }
def fnStorageRow : OpenClaim := { program := "ytgoddcicbpjknaadoor", sum := "6a91933512541b2299165befce7229a05fb394fb7fa1005a5e5ea3fe9e365a18", func := "loop.example/pub-g03453/laws.FnStorage", spec := "fnStorage", unfollowed := true, recurses := true, named := ["encoding/binary.LittleEndian", "unicode.properties", "unicode.PrintRanges", "io.EOF"], apart := false, calm := true, outside := [.timePasses], laid := [("io.EOF", laid_io_EOF), ("unicode.properties", laid_unicode_properties)] }
def FnStorageSaid : Prop := fnStorageRow.holds Tryd.pinned (OpenSpec.ofChange fnStorageSpec)

/-- ITS FALSE NEIGHBOUR: 'it returns false'. Refute it at one input. -/
def fnStorageWrong : ChangeSpec := { name := "fnStorage", fn := fun _ => fun
  | [d1, d2, d3, d4, d5] => { results := [.lit (.bool false)], args := [d1, d2, d3, d4, d5] }
  | _ => none }
def FnStorageWrongFalsely : Prop := fnStorageRow.holds Tryd.pinned (OpenSpec.ofChange fnStorageWrong)

/- THE SECOND FORM. 'bulk': how many values and letters a reading holds, each counted each time it is reached (what is shared counts as often as it is met; a slice's spare places count too). A statement '..UptoSaid' is the law's where the arguments, and the package variables that the reading takes, are together of bulk at most 1048576: NARROWER than '..Said'. Prove '..Said' where nothing that the law and all that it calls make is longer than what came in: it says more and counts as full. Else prove '..UptoSaid'. A law counts once. -/
mutual
def uptoBulk {H : Type} : DataW H → Nat
  | .lit (.string bytes) => bytes.length + 1
  | .lit _ => 1
  | .nil => 1
  | .ptr d => uptoBulk d + 1
  | .slice elems spare => uptoBulkAll elems + uptoBulkAll spare + 1
  | .agg parts => uptoBulkAll parts + 1
  | .iface _ d => uptoBulk d + 1
  | .map entries => uptoBulkEntries entries + 1
  | .held _ => 1
def uptoBulkAll {H : Type} : List (DataW H) → Nat
  | [] => 0
  | d :: r => uptoBulk d + uptoBulkAll r
def uptoBulkEntries {H : Type} : List (Lit × DataW H) → Nat
  | [] => 0
  | x :: r => uptoBulkEntry x + uptoBulkEntries r
def uptoBulkEntry {H : Type} : Lit × DataW H → Nat
  | (.string bytes, d) => bytes.length + uptoBulk d + 1
  | (_, d) => uptoBulk d + 1
 end
def uptoSmall : (H : Type) → List (DataW H) → Bool := fun _ ds => decide (uptoBulkAll ds ≤ 1048576)
def OpenSpec.upto (s : _root_.Go.ChangeSpec) : _root_.Go.OpenSpec := { _root_.Go.OpenSpec.ofChange s with cond := some uptoSmall }

/-- 'laws.FnEntries', WHERE WHAT IT READS IS OF BULK AT MOST 1048576: true; the input reads as it did. -/
def fnEntriesUptoRow : OpenClaim := { program := "ytgoddcicbpjknaadoor", sum := "6a91933512541b2299165befce7229a05fb394fb7fa1005a5e5ea3fe9e365a18", func := "loop.example/pub-g03453/laws.FnEntries", spec := "fnEntries", unfollowed := true, recurses := true, named := ["encoding/binary.LittleEndian", "unicode.properties", "unicode.PrintRanges"], apart := false, laid := [("unicode.properties", laid_unicode_properties)], narrowed := true }
def FnEntriesUptoSaid : Prop := fnEntriesUptoRow.holds Tryd.pinned (OpenSpec.upto fnEntriesSpec)

/-- 'laws.FnInitial', WHERE WHAT IT READS IS OF BULK AT MOST 1048576: true; the input reads as it did. -/
def fnInitialUptoRow : OpenClaim := { program := "ytgoddcicbpjknaadoor", sum := "6a91933512541b2299165befce7229a05fb394fb7fa1005a5e5ea3fe9e365a18", func := "loop.example/pub-g03453/laws.FnInitial", spec := "fnInitial", unfollowed := true, recurses := true, named := ["encoding/binary.LittleEndian", "unicode.properties", "unicode.PrintRanges"], apart := false, laid := [("unicode.properties", laid_unicode_properties)], narrowed := true }
def FnInitialUptoSaid : Prop := fnInitialUptoRow.holds Tryd.pinned (OpenSpec.upto fnInitialSpec)

/-- 'laws.FnLoop', WHERE WHAT IT READS IS OF BULK AT MOST 1048576: true; the input reads as it did. -/
def fnLoopUptoRow : OpenClaim := { program := "ytgoddcicbpjknaadoor", sum := "6a91933512541b2299165befce7229a05fb394fb7fa1005a5e5ea3fe9e365a18", func := "loop.example/pub-g03453/laws.FnLoop", spec := "fnLoop", unfollowed := true, recurses := true, named := ["encoding/binary.LittleEndian", "unicode.properties", "unicode.PrintRanges"], apart := false, laid := [("unicode.properties", laid_unicode_properties)], narrowed := true }
def FnLoopUptoSaid : Prop := fnLoopUptoRow.holds Tryd.pinned (OpenSpec.upto fnLoopSpec)

/-- 'laws.FnSignature', WHERE WHAT IT READS IS OF BULK AT MOST 1048576: true; the input reads as it did. -/
def fnSignatureUptoRow : OpenClaim := { program := "ytgoddcicbpjknaadoor", sum := "6a91933512541b2299165befce7229a05fb394fb7fa1005a5e5ea3fe9e365a18", func := "loop.example/pub-g03453/laws.FnSignature", spec := "fnSignature", unfollowed := true, recurses := true, named := ["encoding/binary.LittleEndian", "unicode.properties", "unicode.PrintRanges"], apart := false, laid := [("unicode.properties", laid_unicode_properties)], narrowed := true }
def FnSignatureUptoSaid : Prop := fnSignatureUptoRow.holds Tryd.pinned (OpenSpec.upto fnSignatureSpec)

/-- 'laws.FnRead', WHERE WHAT IT READS IS OF BULK AT MOST 1048576: true; the input reads as it did. -/
def fnReadUptoRow : OpenClaim := { program := "ytgoddcicbpjknaadoor", sum := "6a91933512541b2299165befce7229a05fb394fb7fa1005a5e5ea3fe9e365a18", func := "loop.example/pub-g03453/laws.FnRead", spec := "fnRead", unfollowed := true, recurses := true, named := ["encoding/binary.LittleEndian", "unicode.properties", "unicode.PrintRanges", "io.EOF"], apart := false, laid := [("io.EOF", laid_io_EOF), ("unicode.properties", laid_unicode_properties)], narrowed := true }
def FnReadUptoSaid : Prop := fnReadUptoRow.holds Tryd.pinned (OpenSpec.upto fnReadSpec)

/-- 'laws.FnReadAt', WHERE WHAT IT READS IS OF BULK AT MOST 1048576: true; the input reads as it did. -/
def fnReadAtUptoRow : OpenClaim := { program := "ytgoddcicbpjknaadoor", sum := "6a91933512541b2299165befce7229a05fb394fb7fa1005a5e5ea3fe9e365a18", func := "loop.example/pub-g03453/laws.FnReadAt", spec := "fnReadAt", unfollowed := true, recurses := true, named := ["encoding/binary.LittleEndian", "unicode.properties", "unicode.PrintRanges", "io.EOF"], apart := false, laid := [("io.EOF", laid_io_EOF), ("unicode.properties", laid_unicode_properties)], narrowed := true }
def FnReadAtUptoSaid : Prop := fnReadAtUptoRow.holds Tryd.pinned (OpenSpec.upto fnReadAtSpec)

/-- 'laws.FnSeek', WHERE WHAT IT READS IS OF BULK AT MOST 1048576: true; the input reads as it did. -/
def fnSeekUptoRow : OpenClaim := { program := "ytgoddcicbpjknaadoor", sum := "6a91933512541b2299165befce7229a05fb394fb7fa1005a5e5ea3fe9e365a18", func := "loop.example/pub-g03453/laws.FnSeek", spec := "fnSeek", unfollowed := true, recurses := true, named := ["encoding/binary.LittleEndian", "unicode.properties", "unicode.PrintRanges", "io.EOF"], apart := false, laid := [("io.EOF", laid_io_EOF), ("unicode.properties", laid_unicode_properties)], narrowed := true }
def FnSeekUptoSaid : Prop := fnSeekUptoRow.holds Tryd.pinned (OpenSpec.upto fnSeekSpec)

/-- 'laws.FnCut', WHERE WHAT IT READS IS OF BULK AT MOST 1048576: true; the input reads as it did. -/
def fnCutUptoRow : OpenClaim := { program := "ytgoddcicbpjknaadoor", sum := "6a91933512541b2299165befce7229a05fb394fb7fa1005a5e5ea3fe9e365a18", func := "loop.example/pub-g03453/laws.FnCut", spec := "fnCut", unfollowed := true, recurses := true, named := ["encoding/binary.LittleEndian", "unicode.properties", "unicode.PrintRanges", "io.EOF"], apart := false, laid := [("io.EOF", laid_io_EOF), ("unicode.properties", laid_unicode_properties)], narrowed := true }
def FnCutUptoSaid : Prop := fnCutUptoRow.holds Tryd.pinned (OpenSpec.upto fnCutSpec)

end Rows
end Go.Proofs.YtgoddcicbpjknaaDoor

/-
  NARROWER THAN 'FOR EVERY INPUT', by the rows' own cells (each row's printed sentence says how): FnRead: laid · FnReadTry: laid · FnWrittenBack: laid · FnCoded: laid · FnReadFrom: laid · FnMetaAny: laid · FnMetaBack: laid · FnMetaCut: laid · FnMetaPieces: laid · FnMetaSilent: laid · FnMetaSearch: laid · FnMetaSeries: laid · FnMetaClosed: laid.
  DERIVED. THE GIVEN ROWS OF THIS SEAT. 13 by the template 'for every input the law returns true; each argument reads behind the call as it read before'; 0 by the template 'total and deterministic' (their statements: YtdeidljffgahkaaGreatDoorTotals.lean).
  GIVEN WITH THE SEED: the statements are not yours to turn. If you find one false, say at which input.
  Laid BY PROGRAM, IN A SANDBOX (cutbox-rows.mjs): the forced cells as the released guide's own fill.sh prints them over the translation 7111ccad29175579… (all of the seat's roots in one cut). By AI agents, Wed Nov 11 2026. No macro, syntax, notation, axiom, sorry.
-/
import Derived.Test.YtdeidljffgahkaaGreatDoorChecked
import GoSem.Claim
import GoSem.ClaimJoined
import GoSem.ClaimMapViews
import Derived.JoinedTies
import Derived.KernelRfl
namespace Go.Proofs.YtdeidljffgahkaaGreatDoor
/- THE CELL 'sum', in the pinned program and in every row, IS THE sha256 OF THE DUMP (.gsa) THAT YtdeidljffgahkaaGreatDoorProg.lean LOADS. Nothing in Lean hashes anything: it is a label: what it is worth is what the hold of that sum in a sandbox is worth. -/
noncomputable def Tryz.pinned : Pinned := { name := "ytdeidljffgahkaagreatdoor", sum := "7111ccad29175579b5a1e09a20cde9271f771abd9b404b84a09e2baaf49facae", checked := Tryz.checked }
namespace Rows
def none {H : Type} : Left H := { results := [], args := [] }

/- WHAT THE LISTED PACKAGE-LEVEL VARIABLES READ AS WHEN THE CALL BEGINS. Each datum BY PROGRAM (the guide's laid-datum.mjs) off the statement by which the dump's own 'gosem.cut.vars' lays the variable. In a bare row this is a premise. The card (YtdeidljffgahkaaGreatDoorCards.lean) ties it to the program's text. -/
def laid_io_ErrShortBuffer {H : Type} : DataW H := .iface "*errors.errorString" (.ptr (.agg [.lit (.string [115, 104, 111, 114, 116, 32, 98, 117, 102, 102, 101, 114])]))
def laid_io_EOF {H : Type} : DataW H := .iface "*errors.errorString" (.ptr (.agg [.lit (.string [69, 79, 70])]))
def laid_io_ErrUnexpectedEOF {H : Type} : DataW H := .iface "*errors.errorString" (.ptr (.agg [.lit (.string [117, 110, 101, 120, 112, 101, 99, 116, 101, 100, 32, 69, 79, 70])]))

/-- 'laws.FnRead': WHATEVER THE INPUT: true; the input reads as it did. -/
def fnReadSpec : ChangeSpec := { name := "fnRead", fn := fun _ => fun
  | [d1, d2, d3, d4, d5] => { results := [.lit (.bool true)], args := [d1, d2, d3, d4, d5] }
  | _ => none }
def fnReadRow : OpenClaim := { program := "ytdeidljffgahkaagreatdoor", sum := "7111ccad29175579b5a1e09a20cde9271f771abd9b404b84a09e2baaf49facae", func := "pub-calthrop/laws.FnRead", spec := "fnRead", unfollowed := true, recurses := true, named := ["encoding/binary.LittleEndian", "io.EOF", "io.ErrUnexpectedEOF", "io.ErrShortBuffer"], apart := false, laid := [("io.ErrShortBuffer", laid_io_ErrShortBuffer), ("io.EOF", laid_io_EOF), ("io.ErrUnexpectedEOF", laid_io_ErrUnexpectedEOF)] }
def FnReadSaid : Prop := fnReadRow.holds Tryz.pinned (OpenSpec.ofChange fnReadSpec)

/-- ITS FALSE NEIGHBOUR: 'it returns false'. Refute it at one input. -/
def fnReadWrong : ChangeSpec := { name := "fnRead", fn := fun _ => fun
  | [d1, d2, d3, d4, d5] => { results := [.lit (.bool false)], args := [d1, d2, d3, d4, d5] }
  | _ => none }
def FnReadWrongFalsely : Prop := fnReadRow.holds Tryz.pinned (OpenSpec.ofChange fnReadWrong)

/-- 'laws.FnReadTry': WHATEVER THE INPUT: true; the input reads as it did. -/
def fnReadTrySpec : ChangeSpec := { name := "fnReadTry", fn := fun _ => fun
  | [d1, d2, d3, d4, d5] => { results := [.lit (.bool true)], args := [d1, d2, d3, d4, d5] }
  | _ => none }
def fnReadTryRow : OpenClaim := { program := "ytdeidljffgahkaagreatdoor", sum := "7111ccad29175579b5a1e09a20cde9271f771abd9b404b84a09e2baaf49facae", func := "pub-calthrop/laws.FnReadTry", spec := "fnReadTry", unfollowed := true, recurses := true, named := ["encoding/binary.LittleEndian", "io.EOF", "io.ErrUnexpectedEOF", "io.ErrShortBuffer"], apart := false, laid := [("io.ErrShortBuffer", laid_io_ErrShortBuffer), ("io.EOF", laid_io_EOF), ("io.ErrUnexpectedEOF", laid_io_ErrUnexpectedEOF)] }
def FnReadTrySaid : Prop := fnReadTryRow.holds Tryz.pinned (OpenSpec.ofChange fnReadTrySpec)

/-- ITS FALSE NEIGHBOUR: 'it returns false'. Refute it at one input. -/
def fnReadTryWrong : ChangeSpec := { name := "fnReadTry", fn := fun _ => fun
  | [d1, d2, d3, d4, d5] => { results := [.lit (.bool false)], args := [d1, d2, d3, d4, d5] }
  | _ => none }
def FnReadTryWrongFalsely : Prop := fnReadTryRow.holds Tryz.pinned (OpenSpec.ofChange fnReadTryWrong)

/-- 'laws.FnWrittenBack': WHATEVER THE INPUT: true; the input reads as it did. -/
def fnWrittenBackSpec : ChangeSpec := { name := "fnWrittenBack", fn := fun _ => fun
  | [d1, d2, d3, d4] => { results := [.lit (.bool true)], args := [d1, d2, d3, d4] }
  | _ => none }
def fnWrittenBackRow : OpenClaim := { program := "ytdeidljffgahkaagreatdoor", sum := "7111ccad29175579b5a1e09a20cde9271f771abd9b404b84a09e2baaf49facae", func := "pub-calthrop/laws.FnWrittenBack", spec := "fnWrittenBack", unfollowed := true, recurses := true, named := ["encoding/binary.LittleEndian", "io.EOF", "io.ErrUnexpectedEOF", "io.ErrShortBuffer"], apart := false, laid := [("io.ErrShortBuffer", laid_io_ErrShortBuffer), ("io.EOF", laid_io_EOF), ("io.ErrUnexpectedEOF", laid_io_ErrUnexpectedEOF)] }
def FnWrittenBackSaid : Prop := fnWrittenBackRow.holds Tryz.pinned (OpenSpec.ofChange fnWrittenBackSpec)

/-- ITS FALSE NEIGHBOUR: 'it returns false'. Refute it at one input. -/
def fnWrittenBackWrong : ChangeSpec := { name := "fnWrittenBack", fn := fun _ => fun
  | [d1, d2, d3, d4] => { results := [.lit (.bool false)], args := [d1, d2, d3, d4] }
  | _ => none }
def FnWrittenBackWrongFalsely : Prop := fnWrittenBackRow.holds Tryz.pinned (OpenSpec.ofChange fnWrittenBackWrong)

/-- 'laws.FnCoded': WHATEVER THE INPUT: true; the input reads as it did. -/
def fnCodedSpec : ChangeSpec := { name := "fnCoded", fn := fun _ => fun
  | [d1, d2, d3, d4] => { results := [.lit (.bool true)], args := [d1, d2, d3, d4] }
  | _ => none }
def fnCodedRow : OpenClaim := { program := "ytdeidljffgahkaagreatdoor", sum := "7111ccad29175579b5a1e09a20cde9271f771abd9b404b84a09e2baaf49facae", func := "pub-calthrop/laws.FnCoded", spec := "fnCoded", unfollowed := true, recurses := true, named := ["encoding/binary.LittleEndian", "io.EOF", "io.ErrUnexpectedEOF", "io.ErrShortBuffer"], apart := false, laid := [("io.ErrShortBuffer", laid_io_ErrShortBuffer), ("io.EOF", laid_io_EOF), ("io.ErrUnexpectedEOF", laid_io_ErrUnexpectedEOF)] }
def FnCodedSaid : Prop := fnCodedRow.holds Tryz.pinned (OpenSpec.ofChange fnCodedSpec)

/-- ITS FALSE NEIGHBOUR: 'it returns false'. Refute it at one input. -/
def fnCodedWrong : ChangeSpec := { name := "fnCoded", fn := fun _ => fun
  | [d1, d2, d3, d4] => { results := [.lit (.bool false)], args := [d1, d2, d3, d4] }
  | _ => none }
def FnCodedWrongFalsely : Prop := fnCodedRow.holds Tryz.pinned (OpenSpec.ofChange fnCodedWrong)

/-- 'laws.FnReadFrom': WHATEVER THE INPUT: true; the input reads as it did. -/
def fnReadFromSpec : ChangeSpec := { name := "fnReadFrom", fn := fun _ => fun
  | [d1, d2, d3, d4, d5, d6] => { results := [.lit (.bool true)], args := [d1, d2, d3, d4, d5, d6] }
  | _ => none }
def fnReadFromRow : OpenClaim := { program := "ytdeidljffgahkaagreatdoor", sum := "7111ccad29175579b5a1e09a20cde9271f771abd9b404b84a09e2baaf49facae", func := "pub-calthrop/laws.FnReadFrom", spec := "fnReadFrom", unfollowed := true, recurses := true, named := ["encoding/binary.LittleEndian", "io.EOF", "io.ErrUnexpectedEOF", "io.ErrShortBuffer"], apart := false, laid := [("io.ErrShortBuffer", laid_io_ErrShortBuffer), ("io.EOF", laid_io_EOF), ("io.ErrUnexpectedEOF", laid_io_ErrUnexpectedEOF)] }
def FnReadFromSaid : Prop := fnReadFromRow.holds Tryz.pinned (OpenSpec.ofChange fnReadFromSpec)

/-- ITS FALSE NEIGHBOUR: 'it returns false'. Refute it at one input. -/
def fnReadFromWrong : ChangeSpec := { name := "fnReadFrom", fn := fun _ => fun
  | [d1, d2, d3, d4, d5, d6] => { results := [.lit (.bool false)], args := [d1, d2, d3, d4, d5, d6] }
  | _ => none }
def FnReadFromWrongFalsely : Prop := fnReadFromRow.holds Tryz.pinned (OpenSpec.ofChange fnReadFromWrong)

/-- 'laws.FnMetaAny': WHATEVER THE INPUT: true; the input reads as it did. -/
def fnMetaAnySpec : ChangeSpec := { name := "fnMetaAny", fn := fun _ => fun
  | [d1, d2] => { results := [.lit (.bool true)], args := [d1, d2] }
  | _ => none }
def fnMetaAnyRow : OpenClaim := { program := "ytdeidljffgahkaagreatdoor", sum := "7111ccad29175579b5a1e09a20cde9271f771abd9b404b84a09e2baaf49facae", func := "pub-calthrop/laws.FnMetaAny", spec := "fnMetaAny", unfollowed := true, recurses := true, named := ["encoding/binary.LittleEndian", "io.EOF", "io.ErrUnexpectedEOF"], apart := false, laid := [("io.EOF", laid_io_EOF), ("io.ErrUnexpectedEOF", laid_io_ErrUnexpectedEOF)] }
def FnMetaAnySaid : Prop := fnMetaAnyRow.holds Tryz.pinned (OpenSpec.ofChange fnMetaAnySpec)

/-- ITS FALSE NEIGHBOUR: 'it returns false'. Refute it at one input. -/
def fnMetaAnyWrong : ChangeSpec := { name := "fnMetaAny", fn := fun _ => fun
  | [d1, d2] => { results := [.lit (.bool false)], args := [d1, d2] }
  | _ => none }
def FnMetaAnyWrongFalsely : Prop := fnMetaAnyRow.holds Tryz.pinned (OpenSpec.ofChange fnMetaAnyWrong)

/-- 'laws.FnMetaBack': WHATEVER THE INPUT: true; the input reads as it did. -/
def fnMetaBackSpec : ChangeSpec := { name := "fnMetaBack", fn := fun _ => fun
  | [d1, d2, d3, d4] => { results := [.lit (.bool true)], args := [d1, d2, d3, d4] }
  | _ => none }
def fnMetaBackRow : OpenClaim := { program := "ytdeidljffgahkaagreatdoor", sum := "7111ccad29175579b5a1e09a20cde9271f771abd9b404b84a09e2baaf49facae", func := "pub-calthrop/laws.FnMetaBack", spec := "fnMetaBack", unfollowed := true, recurses := true, named := ["encoding/binary.LittleEndian", "io.EOF", "io.ErrUnexpectedEOF"], apart := false, laid := [("io.EOF", laid_io_EOF), ("io.ErrUnexpectedEOF", laid_io_ErrUnexpectedEOF)] }
def FnMetaBackSaid : Prop := fnMetaBackRow.holds Tryz.pinned (OpenSpec.ofChange fnMetaBackSpec)

/-- ITS FALSE NEIGHBOUR: 'it returns false'. Refute it at one input. -/
def fnMetaBackWrong : ChangeSpec := { name := "fnMetaBack", fn := fun _ => fun
  | [d1, d2, d3, d4] => { results := [.lit (.bool false)], args := [d1, d2, d3, d4] }
  | _ => none }
def FnMetaBackWrongFalsely : Prop := fnMetaBackRow.holds Tryz.pinned (OpenSpec.ofChange fnMetaBackWrong)

/-- 'laws.FnMetaCut': WHATEVER THE INPUT: true; the input reads as it did. -/
def fnMetaCutSpec : ChangeSpec := { name := "fnMetaCut", fn := fun _ => fun
  | [d1, d2, d3, d4] => { results := [.lit (.bool true)], args := [d1, d2, d3, d4] }
  | _ => none }
def fnMetaCutRow : OpenClaim := { program := "ytdeidljffgahkaagreatdoor", sum := "7111ccad29175579b5a1e09a20cde9271f771abd9b404b84a09e2baaf49facae", func := "pub-calthrop/laws.FnMetaCut", spec := "fnMetaCut", unfollowed := true, recurses := true, named := ["encoding/binary.LittleEndian", "io.EOF", "io.ErrUnexpectedEOF"], apart := false, laid := [("io.EOF", laid_io_EOF), ("io.ErrUnexpectedEOF", laid_io_ErrUnexpectedEOF)] }
def FnMetaCutSaid : Prop := fnMetaCutRow.holds Tryz.pinned (OpenSpec.ofChange fnMetaCutSpec)

/-- ITS FALSE NEIGHBOUR: 'it returns false'. Refute it at one input. -/
def fnMetaCutWrong : ChangeSpec := { name := "fnMetaCut", fn := fun _ => fun
  | [d1, d2, d3, d4] => { results := [.lit (.bool false)], args := [d1, d2, d3, d4] }
  | _ => none }
def FnMetaCutWrongFalsely : Prop := fnMetaCutRow.holds Tryz.pinned (OpenSpec.ofChange fnMetaCutWrong)

/-- 'laws.FnMetaPieces': WHATEVER THE INPUT: true; the input reads as it did. -/
def fnMetaPiecesSpec : ChangeSpec := { name := "fnMetaPieces", fn := fun _ => fun
  | [d1, d2] => { results := [.lit (.bool true)], args := [d1, d2] }
  | _ => none }
def fnMetaPiecesRow : OpenClaim := { program := "ytdeidljffgahkaagreatdoor", sum := "7111ccad29175579b5a1e09a20cde9271f771abd9b404b84a09e2baaf49facae", func := "pub-calthrop/laws.FnMetaPieces", spec := "fnMetaPieces", unfollowed := true, recurses := true, named := ["encoding/binary.LittleEndian", "io.EOF", "io.ErrUnexpectedEOF"], apart := false, laid := [("io.EOF", laid_io_EOF), ("io.ErrUnexpectedEOF", laid_io_ErrUnexpectedEOF)] }
def FnMetaPiecesSaid : Prop := fnMetaPiecesRow.holds Tryz.pinned (OpenSpec.ofChange fnMetaPiecesSpec)

/-- ITS FALSE NEIGHBOUR: 'it returns false'. Refute it at one input. -/
def fnMetaPiecesWrong : ChangeSpec := { name := "fnMetaPieces", fn := fun _ => fun
  | [d1, d2] => { results := [.lit (.bool false)], args := [d1, d2] }
  | _ => none }
def FnMetaPiecesWrongFalsely : Prop := fnMetaPiecesRow.holds Tryz.pinned (OpenSpec.ofChange fnMetaPiecesWrong)

/-- 'laws.FnMetaSilent': WHATEVER THE INPUT: true; the input reads as it did. -/
def fnMetaSilentSpec : ChangeSpec := { name := "fnMetaSilent", fn := fun _ => fun
  | [d1, d2] => { results := [.lit (.bool true)], args := [d1, d2] }
  | _ => none }
def fnMetaSilentRow : OpenClaim := { program := "ytdeidljffgahkaagreatdoor", sum := "7111ccad29175579b5a1e09a20cde9271f771abd9b404b84a09e2baaf49facae", func := "pub-calthrop/laws.FnMetaSilent", spec := "fnMetaSilent", unfollowed := true, recurses := true, named := ["encoding/binary.LittleEndian", "io.EOF", "io.ErrUnexpectedEOF"], apart := false, laid := [("io.EOF", laid_io_EOF), ("io.ErrUnexpectedEOF", laid_io_ErrUnexpectedEOF)] }
def FnMetaSilentSaid : Prop := fnMetaSilentRow.holds Tryz.pinned (OpenSpec.ofChange fnMetaSilentSpec)

/-- ITS FALSE NEIGHBOUR: 'it returns false'. Refute it at one input. -/
def fnMetaSilentWrong : ChangeSpec := { name := "fnMetaSilent", fn := fun _ => fun
  | [d1, d2] => { results := [.lit (.bool false)], args := [d1, d2] }
  | _ => none }
def FnMetaSilentWrongFalsely : Prop := fnMetaSilentRow.holds Tryz.pinned (OpenSpec.ofChange fnMetaSilentWrong)

/-- 'laws.FnMetaSearch': WHATEVER THE INPUT: true; the input reads as it did. -/
def fnMetaSearchSpec : ChangeSpec := { name := "fnMetaSearch", fn := fun _ => fun
  | [d1, d2, d3, d4] => { results := [.lit (.bool true)], args := [d1, d2, d3, d4] }
  | _ => none }
def fnMetaSearchRow : OpenClaim := { program := "ytdeidljffgahkaagreatdoor", sum := "7111ccad29175579b5a1e09a20cde9271f771abd9b404b84a09e2baaf49facae", func := "pub-calthrop/laws.FnMetaSearch", spec := "fnMetaSearch", unfollowed := true, recurses := true, named := ["encoding/binary.LittleEndian", "io.EOF", "io.ErrUnexpectedEOF"], apart := false, laid := [("io.EOF", laid_io_EOF), ("io.ErrUnexpectedEOF", laid_io_ErrUnexpectedEOF)] }
def FnMetaSearchSaid : Prop := fnMetaSearchRow.holds Tryz.pinned (OpenSpec.ofChange fnMetaSearchSpec)

/-- ITS FALSE NEIGHBOUR: 'it returns false'. Refute it at one input. -/
def fnMetaSearchWrong : ChangeSpec := { name := "fnMetaSearch", fn := fun _ => fun
  | [d1, d2, d3, d4] => { results := [.lit (.bool false)], args := [d1, d2, d3, d4] }
  | _ => none }
def FnMetaSearchWrongFalsely : Prop := fnMetaSearchRow.holds Tryz.pinned (OpenSpec.ofChange fnMetaSearchWrong)

/-- 'laws.FnMetaSeries': WHATEVER THE INPUT: true; the input reads as it did. -/
def fnMetaSeriesSpec : ChangeSpec := { name := "fnMetaSeries", fn := fun _ => fun
  | [d1, d2] => { results := [.lit (.bool true)], args := [d1, d2] }
  | _ => none }
def fnMetaSeriesRow : OpenClaim := { program := "ytdeidljffgahkaagreatdoor", sum := "7111ccad29175579b5a1e09a20cde9271f771abd9b404b84a09e2baaf49facae", func := "pub-calthrop/laws.FnMetaSeries", spec := "fnMetaSeries", unfollowed := true, recurses := true, named := ["encoding/binary.LittleEndian", "io.EOF", "io.ErrUnexpectedEOF"], apart := false, laid := [("io.EOF", laid_io_EOF), ("io.ErrUnexpectedEOF", laid_io_ErrUnexpectedEOF)] }
def FnMetaSeriesSaid : Prop := fnMetaSeriesRow.holds Tryz.pinned (OpenSpec.ofChange fnMetaSeriesSpec)

/-- ITS FALSE NEIGHBOUR: 'it returns false'. Refute it at one input. -/
def fnMetaSeriesWrong : ChangeSpec := { name := "fnMetaSeries", fn := fun _ => fun
  | [d1, d2] => { results := [.lit (.bool false)], args := [d1, d2] }
  | _ => none }
def FnMetaSeriesWrongFalsely : Prop := fnMetaSeriesRow.holds Tryz.pinned (OpenSpec.ofChange fnMetaSeriesWrong)

/-- 'laws.FnMetaClosed': WHATEVER THE INPUT: true; the input reads as it did. -/
def fnMetaClosedSpec : ChangeSpec := { name := "fnMetaClosed", fn := fun _ => fun
  | [d] => { results := [.lit (.bool true)], args := [d] }
  | _ => none }
def fnMetaClosedRow : OpenClaim := { program := "ytdeidljffgahkaagreatdoor", sum := "7111ccad29175579b5a1e09a20cde9271f771abd9b404b84a09e2baaf49facae", func := "pub-calthrop/laws.FnMetaClosed", spec := "fnMetaClosed", unfollowed := true, recurses := true, named := ["encoding/binary.LittleEndian", "io.EOF", "io.ErrUnexpectedEOF"], apart := false, laid := [("io.EOF", laid_io_EOF), ("io.ErrUnexpectedEOF", laid_io_ErrUnexpectedEOF)] }
def FnMetaClosedSaid : Prop := fnMetaClosedRow.holds Tryz.pinned (OpenSpec.ofChange fnMetaClosedSpec)

/-- ITS FALSE NEIGHBOUR: 'it returns false'. Refute it at one input. -/
def fnMetaClosedWrong : ChangeSpec := { name := "fnMetaClosed", fn := fun _ => fun
  | [d] => { results := [.lit (.bool false)], args := [d] }
  | _ => none }
def FnMetaClosedWrongFalsely : Prop := fnMetaClosedRow.holds Tryz.pinned (OpenSpec.ofChange fnMetaClosedWrong)

/- THE SECOND FORM. 'bulk': how many values and letters a reading holds, each counted each time it is reached (what is shared counts as often as it is met; a slice's spare places count too). A statement '..UptoSaid' is the law's where the arguments, and the package variables that the reading takes, are together of bulk at most 1048576: NARROWER than '..Said'. Prove '..Said' where nothing that the law and all that it calls make is longer than what came in: it says more and counts as full. Else prove '..UptoSaid'. A law counts once. -/
mutual
def uptoBulk {H : Type} : DataW H → Nat
  | .lit (.string bytes) => bytes.length + 1
  | .lit _ => 1
  | .nil => 1
  | .ptr d => uptoBulk d + 1
  | .slice elems spare => uptoBulkAll elems + uptoBulkAll spare + 1
  | .agg parts => uptoBulkAll parts + 1
  | .iface _ d => uptoBulk d + 1
  | .map entries => uptoBulkEntries entries + 1
  | .held _ => 1
def uptoBulkAll {H : Type} : List (DataW H) → Nat
  | [] => 0
  | d :: r => uptoBulk d + uptoBulkAll r
def uptoBulkEntries {H : Type} : List (Lit × DataW H) → Nat
  | [] => 0
  | x :: r => uptoBulkEntry x + uptoBulkEntries r
def uptoBulkEntry {H : Type} : Lit × DataW H → Nat
  | (.string bytes, d) => bytes.length + uptoBulk d + 1
  | (_, d) => uptoBulk d + 1
 end
def uptoSmall : (H : Type) → List (DataW H) → Bool := fun _ ds => decide (uptoBulkAll ds ≤ 1048576)
def OpenSpec.upto (s : _root_.Go.ChangeSpec) : _root_.Go.OpenSpec := { _root_.Go.OpenSpec.ofChange s with cond := some uptoSmall }

/-- 'laws.FnRead', WHERE WHAT IT READS IS OF BULK AT MOST 1048576: true; the input reads as it did. -/
def fnReadUptoRow : OpenClaim := { program := "ytdeidljffgahkaagreatdoor", sum := "7111ccad29175579b5a1e09a20cde9271f771abd9b404b84a09e2baaf49facae", func := "pub-calthrop/laws.FnRead", spec := "fnRead", unfollowed := true, recurses := true, named := ["encoding/binary.LittleEndian", "io.EOF", "io.ErrUnexpectedEOF", "io.ErrShortBuffer"], apart := false, laid := [("io.ErrShortBuffer", laid_io_ErrShortBuffer), ("io.EOF", laid_io_EOF), ("io.ErrUnexpectedEOF", laid_io_ErrUnexpectedEOF)], narrowed := true }
def FnReadUptoSaid : Prop := fnReadUptoRow.holds Tryz.pinned (OpenSpec.upto fnReadSpec)

/-- 'laws.FnReadTry', WHERE WHAT IT READS IS OF BULK AT MOST 1048576: true; the input reads as it did. -/
def fnReadTryUptoRow : OpenClaim := { program := "ytdeidljffgahkaagreatdoor", sum := "7111ccad29175579b5a1e09a20cde9271f771abd9b404b84a09e2baaf49facae", func := "pub-calthrop/laws.FnReadTry", spec := "fnReadTry", unfollowed := true, recurses := true, named := ["encoding/binary.LittleEndian", "io.EOF", "io.ErrUnexpectedEOF", "io.ErrShortBuffer"], apart := false, laid := [("io.ErrShortBuffer", laid_io_ErrShortBuffer), ("io.EOF", laid_io_EOF), ("io.ErrUnexpectedEOF", laid_io_ErrUnexpectedEOF)], narrowed := true }
def FnReadTryUptoSaid : Prop := fnReadTryUptoRow.holds Tryz.pinned (OpenSpec.upto fnReadTrySpec)

/-- 'laws.FnWrittenBack', WHERE WHAT IT READS IS OF BULK AT MOST 1048576: true; the input reads as it did. -/
def fnWrittenBackUptoRow : OpenClaim := { program := "ytdeidljffgahkaagreatdoor", sum := "7111ccad29175579b5a1e09a20cde9271f771abd9b404b84a09e2baaf49facae", func := "pub-calthrop/laws.FnWrittenBack", spec := "fnWrittenBack", unfollowed := true, recurses := true, named := ["encoding/binary.LittleEndian", "io.EOF", "io.ErrUnexpectedEOF", "io.ErrShortBuffer"], apart := false, laid := [("io.ErrShortBuffer", laid_io_ErrShortBuffer), ("io.EOF", laid_io_EOF), ("io.ErrUnexpectedEOF", laid_io_ErrUnexpectedEOF)], narrowed := true }
def FnWrittenBackUptoSaid : Prop := fnWrittenBackUptoRow.holds Tryz.pinned (OpenSpec.upto fnWrittenBackSpec)

/-- 'laws.FnCoded', WHERE WHAT IT READS IS OF BULK AT MOST 1048576: true; the input reads as it did. -/
def fnCodedUptoRow : OpenClaim := { program := "ytdeidljffgahkaagreatdoor", sum := "7111ccad29175579b5a1e09a20cde9271f771abd9b404b84a09e2baaf49facae", func := "pub-calthrop/laws.FnCoded", spec := "fnCoded", unfollowed := true, recurses := true, named := ["encoding/binary.LittleEndian", "io.EOF", "io.ErrUnexpectedEOF", "io.ErrShortBuffer"], apart := false, laid := [("io.ErrShortBuffer", laid_io_ErrShortBuffer), ("io.EOF", laid_io_EOF), ("io.ErrUnexpectedEOF", laid_io_ErrUnexpectedEOF)], narrowed := true }
def FnCodedUptoSaid : Prop := fnCodedUptoRow.holds Tryz.pinned (OpenSpec.upto fnCodedSpec)

/-- 'laws.FnReadFrom', WHERE WHAT IT READS IS OF BULK AT MOST 1048576: true; the input reads as it did. -/
def fnReadFromUptoRow : OpenClaim := { program := "ytdeidljffgahkaagreatdoor", sum := "7111ccad29175579b5a1e09a20cde9271f771abd9b404b84a09e2baaf49facae", func := "pub-calthrop/laws.FnReadFrom", spec := "fnReadFrom", unfollowed := true, recurses := true, named := ["encoding/binary.LittleEndian", "io.EOF", "io.ErrUnexpectedEOF", "io.ErrShortBuffer"], apart := false, laid := [("io.ErrShortBuffer", laid_io_ErrShortBuffer), ("io.EOF", laid_io_EOF), ("io.ErrUnexpectedEOF", laid_io_ErrUnexpectedEOF)], narrowed := true }
def FnReadFromUptoSaid : Prop := fnReadFromUptoRow.holds Tryz.pinned (OpenSpec.upto fnReadFromSpec)

/-- 'laws.FnMetaAny', WHERE WHAT IT READS IS OF BULK AT MOST 1048576: true; the input reads as it did. -/
def fnMetaAnyUptoRow : OpenClaim := { program := "ytdeidljffgahkaagreatdoor", sum := "7111ccad29175579b5a1e09a20cde9271f771abd9b404b84a09e2baaf49facae", func := "pub-calthrop/laws.FnMetaAny", spec := "fnMetaAny", unfollowed := true, recurses := true, named := ["encoding/binary.LittleEndian", "io.EOF", "io.ErrUnexpectedEOF"], apart := false, laid := [("io.EOF", laid_io_EOF), ("io.ErrUnexpectedEOF", laid_io_ErrUnexpectedEOF)], narrowed := true }
def FnMetaAnyUptoSaid : Prop := fnMetaAnyUptoRow.holds Tryz.pinned (OpenSpec.upto fnMetaAnySpec)

/-- 'laws.FnMetaBack', WHERE WHAT IT READS IS OF BULK AT MOST 1048576: true; the input reads as it did. -/
def fnMetaBackUptoRow : OpenClaim := { program := "ytdeidljffgahkaagreatdoor", sum := "7111ccad29175579b5a1e09a20cde9271f771abd9b404b84a09e2baaf49facae", func := "pub-calthrop/laws.FnMetaBack", spec := "fnMetaBack", unfollowed := true, recurses := true, named := ["encoding/binary.LittleEndian", "io.EOF", "io.ErrUnexpectedEOF"], apart := false, laid := [("io.EOF", laid_io_EOF), ("io.ErrUnexpectedEOF", laid_io_ErrUnexpectedEOF)], narrowed := true }
def FnMetaBackUptoSaid : Prop := fnMetaBackUptoRow.holds Tryz.pinned (OpenSpec.upto fnMetaBackSpec)

/-- 'laws.FnMetaCut', WHERE WHAT IT READS IS OF BULK AT MOST 1048576: true; the input reads as it did. -/
def fnMetaCutUptoRow : OpenClaim := { program := "ytdeidljffgahkaagreatdoor", sum := "7111ccad29175579b5a1e09a20cde9271f771abd9b404b84a09e2baaf49facae", func := "pub-calthrop/laws.FnMetaCut", spec := "fnMetaCut", unfollowed := true, recurses := true, named := ["encoding/binary.LittleEndian", "io.EOF", "io.ErrUnexpectedEOF"], apart := false, laid := [("io.EOF", laid_io_EOF), ("io.ErrUnexpectedEOF", laid_io_ErrUnexpectedEOF)], narrowed := true }
def FnMetaCutUptoSaid : Prop := fnMetaCutUptoRow.holds Tryz.pinned (OpenSpec.upto fnMetaCutSpec)

/-- 'laws.FnMetaPieces', WHERE WHAT IT READS IS OF BULK AT MOST 1048576: true; the input reads as it did. -/
def fnMetaPiecesUptoRow : OpenClaim := { program := "ytdeidljffgahkaagreatdoor", sum := "7111ccad29175579b5a1e09a20cde9271f771abd9b404b84a09e2baaf49facae", func := "pub-calthrop/laws.FnMetaPieces", spec := "fnMetaPieces", unfollowed := true, recurses := true, named := ["encoding/binary.LittleEndian", "io.EOF", "io.ErrUnexpectedEOF"], apart := false, laid := [("io.EOF", laid_io_EOF), ("io.ErrUnexpectedEOF", laid_io_ErrUnexpectedEOF)], narrowed := true }
def FnMetaPiecesUptoSaid : Prop := fnMetaPiecesUptoRow.holds Tryz.pinned (OpenSpec.upto fnMetaPiecesSpec)

/-- 'laws.FnMetaSilent', WHERE WHAT IT READS IS OF BULK AT MOST 1048576: true; the input reads as it did. -/
def fnMetaSilentUptoRow : OpenClaim := { program := "ytdeidljffgahkaagreatdoor", sum := "7111ccad29175579b5a1e09a20cde9271f771abd9b404b84a09e2baaf49facae", func := "pub-calthrop/laws.FnMetaSilent", spec := "fnMetaSilent", unfollowed := true, recurses := true, named := ["encoding/binary.LittleEndian", "io.EOF", "io.ErrUnexpectedEOF"], apart := false, laid := [("io.EOF", laid_io_EOF), ("io.ErrUnexpectedEOF", laid_io_ErrUnexpectedEOF)], narrowed := true }
def FnMetaSilentUptoSaid : Prop := fnMetaSilentUptoRow.holds Tryz.pinned (OpenSpec.upto fnMetaSilentSpec)

/-- 'laws.FnMetaSearch', WHERE WHAT IT READS IS OF BULK AT MOST 1048576: true; the input reads as it did. -/
def fnMetaSearchUptoRow : OpenClaim := { program := "ytdeidljffgahkaagreatdoor", sum := "7111ccad29175579b5a1e09a20cde9271f771abd9b404b84a09e2baaf49facae", func := "pub-calthrop/laws.FnMetaSearch", spec := "fnMetaSearch", unfollowed := true, recurses := true, named := ["encoding/binary.LittleEndian", "io.EOF", "io.ErrUnexpectedEOF"], apart := false, laid := [("io.EOF", laid_io_EOF), ("io.ErrUnexpectedEOF", laid_io_ErrUnexpectedEOF)], narrowed := true }
def FnMetaSearchUptoSaid : Prop := fnMetaSearchUptoRow.holds Tryz.pinned (OpenSpec.upto fnMetaSearchSpec)

/-- 'laws.FnMetaSeries', WHERE WHAT IT READS IS OF BULK AT MOST 1048576: true; the input reads as it did. -/
def fnMetaSeriesUptoRow : OpenClaim := { program := "ytdeidljffgahkaagreatdoor", sum := "7111ccad29175579b5a1e09a20cde9271f771abd9b404b84a09e2baaf49facae", func := "pub-calthrop/laws.FnMetaSeries", spec := "fnMetaSeries", unfollowed := true, recurses := true, named := ["encoding/binary.LittleEndian", "io.EOF", "io.ErrUnexpectedEOF"], apart := false, laid := [("io.EOF", laid_io_EOF), ("io.ErrUnexpectedEOF", laid_io_ErrUnexpectedEOF)], narrowed := true }
def FnMetaSeriesUptoSaid : Prop := fnMetaSeriesUptoRow.holds Tryz.pinned (OpenSpec.upto fnMetaSeriesSpec)

/-- 'laws.FnMetaClosed', WHERE WHAT IT READS IS OF BULK AT MOST 1048576: true; the input reads as it did. -/
def fnMetaClosedUptoRow : OpenClaim := { program := "ytdeidljffgahkaagreatdoor", sum := "7111ccad29175579b5a1e09a20cde9271f771abd9b404b84a09e2baaf49facae", func := "pub-calthrop/laws.FnMetaClosed", spec := "fnMetaClosed", unfollowed := true, recurses := true, named := ["encoding/binary.LittleEndian", "io.EOF", "io.ErrUnexpectedEOF"], apart := false, laid := [("io.EOF", laid_io_EOF), ("io.ErrUnexpectedEOF", laid_io_ErrUnexpectedEOF)], narrowed := true }
def FnMetaClosedUptoSaid : Prop := fnMetaClosedUptoRow.holds Tryz.pinned (OpenSpec.upto fnMetaClosedSpec)

end Rows
end Go.Proofs.YtdeidljffgahkaaGreatDoor

/-
  NARROWER THAN 'FOR EVERY INPUT', by the rows' own cells (each row's printed sentence says how): FnNames: laid · FnParent: laid · FnChildren: laid · FnGraves: laid · FnLoad: laid · FnNumbered: laid · FnSmall: laid · FnTwice: laid · FnStands: laid · FnTruth: laid · FnIn: laid · FnStrings: laid.
  DERIVED. THE GIVEN ROWS OF THIS SEAT. 12 by the template 'for every input the law returns true; each argument reads behind the call as it read before'; 0 by the template 'total and deterministic' (their statements: YtfnncdngfggcjaaGreatDoorTotals.lean).
  GIVEN WITH THE SEED: the statements are not yours to turn. If you find one false, say at which input.
  Laid BY PROGRAM, IN A SANDBOX (cutbox-rows.mjs): the forced cells as the released guide's own fill.sh prints them over the translation 72deed1bf8cbef4a… (all of the seat's roots in one cut). By AI agents, Wed Nov 11 2026. No macro, syntax, notation, axiom, sorry.
-/
import Derived.Test.YtfnncdngfggcjaaGreatDoorChecked
import GoSem.Claim
import GoSem.ClaimJoined
import GoSem.ClaimMapViews
import Derived.JoinedTies
import Derived.KernelRfl
namespace Go.Proofs.YtfnncdngfggcjaaGreatDoor
/- THE CELL 'sum', in the pinned program and in every row, IS THE sha256 OF THE DUMP (.gsa) THAT YtfnncdngfggcjaaGreatDoorProg.lean LOADS. Nothing in Lean hashes anything: it is a label: what it is worth is what the hold of that sum in a sandbox is worth. -/
noncomputable def Tryz.pinned : Pinned := { name := "ytfnncdngfggcjaagreatdoor", sum := "72deed1bf8cbef4aff99e09b884fbe3391de3c69d37c1645bd90b781c70c09b6", checked := Tryz.checked }
namespace Rows
def none {H : Type} : Left H := { results := [], args := [] }

/- WHAT THE LISTED PACKAGE-LEVEL VARIABLES READ AS WHEN THE CALL BEGINS. Each datum BY PROGRAM (the guide's laid-datum.mjs) off the statement by which the dump's own 'gosem.cut.vars' lays the variable. In a bare row this is a premise. The card (YtfnncdngfggcjaaGreatDoorCards.lean) ties it to the program's text. -/
def laid_math_bits_deBruijn32tab {H : Type} : DataW H := .agg [.lit (.int .u8 0), .lit (.int .u8 1), .lit (.int .u8 28), .lit (.int .u8 2), .lit (.int .u8 29), .lit (.int .u8 14), .lit (.int .u8 24), .lit (.int .u8 3), .lit (.int .u8 30), .lit (.int .u8 22), .lit (.int .u8 20), .lit (.int .u8 15), .lit (.int .u8 25), .lit (.int .u8 17), .lit (.int .u8 4), .lit (.int .u8 8), .lit (.int .u8 31), .lit (.int .u8 27), .lit (.int .u8 13), .lit (.int .u8 23), .lit (.int .u8 21), .lit (.int .u8 19), .lit (.int .u8 16), .lit (.int .u8 7), .lit (.int .u8 26), .lit (.int .u8 12), .lit (.int .u8 18), .lit (.int .u8 6), .lit (.int .u8 11), .lit (.int .u8 5), .lit (.int .u8 10), .lit (.int .u8 9)]
def laid_math_bits_deBruijn64tab {H : Type} : DataW H := .agg [.lit (.int .u8 0), .lit (.int .u8 1), .lit (.int .u8 56), .lit (.int .u8 2), .lit (.int .u8 57), .lit (.int .u8 49), .lit (.int .u8 28), .lit (.int .u8 3), .lit (.int .u8 61), .lit (.int .u8 58), .lit (.int .u8 42), .lit (.int .u8 50), .lit (.int .u8 38), .lit (.int .u8 29), .lit (.int .u8 17), .lit (.int .u8 4), .lit (.int .u8 62), .lit (.int .u8 47), .lit (.int .u8 59), .lit (.int .u8 36), .lit (.int .u8 45), .lit (.int .u8 43), .lit (.int .u8 51), .lit (.int .u8 22), .lit (.int .u8 53), .lit (.int .u8 39), .lit (.int .u8 33), .lit (.int .u8 30), .lit (.int .u8 24), .lit (.int .u8 18), .lit (.int .u8 12), .lit (.int .u8 5), .lit (.int .u8 63), .lit (.int .u8 55), .lit (.int .u8 48), .lit (.int .u8 27), .lit (.int .u8 60), .lit (.int .u8 41), .lit (.int .u8 37), .lit (.int .u8 16), .lit (.int .u8 46), .lit (.int .u8 35), .lit (.int .u8 44), .lit (.int .u8 21), .lit (.int .u8 52), .lit (.int .u8 32), .lit (.int .u8 23), .lit (.int .u8 11), .lit (.int .u8 54), .lit (.int .u8 26), .lit (.int .u8 40), .lit (.int .u8 15), .lit (.int .u8 34), .lit (.int .u8 20), .lit (.int .u8 31), .lit (.int .u8 10), .lit (.int .u8 25), .lit (.int .u8 14), .lit (.int .u8 19), .lit (.int .u8 9), .lit (.int .u8 13), .lit (.int .u8 8), .lit (.int .u8 7), .lit (.int .u8 6)]
def laid_io_EOF {H : Type} : DataW H := .iface "*errors.errorString" (.ptr (.agg [.lit (.string [69, 79, 70])]))
def laid_strings_asciiSpace {H : Type} : DataW H := .agg [.lit (.int .u8 0), .lit (.int .u8 0), .lit (.int .u8 0), .lit (.int .u8 0), .lit (.int .u8 0), .lit (.int .u8 0), .lit (.int .u8 0), .lit (.int .u8 0), .lit (.int .u8 0), .lit (.int .u8 1), .lit (.int .u8 1), .lit (.int .u8 1), .lit (.int .u8 1), .lit (.int .u8 1), .lit (.int .u8 0), .lit (.int .u8 0), .lit (.int .u8 0), .lit (.int .u8 0), .lit (.int .u8 0), .lit (.int .u8 0), .lit (.int .u8 0), .lit (.int .u8 0), .lit (.int .u8 0), .lit (.int .u8 0), .lit (.int .u8 0), .lit (.int .u8 0), .lit (.int .u8 0), .lit (.int .u8 0), .lit (.int .u8 0), .lit (.int .u8 0), .lit (.int .u8 0), .lit (.int .u8 0), .lit (.int .u8 1), .lit (.int .u8 0), .lit (.int .u8 0), .lit (.int .u8 0), .lit (.int .u8 0), .lit (.int .u8 0), .lit (.int .u8 0), .lit (.int .u8 0), .lit (.int .u8 0), .lit (.int .u8 0), .lit (.int .u8 0), .lit (.int .u8 0), .lit (.int .u8 0), .lit (.int .u8 0), .lit (.int .u8 0), .lit (.int .u8 0), .lit (.int .u8 0), .lit (.int .u8 0), .lit (.int .u8 0), .lit (.int .u8 0), .lit (.int .u8 0), .lit (.int .u8 0), .lit (.int .u8 0), .lit (.int .u8 0), .lit (.int .u8 0), .lit (.int .u8 0), .lit (.int .u8 0), .lit (.int .u8 0), .lit (.int .u8 0), .lit (.int .u8 0), .lit (.int .u8 0), .lit (.int .u8 0), .lit (.int .u8 0), .lit (.int .u8 0), .lit (.int .u8 0), .lit (.int .u8 0), .lit (.int .u8 0), .lit (.int .u8 0), .lit (.int .u8 0), .lit (.int .u8 0), .lit (.int .u8 0), .lit (.int .u8 0), .lit (.int .u8 0), .lit (.int .u8 0), .lit (.int .u8 0), .lit (.int .u8 0), .lit (.int .u8 0), .lit (.int .u8 0), .lit (.int .u8 0), .lit (.int .u8 0), .lit (.int .u8 0), .lit (.int .u8 0), .lit (.int .u8 0), .lit (.int .u8 0), .lit (.int .u8 0), .lit (.int .u8 0), .lit (.int .u8 0), .lit (.int .u8 0), .lit (.int .u8 0), .lit (.int .u8 0), .lit (.int .u8 0), .lit (.int .u8 0), .lit (.int .u8 0), .lit (.int .u8 0), .lit (.int .u8 0), .lit (.int .u8 0), .lit (.int .u8 0), .lit (.int .u8 0), .lit (.int .u8 0), .lit (.int .u8 0), .lit (.int .u8 0), .lit (.int .u8 0), .lit (.int .u8 0), .lit (.int .u8 0), .lit (.int .u8 0), .lit (.int .u8 0), .lit (.int .u8 0), .lit (.int .u8 0), .lit (.int .u8 0), .lit (.int .u8 0), .lit (.int .u8 0), .lit (.int .u8 0), .lit (.int .u8 0), .lit (.int .u8 0), .lit (.int .u8 0), .lit (.int .u8 0), .lit (.int .u8 0), .lit (.int .u8 0), .lit (.int .u8 0), .lit (.int .u8 0), .lit (.int .u8 0), .lit (.int .u8 0), .lit (.int .u8 0), .lit (.int .u8 0), .lit (.int .u8 0), .lit (.int .u8 0), .lit (.int .u8 0), .lit (.int .u8 0), .lit (.int .u8 0), .lit (.int .u8 0), .lit (.int .u8 0), .lit (.int .u8 0), .lit (.int .u8 0), .lit (.int .u8 0), .lit (.int .u8 0), .lit (.int .u8 0), .lit (.int .u8 0), .lit (.int .u8 0), .lit (.int .u8 0), .lit (.int .u8 0), .lit (.int .u8 0), .lit (.int .u8 0), .lit (.int .u8 0), .lit (.int .u8 0), .lit (.int .u8 0), .lit (.int .u8 0), .lit (.int .u8 0), .lit (.int .u8 0), .lit (.int .u8 0), .lit (.int .u8 0), .lit (.int .u8 0), .lit (.int .u8 0), .lit (.int .u8 0), .lit (.int .u8 0), .lit (.int .u8 0), .lit (.int .u8 0), .lit (.int .u8 0), .lit (.int .u8 0), .lit (.int .u8 0), .lit (.int .u8 0), .lit (.int .u8 0), .lit (.int .u8 0), .lit (.int .u8 0), .lit (.int .u8 0), .lit (.int .u8 0), .lit (.int .u8 0), .lit (.int .u8 0), .lit (.int .u8 0), .lit (.int .u8 0), .lit (.int .u8 0), .lit (.int .u8 0), .lit (.int .u8 0), .lit (.int .u8 0), .lit (.int .u8 0), .lit (.int .u8 0), .lit (.int .u8 0), .lit (.int .u8 0), .lit (.int .u8 0), .lit (.int .u8 0), .lit (.int .u8 0), .lit (.int .u8 0), .lit (.int .u8 0), .lit (.int .u8 0), .lit (.int .u8 0), .lit (.int .u8 0), .lit (.int .u8 0), .lit (.int .u8 0), .lit (.int .u8 0), .lit (.int .u8 0), .lit (.int .u8 0), .lit (.int .u8 0), .lit (.int .u8 0), .lit (.int .u8 0), .lit (.int .u8 0), .lit (.int .u8 0), .lit (.int .u8 0), .lit (.int .u8 0), .lit (.int .u8 0), .lit (.int .u8 0), .lit (.int .u8 0), .lit (.int .u8 0), .lit (.int .u8 0), .lit (.int .u8 0), .lit (.int .u8 0), .lit (.int .u8 0), .lit (.int .u8 0), .lit (.int .u8 0), .lit (.int .u8 0), .lit (.int .u8 0), .lit (.int .u8 0), .lit (.int .u8 0), .lit (.int .u8 0), .lit (.int .u8 0), .lit (.int .u8 0), .lit (.int .u8 0), .lit (.int .u8 0), .lit (.int .u8 0), .lit (.int .u8 0), .lit (.int .u8 0), .lit (.int .u8 0), .lit (.int .u8 0), .lit (.int .u8 0), .lit (.int .u8 0), .lit (.int .u8 0), .lit (.int .u8 0), .lit (.int .u8 0), .lit (.int .u8 0), .lit (.int .u8 0), .lit (.int .u8 0), .lit (.int .u8 0), .lit (.int .u8 0), .lit (.int .u8 0), .lit (.int .u8 0), .lit (.int .u8 0), .lit (.int .u8 0), .lit (.int .u8 0), .lit (.int .u8 0), .lit (.int .u8 0), .lit (.int .u8 0), .lit (.int .u8 0), .lit (.int .u8 0), .lit (.int .u8 0), .lit (.int .u8 0), .lit (.int .u8 0), .lit (.int .u8 0), .lit (.int .u8 0), .lit (.int .u8 0), .lit (.int .u8 0), .lit (.int .u8 0), .lit (.int .u8 0), .lit (.int .u8 0), .lit (.int .u8 0), .lit (.int .u8 0), .lit (.int .u8 0)]
def laid_bufio_ErrBufferFull {H : Type} : DataW H := .iface "*errors.errorString" (.ptr (.agg [.lit (.string [98, 117, 102, 105, 111, 58, 32, 98, 117, 102, 102, 101, 114, 32, 102, 117, 108, 108])]))

/-- 'laws.FnNames': WHATEVER THE INPUT: true; the input reads as it did. -/
def fnNamesSpec : ChangeSpec := { name := "fnNames", fn := fun _ => fun
  | [d1, d2] => { results := [.lit (.bool true)], args := [d1, d2] }
  | _ => none }
def fnNamesRow : OpenClaim := { program := "ytfnncdngfggcjaagreatdoor", sum := "72deed1bf8cbef4aff99e09b884fbe3391de3c69d37c1645bd90b781c70c09b6", func := "loop.example/pub-g03070/laws.FnNames", spec := "fnNames", inPlace := ["internal/abi.NoEscape", "internal/bytealg.MakeNoZero", "internal/bytealg.IndexByte", "internal/bytealg.IndexByteString"], unfollowed := true, recurses := true, named := ["io.EOF", "bufio.ErrNegativeCount", "bufio.ErrBufferFull", "bufio.errNegativeRead", "io.ErrNoProgress", "unicode/utf8.first", "unicode/utf8.acceptRanges", "unicode.CaseRanges", "bytes.asciiSpace", "unicode.White_Space", "bytes.ErrTooLarge", "strings.asciiSpace", "unicode.asciiFold", "unicode.caseOrbit", "internal/strconv.uint64pow10", "math/bits.deBruijn32tab", "math/bits.deBruijn64tab"], apart := false, laid := [("math/bits.deBruijn32tab", laid_math_bits_deBruijn32tab), ("math/bits.deBruijn64tab", laid_math_bits_deBruijn64tab)] }
def FnNamesSaid : Prop := fnNamesRow.holds Tryz.pinned (OpenSpec.ofChange fnNamesSpec)

/-- ITS FALSE NEIGHBOUR: 'it returns false'. Refute it at one input. -/
def fnNamesWrong : ChangeSpec := { name := "fnNames", fn := fun _ => fun
  | [d1, d2] => { results := [.lit (.bool false)], args := [d1, d2] }
  | _ => none }
def FnNamesWrongFalsely : Prop := fnNamesRow.holds Tryz.pinned (OpenSpec.ofChange fnNamesWrong)

/-- 'laws.FnParent': WHATEVER THE INPUT: true; the input reads as it did. -/
def fnParentSpec : ChangeSpec := { name := "fnParent", fn := fun _ => fun
  | [d1, d2, d3, d4, d5, d6] => { results := [.lit (.bool true)], args := [d1, d2, d3, d4, d5, d6] }
  | _ => none }
def fnParentRow : OpenClaim := { program := "ytfnncdngfggcjaagreatdoor", sum := "72deed1bf8cbef4aff99e09b884fbe3391de3c69d37c1645bd90b781c70c09b6", func := "loop.example/pub-g03070/laws.FnParent", spec := "fnParent", inPlace := ["internal/abi.NoEscape", "internal/bytealg.MakeNoZero", "internal/bytealg.IndexByte", "internal/bytealg.IndexByteString"], unfollowed := true, recurses := true, named := ["io.EOF", "bufio.ErrNegativeCount", "bufio.ErrBufferFull", "bufio.errNegativeRead", "io.ErrNoProgress", "unicode/utf8.first", "unicode/utf8.acceptRanges", "unicode.CaseRanges", "bytes.asciiSpace", "unicode.White_Space", "bytes.ErrTooLarge", "strings.asciiSpace", "unicode.asciiFold", "unicode.caseOrbit", "internal/strconv.uint64pow10", "math/bits.deBruijn32tab", "math/bits.deBruijn64tab"], apart := false, laid := [("math/bits.deBruijn32tab", laid_math_bits_deBruijn32tab), ("math/bits.deBruijn64tab", laid_math_bits_deBruijn64tab), ("io.EOF", laid_io_EOF), ("strings.asciiSpace", laid_strings_asciiSpace), ("bufio.ErrBufferFull", laid_bufio_ErrBufferFull)] }
def FnParentSaid : Prop := fnParentRow.holds Tryz.pinned (OpenSpec.ofChange fnParentSpec)

/-- ITS FALSE NEIGHBOUR: 'it returns false'. Refute it at one input. -/
def fnParentWrong : ChangeSpec := { name := "fnParent", fn := fun _ => fun
  | [d1, d2, d3, d4, d5, d6] => { results := [.lit (.bool false)], args := [d1, d2, d3, d4, d5, d6] }
  | _ => none }
def FnParentWrongFalsely : Prop := fnParentRow.holds Tryz.pinned (OpenSpec.ofChange fnParentWrong)

/-- 'laws.FnChildren': WHATEVER THE INPUT: true; the input reads as it did. -/
def fnChildrenSpec : ChangeSpec := { name := "fnChildren", fn := fun _ => fun
  | [d1, d2] => { results := [.lit (.bool true)], args := [d1, d2] }
  | _ => none }
def fnChildrenRow : OpenClaim := { program := "ytfnncdngfggcjaagreatdoor", sum := "72deed1bf8cbef4aff99e09b884fbe3391de3c69d37c1645bd90b781c70c09b6", func := "loop.example/pub-g03070/laws.FnChildren", spec := "fnChildren", inPlace := ["internal/abi.NoEscape", "internal/bytealg.MakeNoZero", "internal/bytealg.IndexByte", "internal/bytealg.IndexByteString"], unfollowed := true, recurses := true, named := ["io.EOF", "bufio.ErrNegativeCount", "bufio.ErrBufferFull", "bufio.errNegativeRead", "io.ErrNoProgress", "unicode/utf8.first", "unicode/utf8.acceptRanges", "unicode.CaseRanges", "bytes.asciiSpace", "unicode.White_Space", "bytes.ErrTooLarge", "strings.asciiSpace", "unicode.asciiFold", "unicode.caseOrbit", "internal/strconv.uint64pow10", "math/bits.deBruijn32tab", "math/bits.deBruijn64tab"], apart := false, laid := [("math/bits.deBruijn32tab", laid_math_bits_deBruijn32tab), ("math/bits.deBruijn64tab", laid_math_bits_deBruijn64tab), ("io.EOF", laid_io_EOF), ("bufio.ErrBufferFull", laid_bufio_ErrBufferFull)] }
def FnChildrenSaid : Prop := fnChildrenRow.holds Tryz.pinned (OpenSpec.ofChange fnChildrenSpec)

/-- ITS FALSE NEIGHBOUR: 'it returns false'. Refute it at one input. -/
def fnChildrenWrong : ChangeSpec := { name := "fnChildren", fn := fun _ => fun
  | [d1, d2] => { results := [.lit (.bool false)], args := [d1, d2] }
  | _ => none }
def FnChildrenWrongFalsely : Prop := fnChildrenRow.holds Tryz.pinned (OpenSpec.ofChange fnChildrenWrong)

/-- 'laws.FnGraves': WHATEVER THE INPUT: true; the input reads as it did. -/
def fnGravesSpec : ChangeSpec := { name := "fnGraves", fn := fun _ => fun
  | [d1, d2] => { results := [.lit (.bool true)], args := [d1, d2] }
  | _ => none }
def fnGravesRow : OpenClaim := { program := "ytfnncdngfggcjaagreatdoor", sum := "72deed1bf8cbef4aff99e09b884fbe3391de3c69d37c1645bd90b781c70c09b6", func := "loop.example/pub-g03070/laws.FnGraves", spec := "fnGraves", inPlace := ["internal/abi.NoEscape", "internal/bytealg.MakeNoZero", "internal/bytealg.IndexByte", "internal/bytealg.IndexByteString"], unfollowed := true, recurses := true, named := ["io.EOF", "bufio.ErrNegativeCount", "bufio.ErrBufferFull", "bufio.errNegativeRead", "io.ErrNoProgress", "unicode/utf8.first", "unicode/utf8.acceptRanges", "unicode.CaseRanges", "bytes.asciiSpace", "unicode.White_Space", "bytes.ErrTooLarge", "strings.asciiSpace", "unicode.asciiFold", "unicode.caseOrbit", "internal/strconv.uint64pow10", "math/bits.deBruijn32tab", "math/bits.deBruijn64tab"], apart := false, laid := [("math/bits.deBruijn32tab", laid_math_bits_deBruijn32tab), ("math/bits.deBruijn64tab", laid_math_bits_deBruijn64tab)] }
def FnGravesSaid : Prop := fnGravesRow.holds Tryz.pinned (OpenSpec.ofChange fnGravesSpec)

/-- ITS FALSE NEIGHBOUR: 'it returns false'. Refute it at one input. -/
def fnGravesWrong : ChangeSpec := { name := "fnGraves", fn := fun _ => fun
  | [d1, d2] => { results := [.lit (.bool false)], args := [d1, d2] }
  | _ => none }
def FnGravesWrongFalsely : Prop := fnGravesRow.holds Tryz.pinned (OpenSpec.ofChange fnGravesWrong)

/-- 'laws.FnLoad': WHATEVER THE INPUT: true; the input reads as it did. -/
def fnLoadSpec : ChangeSpec := { name := "fnLoad", fn := fun _ => fun
  | [d1, d2, d3] => { results := [.lit (.bool true)], args := [d1, d2, d3] }
  | _ => none }
def fnLoadRow : OpenClaim := { program := "ytfnncdngfggcjaagreatdoor", sum := "72deed1bf8cbef4aff99e09b884fbe3391de3c69d37c1645bd90b781c70c09b6", func := "loop.example/pub-g03070/laws.FnLoad", spec := "fnLoad", inPlace := ["internal/abi.NoEscape", "internal/bytealg.MakeNoZero", "internal/bytealg.IndexByte", "internal/bytealg.IndexByteString"], unfollowed := true, recurses := true, named := ["io.EOF", "bufio.ErrNegativeCount", "bufio.ErrBufferFull", "bufio.errNegativeRead", "io.ErrNoProgress", "unicode/utf8.first", "unicode/utf8.acceptRanges", "unicode.CaseRanges", "bytes.asciiSpace", "unicode.White_Space", "bytes.ErrTooLarge", "strings.asciiSpace", "unicode.asciiFold", "unicode.caseOrbit", "internal/strconv.uint64pow10", "math/bits.deBruijn32tab", "math/bits.deBruijn64tab"], apart := false, laid := [("math/bits.deBruijn32tab", laid_math_bits_deBruijn32tab), ("math/bits.deBruijn64tab", laid_math_bits_deBruijn64tab)] }
def FnLoadSaid : Prop := fnLoadRow.holds Tryz.pinned (OpenSpec.ofChange fnLoadSpec)

/-- ITS FALSE NEIGHBOUR: 'it returns false'. Refute it at one input. -/
def fnLoadWrong : ChangeSpec := { name := "fnLoad", fn := fun _ => fun
  | [d1, d2, d3] => { results := [.lit (.bool false)], args := [d1, d2, d3] }
  | _ => none }
def FnLoadWrongFalsely : Prop := fnLoadRow.holds Tryz.pinned (OpenSpec.ofChange fnLoadWrong)

/-- 'laws.FnNumbered': WHATEVER THE INPUT: true; the input reads as it did. -/
def fnNumberedSpec : ChangeSpec := { name := "fnNumbered", fn := fun _ => fun
  | [d] => { results := [.lit (.bool true)], args := [d] }
  | _ => none }
def fnNumberedRow : OpenClaim := { program := "ytfnncdngfggcjaagreatdoor", sum := "72deed1bf8cbef4aff99e09b884fbe3391de3c69d37c1645bd90b781c70c09b6", func := "loop.example/pub-g03070/laws.FnNumbered", spec := "fnNumbered", inPlace := ["internal/abi.NoEscape", "internal/bytealg.MakeNoZero", "internal/bytealg.IndexByte", "internal/bytealg.IndexByteString"], unfollowed := true, recurses := true, named := ["io.EOF", "bufio.ErrNegativeCount", "bufio.ErrBufferFull", "bufio.errNegativeRead", "io.ErrNoProgress", "unicode/utf8.first", "unicode/utf8.acceptRanges", "unicode.CaseRanges", "bytes.asciiSpace", "unicode.White_Space", "bytes.ErrTooLarge", "strings.asciiSpace", "unicode.asciiFold", "unicode.caseOrbit", "internal/strconv.uint64pow10", "math/bits.deBruijn32tab", "math/bits.deBruijn64tab"], apart := false, laid := [("math/bits.deBruijn32tab", laid_math_bits_deBruijn32tab), ("math/bits.deBruijn64tab", laid_math_bits_deBruijn64tab), ("io.EOF", laid_io_EOF), ("strings.asciiSpace", laid_strings_asciiSpace), ("bufio.ErrBufferFull", laid_bufio_ErrBufferFull)] }
def FnNumberedSaid : Prop := fnNumberedRow.holds Tryz.pinned (OpenSpec.ofChange fnNumberedSpec)

/-- ITS FALSE NEIGHBOUR: 'it returns false'. Refute it at one input. -/
def fnNumberedWrong : ChangeSpec := { name := "fnNumbered", fn := fun _ => fun
  | [d] => { results := [.lit (.bool false)], args := [d] }
  | _ => none }
def FnNumberedWrongFalsely : Prop := fnNumberedRow.holds Tryz.pinned (OpenSpec.ofChange fnNumberedWrong)

/-- 'laws.FnSmall': WHATEVER THE INPUT: true; the input reads as it did. -/
def fnSmallSpec : ChangeSpec := { name := "fnSmall", fn := fun _ => fun
  | [d] => { results := [.lit (.bool true)], args := [d] }
  | _ => none }
def fnSmallRow : OpenClaim := { program := "ytfnncdngfggcjaagreatdoor", sum := "72deed1bf8cbef4aff99e09b884fbe3391de3c69d37c1645bd90b781c70c09b6", func := "loop.example/pub-g03070/laws.FnSmall", spec := "fnSmall", inPlace := ["internal/abi.NoEscape", "internal/bytealg.MakeNoZero", "internal/bytealg.IndexByte", "internal/bytealg.IndexByteString"], unfollowed := true, recurses := true, named := ["io.EOF", "bufio.ErrNegativeCount", "bufio.ErrBufferFull", "bufio.errNegativeRead", "io.ErrNoProgress", "unicode/utf8.first", "unicode/utf8.acceptRanges", "unicode.CaseRanges", "bytes.asciiSpace", "unicode.White_Space", "bytes.ErrTooLarge", "strings.asciiSpace", "unicode.asciiFold", "unicode.caseOrbit", "internal/strconv.uint64pow10", "math/bits.deBruijn32tab", "math/bits.deBruijn64tab"], apart := false, laid := [("math/bits.deBruijn32tab", laid_math_bits_deBruijn32tab), ("math/bits.deBruijn64tab", laid_math_bits_deBruijn64tab)] }
def FnSmallSaid : Prop := fnSmallRow.holds Tryz.pinned (OpenSpec.ofChange fnSmallSpec)

/-- ITS FALSE NEIGHBOUR: 'it returns false'. Refute it at one input. -/
def fnSmallWrong : ChangeSpec := { name := "fnSmall", fn := fun _ => fun
  | [d] => { results := [.lit (.bool false)], args := [d] }
  | _ => none }
def FnSmallWrongFalsely : Prop := fnSmallRow.holds Tryz.pinned (OpenSpec.ofChange fnSmallWrong)

/-- 'laws.FnTwice': WHATEVER THE INPUT: true; the input reads as it did. -/
def fnTwiceSpec : ChangeSpec := { name := "fnTwice", fn := fun _ => fun
  | [d1, d2, d3] => { results := [.lit (.bool true)], args := [d1, d2, d3] }
  | _ => none }
def fnTwiceRow : OpenClaim := { program := "ytfnncdngfggcjaagreatdoor", sum := "72deed1bf8cbef4aff99e09b884fbe3391de3c69d37c1645bd90b781c70c09b6", func := "loop.example/pub-g03070/laws.FnTwice", spec := "fnTwice", inPlace := ["internal/abi.NoEscape", "internal/bytealg.MakeNoZero", "internal/bytealg.IndexByte", "internal/bytealg.IndexByteString"], unfollowed := true, recurses := true, named := ["io.EOF", "bufio.ErrNegativeCount", "bufio.ErrBufferFull", "bufio.errNegativeRead", "io.ErrNoProgress", "unicode/utf8.first", "unicode/utf8.acceptRanges", "unicode.CaseRanges", "bytes.asciiSpace", "unicode.White_Space", "bytes.ErrTooLarge", "strings.asciiSpace", "unicode.asciiFold", "unicode.caseOrbit", "internal/strconv.uint64pow10", "math/bits.deBruijn32tab", "math/bits.deBruijn64tab"], apart := false, laid := [("math/bits.deBruijn32tab", laid_math_bits_deBruijn32tab), ("math/bits.deBruijn64tab", laid_math_bits_deBruijn64tab), ("io.EOF", laid_io_EOF), ("strings.asciiSpace", laid_strings_asciiSpace), ("bufio.ErrBufferFull", laid_bufio_ErrBufferFull)] }
def FnTwiceSaid : Prop := fnTwiceRow.holds Tryz.pinned (OpenSpec.ofChange fnTwiceSpec)

/-- ITS FALSE NEIGHBOUR: 'it returns false'. Refute it at one input. -/
def fnTwiceWrong : ChangeSpec := { name := "fnTwice", fn := fun _ => fun
  | [d1, d2, d3] => { results := [.lit (.bool false)], args := [d1, d2, d3] }
  | _ => none }
def FnTwiceWrongFalsely : Prop := fnTwiceRow.holds Tryz.pinned (OpenSpec.ofChange fnTwiceWrong)

/-- 'laws.FnStands': WHATEVER THE INPUT: true; the input reads as it did. -/
def fnStandsSpec : ChangeSpec := { name := "fnStands", fn := fun _ => fun
  | [d1, d2, d3, d4, d5, d6] => { results := [.lit (.bool true)], args := [d1, d2, d3, d4, d5, d6] }
  | _ => none }
def fnStandsRow : OpenClaim := { program := "ytfnncdngfggcjaagreatdoor", sum := "72deed1bf8cbef4aff99e09b884fbe3391de3c69d37c1645bd90b781c70c09b6", func := "loop.example/pub-g03070/laws.FnStands", spec := "fnStands", inPlace := ["internal/abi.NoEscape", "internal/bytealg.MakeNoZero", "internal/bytealg.IndexByte", "internal/bytealg.IndexByteString"], unfollowed := true, recurses := true, named := ["io.EOF", "bufio.ErrNegativeCount", "bufio.ErrBufferFull", "bufio.errNegativeRead", "io.ErrNoProgress", "unicode/utf8.first", "unicode/utf8.acceptRanges", "unicode.CaseRanges", "bytes.asciiSpace", "unicode.White_Space", "bytes.ErrTooLarge", "strings.asciiSpace", "unicode.asciiFold", "unicode.caseOrbit", "internal/strconv.uint64pow10", "math/bits.deBruijn32tab", "math/bits.deBruijn64tab"], apart := false, laid := [("math/bits.deBruijn32tab", laid_math_bits_deBruijn32tab), ("math/bits.deBruijn64tab", laid_math_bits_deBruijn64tab), ("io.EOF", laid_io_EOF), ("strings.asciiSpace", laid_strings_asciiSpace), ("bufio.ErrBufferFull", laid_bufio_ErrBufferFull)] }
def FnStandsSaid : Prop := fnStandsRow.holds Tryz.pinned (OpenSpec.ofChange fnStandsSpec)

/-- ITS FALSE NEIGHBOUR: 'it returns false'. Refute it at one input. -/
def fnStandsWrong : ChangeSpec := { name := "fnStands", fn := fun _ => fun
  | [d1, d2, d3, d4, d5, d6] => { results := [.lit (.bool false)], args := [d1, d2, d3, d4, d5, d6] }
  | _ => none }
def FnStandsWrongFalsely : Prop := fnStandsRow.holds Tryz.pinned (OpenSpec.ofChange fnStandsWrong)

/-- 'laws.FnTruth': WHATEVER THE INPUT: true; the input reads as it did. -/
def fnTruthSpec : ChangeSpec := { name := "fnTruth", fn := fun _ => fun
  | [d] => { results := [.lit (.bool true)], args := [d] }
  | _ => none }
def fnTruthRow : OpenClaim := { program := "ytfnncdngfggcjaagreatdoor", sum := "72deed1bf8cbef4aff99e09b884fbe3391de3c69d37c1645bd90b781c70c09b6", func := "loop.example/pub-g03070/laws.FnTruth", spec := "fnTruth", inPlace := ["internal/abi.NoEscape", "internal/bytealg.MakeNoZero", "internal/bytealg.IndexByte", "internal/bytealg.IndexByteString"], unfollowed := true, recurses := true, named := ["io.EOF", "bufio.ErrNegativeCount", "bufio.ErrBufferFull", "bufio.errNegativeRead", "io.ErrNoProgress", "unicode/utf8.first", "unicode/utf8.acceptRanges", "unicode.CaseRanges", "bytes.asciiSpace", "unicode.White_Space", "bytes.ErrTooLarge", "strings.asciiSpace", "unicode.asciiFold", "unicode.caseOrbit", "internal/strconv.uint64pow10", "math/bits.deBruijn32tab", "math/bits.deBruijn64tab"], apart := false, laid := [("math/bits.deBruijn32tab", laid_math_bits_deBruijn32tab), ("math/bits.deBruijn64tab", laid_math_bits_deBruijn64tab), ("io.EOF", laid_io_EOF), ("bufio.ErrBufferFull", laid_bufio_ErrBufferFull)] }
def FnTruthSaid : Prop := fnTruthRow.holds Tryz.pinned (OpenSpec.ofChange fnTruthSpec)

/-- ITS FALSE NEIGHBOUR: 'it returns false'. Refute it at one input. -/
def fnTruthWrong : ChangeSpec := { name := "fnTruth", fn := fun _ => fun
  | [d] => { results := [.lit (.bool false)], args := [d] }
  | _ => none }
def FnTruthWrongFalsely : Prop := fnTruthRow.holds Tryz.pinned (OpenSpec.ofChange fnTruthWrong)

/-- 'laws.FnIn': WHATEVER THE INPUT: true; the input reads as it did. -/
def fnInSpec : ChangeSpec := { name := "fnIn", fn := fun _ => fun
  | [d1, d2, d3] => { results := [.lit (.bool true)], args := [d1, d2, d3] }
  | _ => none }
def fnInRow : OpenClaim := { program := "ytfnncdngfggcjaagreatdoor", sum := "72deed1bf8cbef4aff99e09b884fbe3391de3c69d37c1645bd90b781c70c09b6", func := "loop.example/pub-g03070/laws.FnIn", spec := "fnIn", inPlace := ["internal/abi.NoEscape", "internal/bytealg.MakeNoZero", "internal/bytealg.IndexByte", "internal/bytealg.IndexByteString"], unfollowed := true, recurses := true, named := ["io.EOF", "bufio.ErrNegativeCount", "bufio.ErrBufferFull", "bufio.errNegativeRead", "io.ErrNoProgress", "unicode/utf8.first", "unicode/utf8.acceptRanges", "unicode.CaseRanges", "bytes.asciiSpace", "unicode.White_Space", "bytes.ErrTooLarge", "strings.asciiSpace", "unicode.asciiFold", "unicode.caseOrbit", "internal/strconv.uint64pow10", "math/bits.deBruijn32tab", "math/bits.deBruijn64tab"], apart := false, laid := [("math/bits.deBruijn32tab", laid_math_bits_deBruijn32tab), ("math/bits.deBruijn64tab", laid_math_bits_deBruijn64tab), ("io.EOF", laid_io_EOF), ("bufio.ErrBufferFull", laid_bufio_ErrBufferFull)] }
def FnInSaid : Prop := fnInRow.holds Tryz.pinned (OpenSpec.ofChange fnInSpec)

/-- ITS FALSE NEIGHBOUR: 'it returns false'. Refute it at one input. -/
def fnInWrong : ChangeSpec := { name := "fnIn", fn := fun _ => fun
  | [d1, d2, d3] => { results := [.lit (.bool false)], args := [d1, d2, d3] }
  | _ => none }
def FnInWrongFalsely : Prop := fnInRow.holds Tryz.pinned (OpenSpec.ofChange fnInWrong)

/-- 'laws.FnStrings': WHATEVER THE INPUT: true; the input reads as it did. -/
def fnStringsSpec : ChangeSpec := { name := "fnStrings", fn := fun _ => fun
  | [d1, d2] => { results := [.lit (.bool true)], args := [d1, d2] }
  | _ => none }
def fnStringsRow : OpenClaim := { program := "ytfnncdngfggcjaagreatdoor", sum := "72deed1bf8cbef4aff99e09b884fbe3391de3c69d37c1645bd90b781c70c09b6", func := "loop.example/pub-g03070/laws.FnStrings", spec := "fnStrings", inPlace := ["internal/abi.NoEscape", "internal/bytealg.MakeNoZero", "internal/bytealg.IndexByte", "internal/bytealg.IndexByteString"], unfollowed := true, recurses := true, named := ["io.EOF", "bufio.ErrNegativeCount", "bufio.ErrBufferFull", "bufio.errNegativeRead", "io.ErrNoProgress", "unicode/utf8.first", "unicode/utf8.acceptRanges", "unicode.CaseRanges", "bytes.asciiSpace", "unicode.White_Space", "bytes.ErrTooLarge", "strings.asciiSpace", "unicode.asciiFold", "unicode.caseOrbit", "internal/strconv.uint64pow10", "math/bits.deBruijn32tab", "math/bits.deBruijn64tab"], apart := false, laid := [("math/bits.deBruijn32tab", laid_math_bits_deBruijn32tab), ("math/bits.deBruijn64tab", laid_math_bits_deBruijn64tab), ("io.EOF", laid_io_EOF), ("strings.asciiSpace", laid_strings_asciiSpace), ("bufio.ErrBufferFull", laid_bufio_ErrBufferFull)] }
def FnStringsSaid : Prop := fnStringsRow.holds Tryz.pinned (OpenSpec.ofChange fnStringsSpec)

/-- ITS FALSE NEIGHBOUR: 'it returns false'. Refute it at one input. -/
def fnStringsWrong : ChangeSpec := { name := "fnStrings", fn := fun _ => fun
  | [d1, d2] => { results := [.lit (.bool false)], args := [d1, d2] }
  | _ => none }
def FnStringsWrongFalsely : Prop := fnStringsRow.holds Tryz.pinned (OpenSpec.ofChange fnStringsWrong)

/- THE SECOND FORM. 'bulk': how many values and letters a reading holds, each counted each time it is reached (what is shared counts as often as it is met; a slice's spare places count too). A statement '..UptoSaid' is the law's where the arguments, and the package variables that the reading takes, are together of bulk at most 1048576: NARROWER than '..Said'. Prove '..Said' where nothing that the law and all that it calls make is longer than what came in: it says more and counts as full. Else prove '..UptoSaid'. A law counts once. -/
mutual
def uptoBulk {H : Type} : DataW H → Nat
  | .lit (.string bytes) => bytes.length + 1
  | .lit _ => 1
  | .nil => 1
  | .ptr d => uptoBulk d + 1
  | .slice elems spare => uptoBulkAll elems + uptoBulkAll spare + 1
  | .agg parts => uptoBulkAll parts + 1
  | .iface _ d => uptoBulk d + 1
  | .map entries => uptoBulkEntries entries + 1
  | .held _ => 1
def uptoBulkAll {H : Type} : List (DataW H) → Nat
  | [] => 0
  | d :: r => uptoBulk d + uptoBulkAll r
def uptoBulkEntries {H : Type} : List (Lit × DataW H) → Nat
  | [] => 0
  | x :: r => uptoBulkEntry x + uptoBulkEntries r
def uptoBulkEntry {H : Type} : Lit × DataW H → Nat
  | (.string bytes, d) => bytes.length + uptoBulk d + 1
  | (_, d) => uptoBulk d + 1
 end
def uptoSmall : (H : Type) → List (DataW H) → Bool := fun _ ds => decide (uptoBulkAll ds ≤ 1048576)
def OpenSpec.upto (s : _root_.Go.ChangeSpec) : _root_.Go.OpenSpec := { _root_.Go.OpenSpec.ofChange s with cond := some uptoSmall }

/-- 'laws.FnNames', WHERE WHAT IT READS IS OF BULK AT MOST 1048576: true; the input reads as it did. -/
def fnNamesUptoRow : OpenClaim := { program := "ytfnncdngfggcjaagreatdoor", sum := "72deed1bf8cbef4aff99e09b884fbe3391de3c69d37c1645bd90b781c70c09b6", func := "loop.example/pub-g03070/laws.FnNames", spec := "fnNames", inPlace := ["internal/abi.NoEscape", "internal/bytealg.MakeNoZero", "internal/bytealg.IndexByte", "internal/bytealg.IndexByteString"], unfollowed := true, recurses := true, named := ["io.EOF", "bufio.ErrNegativeCount", "bufio.ErrBufferFull", "bufio.errNegativeRead", "io.ErrNoProgress", "unicode/utf8.first", "unicode/utf8.acceptRanges", "unicode.CaseRanges", "bytes.asciiSpace", "unicode.White_Space", "bytes.ErrTooLarge", "strings.asciiSpace", "unicode.asciiFold", "unicode.caseOrbit", "internal/strconv.uint64pow10", "math/bits.deBruijn32tab", "math/bits.deBruijn64tab"], apart := false, laid := [("math/bits.deBruijn32tab", laid_math_bits_deBruijn32tab), ("math/bits.deBruijn64tab", laid_math_bits_deBruijn64tab)], narrowed := true }
def FnNamesUptoSaid : Prop := fnNamesUptoRow.holds Tryz.pinned (OpenSpec.upto fnNamesSpec)

/-- 'laws.FnParent', WHERE WHAT IT READS IS OF BULK AT MOST 1048576: true; the input reads as it did. -/
def fnParentUptoRow : OpenClaim := { program := "ytfnncdngfggcjaagreatdoor", sum := "72deed1bf8cbef4aff99e09b884fbe3391de3c69d37c1645bd90b781c70c09b6", func := "loop.example/pub-g03070/laws.FnParent", spec := "fnParent", inPlace := ["internal/abi.NoEscape", "internal/bytealg.MakeNoZero", "internal/bytealg.IndexByte", "internal/bytealg.IndexByteString"], unfollowed := true, recurses := true, named := ["io.EOF", "bufio.ErrNegativeCount", "bufio.ErrBufferFull", "bufio.errNegativeRead", "io.ErrNoProgress", "unicode/utf8.first", "unicode/utf8.acceptRanges", "unicode.CaseRanges", "bytes.asciiSpace", "unicode.White_Space", "bytes.ErrTooLarge", "strings.asciiSpace", "unicode.asciiFold", "unicode.caseOrbit", "internal/strconv.uint64pow10", "math/bits.deBruijn32tab", "math/bits.deBruijn64tab"], apart := false, laid := [("math/bits.deBruijn32tab", laid_math_bits_deBruijn32tab), ("math/bits.deBruijn64tab", laid_math_bits_deBruijn64tab), ("io.EOF", laid_io_EOF), ("strings.asciiSpace", laid_strings_asciiSpace), ("bufio.ErrBufferFull", laid_bufio_ErrBufferFull)], narrowed := true }
def FnParentUptoSaid : Prop := fnParentUptoRow.holds Tryz.pinned (OpenSpec.upto fnParentSpec)

/-- 'laws.FnChildren', WHERE WHAT IT READS IS OF BULK AT MOST 1048576: true; the input reads as it did. -/
def fnChildrenUptoRow : OpenClaim := { program := "ytfnncdngfggcjaagreatdoor", sum := "72deed1bf8cbef4aff99e09b884fbe3391de3c69d37c1645bd90b781c70c09b6", func := "loop.example/pub-g03070/laws.FnChildren", spec := "fnChildren", inPlace := ["internal/abi.NoEscape", "internal/bytealg.MakeNoZero", "internal/bytealg.IndexByte", "internal/bytealg.IndexByteString"], unfollowed := true, recurses := true, named := ["io.EOF", "bufio.ErrNegativeCount", "bufio.ErrBufferFull", "bufio.errNegativeRead", "io.ErrNoProgress", "unicode/utf8.first", "unicode/utf8.acceptRanges", "unicode.CaseRanges", "bytes.asciiSpace", "unicode.White_Space", "bytes.ErrTooLarge", "strings.asciiSpace", "unicode.asciiFold", "unicode.caseOrbit", "internal/strconv.uint64pow10", "math/bits.deBruijn32tab", "math/bits.deBruijn64tab"], apart := false, laid := [("math/bits.deBruijn32tab", laid_math_bits_deBruijn32tab), ("math/bits.deBruijn64tab", laid_math_bits_deBruijn64tab), ("io.EOF", laid_io_EOF), ("bufio.ErrBufferFull", laid_bufio_ErrBufferFull)], narrowed := true }
def FnChildrenUptoSaid : Prop := fnChildrenUptoRow.holds Tryz.pinned (OpenSpec.upto fnChildrenSpec)

/-- 'laws.FnGraves', WHERE WHAT IT READS IS OF BULK AT MOST 1048576: true; the input reads as it did. -/
def fnGravesUptoRow : OpenClaim := { program := "ytfnncdngfggcjaagreatdoor", sum := "72deed1bf8cbef4aff99e09b884fbe3391de3c69d37c1645bd90b781c70c09b6", func := "loop.example/pub-g03070/laws.FnGraves", spec := "fnGraves", inPlace := ["internal/abi.NoEscape", "internal/bytealg.MakeNoZero", "internal/bytealg.IndexByte", "internal/bytealg.IndexByteString"], unfollowed := true, recurses := true, named := ["io.EOF", "bufio.ErrNegativeCount", "bufio.ErrBufferFull", "bufio.errNegativeRead", "io.ErrNoProgress", "unicode/utf8.first", "unicode/utf8.acceptRanges", "unicode.CaseRanges", "bytes.asciiSpace", "unicode.White_Space", "bytes.ErrTooLarge", "strings.asciiSpace", "unicode.asciiFold", "unicode.caseOrbit", "internal/strconv.uint64pow10", "math/bits.deBruijn32tab", "math/bits.deBruijn64tab"], apart := false, laid := [("math/bits.deBruijn32tab", laid_math_bits_deBruijn32tab), ("math/bits.deBruijn64tab", laid_math_bits_deBruijn64tab)], narrowed := true }
def FnGravesUptoSaid : Prop := fnGravesUptoRow.holds Tryz.pinned (OpenSpec.upto fnGravesSpec)

/-- 'laws.FnLoad', WHERE WHAT IT READS IS OF BULK AT MOST 1048576: true; the input reads as it did. -/
def fnLoadUptoRow : OpenClaim := { program := "ytfnncdngfggcjaagreatdoor", sum := "72deed1bf8cbef4aff99e09b884fbe3391de3c69d37c1645bd90b781c70c09b6", func := "loop.example/pub-g03070/laws.FnLoad", spec := "fnLoad", inPlace := ["internal/abi.NoEscape", "internal/bytealg.MakeNoZero", "internal/bytealg.IndexByte", "internal/bytealg.IndexByteString"], unfollowed := true, recurses := true, named := ["io.EOF", "bufio.ErrNegativeCount", "bufio.ErrBufferFull", "bufio.errNegativeRead", "io.ErrNoProgress", "unicode/utf8.first", "unicode/utf8.acceptRanges", "unicode.CaseRanges", "bytes.asciiSpace", "unicode.White_Space", "bytes.ErrTooLarge", "strings.asciiSpace", "unicode.asciiFold", "unicode.caseOrbit", "internal/strconv.uint64pow10", "math/bits.deBruijn32tab", "math/bits.deBruijn64tab"], apart := false, laid := [("math/bits.deBruijn32tab", laid_math_bits_deBruijn32tab), ("math/bits.deBruijn64tab", laid_math_bits_deBruijn64tab)], narrowed := true }
def FnLoadUptoSaid : Prop := fnLoadUptoRow.holds Tryz.pinned (OpenSpec.upto fnLoadSpec)

/-- 'laws.FnNumbered', WHERE WHAT IT READS IS OF BULK AT MOST 1048576: true; the input reads as it did. -/
def fnNumberedUptoRow : OpenClaim := { program := "ytfnncdngfggcjaagreatdoor", sum := "72deed1bf8cbef4aff99e09b884fbe3391de3c69d37c1645bd90b781c70c09b6", func := "loop.example/pub-g03070/laws.FnNumbered", spec := "fnNumbered", inPlace := ["internal/abi.NoEscape", "internal/bytealg.MakeNoZero", "internal/bytealg.IndexByte", "internal/bytealg.IndexByteString"], unfollowed := true, recurses := true, named := ["io.EOF", "bufio.ErrNegativeCount", "bufio.ErrBufferFull", "bufio.errNegativeRead", "io.ErrNoProgress", "unicode/utf8.first", "unicode/utf8.acceptRanges", "unicode.CaseRanges", "bytes.asciiSpace", "unicode.White_Space", "bytes.ErrTooLarge", "strings.asciiSpace", "unicode.asciiFold", "unicode.caseOrbit", "internal/strconv.uint64pow10", "math/bits.deBruijn32tab", "math/bits.deBruijn64tab"], apart := false, laid := [("math/bits.deBruijn32tab", laid_math_bits_deBruijn32tab), ("math/bits.deBruijn64tab", laid_math_bits_deBruijn64tab), ("io.EOF", laid_io_EOF), ("strings.asciiSpace", laid_strings_asciiSpace), ("bufio.ErrBufferFull", laid_bufio_ErrBufferFull)], narrowed := true }
def FnNumberedUptoSaid : Prop := fnNumberedUptoRow.holds Tryz.pinned (OpenSpec.upto fnNumberedSpec)

/-- 'laws.FnSmall', WHERE WHAT IT READS IS OF BULK AT MOST 1048576: true; the input reads as it did. -/
def fnSmallUptoRow : OpenClaim := { program := "ytfnncdngfggcjaagreatdoor", sum := "72deed1bf8cbef4aff99e09b884fbe3391de3c69d37c1645bd90b781c70c09b6", func := "loop.example/pub-g03070/laws.FnSmall", spec := "fnSmall", inPlace := ["internal/abi.NoEscape", "internal/bytealg.MakeNoZero", "internal/bytealg.IndexByte", "internal/bytealg.IndexByteString"], unfollowed := true, recurses := true, named := ["io.EOF", "bufio.ErrNegativeCount", "bufio.ErrBufferFull", "bufio.errNegativeRead", "io.ErrNoProgress", "unicode/utf8.first", "unicode/utf8.acceptRanges", "unicode.CaseRanges", "bytes.asciiSpace", "unicode.White_Space", "bytes.ErrTooLarge", "strings.asciiSpace", "unicode.asciiFold", "unicode.caseOrbit", "internal/strconv.uint64pow10", "math/bits.deBruijn32tab", "math/bits.deBruijn64tab"], apart := false, laid := [("math/bits.deBruijn32tab", laid_math_bits_deBruijn32tab), ("math/bits.deBruijn64tab", laid_math_bits_deBruijn64tab)], narrowed := true }
def FnSmallUptoSaid : Prop := fnSmallUptoRow.holds Tryz.pinned (OpenSpec.upto fnSmallSpec)

/-- 'laws.FnTwice', WHERE WHAT IT READS IS OF BULK AT MOST 1048576: true; the input reads as it did. -/
def fnTwiceUptoRow : OpenClaim := { program := "ytfnncdngfggcjaagreatdoor", sum := "72deed1bf8cbef4aff99e09b884fbe3391de3c69d37c1645bd90b781c70c09b6", func := "loop.example/pub-g03070/laws.FnTwice", spec := "fnTwice", inPlace := ["internal/abi.NoEscape", "internal/bytealg.MakeNoZero", "internal/bytealg.IndexByte", "internal/bytealg.IndexByteString"], unfollowed := true, recurses := true, named := ["io.EOF", "bufio.ErrNegativeCount", "bufio.ErrBufferFull", "bufio.errNegativeRead", "io.ErrNoProgress", "unicode/utf8.first", "unicode/utf8.acceptRanges", "unicode.CaseRanges", "bytes.asciiSpace", "unicode.White_Space", "bytes.ErrTooLarge", "strings.asciiSpace", "unicode.asciiFold", "unicode.caseOrbit", "internal/strconv.uint64pow10", "math/bits.deBruijn32tab", "math/bits.deBruijn64tab"], apart := false, laid := [("math/bits.deBruijn32tab", laid_math_bits_deBruijn32tab), ("math/bits.deBruijn64tab", laid_math_bits_deBruijn64tab), ("io.EOF", laid_io_EOF), ("strings.asciiSpace", laid_strings_asciiSpace), ("bufio.ErrBufferFull", laid_bufio_ErrBufferFull)], narrowed := true }
def FnTwiceUptoSaid : Prop := fnTwiceUptoRow.holds Tryz.pinned (OpenSpec.upto fnTwiceSpec)

/-- 'laws.FnStands', WHERE WHAT IT READS IS OF BULK AT MOST 1048576: true; the input reads as it did. -/
def fnStandsUptoRow : OpenClaim := { program := "ytfnncdngfggcjaagreatdoor", sum := "72deed1bf8cbef4aff99e09b884fbe3391de3c69d37c1645bd90b781c70c09b6", func := "loop.example/pub-g03070/laws.FnStands", spec := "fnStands", inPlace := ["internal/abi.NoEscape", "internal/bytealg.MakeNoZero", "internal/bytealg.IndexByte", "internal/bytealg.IndexByteString"], unfollowed := true, recurses := true, named := ["io.EOF", "bufio.ErrNegativeCount", "bufio.ErrBufferFull", "bufio.errNegativeRead", "io.ErrNoProgress", "unicode/utf8.first", "unicode/utf8.acceptRanges", "unicode.CaseRanges", "bytes.asciiSpace", "unicode.White_Space", "bytes.ErrTooLarge", "strings.asciiSpace", "unicode.asciiFold", "unicode.caseOrbit", "internal/strconv.uint64pow10", "math/bits.deBruijn32tab", "math/bits.deBruijn64tab"], apart := false, laid := [("math/bits.deBruijn32tab", laid_math_bits_deBruijn32tab), ("math/bits.deBruijn64tab", laid_math_bits_deBruijn64tab), ("io.EOF", laid_io_EOF), ("strings.asciiSpace", laid_strings_asciiSpace), ("bufio.ErrBufferFull", laid_bufio_ErrBufferFull)], narrowed := true }
def FnStandsUptoSaid : Prop := fnStandsUptoRow.holds Tryz.pinned (OpenSpec.upto fnStandsSpec)

/-- 'laws.FnTruth', WHERE WHAT IT READS IS OF BULK AT MOST 1048576: true; the input reads as it did. -/
def fnTruthUptoRow : OpenClaim := { program := "ytfnncdngfggcjaagreatdoor", sum := "72deed1bf8cbef4aff99e09b884fbe3391de3c69d37c1645bd90b781c70c09b6", func := "loop.example/pub-g03070/laws.FnTruth", spec := "fnTruth", inPlace := ["internal/abi.NoEscape", "internal/bytealg.MakeNoZero", "internal/bytealg.IndexByte", "internal/bytealg.IndexByteString"], unfollowed := true, recurses := true, named := ["io.EOF", "bufio.ErrNegativeCount", "bufio.ErrBufferFull", "bufio.errNegativeRead", "io.ErrNoProgress", "unicode/utf8.first", "unicode/utf8.acceptRanges", "unicode.CaseRanges", "bytes.asciiSpace", "unicode.White_Space", "bytes.ErrTooLarge", "strings.asciiSpace", "unicode.asciiFold", "unicode.caseOrbit", "internal/strconv.uint64pow10", "math/bits.deBruijn32tab", "math/bits.deBruijn64tab"], apart := false, laid := [("math/bits.deBruijn32tab", laid_math_bits_deBruijn32tab), ("math/bits.deBruijn64tab", laid_math_bits_deBruijn64tab), ("io.EOF", laid_io_EOF), ("bufio.ErrBufferFull", laid_bufio_ErrBufferFull)], narrowed := true }
def FnTruthUptoSaid : Prop := fnTruthUptoRow.holds Tryz.pinned (OpenSpec.upto fnTruthSpec)

/-- 'laws.FnIn', WHERE WHAT IT READS IS OF BULK AT MOST 1048576: true; the input reads as it did. -/
def fnInUptoRow : OpenClaim := { program := "ytfnncdngfggcjaagreatdoor", sum := "72deed1bf8cbef4aff99e09b884fbe3391de3c69d37c1645bd90b781c70c09b6", func := "loop.example/pub-g03070/laws.FnIn", spec := "fnIn", inPlace := ["internal/abi.NoEscape", "internal/bytealg.MakeNoZero", "internal/bytealg.IndexByte", "internal/bytealg.IndexByteString"], unfollowed := true, recurses := true, named := ["io.EOF", "bufio.ErrNegativeCount", "bufio.ErrBufferFull", "bufio.errNegativeRead", "io.ErrNoProgress", "unicode/utf8.first", "unicode/utf8.acceptRanges", "unicode.CaseRanges", "bytes.asciiSpace", "unicode.White_Space", "bytes.ErrTooLarge", "strings.asciiSpace", "unicode.asciiFold", "unicode.caseOrbit", "internal/strconv.uint64pow10", "math/bits.deBruijn32tab", "math/bits.deBruijn64tab"], apart := false, laid := [("math/bits.deBruijn32tab", laid_math_bits_deBruijn32tab), ("math/bits.deBruijn64tab", laid_math_bits_deBruijn64tab), ("io.EOF", laid_io_EOF), ("bufio.ErrBufferFull", laid_bufio_ErrBufferFull)], narrowed := true }
def FnInUptoSaid : Prop := fnInUptoRow.holds Tryz.pinned (OpenSpec.upto fnInSpec)

/-- 'laws.FnStrings', WHERE WHAT IT READS IS OF BULK AT MOST 1048576: true; the input reads as it did. -/
def fnStringsUptoRow : OpenClaim := { program := "ytfnncdngfggcjaagreatdoor", sum := "72deed1bf8cbef4aff99e09b884fbe3391de3c69d37c1645bd90b781c70c09b6", func := "loop.example/pub-g03070/laws.FnStrings", spec := "fnStrings", inPlace := ["internal/abi.NoEscape", "internal/bytealg.MakeNoZero", "internal/bytealg.IndexByte", "internal/bytealg.IndexByteString"], unfollowed := true, recurses := true, named := ["io.EOF", "bufio.ErrNegativeCount", "bufio.ErrBufferFull", "bufio.errNegativeRead", "io.ErrNoProgress", "unicode/utf8.first", "unicode/utf8.acceptRanges", "unicode.CaseRanges", "bytes.asciiSpace", "unicode.White_Space", "bytes.ErrTooLarge", "strings.asciiSpace", "unicode.asciiFold", "unicode.caseOrbit", "internal/strconv.uint64pow10", "math/bits.deBruijn32tab", "math/bits.deBruijn64tab"], apart := false, laid := [("math/bits.deBruijn32tab", laid_math_bits_deBruijn32tab), ("math/bits.deBruijn64tab", laid_math_bits_deBruijn64tab), ("io.EOF", laid_io_EOF), ("strings.asciiSpace", laid_strings_asciiSpace), ("bufio.ErrBufferFull", laid_bufio_ErrBufferFull)], narrowed := true }
def FnStringsUptoSaid : Prop := fnStringsUptoRow.holds Tryz.pinned (OpenSpec.upto fnStringsSpec)

end Rows
end Go.Proofs.YtfnncdngfggcjaaGreatDoor

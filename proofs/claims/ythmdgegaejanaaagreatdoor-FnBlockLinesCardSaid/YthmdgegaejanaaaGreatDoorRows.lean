/-
  NARROWER THAN 'FOR EVERY INPUT', by the rows' own cells (each row's printed sentence says how): FnBlockLines: laid · FnComments: laid · FnEscape: laid · FnNumberBent: laid · FnSigns: laid · FnStringPlain: laid.
  DERIVED. THE GIVEN ROWS OF THIS SEAT. 6 by the template 'for every input the law returns true; each argument reads behind the call as it read before'; 0 by the template 'total and deterministic' (their statements: YthmdgegaejanaaaGreatDoorTotals.lean).
  GIVEN WITH THE SEED: the statements are not yours to turn. If you find one false, say at which input.
  Laid BY PROGRAM, IN A SANDBOX (cutbox-rows.mjs): the forced cells as the released guide's own fill.sh prints them over the translation 17cda9698a9e09ac… (all of the seat's roots in one cut). By AI agents, Wed Nov 11 2026. No macro, syntax, notation, axiom, sorry.
-/
import Derived.Test.YthmdgegaejanaaaGreatDoorChecked
import GoSem.PinnedTables
import GoSem.Claim
import GoSem.ClaimJoined
import GoSem.ClaimMapViews
import Derived.JoinedTies
import Derived.KernelRfl
namespace Go.Proofs.YthmdgegaejanaaaGreatDoor
/- THE CELL 'sum', in the pinned program and in every row, IS THE sha256 OF THE DUMP (.gsa) THAT YthmdgegaejanaaaGreatDoorProg.lean LOADS. Nothing in Lean hashes anything: it is a label: what it is worth is what the hold of that sum in a sandbox is worth. -/
noncomputable def Tryz.pinned : Pinned := { name := "ythmdgegaejanaaagreatdoor", sum := "17cda9698a9e09ac2970e4c294e7f94e9bebb59da1ceb1dba0477785250fc70b", checked := Tryz.checked }
namespace Rows
def none {H : Type} : Left H := { results := [], args := [] }

/- WHAT THE LISTED PACKAGE-LEVEL VARIABLES READ AS WHEN THE CALL BEGINS. Each datum BY PROGRAM (the guide's laid-datum.mjs) off the statement by which the dump's own 'gosem.cut.vars' lays the variable. In a bare row this is a premise. The card (YthmdgegaejanaaaGreatDoorCards.lean) ties it to the program's text. -/
def laid_unicode_utf8_acceptRanges {H : Type} : DataW H := .agg [.agg [.lit (.int .u8 128), .lit (.int .u8 191)], .agg [.lit (.int .u8 160), .lit (.int .u8 191)], .agg [.lit (.int .u8 128), .lit (.int .u8 159)], .agg [.lit (.int .u8 144), .lit (.int .u8 191)], .agg [.lit (.int .u8 128), .lit (.int .u8 143)], .agg [.lit (.int .u8 0), .lit (.int .u8 0)], .agg [.lit (.int .u8 0), .lit (.int .u8 0)], .agg [.lit (.int .u8 0), .lit (.int .u8 0)], .agg [.lit (.int .u8 0), .lit (.int .u8 0)], .agg [.lit (.int .u8 0), .lit (.int .u8 0)], .agg [.lit (.int .u8 0), .lit (.int .u8 0)], .agg [.lit (.int .u8 0), .lit (.int .u8 0)], .agg [.lit (.int .u8 0), .lit (.int .u8 0)], .agg [.lit (.int .u8 0), .lit (.int .u8 0)], .agg [.lit (.int .u8 0), .lit (.int .u8 0)], .agg [.lit (.int .u8 0), .lit (.int .u8 0)]]
def laid_bytes_ErrTooLarge {H : Type} : DataW H := .iface "*errors.errorString" (.ptr (.agg [.lit (.string [98, 121, 116, 101, 115, 46, 66, 117, 102, 102, 101, 114, 58, 32, 116, 111, 111, 32, 108, 97, 114, 103, 101])]))
/-- One of Go's own tables, pinned by name: the form's constant. -/
def laid_unicode_utf8_first : DataW Unit := Go.Pinned.utf8First

/-- 'laws.FnBlockLines': WHATEVER THE INPUT: true; the input reads as it did. -/
def fnBlockLinesSpec : ChangeSpec := { name := "fnBlockLines", fn := fun _ => fun
  | [d1, d2] => { results := [.lit (.bool true)], args := [d1, d2] }
  | _ => none }
def fnBlockLinesRow : OpenClaim := { program := "ythmdgegaejanaaagreatdoor", sum := "17cda9698a9e09ac2970e4c294e7f94e9bebb59da1ceb1dba0477785250fc70b", func := "given.example/pub-antiphonal/laws.FnBlockLines", spec := "fnBlockLines", inPlace := ["internal/abi.NoEscape", "internal/bytealg.MakeNoZero"], unfollowed := true, recurses := true, named := ["unicode/utf8.first", "unicode/utf8.acceptRanges", "bytes.ErrTooLarge"], apart := false, laid := [("unicode/utf8.acceptRanges", laid_unicode_utf8_acceptRanges), ("bytes.ErrTooLarge", laid_bytes_ErrTooLarge), ("unicode/utf8.first", laid_unicode_utf8_first)] }
def FnBlockLinesSaid : Prop := fnBlockLinesRow.holds Tryz.pinned (OpenSpec.ofChange fnBlockLinesSpec)

/-- ITS FALSE NEIGHBOUR: 'it returns false'. Refute it at one input. -/
def fnBlockLinesWrong : ChangeSpec := { name := "fnBlockLines", fn := fun _ => fun
  | [d1, d2] => { results := [.lit (.bool false)], args := [d1, d2] }
  | _ => none }
def FnBlockLinesWrongFalsely : Prop := fnBlockLinesRow.holds Tryz.pinned (OpenSpec.ofChange fnBlockLinesWrong)

/-- 'laws.FnComments': WHATEVER THE INPUT: true; the input reads as it did. -/
def fnCommentsSpec : ChangeSpec := { name := "fnComments", fn := fun _ => fun
  | [d1, d2, d3, d4] => { results := [.lit (.bool true)], args := [d1, d2, d3, d4] }
  | _ => none }
def fnCommentsRow : OpenClaim := { program := "ythmdgegaejanaaagreatdoor", sum := "17cda9698a9e09ac2970e4c294e7f94e9bebb59da1ceb1dba0477785250fc70b", func := "given.example/pub-antiphonal/laws.FnComments", spec := "fnComments", inPlace := ["internal/abi.NoEscape", "internal/bytealg.MakeNoZero"], unfollowed := true, recurses := true, named := ["unicode/utf8.first", "unicode/utf8.acceptRanges", "bytes.ErrTooLarge"], apart := false, laid := [("unicode/utf8.acceptRanges", laid_unicode_utf8_acceptRanges), ("bytes.ErrTooLarge", laid_bytes_ErrTooLarge), ("unicode/utf8.first", laid_unicode_utf8_first)] }
def FnCommentsSaid : Prop := fnCommentsRow.holds Tryz.pinned (OpenSpec.ofChange fnCommentsSpec)

/-- ITS FALSE NEIGHBOUR: 'it returns false'. Refute it at one input. -/
def fnCommentsWrong : ChangeSpec := { name := "fnComments", fn := fun _ => fun
  | [d1, d2, d3, d4] => { results := [.lit (.bool false)], args := [d1, d2, d3, d4] }
  | _ => none }
def FnCommentsWrongFalsely : Prop := fnCommentsRow.holds Tryz.pinned (OpenSpec.ofChange fnCommentsWrong)

/-- 'laws.FnEscape': WHATEVER THE INPUT: true; the input reads as it did. -/
def fnEscapeSpec : ChangeSpec := { name := "fnEscape", fn := fun _ => fun
  | [d] => { results := [.lit (.bool true)], args := [d] }
  | _ => none }
def fnEscapeRow : OpenClaim := { program := "ythmdgegaejanaaagreatdoor", sum := "17cda9698a9e09ac2970e4c294e7f94e9bebb59da1ceb1dba0477785250fc70b", func := "given.example/pub-antiphonal/laws.FnEscape", spec := "fnEscape", inPlace := ["internal/abi.NoEscape", "internal/bytealg.MakeNoZero"], unfollowed := true, recurses := true, named := ["unicode/utf8.first", "unicode/utf8.acceptRanges", "bytes.ErrTooLarge"], apart := false, laid := [("unicode/utf8.acceptRanges", laid_unicode_utf8_acceptRanges), ("bytes.ErrTooLarge", laid_bytes_ErrTooLarge), ("unicode/utf8.first", laid_unicode_utf8_first)] }
def FnEscapeSaid : Prop := fnEscapeRow.holds Tryz.pinned (OpenSpec.ofChange fnEscapeSpec)

/-- ITS FALSE NEIGHBOUR: 'it returns false'. Refute it at one input. -/
def fnEscapeWrong : ChangeSpec := { name := "fnEscape", fn := fun _ => fun
  | [d] => { results := [.lit (.bool false)], args := [d] }
  | _ => none }
def FnEscapeWrongFalsely : Prop := fnEscapeRow.holds Tryz.pinned (OpenSpec.ofChange fnEscapeWrong)

/-- 'laws.FnNumberBent': WHATEVER THE INPUT: true; the input reads as it did. -/
def fnNumberBentSpec : ChangeSpec := { name := "fnNumberBent", fn := fun _ => fun
  | [d1, d2, d3] => { results := [.lit (.bool true)], args := [d1, d2, d3] }
  | _ => none }
def fnNumberBentRow : OpenClaim := { program := "ythmdgegaejanaaagreatdoor", sum := "17cda9698a9e09ac2970e4c294e7f94e9bebb59da1ceb1dba0477785250fc70b", func := "given.example/pub-antiphonal/laws.FnNumberBent", spec := "fnNumberBent", inPlace := ["internal/abi.NoEscape", "internal/bytealg.MakeNoZero"], unfollowed := true, recurses := true, named := ["unicode/utf8.first", "unicode/utf8.acceptRanges", "bytes.ErrTooLarge"], apart := false, laid := [("unicode/utf8.acceptRanges", laid_unicode_utf8_acceptRanges), ("bytes.ErrTooLarge", laid_bytes_ErrTooLarge), ("unicode/utf8.first", laid_unicode_utf8_first)] }
def FnNumberBentSaid : Prop := fnNumberBentRow.holds Tryz.pinned (OpenSpec.ofChange fnNumberBentSpec)

/-- ITS FALSE NEIGHBOUR: 'it returns false'. Refute it at one input. -/
def fnNumberBentWrong : ChangeSpec := { name := "fnNumberBent", fn := fun _ => fun
  | [d1, d2, d3] => { results := [.lit (.bool false)], args := [d1, d2, d3] }
  | _ => none }
def FnNumberBentWrongFalsely : Prop := fnNumberBentRow.holds Tryz.pinned (OpenSpec.ofChange fnNumberBentWrong)

/-- 'laws.FnSigns': WHATEVER THE INPUT: true; the input reads as it did. -/
def fnSignsSpec : ChangeSpec := { name := "fnSigns", fn := fun _ => fun
  | [d] => { results := [.lit (.bool true)], args := [d] }
  | _ => none }
def fnSignsRow : OpenClaim := { program := "ythmdgegaejanaaagreatdoor", sum := "17cda9698a9e09ac2970e4c294e7f94e9bebb59da1ceb1dba0477785250fc70b", func := "given.example/pub-antiphonal/laws.FnSigns", spec := "fnSigns", inPlace := ["internal/abi.NoEscape", "internal/bytealg.MakeNoZero"], unfollowed := true, recurses := true, named := ["unicode/utf8.first", "unicode/utf8.acceptRanges", "bytes.ErrTooLarge"], apart := false, laid := [("unicode/utf8.acceptRanges", laid_unicode_utf8_acceptRanges), ("bytes.ErrTooLarge", laid_bytes_ErrTooLarge), ("unicode/utf8.first", laid_unicode_utf8_first)] }
def FnSignsSaid : Prop := fnSignsRow.holds Tryz.pinned (OpenSpec.ofChange fnSignsSpec)

/-- ITS FALSE NEIGHBOUR: 'it returns false'. Refute it at one input. -/
def fnSignsWrong : ChangeSpec := { name := "fnSigns", fn := fun _ => fun
  | [d] => { results := [.lit (.bool false)], args := [d] }
  | _ => none }
def FnSignsWrongFalsely : Prop := fnSignsRow.holds Tryz.pinned (OpenSpec.ofChange fnSignsWrong)

/-- 'laws.FnStringPlain': WHATEVER THE INPUT: true; the input reads as it did. -/
def fnStringPlainSpec : ChangeSpec := { name := "fnStringPlain", fn := fun _ => fun
  | [d1, d2] => { results := [.lit (.bool true)], args := [d1, d2] }
  | _ => none }
def fnStringPlainRow : OpenClaim := { program := "ythmdgegaejanaaagreatdoor", sum := "17cda9698a9e09ac2970e4c294e7f94e9bebb59da1ceb1dba0477785250fc70b", func := "given.example/pub-antiphonal/laws.FnStringPlain", spec := "fnStringPlain", inPlace := ["internal/abi.NoEscape", "internal/bytealg.MakeNoZero"], unfollowed := true, recurses := true, named := ["unicode/utf8.first", "unicode/utf8.acceptRanges", "bytes.ErrTooLarge"], apart := false, laid := [("unicode/utf8.acceptRanges", laid_unicode_utf8_acceptRanges), ("bytes.ErrTooLarge", laid_bytes_ErrTooLarge), ("unicode/utf8.first", laid_unicode_utf8_first)] }
def FnStringPlainSaid : Prop := fnStringPlainRow.holds Tryz.pinned (OpenSpec.ofChange fnStringPlainSpec)

/-- ITS FALSE NEIGHBOUR: 'it returns false'. Refute it at one input. -/
def fnStringPlainWrong : ChangeSpec := { name := "fnStringPlain", fn := fun _ => fun
  | [d1, d2] => { results := [.lit (.bool false)], args := [d1, d2] }
  | _ => none }
def FnStringPlainWrongFalsely : Prop := fnStringPlainRow.holds Tryz.pinned (OpenSpec.ofChange fnStringPlainWrong)

/- THE SECOND FORM. 'bulk': how many values and letters a reading holds, each counted each time it is reached (what is shared counts as often as it is met; a slice's spare places count too). A statement '..UptoSaid' is the law's where the arguments, and the package variables that the reading takes, are together of bulk at most 1048576: NARROWER than '..Said'. Prove '..Said' where nothing that the law and all that it calls make is longer than what came in: it says more and counts as full. Else prove '..UptoSaid'. A law counts once. -/
mutual
def uptoBulk {H : Type} : DataW H → Nat
  | .lit (.string bytes) => bytes.length + 1
  | .lit _ => 1
  | .nil => 1
  | .ptr d => uptoBulk d + 1
  | .slice elems spare => uptoBulkAll elems + uptoBulkAll spare + 1
  | .agg parts => uptoBulkAll parts + 1
  | .iface _ d => uptoBulk d + 1
  | .map entries => uptoBulkEntries entries + 1
  | .held _ => 1
def uptoBulkAll {H : Type} : List (DataW H) → Nat
  | [] => 0
  | d :: r => uptoBulk d + uptoBulkAll r
def uptoBulkEntries {H : Type} : List (Lit × DataW H) → Nat
  | [] => 0
  | x :: r => uptoBulkEntry x + uptoBulkEntries r
def uptoBulkEntry {H : Type} : Lit × DataW H → Nat
  | (.string bytes, d) => bytes.length + uptoBulk d + 1
  | (_, d) => uptoBulk d + 1
 end
def uptoSmall : (H : Type) → List (DataW H) → Bool := fun _ ds => decide (uptoBulkAll ds ≤ 1048576)
def OpenSpec.upto (s : _root_.Go.ChangeSpec) : _root_.Go.OpenSpec := { _root_.Go.OpenSpec.ofChange s with cond := some uptoSmall }

/-- 'laws.FnBlockLines', WHERE WHAT IT READS IS OF BULK AT MOST 1048576: true; the input reads as it did. -/
def fnBlockLinesUptoRow : OpenClaim := { program := "ythmdgegaejanaaagreatdoor", sum := "17cda9698a9e09ac2970e4c294e7f94e9bebb59da1ceb1dba0477785250fc70b", func := "given.example/pub-antiphonal/laws.FnBlockLines", spec := "fnBlockLines", inPlace := ["internal/abi.NoEscape", "internal/bytealg.MakeNoZero"], unfollowed := true, recurses := true, named := ["unicode/utf8.first", "unicode/utf8.acceptRanges", "bytes.ErrTooLarge"], apart := false, laid := [("unicode/utf8.acceptRanges", laid_unicode_utf8_acceptRanges), ("bytes.ErrTooLarge", laid_bytes_ErrTooLarge), ("unicode/utf8.first", laid_unicode_utf8_first)], narrowed := true }
def FnBlockLinesUptoSaid : Prop := fnBlockLinesUptoRow.holds Tryz.pinned (OpenSpec.upto fnBlockLinesSpec)

/-- 'laws.FnComments', WHERE WHAT IT READS IS OF BULK AT MOST 1048576: true; the input reads as it did. -/
def fnCommentsUptoRow : OpenClaim := { program := "ythmdgegaejanaaagreatdoor", sum := "17cda9698a9e09ac2970e4c294e7f94e9bebb59da1ceb1dba0477785250fc70b", func := "given.example/pub-antiphonal/laws.FnComments", spec := "fnComments", inPlace := ["internal/abi.NoEscape", "internal/bytealg.MakeNoZero"], unfollowed := true, recurses := true, named := ["unicode/utf8.first", "unicode/utf8.acceptRanges", "bytes.ErrTooLarge"], apart := false, laid := [("unicode/utf8.acceptRanges", laid_unicode_utf8_acceptRanges), ("bytes.ErrTooLarge", laid_bytes_ErrTooLarge), ("unicode/utf8.first", laid_unicode_utf8_first)], narrowed := true }
def FnCommentsUptoSaid : Prop := fnCommentsUptoRow.holds Tryz.pinned (OpenSpec.upto fnCommentsSpec)

/-- 'laws.FnEscape', WHERE WHAT IT READS IS OF BULK AT MOST 1048576: true; the input reads as it did. -/
def fnEscapeUptoRow : OpenClaim := { program := "ythmdgegaejanaaagreatdoor", sum := "17cda9698a9e09ac2970e4c294e7f94e9bebb59da1ceb1dba0477785250fc70b", func := "given.example/pub-antiphonal/laws.FnEscape", spec := "fnEscape", inPlace := ["internal/abi.NoEscape", "internal/bytealg.MakeNoZero"], unfollowed := true, recurses := true, named := ["unicode/utf8.first", "unicode/utf8.acceptRanges", "bytes.ErrTooLarge"], apart := false, laid := [("unicode/utf8.acceptRanges", laid_unicode_utf8_acceptRanges), ("bytes.ErrTooLarge", laid_bytes_ErrTooLarge), ("unicode/utf8.first", laid_unicode_utf8_first)], narrowed := true }
def FnEscapeUptoSaid : Prop := fnEscapeUptoRow.holds Tryz.pinned (OpenSpec.upto fnEscapeSpec)

/-- 'laws.FnNumberBent', WHERE WHAT IT READS IS OF BULK AT MOST 1048576: true; the input reads as it did. -/
def fnNumberBentUptoRow : OpenClaim := { program := "ythmdgegaejanaaagreatdoor", sum := "17cda9698a9e09ac2970e4c294e7f94e9bebb59da1ceb1dba0477785250fc70b", func := "given.example/pub-antiphonal/laws.FnNumberBent", spec := "fnNumberBent", inPlace := ["internal/abi.NoEscape", "internal/bytealg.MakeNoZero"], unfollowed := true, recurses := true, named := ["unicode/utf8.first", "unicode/utf8.acceptRanges", "bytes.ErrTooLarge"], apart := false, laid := [("unicode/utf8.acceptRanges", laid_unicode_utf8_acceptRanges), ("bytes.ErrTooLarge", laid_bytes_ErrTooLarge), ("unicode/utf8.first", laid_unicode_utf8_first)], narrowed := true }
def FnNumberBentUptoSaid : Prop := fnNumberBentUptoRow.holds Tryz.pinned (OpenSpec.upto fnNumberBentSpec)

/-- 'laws.FnSigns', WHERE WHAT IT READS IS OF BULK AT MOST 1048576: true; the input reads as it did. -/
def fnSignsUptoRow : OpenClaim := { program := "ythmdgegaejanaaagreatdoor", sum := "17cda9698a9e09ac2970e4c294e7f94e9bebb59da1ceb1dba0477785250fc70b", func := "given.example/pub-antiphonal/laws.FnSigns", spec := "fnSigns", inPlace := ["internal/abi.NoEscape", "internal/bytealg.MakeNoZero"], unfollowed := true, recurses := true, named := ["unicode/utf8.first", "unicode/utf8.acceptRanges", "bytes.ErrTooLarge"], apart := false, laid := [("unicode/utf8.acceptRanges", laid_unicode_utf8_acceptRanges), ("bytes.ErrTooLarge", laid_bytes_ErrTooLarge), ("unicode/utf8.first", laid_unicode_utf8_first)], narrowed := true }
def FnSignsUptoSaid : Prop := fnSignsUptoRow.holds Tryz.pinned (OpenSpec.upto fnSignsSpec)

/-- 'laws.FnStringPlain', WHERE WHAT IT READS IS OF BULK AT MOST 1048576: true; the input reads as it did. -/
def fnStringPlainUptoRow : OpenClaim := { program := "ythmdgegaejanaaagreatdoor", sum := "17cda9698a9e09ac2970e4c294e7f94e9bebb59da1ceb1dba0477785250fc70b", func := "given.example/pub-antiphonal/laws.FnStringPlain", spec := "fnStringPlain", inPlace := ["internal/abi.NoEscape", "internal/bytealg.MakeNoZero"], unfollowed := true, recurses := true, named := ["unicode/utf8.first", "unicode/utf8.acceptRanges", "bytes.ErrTooLarge"], apart := false, laid := [("unicode/utf8.acceptRanges", laid_unicode_utf8_acceptRanges), ("bytes.ErrTooLarge", laid_bytes_ErrTooLarge), ("unicode/utf8.first", laid_unicode_utf8_first)], narrowed := true }
def FnStringPlainUptoSaid : Prop := fnStringPlainUptoRow.holds Tryz.pinned (OpenSpec.upto fnStringPlainSpec)

end Rows
end Go.Proofs.YthmdgegaejanaaaGreatDoor

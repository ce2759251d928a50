/-
  NARROWER THAN 'FOR EVERY INPUT', by the rows' own cells (each row's printed sentence says how): FnDots: laid · FnEscapeCode: laid · FnNamesApart: laid · FnNumberParts: laid · FnNumbersApart: laid · FnStringBent: laid.
  DERIVED. THE GIVEN ROWS OF THIS SEAT. 6 by the template 'for every input the law returns true; each argument reads behind the call as it read before'; 0 by the template 'total and deterministic' (their statements: YtbojlohjmbhifaaGreatDoorTotals.lean).
  GIVEN WITH THE SEED: the statements are not yours to turn. If you find one false, say at which input.
  Laid BY PROGRAM, IN A SANDBOX (cutbox-rows.mjs): the forced cells as the released guide's own fill.sh prints them over the translation 571aac3a431e29a9… (all of the seat's roots in one cut). By AI agents, Wed Nov 11 2026. No macro, syntax, notation, axiom, sorry.
-/
import Derived.Test.YtbojlohjmbhifaaGreatDoorChecked
import GoSem.PinnedTables
import GoSem.Claim
import GoSem.ClaimJoined
import GoSem.ClaimMapViews
import Derived.JoinedTies
import Derived.KernelRfl
namespace Go.Proofs.YtbojlohjmbhifaaGreatDoor
/- THE CELL 'sum', in the pinned program and in every row, IS THE sha256 OF THE DUMP (.gsa) THAT YtbojlohjmbhifaaGreatDoorProg.lean LOADS. Nothing in Lean hashes anything: it is a label: what it is worth is what the hold of that sum in a sandbox is worth. -/
noncomputable def Tryz.pinned : Pinned := { name := "ytbojlohjmbhifaagreatdoor", sum := "571aac3a431e29a96ec6b5ddd90d0408c7f3f75effb18b6c03785cd2b62edfe8", checked := Tryz.checked }
namespace Rows
def none {H : Type} : Left H := { results := [], args := [] }

/- WHAT THE LISTED PACKAGE-LEVEL VARIABLES READ AS WHEN THE CALL BEGINS. Each datum BY PROGRAM (the guide's laid-datum.mjs) off the statement by which the dump's own 'gosem.cut.vars' lays the variable. In a bare row this is a premise. The card (YtbojlohjmbhifaaGreatDoorCards.lean) ties it to the program's text. -/
def laid_unicode_utf8_acceptRanges {H : Type} : DataW H := .agg [.agg [.lit (.int .u8 128), .lit (.int .u8 191)], .agg [.lit (.int .u8 160), .lit (.int .u8 191)], .agg [.lit (.int .u8 128), .lit (.int .u8 159)], .agg [.lit (.int .u8 144), .lit (.int .u8 191)], .agg [.lit (.int .u8 128), .lit (.int .u8 143)], .agg [.lit (.int .u8 0), .lit (.int .u8 0)], .agg [.lit (.int .u8 0), .lit (.int .u8 0)], .agg [.lit (.int .u8 0), .lit (.int .u8 0)], .agg [.lit (.int .u8 0), .lit (.int .u8 0)], .agg [.lit (.int .u8 0), .lit (.int .u8 0)], .agg [.lit (.int .u8 0), .lit (.int .u8 0)], .agg [.lit (.int .u8 0), .lit (.int .u8 0)], .agg [.lit (.int .u8 0), .lit (.int .u8 0)], .agg [.lit (.int .u8 0), .lit (.int .u8 0)], .agg [.lit (.int .u8 0), .lit (.int .u8 0)], .agg [.lit (.int .u8 0), .lit (.int .u8 0)]]
def laid_bytes_ErrTooLarge {H : Type} : DataW H := .iface "*errors.errorString" (.ptr (.agg [.lit (.string [98, 121, 116, 101, 115, 46, 66, 117, 102, 102, 101, 114, 58, 32, 116, 111, 111, 32, 108, 97, 114, 103, 101])]))
/-- One of Go's own tables, pinned by name: the form's constant. -/
def laid_unicode_utf8_first : DataW Unit := Go.Pinned.utf8First

/-- 'laws.FnDots': WHATEVER THE INPUT: true; the input reads as it did. -/
def fnDotsSpec : ChangeSpec := { name := "fnDots", fn := fun _ => fun
  | [d] => { results := [.lit (.bool true)], args := [d] }
  | _ => none }
def fnDotsRow : OpenClaim := { program := "ytbojlohjmbhifaagreatdoor", sum := "571aac3a431e29a96ec6b5ddd90d0408c7f3f75effb18b6c03785cd2b62edfe8", func := "given.example/pub-antiphonal/laws.FnDots", spec := "fnDots", inPlace := ["internal/abi.NoEscape", "internal/bytealg.MakeNoZero"], unfollowed := true, recurses := true, named := ["unicode/utf8.first", "unicode/utf8.acceptRanges", "bytes.ErrTooLarge"], apart := false, laid := [("unicode/utf8.acceptRanges", laid_unicode_utf8_acceptRanges), ("bytes.ErrTooLarge", laid_bytes_ErrTooLarge), ("unicode/utf8.first", laid_unicode_utf8_first)] }
def FnDotsSaid : Prop := fnDotsRow.holds Tryz.pinned (OpenSpec.ofChange fnDotsSpec)

/-- ITS FALSE NEIGHBOUR: 'it returns false'. Refute it at one input. -/
def fnDotsWrong : ChangeSpec := { name := "fnDots", fn := fun _ => fun
  | [d] => { results := [.lit (.bool false)], args := [d] }
  | _ => none }
def FnDotsWrongFalsely : Prop := fnDotsRow.holds Tryz.pinned (OpenSpec.ofChange fnDotsWrong)

/-- 'laws.FnEscapeCode': WHATEVER THE INPUT: true; the input reads as it did. -/
def fnEscapeCodeSpec : ChangeSpec := { name := "fnEscapeCode", fn := fun _ => fun
  | [d1, d2, d3] => { results := [.lit (.bool true)], args := [d1, d2, d3] }
  | _ => none }
def fnEscapeCodeRow : OpenClaim := { program := "ytbojlohjmbhifaagreatdoor", sum := "571aac3a431e29a96ec6b5ddd90d0408c7f3f75effb18b6c03785cd2b62edfe8", func := "given.example/pub-antiphonal/laws.FnEscapeCode", spec := "fnEscapeCode", inPlace := ["internal/abi.NoEscape", "internal/bytealg.MakeNoZero"], unfollowed := true, recurses := true, named := ["unicode/utf8.first", "unicode/utf8.acceptRanges", "bytes.ErrTooLarge"], apart := false, laid := [("unicode/utf8.acceptRanges", laid_unicode_utf8_acceptRanges), ("bytes.ErrTooLarge", laid_bytes_ErrTooLarge), ("unicode/utf8.first", laid_unicode_utf8_first)] }
def FnEscapeCodeSaid : Prop := fnEscapeCodeRow.holds Tryz.pinned (OpenSpec.ofChange fnEscapeCodeSpec)

/-- ITS FALSE NEIGHBOUR: 'it returns false'. Refute it at one input. -/
def fnEscapeCodeWrong : ChangeSpec := { name := "fnEscapeCode", fn := fun _ => fun
  | [d1, d2, d3] => { results := [.lit (.bool false)], args := [d1, d2, d3] }
  | _ => none }
def FnEscapeCodeWrongFalsely : Prop := fnEscapeCodeRow.holds Tryz.pinned (OpenSpec.ofChange fnEscapeCodeWrong)

/-- 'laws.FnNamesApart': WHATEVER THE INPUT: true; the input reads as it did. -/
def fnNamesApartSpec : ChangeSpec := { name := "fnNamesApart", fn := fun _ => fun
  | [d1, d2] => { results := [.lit (.bool true)], args := [d1, d2] }
  | _ => none }
def fnNamesApartRow : OpenClaim := { program := "ytbojlohjmbhifaagreatdoor", sum := "571aac3a431e29a96ec6b5ddd90d0408c7f3f75effb18b6c03785cd2b62edfe8", func := "given.example/pub-antiphonal/laws.FnNamesApart", spec := "fnNamesApart", inPlace := ["internal/abi.NoEscape", "internal/bytealg.MakeNoZero"], unfollowed := true, recurses := true, named := ["unicode/utf8.first", "unicode/utf8.acceptRanges", "bytes.ErrTooLarge"], apart := false, laid := [("unicode/utf8.acceptRanges", laid_unicode_utf8_acceptRanges), ("bytes.ErrTooLarge", laid_bytes_ErrTooLarge), ("unicode/utf8.first", laid_unicode_utf8_first)] }
def FnNamesApartSaid : Prop := fnNamesApartRow.holds Tryz.pinned (OpenSpec.ofChange fnNamesApartSpec)

/-- ITS FALSE NEIGHBOUR: 'it returns false'. Refute it at one input. -/
def fnNamesApartWrong : ChangeSpec := { name := "fnNamesApart", fn := fun _ => fun
  | [d1, d2] => { results := [.lit (.bool false)], args := [d1, d2] }
  | _ => none }
def FnNamesApartWrongFalsely : Prop := fnNamesApartRow.holds Tryz.pinned (OpenSpec.ofChange fnNamesApartWrong)

/-- 'laws.FnNumberParts': WHATEVER THE INPUT: true; the input reads as it did. -/
def fnNumberPartsSpec : ChangeSpec := { name := "fnNumberParts", fn := fun _ => fun
  | [d1, d2, d3, d4, d5] => { results := [.lit (.bool true)], args := [d1, d2, d3, d4, d5] }
  | _ => none }
def fnNumberPartsRow : OpenClaim := { program := "ytbojlohjmbhifaagreatdoor", sum := "571aac3a431e29a96ec6b5ddd90d0408c7f3f75effb18b6c03785cd2b62edfe8", func := "given.example/pub-antiphonal/laws.FnNumberParts", spec := "fnNumberParts", inPlace := ["internal/abi.NoEscape", "internal/bytealg.MakeNoZero"], unfollowed := true, recurses := true, named := ["unicode/utf8.first", "unicode/utf8.acceptRanges", "bytes.ErrTooLarge"], apart := false, laid := [("unicode/utf8.acceptRanges", laid_unicode_utf8_acceptRanges), ("bytes.ErrTooLarge", laid_bytes_ErrTooLarge), ("unicode/utf8.first", laid_unicode_utf8_first)] }
def FnNumberPartsSaid : Prop := fnNumberPartsRow.holds Tryz.pinned (OpenSpec.ofChange fnNumberPartsSpec)

/-- ITS FALSE NEIGHBOUR: 'it returns false'. Refute it at one input. -/
def fnNumberPartsWrong : ChangeSpec := { name := "fnNumberParts", fn := fun _ => fun
  | [d1, d2, d3, d4, d5] => { results := [.lit (.bool false)], args := [d1, d2, d3, d4, d5] }
  | _ => none }
def FnNumberPartsWrongFalsely : Prop := fnNumberPartsRow.holds Tryz.pinned (OpenSpec.ofChange fnNumberPartsWrong)

/-- 'laws.FnNumbersApart': WHATEVER THE INPUT: true; the input reads as it did. -/
def fnNumbersApartSpec : ChangeSpec := { name := "fnNumbersApart", fn := fun _ => fun
  | [d1, d2] => { results := [.lit (.bool true)], args := [d1, d2] }
  | _ => none }
def fnNumbersApartRow : OpenClaim := { program := "ytbojlohjmbhifaagreatdoor", sum := "571aac3a431e29a96ec6b5ddd90d0408c7f3f75effb18b6c03785cd2b62edfe8", func := "given.example/pub-antiphonal/laws.FnNumbersApart", spec := "fnNumbersApart", inPlace := ["internal/abi.NoEscape", "internal/bytealg.MakeNoZero"], unfollowed := true, recurses := true, named := ["unicode/utf8.first", "unicode/utf8.acceptRanges", "bytes.ErrTooLarge"], apart := false, laid := [("unicode/utf8.acceptRanges", laid_unicode_utf8_acceptRanges), ("bytes.ErrTooLarge", laid_bytes_ErrTooLarge), ("unicode/utf8.first", laid_unicode_utf8_first)] }
def FnNumbersApartSaid : Prop := fnNumbersApartRow.holds Tryz.pinned (OpenSpec.ofChange fnNumbersApartSpec)

/-- ITS FALSE NEIGHBOUR: 'it returns false'. Refute it at one input. -/
def fnNumbersApartWrong : ChangeSpec := { name := "fnNumbersApart", fn := fun _ => fun
  | [d1, d2] => { results := [.lit (.bool false)], args := [d1, d2] }
  | _ => none }
def FnNumbersApartWrongFalsely : Prop := fnNumbersApartRow.holds Tryz.pinned (OpenSpec.ofChange fnNumbersApartWrong)

/-- 'laws.FnStringBent': WHATEVER THE INPUT: true; the input reads as it did. -/
def fnStringBentSpec : ChangeSpec := { name := "fnStringBent", fn := fun _ => fun
  | [d1, d2, d3] => { results := [.lit (.bool true)], args := [d1, d2, d3] }
  | _ => none }
def fnStringBentRow : OpenClaim := { program := "ytbojlohjmbhifaagreatdoor", sum := "571aac3a431e29a96ec6b5ddd90d0408c7f3f75effb18b6c03785cd2b62edfe8", func := "given.example/pub-antiphonal/laws.FnStringBent", spec := "fnStringBent", inPlace := ["internal/abi.NoEscape", "internal/bytealg.MakeNoZero"], unfollowed := true, recurses := true, named := ["unicode/utf8.first", "unicode/utf8.acceptRanges", "bytes.ErrTooLarge"], apart := false, laid := [("unicode/utf8.acceptRanges", laid_unicode_utf8_acceptRanges), ("bytes.ErrTooLarge", laid_bytes_ErrTooLarge), ("unicode/utf8.first", laid_unicode_utf8_first)] }
def FnStringBentSaid : Prop := fnStringBentRow.holds Tryz.pinned (OpenSpec.ofChange fnStringBentSpec)

/-- ITS FALSE NEIGHBOUR: 'it returns false'. Refute it at one input. -/
def fnStringBentWrong : ChangeSpec := { name := "fnStringBent", fn := fun _ => fun
  | [d1, d2, d3] => { results := [.lit (.bool false)], args := [d1, d2, d3] }
  | _ => none }
def FnStringBentWrongFalsely : Prop := fnStringBentRow.holds Tryz.pinned (OpenSpec.ofChange fnStringBentWrong)

/- THE SECOND FORM. 'bulk': how many values and letters a reading holds, each counted each time it is reached (what is shared counts as often as it is met; a slice's spare places count too). A statement '..UptoSaid' is the law's where the arguments, and the package variables that the reading takes, are together of bulk at most 1048576: NARROWER than '..Said'. Prove '..Said' where nothing that the law and all that it calls make is longer than what came in: it says more and counts as full. Else prove '..UptoSaid'. A law counts once. -/
mutual
def uptoBulk {H : Type} : DataW H → Nat
  | .lit (.string bytes) => bytes.length + 1
  | .lit _ => 1
  | .nil => 1
  | .ptr d => uptoBulk d + 1
  | .slice elems spare => uptoBulkAll elems + uptoBulkAll spare + 1
  | .agg parts => uptoBulkAll parts + 1
  | .iface _ d => uptoBulk d + 1
  | .map entries => uptoBulkEntries entries + 1
  | .held _ => 1
def uptoBulkAll {H : Type} : List (DataW H) → Nat
  | [] => 0
  | d :: r => uptoBulk d + uptoBulkAll r
def uptoBulkEntries {H : Type} : List (Lit × DataW H) → Nat
  | [] => 0
  | x :: r => uptoBulkEntry x + uptoBulkEntries r
def uptoBulkEntry {H : Type} : Lit × DataW H → Nat
  | (.string bytes, d) => bytes.length + uptoBulk d + 1
  | (_, d) => uptoBulk d + 1
 end
def uptoSmall : (H : Type) → List (DataW H) → Bool := fun _ ds => decide (uptoBulkAll ds ≤ 1048576)
def OpenSpec.upto (s : _root_.Go.ChangeSpec) : _root_.Go.OpenSpec := { _root_.Go.OpenSpec.ofChange s with cond := some uptoSmall }

/-- 'laws.FnDots', WHERE WHAT IT READS IS OF BULK AT MOST 1048576: true; the input reads as it did. -/
def fnDotsUptoRow : OpenClaim := { program := "ytbojlohjmbhifaagreatdoor", sum := "571aac3a431e29a96ec6b5ddd90d0408c7f3f75effb18b6c03785cd2b62edfe8", func := "given.example/pub-antiphonal/laws.FnDots", spec := "fnDots", inPlace := ["internal/abi.NoEscape", "internal/bytealg.MakeNoZero"], unfollowed := true, recurses := true, named := ["unicode/utf8.first", "unicode/utf8.acceptRanges", "bytes.ErrTooLarge"], apart := false, laid := [("unicode/utf8.acceptRanges", laid_unicode_utf8_acceptRanges), ("bytes.ErrTooLarge", laid_bytes_ErrTooLarge), ("unicode/utf8.first", laid_unicode_utf8_first)], narrowed := true }
def FnDotsUptoSaid : Prop := fnDotsUptoRow.holds Tryz.pinned (OpenSpec.upto fnDotsSpec)

/-- 'laws.FnEscapeCode', WHERE WHAT IT READS IS OF BULK AT MOST 1048576: true; the input reads as it did. -/
def fnEscapeCodeUptoRow : OpenClaim := { program := "ytbojlohjmbhifaagreatdoor", sum := "571aac3a431e29a96ec6b5ddd90d0408c7f3f75effb18b6c03785cd2b62edfe8", func := "given.example/pub-antiphonal/laws.FnEscapeCode", spec := "fnEscapeCode", inPlace := ["internal/abi.NoEscape", "internal/bytealg.MakeNoZero"], unfollowed := true, recurses := true, named := ["unicode/utf8.first", "unicode/utf8.acceptRanges", "bytes.ErrTooLarge"], apart := false, laid := [("unicode/utf8.acceptRanges", laid_unicode_utf8_acceptRanges), ("bytes.ErrTooLarge", laid_bytes_ErrTooLarge), ("unicode/utf8.first", laid_unicode_utf8_first)], narrowed := true }
def FnEscapeCodeUptoSaid : Prop := fnEscapeCodeUptoRow.holds Tryz.pinned (OpenSpec.upto fnEscapeCodeSpec)

/-- 'laws.FnNamesApart', WHERE WHAT IT READS IS OF BULK AT MOST 1048576: true; the input reads as it did. -/
def fnNamesApartUptoRow : OpenClaim := { program := "ytbojlohjmbhifaagreatdoor", sum := "571aac3a431e29a96ec6b5ddd90d0408c7f3f75effb18b6c03785cd2b62edfe8", func := "given.example/pub-antiphonal/laws.FnNamesApart", spec := "fnNamesApart", inPlace := ["internal/abi.NoEscape", "internal/bytealg.MakeNoZero"], unfollowed := true, recurses := true, named := ["unicode/utf8.first", "unicode/utf8.acceptRanges", "bytes.ErrTooLarge"], apart := false, laid := [("unicode/utf8.acceptRanges", laid_unicode_utf8_acceptRanges), ("bytes.ErrTooLarge", laid_bytes_ErrTooLarge), ("unicode/utf8.first", laid_unicode_utf8_first)], narrowed := true }
def FnNamesApartUptoSaid : Prop := fnNamesApartUptoRow.holds Tryz.pinned (OpenSpec.upto fnNamesApartSpec)

/-- 'laws.FnNumberParts', WHERE WHAT IT READS IS OF BULK AT MOST 1048576: true; the input reads as it did. -/
def fnNumberPartsUptoRow : OpenClaim := { program := "ytbojlohjmbhifaagreatdoor", sum := "571aac3a431e29a96ec6b5ddd90d0408c7f3f75effb18b6c03785cd2b62edfe8", func := "given.example/pub-antiphonal/laws.FnNumberParts", spec := "fnNumberParts", inPlace := ["internal/abi.NoEscape", "internal/bytealg.MakeNoZero"], unfollowed := true, recurses := true, named := ["unicode/utf8.first", "unicode/utf8.acceptRanges", "bytes.ErrTooLarge"], apart := false, laid := [("unicode/utf8.acceptRanges", laid_unicode_utf8_acceptRanges), ("bytes.ErrTooLarge", laid_bytes_ErrTooLarge), ("unicode/utf8.first", laid_unicode_utf8_first)], narrowed := true }
def FnNumberPartsUptoSaid : Prop := fnNumberPartsUptoRow.holds Tryz.pinned (OpenSpec.upto fnNumberPartsSpec)

/-- 'laws.FnNumbersApart', WHERE WHAT IT READS IS OF BULK AT MOST 1048576: true; the input reads as it did. -/
def fnNumbersApartUptoRow : OpenClaim := { program := "ytbojlohjmbhifaagreatdoor", sum := "571aac3a431e29a96ec6b5ddd90d0408c7f3f75effb18b6c03785cd2b62edfe8", func := "given.example/pub-antiphonal/laws.FnNumbersApart", spec := "fnNumbersApart", inPlace := ["internal/abi.NoEscape", "internal/bytealg.MakeNoZero"], unfollowed := true, recurses := true, named := ["unicode/utf8.first", "unicode/utf8.acceptRanges", "bytes.ErrTooLarge"], apart := false, laid := [("unicode/utf8.acceptRanges", laid_unicode_utf8_acceptRanges), ("bytes.ErrTooLarge", laid_bytes_ErrTooLarge), ("unicode/utf8.first", laid_unicode_utf8_first)], narrowed := true }
def FnNumbersApartUptoSaid : Prop := fnNumbersApartUptoRow.holds Tryz.pinned (OpenSpec.upto fnNumbersApartSpec)

/-- 'laws.FnStringBent', WHERE WHAT IT READS IS OF BULK AT MOST 1048576: true; the input reads as it did. -/
def fnStringBentUptoRow : OpenClaim := { program := "ytbojlohjmbhifaagreatdoor", sum := "571aac3a431e29a96ec6b5ddd90d0408c7f3f75effb18b6c03785cd2b62edfe8", func := "given.example/pub-antiphonal/laws.FnStringBent", spec := "fnStringBent", inPlace := ["internal/abi.NoEscape", "internal/bytealg.MakeNoZero"], unfollowed := true, recurses := true, named := ["unicode/utf8.first", "unicode/utf8.acceptRanges", "bytes.ErrTooLarge"], apart := false, laid := [("unicode/utf8.acceptRanges", laid_unicode_utf8_acceptRanges), ("bytes.ErrTooLarge", laid_bytes_ErrTooLarge), ("unicode/utf8.first", laid_unicode_utf8_first)], narrowed := true }
def FnStringBentUptoSaid : Prop := fnStringBentUptoRow.holds Tryz.pinned (OpenSpec.upto fnStringBentSpec)

end Rows
end Go.Proofs.YtbojlohjmbhifaaGreatDoor

/-
  NARROWER THAN 'FOR EVERY INPUT', by the rows' own cells (each row's printed sentence says how): FnExactValidPath: laid · FnValidBroken: laid · FnValidByte: laid · FnValidCut: laid · FnValidDots: laid · FnValidElements: laid · FnValidEnds: laid · FnValidJoin: laid · FnValidList: laid · FnValidMany: laid · FnValidOther: laid · FnValidRune: laid · FnValidTurned: laid.
  DERIVED. THE GIVEN ROWS OF THIS SEAT. 13 by the template 'for every input the law returns true; each argument reads behind the call as it read before'; 0 by the template 'total and deterministic' (their statements: YtlbhelibgifaaaaDoorTotals.lean).
  GIVEN WITH THE SEED: the statements are not yours to turn. If you find one false, say at which input.
  Laid BY PROGRAM, IN A SANDBOX (cutbox-rows.mjs): the forced cells as the released guide's own fill.sh prints them over the translation a36bbcd99392840e… (all of the seat's roots in one cut). By AI agents, Wed Nov 11 2026. No macro, syntax, notation, axiom, sorry.
-/
import Derived.Test.YtlbhelibgifaaaaDoorChecked
import GoSem.PinnedTables
import GoSem.Claim
import GoSem.ClaimJoined
import GoSem.ClaimMapViews
import Derived.JoinedTies
import Derived.KernelRfl
namespace Go.Proofs.YtlbhelibgifaaaaDoor
/- THE CELL 'sum', in the pinned program and in every row, IS THE sha256 OF THE DUMP (.gsa) THAT YtlbhelibgifaaaaDoorProg.lean LOADS. Nothing in Lean hashes anything: it is a label: what it is worth is what the hold of that sum in a sandbox is worth. -/
noncomputable def Tryd.pinned : Pinned := { name := "ytlbhelibgifaaaadoor", sum := "a36bbcd99392840ee254ca2617d5d8e4c2359ef3b29252d3045ea7fa7bd025d2", checked := Tryd.checked }
namespace Rows
def none {H : Type} : Left H := { results := [], args := [] }

/- WHAT THE LISTED PACKAGE-LEVEL VARIABLES READ AS WHEN THE CALL BEGINS. Each datum BY PROGRAM (the guide's laid-datum.mjs) off the statement by which the dump's own 'gosem.cut.vars' lays the variable. In a bare row this is a premise. The card (YtlbhelibgifaaaaDoorCards.lean) ties it to the program's text. -/
def laid_unicode_utf8_acceptRanges {H : Type} : DataW H := .agg [.agg [.lit (.int .u8 128), .lit (.int .u8 191)], .agg [.lit (.int .u8 160), .lit (.int .u8 191)], .agg [.lit (.int .u8 128), .lit (.int .u8 159)], .agg [.lit (.int .u8 144), .lit (.int .u8 191)], .agg [.lit (.int .u8 128), .lit (.int .u8 143)], .agg [.lit (.int .u8 0), .lit (.int .u8 0)], .agg [.lit (.int .u8 0), .lit (.int .u8 0)], .agg [.lit (.int .u8 0), .lit (.int .u8 0)], .agg [.lit (.int .u8 0), .lit (.int .u8 0)], .agg [.lit (.int .u8 0), .lit (.int .u8 0)], .agg [.lit (.int .u8 0), .lit (.int .u8 0)], .agg [.lit (.int .u8 0), .lit (.int .u8 0)], .agg [.lit (.int .u8 0), .lit (.int .u8 0)], .agg [.lit (.int .u8 0), .lit (.int .u8 0)], .agg [.lit (.int .u8 0), .lit (.int .u8 0)], .agg [.lit (.int .u8 0), .lit (.int .u8 0)]]
/-- One of Go's own tables, pinned by name: the form's constant. -/
def laid_unicode_utf8_first : DataW Unit := Go.Pinned.utf8First

/-- 'laws.FnExactValidPath': WHATEVER THE INPUT: true; the input reads as it did. -/
def fnExactValidPathSpec : ChangeSpec := { name := "fnExactValidPath", fn := fun _ => fun
  | [d] => { results := [.lit (.bool true)], args := [d] }
  | _ => none }
def fnExactValidPathRow : OpenClaim := { program := "ytlbhelibgifaaaadoor", sum := "a36bbcd99392840ee254ca2617d5d8e4c2359ef3b29252d3045ea7fa7bd025d2", func := "loop.example/lib-g03419/laws.FnExactValidPath", spec := "fnExactValidPath", named := ["unicode/utf8.first", "unicode/utf8.acceptRanges"], apart := false, laid := [("unicode/utf8.acceptRanges", laid_unicode_utf8_acceptRanges), ("unicode/utf8.first", laid_unicode_utf8_first)] }
def FnExactValidPathSaid : Prop := fnExactValidPathRow.holds Tryd.pinned (OpenSpec.ofChange fnExactValidPathSpec)

/-- ITS FALSE NEIGHBOUR: 'it returns false'. Refute it at one input. -/
def fnExactValidPathWrong : ChangeSpec := { name := "fnExactValidPath", fn := fun _ => fun
  | [d] => { results := [.lit (.bool false)], args := [d] }
  | _ => none }
def FnExactValidPathWrongFalsely : Prop := fnExactValidPathRow.holds Tryd.pinned (OpenSpec.ofChange fnExactValidPathWrong)

/-- 'laws.FnValidBroken': WHATEVER THE INPUT: true; the input reads as it did. -/
def fnValidBrokenSpec : ChangeSpec := { name := "fnValidBroken", fn := fun _ => fun
  | [d1, d2] => { results := [.lit (.bool true)], args := [d1, d2] }
  | _ => none }
def fnValidBrokenRow : OpenClaim := { program := "ytlbhelibgifaaaadoor", sum := "a36bbcd99392840ee254ca2617d5d8e4c2359ef3b29252d3045ea7fa7bd025d2", func := "loop.example/lib-g03419/laws.FnValidBroken", spec := "fnValidBroken", named := ["unicode/utf8.first", "unicode/utf8.acceptRanges"], apart := false, laid := [("unicode/utf8.acceptRanges", laid_unicode_utf8_acceptRanges), ("unicode/utf8.first", laid_unicode_utf8_first)] }
def FnValidBrokenSaid : Prop := fnValidBrokenRow.holds Tryd.pinned (OpenSpec.ofChange fnValidBrokenSpec)

/-- ITS FALSE NEIGHBOUR: 'it returns false'. Refute it at one input. -/
def fnValidBrokenWrong : ChangeSpec := { name := "fnValidBroken", fn := fun _ => fun
  | [d1, d2] => { results := [.lit (.bool false)], args := [d1, d2] }
  | _ => none }
def FnValidBrokenWrongFalsely : Prop := fnValidBrokenRow.holds Tryd.pinned (OpenSpec.ofChange fnValidBrokenWrong)

/-- 'laws.FnValidByte': WHATEVER THE INPUT: true; the input reads as it did. -/
def fnValidByteSpec : ChangeSpec := { name := "fnValidByte", fn := fun _ => fun
  | [d1, d2] => { results := [.lit (.bool true)], args := [d1, d2] }
  | _ => none }
def fnValidByteRow : OpenClaim := { program := "ytlbhelibgifaaaadoor", sum := "a36bbcd99392840ee254ca2617d5d8e4c2359ef3b29252d3045ea7fa7bd025d2", func := "loop.example/lib-g03419/laws.FnValidByte", spec := "fnValidByte", named := ["unicode/utf8.first", "unicode/utf8.acceptRanges"], apart := false, laid := [("unicode/utf8.acceptRanges", laid_unicode_utf8_acceptRanges), ("unicode/utf8.first", laid_unicode_utf8_first)] }
def FnValidByteSaid : Prop := fnValidByteRow.holds Tryd.pinned (OpenSpec.ofChange fnValidByteSpec)

/-- ITS FALSE NEIGHBOUR: 'it returns false'. Refute it at one input. -/
def fnValidByteWrong : ChangeSpec := { name := "fnValidByte", fn := fun _ => fun
  | [d1, d2] => { results := [.lit (.bool false)], args := [d1, d2] }
  | _ => none }
def FnValidByteWrongFalsely : Prop := fnValidByteRow.holds Tryd.pinned (OpenSpec.ofChange fnValidByteWrong)

/-- 'laws.FnValidCut': WHATEVER THE INPUT: true; the input reads as it did. -/
def fnValidCutSpec : ChangeSpec := { name := "fnValidCut", fn := fun _ => fun
  | [d] => { results := [.lit (.bool true)], args := [d] }
  | _ => none }
def fnValidCutRow : OpenClaim := { program := "ytlbhelibgifaaaadoor", sum := "a36bbcd99392840ee254ca2617d5d8e4c2359ef3b29252d3045ea7fa7bd025d2", func := "loop.example/lib-g03419/laws.FnValidCut", spec := "fnValidCut", named := ["unicode/utf8.first", "unicode/utf8.acceptRanges"], apart := false, laid := [("unicode/utf8.acceptRanges", laid_unicode_utf8_acceptRanges), ("unicode/utf8.first", laid_unicode_utf8_first)] }
def FnValidCutSaid : Prop := fnValidCutRow.holds Tryd.pinned (OpenSpec.ofChange fnValidCutSpec)

/-- ITS FALSE NEIGHBOUR: 'it returns false'. Refute it at one input. -/
def fnValidCutWrong : ChangeSpec := { name := "fnValidCut", fn := fun _ => fun
  | [d] => { results := [.lit (.bool false)], args := [d] }
  | _ => none }
def FnValidCutWrongFalsely : Prop := fnValidCutRow.holds Tryd.pinned (OpenSpec.ofChange fnValidCutWrong)

/-- 'laws.FnValidDots': WHATEVER THE INPUT: true; the input reads as it did. -/
def fnValidDotsSpec : ChangeSpec := { name := "fnValidDots", fn := fun _ => fun
  | [d] => { results := [.lit (.bool true)], args := [d] }
  | _ => none }
def fnValidDotsRow : OpenClaim := { program := "ytlbhelibgifaaaadoor", sum := "a36bbcd99392840ee254ca2617d5d8e4c2359ef3b29252d3045ea7fa7bd025d2", func := "loop.example/lib-g03419/laws.FnValidDots", spec := "fnValidDots", named := ["unicode/utf8.first", "unicode/utf8.acceptRanges"], apart := false, laid := [("unicode/utf8.acceptRanges", laid_unicode_utf8_acceptRanges), ("unicode/utf8.first", laid_unicode_utf8_first)] }
def FnValidDotsSaid : Prop := fnValidDotsRow.holds Tryd.pinned (OpenSpec.ofChange fnValidDotsSpec)

/-- ITS FALSE NEIGHBOUR: 'it returns false'. Refute it at one input. -/
def fnValidDotsWrong : ChangeSpec := { name := "fnValidDots", fn := fun _ => fun
  | [d] => { results := [.lit (.bool false)], args := [d] }
  | _ => none }
def FnValidDotsWrongFalsely : Prop := fnValidDotsRow.holds Tryd.pinned (OpenSpec.ofChange fnValidDotsWrong)

/-- 'laws.FnValidElements': WHATEVER THE INPUT: true; the input reads as it did. -/
def fnValidElementsSpec : ChangeSpec := { name := "fnValidElements", fn := fun _ => fun
  | [d] => { results := [.lit (.bool true)], args := [d] }
  | _ => none }
def fnValidElementsRow : OpenClaim := { program := "ytlbhelibgifaaaadoor", sum := "a36bbcd99392840ee254ca2617d5d8e4c2359ef3b29252d3045ea7fa7bd025d2", func := "loop.example/lib-g03419/laws.FnValidElements", spec := "fnValidElements", named := ["unicode/utf8.first", "unicode/utf8.acceptRanges"], apart := false, laid := [("unicode/utf8.acceptRanges", laid_unicode_utf8_acceptRanges), ("unicode/utf8.first", laid_unicode_utf8_first)] }
def FnValidElementsSaid : Prop := fnValidElementsRow.holds Tryd.pinned (OpenSpec.ofChange fnValidElementsSpec)

/-- ITS FALSE NEIGHBOUR: 'it returns false'. Refute it at one input. -/
def fnValidElementsWrong : ChangeSpec := { name := "fnValidElements", fn := fun _ => fun
  | [d] => { results := [.lit (.bool false)], args := [d] }
  | _ => none }
def FnValidElementsWrongFalsely : Prop := fnValidElementsRow.holds Tryd.pinned (OpenSpec.ofChange fnValidElementsWrong)

/-- 'laws.FnValidEnds': WHATEVER THE INPUT: true; the input reads as it did. -/
def fnValidEndsSpec : ChangeSpec := { name := "fnValidEnds", fn := fun _ => fun
  | [d] => { results := [.lit (.bool true)], args := [d] }
  | _ => none }
def fnValidEndsRow : OpenClaim := { program := "ytlbhelibgifaaaadoor", sum := "a36bbcd99392840ee254ca2617d5d8e4c2359ef3b29252d3045ea7fa7bd025d2", func := "loop.example/lib-g03419/laws.FnValidEnds", spec := "fnValidEnds", named := ["unicode/utf8.first", "unicode/utf8.acceptRanges"], apart := false, laid := [("unicode/utf8.acceptRanges", laid_unicode_utf8_acceptRanges), ("unicode/utf8.first", laid_unicode_utf8_first)] }
def FnValidEndsSaid : Prop := fnValidEndsRow.holds Tryd.pinned (OpenSpec.ofChange fnValidEndsSpec)

/-- ITS FALSE NEIGHBOUR: 'it returns false'. Refute it at one input. -/
def fnValidEndsWrong : ChangeSpec := { name := "fnValidEnds", fn := fun _ => fun
  | [d] => { results := [.lit (.bool false)], args := [d] }
  | _ => none }
def FnValidEndsWrongFalsely : Prop := fnValidEndsRow.holds Tryd.pinned (OpenSpec.ofChange fnValidEndsWrong)

/-- 'laws.FnValidJoin': WHATEVER THE INPUT: true; the input reads as it did. -/
def fnValidJoinSpec : ChangeSpec := { name := "fnValidJoin", fn := fun _ => fun
  | [d1, d2] => { results := [.lit (.bool true)], args := [d1, d2] }
  | _ => none }
def fnValidJoinRow : OpenClaim := { program := "ytlbhelibgifaaaadoor", sum := "a36bbcd99392840ee254ca2617d5d8e4c2359ef3b29252d3045ea7fa7bd025d2", func := "loop.example/lib-g03419/laws.FnValidJoin", spec := "fnValidJoin", named := ["unicode/utf8.first", "unicode/utf8.acceptRanges"], apart := false, laid := [("unicode/utf8.acceptRanges", laid_unicode_utf8_acceptRanges), ("unicode/utf8.first", laid_unicode_utf8_first)] }
def FnValidJoinSaid : Prop := fnValidJoinRow.holds Tryd.pinned (OpenSpec.ofChange fnValidJoinSpec)

/-- ITS FALSE NEIGHBOUR: 'it returns false'. Refute it at one input. -/
def fnValidJoinWrong : ChangeSpec := { name := "fnValidJoin", fn := fun _ => fun
  | [d1, d2] => { results := [.lit (.bool false)], args := [d1, d2] }
  | _ => none }
def FnValidJoinWrongFalsely : Prop := fnValidJoinRow.holds Tryd.pinned (OpenSpec.ofChange fnValidJoinWrong)

/-- 'laws.FnValidList': WHATEVER THE INPUT: true; the input reads as it did. -/
def fnValidListSpec : ChangeSpec := { name := "fnValidList", fn := fun _ => fun
  | [d] => { results := [.lit (.bool true)], args := [d] }
  | _ => none }
def fnValidListRow : OpenClaim := { program := "ytlbhelibgifaaaadoor", sum := "a36bbcd99392840ee254ca2617d5d8e4c2359ef3b29252d3045ea7fa7bd025d2", func := "loop.example/lib-g03419/laws.FnValidList", spec := "fnValidList", named := ["unicode/utf8.first", "unicode/utf8.acceptRanges"], apart := false, laid := [("unicode/utf8.acceptRanges", laid_unicode_utf8_acceptRanges), ("unicode/utf8.first", laid_unicode_utf8_first)] }
def FnValidListSaid : Prop := fnValidListRow.holds Tryd.pinned (OpenSpec.ofChange fnValidListSpec)

/-- ITS FALSE NEIGHBOUR: 'it returns false'. Refute it at one input. -/
def fnValidListWrong : ChangeSpec := { name := "fnValidList", fn := fun _ => fun
  | [d] => { results := [.lit (.bool false)], args := [d] }
  | _ => none }
def FnValidListWrongFalsely : Prop := fnValidListRow.holds Tryd.pinned (OpenSpec.ofChange fnValidListWrong)

/-- 'laws.FnValidMany': WHATEVER THE INPUT: true; the input reads as it did. -/
def fnValidManySpec : ChangeSpec := { name := "fnValidMany", fn := fun _ => fun
  | [d1, d2] => { results := [.lit (.bool true)], args := [d1, d2] }
  | _ => none }
def fnValidManyRow : OpenClaim := { program := "ytlbhelibgifaaaadoor", sum := "a36bbcd99392840ee254ca2617d5d8e4c2359ef3b29252d3045ea7fa7bd025d2", func := "loop.example/lib-g03419/laws.FnValidMany", spec := "fnValidMany", named := ["unicode/utf8.first", "unicode/utf8.acceptRanges"], apart := false, laid := [("unicode/utf8.acceptRanges", laid_unicode_utf8_acceptRanges), ("unicode/utf8.first", laid_unicode_utf8_first)] }
def FnValidManySaid : Prop := fnValidManyRow.holds Tryd.pinned (OpenSpec.ofChange fnValidManySpec)

/-- ITS FALSE NEIGHBOUR: 'it returns false'. Refute it at one input. -/
def fnValidManyWrong : ChangeSpec := { name := "fnValidMany", fn := fun _ => fun
  | [d1, d2] => { results := [.lit (.bool false)], args := [d1, d2] }
  | _ => none }
def FnValidManyWrongFalsely : Prop := fnValidManyRow.holds Tryd.pinned (OpenSpec.ofChange fnValidManyWrong)

/-- 'laws.FnValidOther': WHATEVER THE INPUT: true; the input reads as it did. -/
def fnValidOtherSpec : ChangeSpec := { name := "fnValidOther", fn := fun _ => fun
  | [d] => { results := [.lit (.bool true)], args := [d] }
  | _ => none }
def fnValidOtherRow : OpenClaim := { program := "ytlbhelibgifaaaadoor", sum := "a36bbcd99392840ee254ca2617d5d8e4c2359ef3b29252d3045ea7fa7bd025d2", func := "loop.example/lib-g03419/laws.FnValidOther", spec := "fnValidOther", named := ["unicode/utf8.first", "unicode/utf8.acceptRanges"], apart := false, laid := [("unicode/utf8.acceptRanges", laid_unicode_utf8_acceptRanges), ("unicode/utf8.first", laid_unicode_utf8_first)] }
def FnValidOtherSaid : Prop := fnValidOtherRow.holds Tryd.pinned (OpenSpec.ofChange fnValidOtherSpec)

/-- ITS FALSE NEIGHBOUR: 'it returns false'. Refute it at one input. -/
def fnValidOtherWrong : ChangeSpec := { name := "fnValidOther", fn := fun _ => fun
  | [d] => { results := [.lit (.bool false)], args := [d] }
  | _ => none }
def FnValidOtherWrongFalsely : Prop := fnValidOtherRow.holds Tryd.pinned (OpenSpec.ofChange fnValidOtherWrong)

/-- 'laws.FnValidRune': WHATEVER THE INPUT: true; the input reads as it did. -/
def fnValidRuneSpec : ChangeSpec := { name := "fnValidRune", fn := fun _ => fun
  | [d] => { results := [.lit (.bool true)], args := [d] }
  | _ => none }
def fnValidRuneRow : OpenClaim := { program := "ytlbhelibgifaaaadoor", sum := "a36bbcd99392840ee254ca2617d5d8e4c2359ef3b29252d3045ea7fa7bd025d2", func := "loop.example/lib-g03419/laws.FnValidRune", spec := "fnValidRune", named := ["unicode/utf8.first", "unicode/utf8.acceptRanges"], apart := false, laid := [("unicode/utf8.acceptRanges", laid_unicode_utf8_acceptRanges), ("unicode/utf8.first", laid_unicode_utf8_first)] }
def FnValidRuneSaid : Prop := fnValidRuneRow.holds Tryd.pinned (OpenSpec.ofChange fnValidRuneSpec)

/-- ITS FALSE NEIGHBOUR: 'it returns false'. Refute it at one input. -/
def fnValidRuneWrong : ChangeSpec := { name := "fnValidRune", fn := fun _ => fun
  | [d] => { results := [.lit (.bool false)], args := [d] }
  | _ => none }
def FnValidRuneWrongFalsely : Prop := fnValidRuneRow.holds Tryd.pinned (OpenSpec.ofChange fnValidRuneWrong)

/-- 'laws.FnValidTurned': WHATEVER THE INPUT: true; the input reads as it did. -/
def fnValidTurnedSpec : ChangeSpec := { name := "fnValidTurned", fn := fun _ => fun
  | [d] => { results := [.lit (.bool true)], args := [d] }
  | _ => none }
def fnValidTurnedRow : OpenClaim := { program := "ytlbhelibgifaaaadoor", sum := "a36bbcd99392840ee254ca2617d5d8e4c2359ef3b29252d3045ea7fa7bd025d2", func := "loop.example/lib-g03419/laws.FnValidTurned", spec := "fnValidTurned", named := ["unicode/utf8.first", "unicode/utf8.acceptRanges"], apart := false, laid := [("unicode/utf8.acceptRanges", laid_unicode_utf8_acceptRanges), ("unicode/utf8.first", laid_unicode_utf8_first)] }
def FnValidTurnedSaid : Prop := fnValidTurnedRow.holds Tryd.pinned (OpenSpec.ofChange fnValidTurnedSpec)

/-- ITS FALSE NEIGHBOUR: 'it returns false'. Refute it at one input. -/
def fnValidTurnedWrong : ChangeSpec := { name := "fnValidTurned", fn := fun _ => fun
  | [d] => { results := [.lit (.bool false)], args := [d] }
  | _ => none }
def FnValidTurnedWrongFalsely : Prop := fnValidTurnedRow.holds Tryd.pinned (OpenSpec.ofChange fnValidTurnedWrong)

/- THE SECOND FORM. 'bulk': how many values and letters a reading holds, each counted each time it is reached (what is shared counts as often as it is met; a slice's spare places count too). A statement '..UptoSaid' is the law's where the arguments, and the package variables that the reading takes, are together of bulk at most 1048576: NARROWER than '..Said'. Prove '..Said' where nothing that the law and all that it calls make is longer than what came in: it says more and counts as full. Else prove '..UptoSaid'. A law counts once. -/
mutual
def uptoBulk {H : Type} : DataW H → Nat
  | .lit (.string bytes) => bytes.length + 1
  | .lit _ => 1
  | .nil => 1
  | .ptr d => uptoBulk d + 1
  | .slice elems spare => uptoBulkAll elems + uptoBulkAll spare + 1
  | .agg parts => uptoBulkAll parts + 1
  | .iface _ d => uptoBulk d + 1
  | .map entries => uptoBulkEntries entries + 1
  | .held _ => 1
def uptoBulkAll {H : Type} : List (DataW H) → Nat
  | [] => 0
  | d :: r => uptoBulk d + uptoBulkAll r
def uptoBulkEntries {H : Type} : List (Lit × DataW H) → Nat
  | [] => 0
  | x :: r => uptoBulkEntry x + uptoBulkEntries r
def uptoBulkEntry {H : Type} : Lit × DataW H → Nat
  | (.string bytes, d) => bytes.length + uptoBulk d + 1
  | (_, d) => uptoBulk d + 1
 end
def uptoSmall : (H : Type) → List (DataW H) → Bool := fun _ ds => decide (uptoBulkAll ds ≤ 1048576)
def OpenSpec.upto (s : _root_.Go.ChangeSpec) : _root_.Go.OpenSpec := { _root_.Go.OpenSpec.ofChange s with cond := some uptoSmall }

/-- 'laws.FnExactValidPath', WHERE WHAT IT READS IS OF BULK AT MOST 1048576: true; the input reads as it did. -/
def fnExactValidPathUptoRow : OpenClaim := { program := "ytlbhelibgifaaaadoor", sum := "a36bbcd99392840ee254ca2617d5d8e4c2359ef3b29252d3045ea7fa7bd025d2", func := "loop.example/lib-g03419/laws.FnExactValidPath", spec := "fnExactValidPath", named := ["unicode/utf8.first", "unicode/utf8.acceptRanges"], apart := false, laid := [("unicode/utf8.acceptRanges", laid_unicode_utf8_acceptRanges), ("unicode/utf8.first", laid_unicode_utf8_first)], narrowed := true }
def FnExactValidPathUptoSaid : Prop := fnExactValidPathUptoRow.holds Tryd.pinned (OpenSpec.upto fnExactValidPathSpec)

/-- 'laws.FnValidBroken', WHERE WHAT IT READS IS OF BULK AT MOST 1048576: true; the input reads as it did. -/
def fnValidBrokenUptoRow : OpenClaim := { program := "ytlbhelibgifaaaadoor", sum := "a36bbcd99392840ee254ca2617d5d8e4c2359ef3b29252d3045ea7fa7bd025d2", func := "loop.example/lib-g03419/laws.FnValidBroken", spec := "fnValidBroken", named := ["unicode/utf8.first", "unicode/utf8.acceptRanges"], apart := false, laid := [("unicode/utf8.acceptRanges", laid_unicode_utf8_acceptRanges), ("unicode/utf8.first", laid_unicode_utf8_first)], narrowed := true }
def FnValidBrokenUptoSaid : Prop := fnValidBrokenUptoRow.holds Tryd.pinned (OpenSpec.upto fnValidBrokenSpec)

/-- 'laws.FnValidByte', WHERE WHAT IT READS IS OF BULK AT MOST 1048576: true; the input reads as it did. -/
def fnValidByteUptoRow : OpenClaim := { program := "ytlbhelibgifaaaadoor", sum := "a36bbcd99392840ee254ca2617d5d8e4c2359ef3b29252d3045ea7fa7bd025d2", func := "loop.example/lib-g03419/laws.FnValidByte", spec := "fnValidByte", named := ["unicode/utf8.first", "unicode/utf8.acceptRanges"], apart := false, laid := [("unicode/utf8.acceptRanges", laid_unicode_utf8_acceptRanges), ("unicode/utf8.first", laid_unicode_utf8_first)], narrowed := true }
def FnValidByteUptoSaid : Prop := fnValidByteUptoRow.holds Tryd.pinned (OpenSpec.upto fnValidByteSpec)

/-- 'laws.FnValidCut', WHERE WHAT IT READS IS OF BULK AT MOST 1048576: true; the input reads as it did. -/
def fnValidCutUptoRow : OpenClaim := { program := "ytlbhelibgifaaaadoor", sum := "a36bbcd99392840ee254ca2617d5d8e4c2359ef3b29252d3045ea7fa7bd025d2", func := "loop.example/lib-g03419/laws.FnValidCut", spec := "fnValidCut", named := ["unicode/utf8.first", "unicode/utf8.acceptRanges"], apart := false, laid := [("unicode/utf8.acceptRanges", laid_unicode_utf8_acceptRanges), ("unicode/utf8.first", laid_unicode_utf8_first)], narrowed := true }
def FnValidCutUptoSaid : Prop := fnValidCutUptoRow.holds Tryd.pinned (OpenSpec.upto fnValidCutSpec)

/-- 'laws.FnValidDots', WHERE WHAT IT READS IS OF BULK AT MOST 1048576: true; the input reads as it did. -/
def fnValidDotsUptoRow : OpenClaim := { program := "ytlbhelibgifaaaadoor", sum := "a36bbcd99392840ee254ca2617d5d8e4c2359ef3b29252d3045ea7fa7bd025d2", func := "loop.example/lib-g03419/laws.FnValidDots", spec := "fnValidDots", named := ["unicode/utf8.first", "unicode/utf8.acceptRanges"], apart := false, laid := [("unicode/utf8.acceptRanges", laid_unicode_utf8_acceptRanges), ("unicode/utf8.first", laid_unicode_utf8_first)], narrowed := true }
def FnValidDotsUptoSaid : Prop := fnValidDotsUptoRow.holds Tryd.pinned (OpenSpec.upto fnValidDotsSpec)

/-- 'laws.FnValidElements', WHERE WHAT IT READS IS OF BULK AT MOST 1048576: true; the input reads as it did. -/
def fnValidElementsUptoRow : OpenClaim := { program := "ytlbhelibgifaaaadoor", sum := "a36bbcd99392840ee254ca2617d5d8e4c2359ef3b29252d3045ea7fa7bd025d2", func := "loop.example/lib-g03419/laws.FnValidElements", spec := "fnValidElements", named := ["unicode/utf8.first", "unicode/utf8.acceptRanges"], apart := false, laid := [("unicode/utf8.acceptRanges", laid_unicode_utf8_acceptRanges), ("unicode/utf8.first", laid_unicode_utf8_first)], narrowed := true }
def FnValidElementsUptoSaid : Prop := fnValidElementsUptoRow.holds Tryd.pinned (OpenSpec.upto fnValidElementsSpec)

/-- 'laws.FnValidEnds', WHERE WHAT IT READS IS OF BULK AT MOST 1048576: true; the input reads as it did. -/
def fnValidEndsUptoRow : OpenClaim := { program := "ytlbhelibgifaaaadoor", sum := "a36bbcd99392840ee254ca2617d5d8e4c2359ef3b29252d3045ea7fa7bd025d2", func := "loop.example/lib-g03419/laws.FnValidEnds", spec := "fnValidEnds", named := ["unicode/utf8.first", "unicode/utf8.acceptRanges"], apart := false, laid := [("unicode/utf8.acceptRanges", laid_unicode_utf8_acceptRanges), ("unicode/utf8.first", laid_unicode_utf8_first)], narrowed := true }
def FnValidEndsUptoSaid : Prop := fnValidEndsUptoRow.holds Tryd.pinned (OpenSpec.upto fnValidEndsSpec)

/-- 'laws.FnValidJoin', WHERE WHAT IT READS IS OF BULK AT MOST 1048576: true; the input reads as it did. -/
def fnValidJoinUptoRow : OpenClaim := { program := "ytlbhelibgifaaaadoor", sum := "a36bbcd99392840ee254ca2617d5d8e4c2359ef3b29252d3045ea7fa7bd025d2", func := "loop.example/lib-g03419/laws.FnValidJoin", spec := "fnValidJoin", named := ["unicode/utf8.first", "unicode/utf8.acceptRanges"], apart := false, laid := [("unicode/utf8.acceptRanges", laid_unicode_utf8_acceptRanges), ("unicode/utf8.first", laid_unicode_utf8_first)], narrowed := true }
def FnValidJoinUptoSaid : Prop := fnValidJoinUptoRow.holds Tryd.pinned (OpenSpec.upto fnValidJoinSpec)

/-- 'laws.FnValidList', WHERE WHAT IT READS IS OF BULK AT MOST 1048576: true; the input reads as it did. -/
def fnValidListUptoRow : OpenClaim := { program := "ytlbhelibgifaaaadoor", sum := "a36bbcd99392840ee254ca2617d5d8e4c2359ef3b29252d3045ea7fa7bd025d2", func := "loop.example/lib-g03419/laws.FnValidList", spec := "fnValidList", named := ["unicode/utf8.first", "unicode/utf8.acceptRanges"], apart := false, laid := [("unicode/utf8.acceptRanges", laid_unicode_utf8_acceptRanges), ("unicode/utf8.first", laid_unicode_utf8_first)], narrowed := true }
def FnValidListUptoSaid : Prop := fnValidListUptoRow.holds Tryd.pinned (OpenSpec.upto fnValidListSpec)

/-- 'laws.FnValidMany', WHERE WHAT IT READS IS OF BULK AT MOST 1048576: true; the input reads as it did. -/
def fnValidManyUptoRow : OpenClaim := { program := "ytlbhelibgifaaaadoor", sum := "a36bbcd99392840ee254ca2617d5d8e4c2359ef3b29252d3045ea7fa7bd025d2", func := "loop.example/lib-g03419/laws.FnValidMany", spec := "fnValidMany", named := ["unicode/utf8.first", "unicode/utf8.acceptRanges"], apart := false, laid := [("unicode/utf8.acceptRanges", laid_unicode_utf8_acceptRanges), ("unicode/utf8.first", laid_unicode_utf8_first)], narrowed := true }
def FnValidManyUptoSaid : Prop := fnValidManyUptoRow.holds Tryd.pinned (OpenSpec.upto fnValidManySpec)

/-- 'laws.FnValidOther', WHERE WHAT IT READS IS OF BULK AT MOST 1048576: true; the input reads as it did. -/
def fnValidOtherUptoRow : OpenClaim := { program := "ytlbhelibgifaaaadoor", sum := "a36bbcd99392840ee254ca2617d5d8e4c2359ef3b29252d3045ea7fa7bd025d2", func := "loop.example/lib-g03419/laws.FnValidOther", spec := "fnValidOther", named := ["unicode/utf8.first", "unicode/utf8.acceptRanges"], apart := false, laid := [("unicode/utf8.acceptRanges", laid_unicode_utf8_acceptRanges), ("unicode/utf8.first", laid_unicode_utf8_first)], narrowed := true }
def FnValidOtherUptoSaid : Prop := fnValidOtherUptoRow.holds Tryd.pinned (OpenSpec.upto fnValidOtherSpec)

/-- 'laws.FnValidRune', WHERE WHAT IT READS IS OF BULK AT MOST 1048576: true; the input reads as it did. -/
def fnValidRuneUptoRow : OpenClaim := { program := "ytlbhelibgifaaaadoor", sum := "a36bbcd99392840ee254ca2617d5d8e4c2359ef3b29252d3045ea7fa7bd025d2", func := "loop.example/lib-g03419/laws.FnValidRune", spec := "fnValidRune", named := ["unicode/utf8.first", "unicode/utf8.acceptRanges"], apart := false, laid := [("unicode/utf8.acceptRanges", laid_unicode_utf8_acceptRanges), ("unicode/utf8.first", laid_unicode_utf8_first)], narrowed := true }
def FnValidRuneUptoSaid : Prop := fnValidRuneUptoRow.holds Tryd.pinned (OpenSpec.upto fnValidRuneSpec)

/-- 'laws.FnValidTurned', WHERE WHAT IT READS IS OF BULK AT MOST 1048576: true; the input reads as it did. -/
def fnValidTurnedUptoRow : OpenClaim := { program := "ytlbhelibgifaaaadoor", sum := "a36bbcd99392840ee254ca2617d5d8e4c2359ef3b29252d3045ea7fa7bd025d2", func := "loop.example/lib-g03419/laws.FnValidTurned", spec := "fnValidTurned", named := ["unicode/utf8.first", "unicode/utf8.acceptRanges"], apart := false, laid := [("unicode/utf8.acceptRanges", laid_unicode_utf8_acceptRanges), ("unicode/utf8.first", laid_unicode_utf8_first)], narrowed := true }
def FnValidTurnedUptoSaid : Prop := fnValidTurnedUptoRow.holds Tryd.pinned (OpenSpec.upto fnValidTurnedSpec)

end Rows
end Go.Proofs.YtlbhelibgifaaaaDoor

/-
  NARROWER THAN 'FOR EVERY INPUT', by the rows' own cells (each row's printed sentence says how): FnGptReads: laid · FnGptRecovers: laid · FnGptEqual: laid · FnGptVerifies: laid.
  DERIVED. THE GIVEN ROWS OF THIS SEAT. 4 by the template 'for every input the law returns true; each argument reads behind the call as it read before'; 0 by the template 'total and deterministic' (their statements: YthcaejaaalkglaaDoorTotals.lean).
  GIVEN WITH THE SEED: the statements are not yours to turn. If you find one false, say at which input.
  Laid BY PROGRAM, IN A SANDBOX (cutbox-rows.mjs): the forced cells as the released guide's own fill.sh prints them over the translation 3ec7e0aa4989b837… (all of the seat's roots in one cut). By AI agents, Wed Nov 11 2026. No macro, syntax, notation, axiom, sorry.
-/
import Derived.Test.YthcaejaaalkglaaDoorChecked
import GoSem.PinnedTables
import GoSem.Claim
import GoSem.ClaimJoined
import GoSem.ClaimMapViews
import Derived.JoinedTies
import Derived.KernelRfl
namespace Go.Proofs.YthcaejaaalkglaaDoor
/- THE CELL 'sum', in the pinned program and in every row, IS THE sha256 OF THE DUMP (.gsa) THAT YthcaejaaalkglaaDoorProg.lean LOADS. Nothing in Lean hashes anything: it is a label: what it is worth is what the hold of that sum in a sandbox is worth. -/
noncomputable def Tryd.pinned : Pinned := { name := "ythcaejaaalkglaadoor", sum := "3ec7e0aa4989b837b3cb07aacbbab9f83884f2403ed0980f97d5a19847c922aa", checked := Tryd.checked }
namespace Rows
def none {H : Type} : Left H := { results := [], args := [] }

/- WHAT THE LISTED PACKAGE-LEVEL VARIABLES READ AS WHEN THE CALL BEGINS. Each datum BY PROGRAM (the guide's laid-datum.mjs) off the statement by which the dump's own 'gosem.cut.vars' lays the variable. In a bare row this is a premise. The card (YthcaejaaalkglaaDoorCards.lean) ties it to the program's text. -/
def laid_unicode_utf8_acceptRanges {H : Type} : DataW H := .agg [.agg [.lit (.int .u8 128), .lit (.int .u8 191)], .agg [.lit (.int .u8 160), .lit (.int .u8 191)], .agg [.lit (.int .u8 128), .lit (.int .u8 159)], .agg [.lit (.int .u8 144), .lit (.int .u8 191)], .agg [.lit (.int .u8 128), .lit (.int .u8 143)], .agg [.lit (.int .u8 0), .lit (.int .u8 0)], .agg [.lit (.int .u8 0), .lit (.int .u8 0)], .agg [.lit (.int .u8 0), .lit (.int .u8 0)], .agg [.lit (.int .u8 0), .lit (.int .u8 0)], .agg [.lit (.int .u8 0), .lit (.int .u8 0)], .agg [.lit (.int .u8 0), .lit (.int .u8 0)], .agg [.lit (.int .u8 0), .lit (.int .u8 0)], .agg [.lit (.int .u8 0), .lit (.int .u8 0)], .agg [.lit (.int .u8 0), .lit (.int .u8 0)], .agg [.lit (.int .u8 0), .lit (.int .u8 0)], .agg [.lit (.int .u8 0), .lit (.int .u8 0)]]
/-- One of Go's own tables, pinned by name: the form's constant. -/
def laid_unicode_utf8_first : DataW Unit := Go.Pinned.utf8First

/-- 'laws.FnGptReads': WHATEVER THE INPUT: true; the input reads as it did. -/
def fnGptReadsSpec : ChangeSpec := { name := "fnGptReads", fn := fun _ => fun
  | [d1, d2, d3] => { results := [.lit (.bool true)], args := [d1, d2, d3] }
  | _ => none }
def fnGptReadsRow : OpenClaim := { program := "ythcaejaaalkglaadoor", sum := "3ec7e0aa4989b837b3cb07aacbbab9f83884f2403ed0980f97d5a19847c922aa", func := "given.example/pub-garboard/laws.FnGptReads", spec := "fnGptReads", unfollowed := true, recurses := true, named := ["unicode/utf8.first", "unicode/utf8.acceptRanges", "encoding/binary.LittleEndian"], apart := false, laid := [("unicode/utf8.acceptRanges", laid_unicode_utf8_acceptRanges), ("unicode/utf8.first", laid_unicode_utf8_first)] }
def FnGptReadsSaid : Prop := fnGptReadsRow.holds Tryd.pinned (OpenSpec.ofChange fnGptReadsSpec)

/-- ITS FALSE NEIGHBOUR: 'it returns false'. Refute it at one input. -/
def fnGptReadsWrong : ChangeSpec := { name := "fnGptReads", fn := fun _ => fun
  | [d1, d2, d3] => { results := [.lit (.bool false)], args := [d1, d2, d3] }
  | _ => none }
def FnGptReadsWrongFalsely : Prop := fnGptReadsRow.holds Tryd.pinned (OpenSpec.ofChange fnGptReadsWrong)

/-- 'laws.FnGptRecovers': WHATEVER THE INPUT: true; the input reads as it did. -/
def fnGptRecoversSpec : ChangeSpec := { name := "fnGptRecovers", fn := fun _ => fun
  | [d1, d2, d3, d4, d5] => { results := [.lit (.bool true)], args := [d1, d2, d3, d4, d5] }
  | _ => none }
def fnGptRecoversRow : OpenClaim := { program := "ythcaejaaalkglaadoor", sum := "3ec7e0aa4989b837b3cb07aacbbab9f83884f2403ed0980f97d5a19847c922aa", func := "given.example/pub-garboard/laws.FnGptRecovers", spec := "fnGptRecovers", unfollowed := true, recurses := true, named := ["unicode/utf8.first", "unicode/utf8.acceptRanges", "encoding/binary.LittleEndian"], apart := false, laid := [("unicode/utf8.acceptRanges", laid_unicode_utf8_acceptRanges), ("unicode/utf8.first", laid_unicode_utf8_first)] }
def FnGptRecoversSaid : Prop := fnGptRecoversRow.holds Tryd.pinned (OpenSpec.ofChange fnGptRecoversSpec)

/-- ITS FALSE NEIGHBOUR: 'it returns false'. Refute it at one input. -/
def fnGptRecoversWrong : ChangeSpec := { name := "fnGptRecovers", fn := fun _ => fun
  | [d1, d2, d3, d4, d5] => { results := [.lit (.bool false)], args := [d1, d2, d3, d4, d5] }
  | _ => none }
def FnGptRecoversWrongFalsely : Prop := fnGptRecoversRow.holds Tryd.pinned (OpenSpec.ofChange fnGptRecoversWrong)

/-- 'laws.FnGptEqual': WHATEVER THE INPUT: true; the input reads as it did. -/
def fnGptEqualSpec : ChangeSpec := { name := "fnGptEqual", fn := fun _ => fun
  | [d1, d2] => { results := [.lit (.bool true)], args := [d1, d2] }
  | _ => none }
def fnGptEqualRow : OpenClaim := { program := "ythcaejaaalkglaadoor", sum := "3ec7e0aa4989b837b3cb07aacbbab9f83884f2403ed0980f97d5a19847c922aa", func := "given.example/pub-garboard/laws.FnGptEqual", spec := "fnGptEqual", unfollowed := true, recurses := true, named := ["unicode/utf8.first", "unicode/utf8.acceptRanges", "encoding/binary.LittleEndian"], apart := false, laid := [("unicode/utf8.acceptRanges", laid_unicode_utf8_acceptRanges), ("unicode/utf8.first", laid_unicode_utf8_first)] }
def FnGptEqualSaid : Prop := fnGptEqualRow.holds Tryd.pinned (OpenSpec.ofChange fnGptEqualSpec)

/-- ITS FALSE NEIGHBOUR: 'it returns false'. Refute it at one input. -/
def fnGptEqualWrong : ChangeSpec := { name := "fnGptEqual", fn := fun _ => fun
  | [d1, d2] => { results := [.lit (.bool false)], args := [d1, d2] }
  | _ => none }
def FnGptEqualWrongFalsely : Prop := fnGptEqualRow.holds Tryd.pinned (OpenSpec.ofChange fnGptEqualWrong)

/-- 'laws.FnGptVerifies': WHATEVER THE INPUT: true; the input reads as it did. -/
def fnGptVerifiesSpec : ChangeSpec := { name := "fnGptVerifies", fn := fun _ => fun
  | [d1, d2] => { results := [.lit (.bool true)], args := [d1, d2] }
  | _ => none }
def fnGptVerifiesRow : OpenClaim := { program := "ythcaejaaalkglaadoor", sum := "3ec7e0aa4989b837b3cb07aacbbab9f83884f2403ed0980f97d5a19847c922aa", func := "given.example/pub-garboard/laws.FnGptVerifies", spec := "fnGptVerifies", unfollowed := true, recurses := true, named := ["unicode/utf8.first", "unicode/utf8.acceptRanges", "encoding/binary.LittleEndian"], apart := false, laid := [("unicode/utf8.acceptRanges", laid_unicode_utf8_acceptRanges), ("unicode/utf8.first", laid_unicode_utf8_first)] }
def FnGptVerifiesSaid : Prop := fnGptVerifiesRow.holds Tryd.pinned (OpenSpec.ofChange fnGptVerifiesSpec)

/-- ITS FALSE NEIGHBOUR: 'it returns false'. Refute it at one input. -/
def fnGptVerifiesWrong : ChangeSpec := { name := "fnGptVerifies", fn := fun _ => fun
  | [d1, d2] => { results := [.lit (.bool false)], args := [d1, d2] }
  | _ => none }
def FnGptVerifiesWrongFalsely : Prop := fnGptVerifiesRow.holds Tryd.pinned (OpenSpec.ofChange fnGptVerifiesWrong)

/- THE SECOND FORM. 'bulk': how many values and letters a reading holds, each counted each time it is reached (what is shared counts as often as it is met; a slice's spare places count too). A statement '..UptoSaid' is the law's where the arguments, and the package variables that the reading takes, are together of bulk at most 1048576: NARROWER than '..Said'. Prove '..Said' where nothing that the law and all that it calls make is longer than what came in: it says more and counts as full. Else prove '..UptoSaid'. A law counts once. -/
mutual
def uptoBulk {H : Type} : DataW H → Nat
  | .lit (.string bytes) => bytes.length + 1
  | .lit _ => 1
  | .nil => 1
  | .ptr d => uptoBulk d + 1
  | .slice elems spare => uptoBulkAll elems + uptoBulkAll spare + 1
  | .agg parts => uptoBulkAll parts + 1
  | .iface _ d => uptoBulk d + 1
  | .map entries => uptoBulkEntries entries + 1
  | .held _ => 1
def uptoBulkAll {H : Type} : List (DataW H) → Nat
  | [] => 0
  | d :: r => uptoBulk d + uptoBulkAll r
def uptoBulkEntries {H : Type} : List (Lit × DataW H) → Nat
  | [] => 0
  | x :: r => uptoBulkEntry x + uptoBulkEntries r
def uptoBulkEntry {H : Type} : Lit × DataW H → Nat
  | (.string bytes, d) => bytes.length + uptoBulk d + 1
  | (_, d) => uptoBulk d + 1
 end
def uptoSmall : (H : Type) → List (DataW H) → Bool := fun _ ds => decide (uptoBulkAll ds ≤ 1048576)
def OpenSpec.upto (s : _root_.Go.ChangeSpec) : _root_.Go.OpenSpec := { _root_.Go.OpenSpec.ofChange s with cond := some uptoSmall }

/-- 'laws.FnGptReads', WHERE WHAT IT READS IS OF BULK AT MOST 1048576: true; the input reads as it did. -/
def fnGptReadsUptoRow : OpenClaim := { program := "ythcaejaaalkglaadoor", sum := "3ec7e0aa4989b837b3cb07aacbbab9f83884f2403ed0980f97d5a19847c922aa", func := "given.example/pub-garboard/laws.FnGptReads", spec := "fnGptReads", unfollowed := true, recurses := true, named := ["unicode/utf8.first", "unicode/utf8.acceptRanges", "encoding/binary.LittleEndian"], apart := false, laid := [("unicode/utf8.acceptRanges", laid_unicode_utf8_acceptRanges), ("unicode/utf8.first", laid_unicode_utf8_first)], narrowed := true }
def FnGptReadsUptoSaid : Prop := fnGptReadsUptoRow.holds Tryd.pinned (OpenSpec.upto fnGptReadsSpec)

/-- 'laws.FnGptRecovers', WHERE WHAT IT READS IS OF BULK AT MOST 1048576: true; the input reads as it did. -/
def fnGptRecoversUptoRow : OpenClaim := { program := "ythcaejaaalkglaadoor", sum := "3ec7e0aa4989b837b3cb07aacbbab9f83884f2403ed0980f97d5a19847c922aa", func := "given.example/pub-garboard/laws.FnGptRecovers", spec := "fnGptRecovers", unfollowed := true, recurses := true, named := ["unicode/utf8.first", "unicode/utf8.acceptRanges", "encoding/binary.LittleEndian"], apart := false, laid := [("unicode/utf8.acceptRanges", laid_unicode_utf8_acceptRanges), ("unicode/utf8.first", laid_unicode_utf8_first)], narrowed := true }
def FnGptRecoversUptoSaid : Prop := fnGptRecoversUptoRow.holds Tryd.pinned (OpenSpec.upto fnGptRecoversSpec)

/-- 'laws.FnGptEqual', WHERE WHAT IT READS IS OF BULK AT MOST 1048576: true; the input reads as it did. -/
def fnGptEqualUptoRow : OpenClaim := { program := "ythcaejaaalkglaadoor", sum := "3ec7e0aa4989b837b3cb07aacbbab9f83884f2403ed0980f97d5a19847c922aa", func := "given.example/pub-garboard/laws.FnGptEqual", spec := "fnGptEqual", unfollowed := true, recurses := true, named := ["unicode/utf8.first", "unicode/utf8.acceptRanges", "encoding/binary.LittleEndian"], apart := false, laid := [("unicode/utf8.acceptRanges", laid_unicode_utf8_acceptRanges), ("unicode/utf8.first", laid_unicode_utf8_first)], narrowed := true }
def FnGptEqualUptoSaid : Prop := fnGptEqualUptoRow.holds Tryd.pinned (OpenSpec.upto fnGptEqualSpec)

/-- 'laws.FnGptVerifies', WHERE WHAT IT READS IS OF BULK AT MOST 1048576: true; the input reads as it did. -/
def fnGptVerifiesUptoRow : OpenClaim := { program := "ythcaejaaalkglaadoor", sum := "3ec7e0aa4989b837b3cb07aacbbab9f83884f2403ed0980f97d5a19847c922aa", func := "given.example/pub-garboard/laws.FnGptVerifies", spec := "fnGptVerifies", unfollowed := true, recurses := true, named := ["unicode/utf8.first", "unicode/utf8.acceptRanges", "encoding/binary.LittleEndian"], apart := false, laid := [("unicode/utf8.acceptRanges", laid_unicode_utf8_acceptRanges), ("unicode/utf8.first", laid_unicode_utf8_first)], narrowed := true }
def FnGptVerifiesUptoSaid : Prop := fnGptVerifiesUptoRow.holds Tryd.pinned (OpenSpec.upto fnGptVerifiesSpec)

end Rows
end Go.Proofs.YthcaejaaalkglaaDoor

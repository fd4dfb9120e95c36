/-
  NARROWER THAN 'FOR EVERY INPUT', by the rows' own cells (each row's printed sentence says how): FnGptRepairs: laid · FnGptBack: laid · FnGptCut: laid · FnGptOrder: laid · FnGptWrites: laid.
  DERIVED. THE GIVEN ROWS OF THIS SEAT. 5 by the template 'for every input the law returns true; each argument reads behind the call as it read before'; 0 by the template 'total and deterministic' (their statements: YthcaejaaalkglaaGreatDoorTotals.lean).
  GIVEN WITH THE SEED: the statements are not yours to turn. If you find one false, say at which input.
  Laid BY PROGRAM, IN A SANDBOX (cutbox-rows.mjs): the forced cells as the released guide's own fill.sh prints them over the translation ff011f7ddb1e931a… (all of the seat's roots in one cut). By AI agents, Wed Nov 11 2026. No macro, syntax, notation, axiom, sorry.
-/
import Derived.Test.YthcaejaaalkglaaGreatDoorChecked
import GoSem.PinnedTables
import GoSem.Claim
import GoSem.ClaimJoined
import GoSem.ClaimMapViews
import Derived.JoinedTies
import Derived.KernelRfl
namespace Go.Proofs.YthcaejaaalkglaaGreatDoor
/- THE CELL 'sum', in the pinned program and in every row, IS THE sha256 OF THE DUMP (.gsa) THAT YthcaejaaalkglaaGreatDoorProg.lean LOADS. Nothing in Lean hashes anything: it is a label: what it is worth is what the hold of that sum in a sandbox is worth. -/
noncomputable def Tryz.pinned : Pinned := { name := "ythcaejaaalkglaagreatdoor", sum := "ff011f7ddb1e931a5f8105159d4bdeeb1356cef8c08e69b3f7d37572203c7e6a", checked := Tryz.checked }
namespace Rows
def none {H : Type} : Left H := { results := [], args := [] }

/- WHAT THE LISTED PACKAGE-LEVEL VARIABLES READ AS WHEN THE CALL BEGINS. Each datum BY PROGRAM (the guide's laid-datum.mjs) off the statement by which the dump's own 'gosem.cut.vars' lays the variable. In a bare row this is a premise. The card (YthcaejaaalkglaaGreatDoorCards.lean) ties it to the program's text. -/
def laid_unicode_utf8_acceptRanges {H : Type} : DataW H := .agg [.agg [.lit (.int .u8 128), .lit (.int .u8 191)], .agg [.lit (.int .u8 160), .lit (.int .u8 191)], .agg [.lit (.int .u8 128), .lit (.int .u8 159)], .agg [.lit (.int .u8 144), .lit (.int .u8 191)], .agg [.lit (.int .u8 128), .lit (.int .u8 143)], .agg [.lit (.int .u8 0), .lit (.int .u8 0)], .agg [.lit (.int .u8 0), .lit (.int .u8 0)], .agg [.lit (.int .u8 0), .lit (.int .u8 0)], .agg [.lit (.int .u8 0), .lit (.int .u8 0)], .agg [.lit (.int .u8 0), .lit (.int .u8 0)], .agg [.lit (.int .u8 0), .lit (.int .u8 0)], .agg [.lit (.int .u8 0), .lit (.int .u8 0)], .agg [.lit (.int .u8 0), .lit (.int .u8 0)], .agg [.lit (.int .u8 0), .lit (.int .u8 0)], .agg [.lit (.int .u8 0), .lit (.int .u8 0)], .agg [.lit (.int .u8 0), .lit (.int .u8 0)]]
/-- One of Go's own tables, pinned by name: the form's constant. -/
def laid_unicode_utf8_first : DataW Unit := Go.Pinned.utf8First

/-- 'laws.FnGptRepairs': WHATEVER THE INPUT: true; the input reads as it did. -/
def fnGptRepairsSpec : ChangeSpec := { name := "fnGptRepairs", fn := fun _ => fun
  | [d1, d2, d3] => { results := [.lit (.bool true)], args := [d1, d2, d3] }
  | _ => none }
def fnGptRepairsRow : OpenClaim := { program := "ythcaejaaalkglaagreatdoor", sum := "ff011f7ddb1e931a5f8105159d4bdeeb1356cef8c08e69b3f7d37572203c7e6a", func := "given.example/pub-garboard/laws.FnGptRepairs", spec := "fnGptRepairs", unfollowed := true, recurses := true, named := ["unicode/utf8.first", "unicode/utf8.acceptRanges", "encoding/binary.LittleEndian"], apart := false, laid := [("unicode/utf8.acceptRanges", laid_unicode_utf8_acceptRanges), ("unicode/utf8.first", laid_unicode_utf8_first)] }
def FnGptRepairsSaid : Prop := fnGptRepairsRow.holds Tryz.pinned (OpenSpec.ofChange fnGptRepairsSpec)

/-- ITS FALSE NEIGHBOUR: 'it returns false'. Refute it at one input. -/
def fnGptRepairsWrong : ChangeSpec := { name := "fnGptRepairs", fn := fun _ => fun
  | [d1, d2, d3] => { results := [.lit (.bool false)], args := [d1, d2, d3] }
  | _ => none }
def FnGptRepairsWrongFalsely : Prop := fnGptRepairsRow.holds Tryz.pinned (OpenSpec.ofChange fnGptRepairsWrong)

/-- 'laws.FnGptBack': WHATEVER THE INPUT: true; the input reads as it did. -/
def fnGptBackSpec : ChangeSpec := { name := "fnGptBack", fn := fun _ => fun
  | [d1, d2, d3] => { results := [.lit (.bool true)], args := [d1, d2, d3] }
  | _ => none }
def fnGptBackRow : OpenClaim := { program := "ythcaejaaalkglaagreatdoor", sum := "ff011f7ddb1e931a5f8105159d4bdeeb1356cef8c08e69b3f7d37572203c7e6a", func := "given.example/pub-garboard/laws.FnGptBack", spec := "fnGptBack", unfollowed := true, recurses := true, named := ["unicode/utf8.first", "unicode/utf8.acceptRanges", "encoding/binary.LittleEndian"], apart := false, laid := [("unicode/utf8.acceptRanges", laid_unicode_utf8_acceptRanges), ("unicode/utf8.first", laid_unicode_utf8_first)] }
def FnGptBackSaid : Prop := fnGptBackRow.holds Tryz.pinned (OpenSpec.ofChange fnGptBackSpec)

/-- ITS FALSE NEIGHBOUR: 'it returns false'. Refute it at one input. -/
def fnGptBackWrong : ChangeSpec := { name := "fnGptBack", fn := fun _ => fun
  | [d1, d2, d3] => { results := [.lit (.bool false)], args := [d1, d2, d3] }
  | _ => none }
def FnGptBackWrongFalsely : Prop := fnGptBackRow.holds Tryz.pinned (OpenSpec.ofChange fnGptBackWrong)

/-- 'laws.FnGptCut': WHATEVER THE INPUT: true; the input reads as it did. -/
def fnGptCutSpec : ChangeSpec := { name := "fnGptCut", fn := fun _ => fun
  | [d1, d2, d3, d4, d5] => { results := [.lit (.bool true)], args := [d1, d2, d3, d4, d5] }
  | _ => none }
def fnGptCutRow : OpenClaim := { program := "ythcaejaaalkglaagreatdoor", sum := "ff011f7ddb1e931a5f8105159d4bdeeb1356cef8c08e69b3f7d37572203c7e6a", func := "given.example/pub-garboard/laws.FnGptCut", spec := "fnGptCut", unfollowed := true, recurses := true, named := ["unicode/utf8.first", "unicode/utf8.acceptRanges", "encoding/binary.LittleEndian"], apart := false, laid := [("unicode/utf8.acceptRanges", laid_unicode_utf8_acceptRanges), ("unicode/utf8.first", laid_unicode_utf8_first)] }
def FnGptCutSaid : Prop := fnGptCutRow.holds Tryz.pinned (OpenSpec.ofChange fnGptCutSpec)

/-- ITS FALSE NEIGHBOUR: 'it returns false'. Refute it at one input. -/
def fnGptCutWrong : ChangeSpec := { name := "fnGptCut", fn := fun _ => fun
  | [d1, d2, d3, d4, d5] => { results := [.lit (.bool false)], args := [d1, d2, d3, d4, d5] }
  | _ => none }
def FnGptCutWrongFalsely : Prop := fnGptCutRow.holds Tryz.pinned (OpenSpec.ofChange fnGptCutWrong)

/-- 'laws.FnGptOrder': WHATEVER THE INPUT: true; the input reads as it did. -/
def fnGptOrderSpec : ChangeSpec := { name := "fnGptOrder", fn := fun _ => fun
  | [d1, d2] => { results := [.lit (.bool true)], args := [d1, d2] }
  | _ => none }
def fnGptOrderRow : OpenClaim := { program := "ythcaejaaalkglaagreatdoor", sum := "ff011f7ddb1e931a5f8105159d4bdeeb1356cef8c08e69b3f7d37572203c7e6a", func := "given.example/pub-garboard/laws.FnGptOrder", spec := "fnGptOrder", unfollowed := true, recurses := true, named := ["unicode/utf8.first", "unicode/utf8.acceptRanges", "encoding/binary.LittleEndian"], apart := false, laid := [("unicode/utf8.acceptRanges", laid_unicode_utf8_acceptRanges), ("unicode/utf8.first", laid_unicode_utf8_first)] }
def FnGptOrderSaid : Prop := fnGptOrderRow.holds Tryz.pinned (OpenSpec.ofChange fnGptOrderSpec)

/-- ITS FALSE NEIGHBOUR: 'it returns false'. Refute it at one input. -/
def fnGptOrderWrong : ChangeSpec := { name := "fnGptOrder", fn := fun _ => fun
  | [d1, d2] => { results := [.lit (.bool false)], args := [d1, d2] }
  | _ => none }
def FnGptOrderWrongFalsely : Prop := fnGptOrderRow.holds Tryz.pinned (OpenSpec.ofChange fnGptOrderWrong)

/-- 'laws.FnGptWrites': WHATEVER THE INPUT: true; the input reads as it did. -/
def fnGptWritesSpec : ChangeSpec := { name := "fnGptWrites", fn := fun _ => fun
  | [d1, d2, d3] => { results := [.lit (.bool true)], args := [d1, d2, d3] }
  | _ => none }
def fnGptWritesRow : OpenClaim := { program := "ythcaejaaalkglaagreatdoor", sum := "ff011f7ddb1e931a5f8105159d4bdeeb1356cef8c08e69b3f7d37572203c7e6a", func := "given.example/pub-garboard/laws.FnGptWrites", spec := "fnGptWrites", unfollowed := true, recurses := true, named := ["unicode/utf8.first", "unicode/utf8.acceptRanges", "encoding/binary.LittleEndian"], apart := false, laid := [("unicode/utf8.acceptRanges", laid_unicode_utf8_acceptRanges), ("unicode/utf8.first", laid_unicode_utf8_first)] }
def FnGptWritesSaid : Prop := fnGptWritesRow.holds Tryz.pinned (OpenSpec.ofChange fnGptWritesSpec)

/-- ITS FALSE NEIGHBOUR: 'it returns false'. Refute it at one input. -/
def fnGptWritesWrong : ChangeSpec := { name := "fnGptWrites", fn := fun _ => fun
  | [d1, d2, d3] => { results := [.lit (.bool false)], args := [d1, d2, d3] }
  | _ => none }
def FnGptWritesWrongFalsely : Prop := fnGptWritesRow.holds Tryz.pinned (OpenSpec.ofChange fnGptWritesWrong)

/- THE SECOND FORM. 'bulk': how many values and letters a reading holds, each counted each time it is reached (what is shared counts as often as it is met; a slice's spare places count too). A statement '..UptoSaid' is the law's where the arguments, and the package variables that the reading takes, are together of bulk at most 1048576: NARROWER than '..Said'. Prove '..Said' where nothing that the law and all that it calls make is longer than what came in: it says more and counts as full. Else prove '..UptoSaid'. A law counts once. -/
mutual
def uptoBulk {H : Type} : DataW H → Nat
  | .lit (.string bytes) => bytes.length + 1
  | .lit _ => 1
  | .nil => 1
  | .ptr d => uptoBulk d + 1
  | .slice elems spare => uptoBulkAll elems + uptoBulkAll spare + 1
  | .agg parts => uptoBulkAll parts + 1
  | .iface _ d => uptoBulk d + 1
  | .map entries => uptoBulkEntries entries + 1
  | .held _ => 1
def uptoBulkAll {H : Type} : List (DataW H) → Nat
  | [] => 0
  | d :: r => uptoBulk d + uptoBulkAll r
def uptoBulkEntries {H : Type} : List (Lit × DataW H) → Nat
  | [] => 0
  | x :: r => uptoBulkEntry x + uptoBulkEntries r
def uptoBulkEntry {H : Type} : Lit × DataW H → Nat
  | (.string bytes, d) => bytes.length + uptoBulk d + 1
  | (_, d) => uptoBulk d + 1
 end
def uptoSmall : (H : Type) → List (DataW H) → Bool := fun _ ds => decide (uptoBulkAll ds ≤ 1048576)
def OpenSpec.upto (s : _root_.Go.ChangeSpec) : _root_.Go.OpenSpec := { _root_.Go.OpenSpec.ofChange s with cond := some uptoSmall }

/-- 'laws.FnGptRepairs', WHERE WHAT IT READS IS OF BULK AT MOST 1048576: true; the input reads as it did. -/
def fnGptRepairsUptoRow : OpenClaim := { program := "ythcaejaaalkglaagreatdoor", sum := "ff011f7ddb1e931a5f8105159d4bdeeb1356cef8c08e69b3f7d37572203c7e6a", func := "given.example/pub-garboard/laws.FnGptRepairs", spec := "fnGptRepairs", unfollowed := true, recurses := true, named := ["unicode/utf8.first", "unicode/utf8.acceptRanges", "encoding/binary.LittleEndian"], apart := false, laid := [("unicode/utf8.acceptRanges", laid_unicode_utf8_acceptRanges), ("unicode/utf8.first", laid_unicode_utf8_first)], narrowed := true }
def FnGptRepairsUptoSaid : Prop := fnGptRepairsUptoRow.holds Tryz.pinned (OpenSpec.upto fnGptRepairsSpec)

/-- 'laws.FnGptBack', WHERE WHAT IT READS IS OF BULK AT MOST 1048576: true; the input reads as it did. -/
def fnGptBackUptoRow : OpenClaim := { program := "ythcaejaaalkglaagreatdoor", sum := "ff011f7ddb1e931a5f8105159d4bdeeb1356cef8c08e69b3f7d37572203c7e6a", func := "given.example/pub-garboard/laws.FnGptBack", spec := "fnGptBack", unfollowed := true, recurses := true, named := ["unicode/utf8.first", "unicode/utf8.acceptRanges", "encoding/binary.LittleEndian"], apart := false, laid := [("unicode/utf8.acceptRanges", laid_unicode_utf8_acceptRanges), ("unicode/utf8.first", laid_unicode_utf8_first)], narrowed := true }
def FnGptBackUptoSaid : Prop := fnGptBackUptoRow.holds Tryz.pinned (OpenSpec.upto fnGptBackSpec)

/-- 'laws.FnGptCut', WHERE WHAT IT READS IS OF BULK AT MOST 1048576: true; the input reads as it did. -/
def fnGptCutUptoRow : OpenClaim := { program := "ythcaejaaalkglaagreatdoor", sum := "ff011f7ddb1e931a5f8105159d4bdeeb1356cef8c08e69b3f7d37572203c7e6a", func := "given.example/pub-garboard/laws.FnGptCut", spec := "fnGptCut", unfollowed := true, recurses := true, named := ["unicode/utf8.first", "unicode/utf8.acceptRanges", "encoding/binary.LittleEndian"], apart := false, laid := [("unicode/utf8.acceptRanges", laid_unicode_utf8_acceptRanges), ("unicode/utf8.first", laid_unicode_utf8_first)], narrowed := true }
def FnGptCutUptoSaid : Prop := fnGptCutUptoRow.holds Tryz.pinned (OpenSpec.upto fnGptCutSpec)

/-- 'laws.FnGptOrder', WHERE WHAT IT READS IS OF BULK AT MOST 1048576: true; the input reads as it did. -/
def fnGptOrderUptoRow : OpenClaim := { program := "ythcaejaaalkglaagreatdoor", sum := "ff011f7ddb1e931a5f8105159d4bdeeb1356cef8c08e69b3f7d37572203c7e6a", func := "given.example/pub-garboard/laws.FnGptOrder", spec := "fnGptOrder", unfollowed := true, recurses := true, named := ["unicode/utf8.first", "unicode/utf8.acceptRanges", "encoding/binary.LittleEndian"], apart := false, laid := [("unicode/utf8.acceptRanges", laid_unicode_utf8_acceptRanges), ("unicode/utf8.first", laid_unicode_utf8_first)], narrowed := true }
def FnGptOrderUptoSaid : Prop := fnGptOrderUptoRow.holds Tryz.pinned (OpenSpec.upto fnGptOrderSpec)

/-- 'laws.FnGptWrites', WHERE WHAT IT READS IS OF BULK AT MOST 1048576: true; the input reads as it did. -/
def fnGptWritesUptoRow : OpenClaim := { program := "ythcaejaaalkglaagreatdoor", sum := "ff011f7ddb1e931a5f8105159d4bdeeb1356cef8c08e69b3f7d37572203c7e6a", func := "given.example/pub-garboard/laws.FnGptWrites", spec := "fnGptWrites", unfollowed := true, recurses := true, named := ["unicode/utf8.first", "unicode/utf8.acceptRanges", "encoding/binary.LittleEndian"], apart := false, laid := [("unicode/utf8.acceptRanges", laid_unicode_utf8_acceptRanges), ("unicode/utf8.first", laid_unicode_utf8_first)], narrowed := true }
def FnGptWritesUptoSaid : Prop := fnGptWritesUptoRow.holds Tryz.pinned (OpenSpec.upto fnGptWritesSpec)

end Rows
end Go.Proofs.YthcaejaaalkglaaGreatDoor

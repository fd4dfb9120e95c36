/-
  No cell of these rows narrows 'for every input' (looked for: loops, veiled, ifaces, maps, wideKeys, modest, calm, conditions, laid).
  DERIVED. THE GIVEN ROWS OF THIS SEAT. 10 by the template 'for every input the law returns true; each argument reads behind the call as it read before'; 0 by the template 'total and deterministic' (their statements: YtbldfojecpljoaaTotals.lean).
  GIVEN WITH THE SEED: the statements are not yours to turn. If you find one false, say at which input.
  Laid BY PROGRAM, IN A SANDBOX (cutbox-rows.mjs): the forced cells as the released guide's own fill.sh prints them over the translation 56b8ddb429568c0a… (all of the seat's roots in one cut). By AI agents, Wed Nov 11 2026. No macro, syntax, notation, axiom, sorry.
-/
import Derived.Test.YtbldfojecpljoaaChecked
import GoSem.Claim
import GoSem.ClaimJoined
import GoSem.ClaimMapViews
import Derived.JoinedTies
import Derived.KernelRfl
namespace Go.Proofs.Ytbldfojecpljoaa
/- THE CELL 'sum', in the pinned program and in every row, IS THE sha256 OF THE DUMP (.gsa) THAT YtbldfojecpljoaaProg.lean LOADS. Nothing in Lean hashes anything: it is a label: what it is worth is what the hold of that sum in a sandbox is worth. -/
noncomputable def Try.pinned : Pinned := { name := "ytbldfojecpljoaa", sum := "56b8ddb429568c0aa3461cfe063e9f694541c097701082bdf3d1d99b35d02c4e", checked := Try.checked }
namespace Rows
def none {H : Type} : Left H := { results := [], args := [] }

/-- 'laws.FnCrc32c': WHATEVER THE INPUT: true; the input reads as it did. -/
def fnCrc32cSpec : ChangeSpec := { name := "fnCrc32c", fn := fun _ => fun
  | [d1, d2] => { results := [.lit (.bool true)], args := [d1, d2] }
  | _ => none }
def fnCrc32cRow : OpenClaim := { program := "ytbldfojecpljoaa", sum := "56b8ddb429568c0aa3461cfe063e9f694541c097701082bdf3d1d99b35d02c4e", func := "given.example/pub-garboard/laws.FnCrc32c", spec := "fnCrc32c", apart := false }
def FnCrc32cSaid : Prop := fnCrc32cRow.holds Try.pinned (OpenSpec.ofChange fnCrc32cSpec)

/-- ITS FALSE NEIGHBOUR: 'it returns false'. Refute it at one input. -/
def fnCrc32cWrong : ChangeSpec := { name := "fnCrc32c", fn := fun _ => fun
  | [d1, d2] => { results := [.lit (.bool false)], args := [d1, d2] }
  | _ => none }
def FnCrc32cWrongFalsely : Prop := fnCrc32cRow.holds Try.pinned (OpenSpec.ofChange fnCrc32cWrong)

/-- 'laws.FnMbrBytes': WHATEVER THE INPUT: true; the input reads as it did. -/
def fnMbrBytesSpec : ChangeSpec := { name := "fnMbrBytes", fn := fun _ => fun
  | [d1, d2] => { results := [.lit (.bool true)], args := [d1, d2] }
  | _ => none }
def fnMbrBytesRow : OpenClaim := { program := "ytbldfojecpljoaa", sum := "56b8ddb429568c0aa3461cfe063e9f694541c097701082bdf3d1d99b35d02c4e", func := "given.example/pub-garboard/laws.FnMbrBytes", spec := "fnMbrBytes", apart := false }
def FnMbrBytesSaid : Prop := fnMbrBytesRow.holds Try.pinned (OpenSpec.ofChange fnMbrBytesSpec)

/-- ITS FALSE NEIGHBOUR: 'it returns false'. Refute it at one input. -/
def fnMbrBytesWrong : ChangeSpec := { name := "fnMbrBytes", fn := fun _ => fun
  | [d1, d2] => { results := [.lit (.bool false)], args := [d1, d2] }
  | _ => none }
def FnMbrBytesWrongFalsely : Prop := fnMbrBytesRow.holds Try.pinned (OpenSpec.ofChange fnMbrBytesWrong)

/-- 'laws.FnBitNew': WHATEVER THE INPUT: true; the input reads as it did. -/
def fnBitNewSpec : ChangeSpec := { name := "fnBitNew", fn := fun _ => fun
  | [d] => { results := [.lit (.bool true)], args := [d] }
  | _ => none }
def fnBitNewRow : OpenClaim := { program := "ytbldfojecpljoaa", sum := "56b8ddb429568c0aa3461cfe063e9f694541c097701082bdf3d1d99b35d02c4e", func := "given.example/pub-garboard/laws.FnBitNew", spec := "fnBitNew", apart := false }
def FnBitNewSaid : Prop := fnBitNewRow.holds Try.pinned (OpenSpec.ofChange fnBitNewSpec)

/-- ITS FALSE NEIGHBOUR: 'it returns false'. Refute it at one input. -/
def fnBitNewWrong : ChangeSpec := { name := "fnBitNew", fn := fun _ => fun
  | [d] => { results := [.lit (.bool false)], args := [d] }
  | _ => none }
def FnBitNewWrongFalsely : Prop := fnBitNewRow.holds Try.pinned (OpenSpec.ofChange fnBitNewWrong)

/-- 'laws.FnBitIs': WHATEVER THE INPUT: true; the input reads as it did. -/
def fnBitIsSpec : ChangeSpec := { name := "fnBitIs", fn := fun _ => fun
  | [d1, d2] => { results := [.lit (.bool true)], args := [d1, d2] }
  | _ => none }
def fnBitIsRow : OpenClaim := { program := "ytbldfojecpljoaa", sum := "56b8ddb429568c0aa3461cfe063e9f694541c097701082bdf3d1d99b35d02c4e", func := "given.example/pub-garboard/laws.FnBitIs", spec := "fnBitIs", apart := false }
def FnBitIsSaid : Prop := fnBitIsRow.holds Try.pinned (OpenSpec.ofChange fnBitIsSpec)

/-- ITS FALSE NEIGHBOUR: 'it returns false'. Refute it at one input. -/
def fnBitIsWrong : ChangeSpec := { name := "fnBitIs", fn := fun _ => fun
  | [d1, d2] => { results := [.lit (.bool false)], args := [d1, d2] }
  | _ => none }
def FnBitIsWrongFalsely : Prop := fnBitIsRow.holds Try.pinned (OpenSpec.ofChange fnBitIsWrong)

/-- 'laws.FnBitRows': WHATEVER THE INPUT: true; the input reads as it did. -/
def fnBitRowsSpec : ChangeSpec := { name := "fnBitRows", fn := fun _ => fun
  | [d] => { results := [.lit (.bool true)], args := [d] }
  | _ => none }
def fnBitRowsRow : OpenClaim := { program := "ytbldfojecpljoaa", sum := "56b8ddb429568c0aa3461cfe063e9f694541c097701082bdf3d1d99b35d02c4e", func := "given.example/pub-garboard/laws.FnBitRows", spec := "fnBitRows", apart := false }
def FnBitRowsSaid : Prop := fnBitRowsRow.holds Try.pinned (OpenSpec.ofChange fnBitRowsSpec)

/-- ITS FALSE NEIGHBOUR: 'it returns false'. Refute it at one input. -/
def fnBitRowsWrong : ChangeSpec := { name := "fnBitRows", fn := fun _ => fun
  | [d] => { results := [.lit (.bool false)], args := [d] }
  | _ => none }
def FnBitRowsWrongFalsely : Prop := fnBitRowsRow.holds Try.pinned (OpenSpec.ofChange fnBitRowsWrong)

/-- 'laws.FnCrc16': WHATEVER THE INPUT: true; the input reads as it did. -/
def fnCrc16Spec : ChangeSpec := { name := "fnCrc16", fn := fun _ => fun
  | [d1, d2] => { results := [.lit (.bool true)], args := [d1, d2] }
  | _ => none }
def fnCrc16Row : OpenClaim := { program := "ytbldfojecpljoaa", sum := "56b8ddb429568c0aa3461cfe063e9f694541c097701082bdf3d1d99b35d02c4e", func := "given.example/pub-garboard/laws.FnCrc16", spec := "fnCrc16", apart := false }
def FnCrc16Said : Prop := fnCrc16Row.holds Try.pinned (OpenSpec.ofChange fnCrc16Spec)

/-- ITS FALSE NEIGHBOUR: 'it returns false'. Refute it at one input. -/
def fnCrc16Wrong : ChangeSpec := { name := "fnCrc16", fn := fun _ => fun
  | [d1, d2] => { results := [.lit (.bool false)], args := [d1, d2] }
  | _ => none }
def FnCrc16WrongFalsely : Prop := fnCrc16Row.holds Try.pinned (OpenSpec.ofChange fnCrc16Wrong)

/-- 'laws.FnBitPut': WHATEVER THE INPUT: true; the input reads as it did. -/
def fnBitPutSpec : ChangeSpec := { name := "fnBitPut", fn := fun _ => fun
  | [d1, d2, d3] => { results := [.lit (.bool true)], args := [d1, d2, d3] }
  | _ => none }
def fnBitPutRow : OpenClaim := { program := "ytbldfojecpljoaa", sum := "56b8ddb429568c0aa3461cfe063e9f694541c097701082bdf3d1d99b35d02c4e", func := "given.example/pub-garboard/laws.FnBitPut", spec := "fnBitPut", apart := false }
def FnBitPutSaid : Prop := fnBitPutRow.holds Try.pinned (OpenSpec.ofChange fnBitPutSpec)

/-- ITS FALSE NEIGHBOUR: 'it returns false'. Refute it at one input. -/
def fnBitPutWrong : ChangeSpec := { name := "fnBitPut", fn := fun _ => fun
  | [d1, d2, d3] => { results := [.lit (.bool false)], args := [d1, d2, d3] }
  | _ => none }
def FnBitPutWrongFalsely : Prop := fnBitPutRow.holds Try.pinned (OpenSpec.ofChange fnBitPutWrong)

/-- 'laws.FnFatEnd': WHATEVER THE INPUT: true; the input reads as it did. -/
def fnFatEndSpec : ChangeSpec := { name := "fnFatEnd", fn := fun _ => fun
  | [d1, d2] => { results := [.lit (.bool true)], args := [d1, d2] }
  | _ => none }
def fnFatEndRow : OpenClaim := { program := "ytbldfojecpljoaa", sum := "56b8ddb429568c0aa3461cfe063e9f694541c097701082bdf3d1d99b35d02c4e", func := "given.example/pub-garboard/laws.FnFatEnd", spec := "fnFatEnd", unfollowed := true, recurses := true, apart := false }
def FnFatEndSaid : Prop := fnFatEndRow.holds Try.pinned (OpenSpec.ofChange fnFatEndSpec)

/-- ITS FALSE NEIGHBOUR: 'it returns false'. Refute it at one input. -/
def fnFatEndWrong : ChangeSpec := { name := "fnFatEnd", fn := fun _ => fun
  | [d1, d2] => { results := [.lit (.bool false)], args := [d1, d2] }
  | _ => none }
def FnFatEndWrongFalsely : Prop := fnFatEndRow.holds Try.pinned (OpenSpec.ofChange fnFatEndWrong)

/-- 'laws.FnCrcJoin': WHATEVER THE INPUT: true; the input reads as it did. -/
def fnCrcJoinSpec : ChangeSpec := { name := "fnCrcJoin", fn := fun _ => fun
  | [d1, d2, d3] => { results := [.lit (.bool true)], args := [d1, d2, d3] }
  | _ => none }
def fnCrcJoinRow : OpenClaim := { program := "ytbldfojecpljoaa", sum := "56b8ddb429568c0aa3461cfe063e9f694541c097701082bdf3d1d99b35d02c4e", func := "given.example/pub-garboard/laws.FnCrcJoin", spec := "fnCrcJoin", apart := false }
def FnCrcJoinSaid : Prop := fnCrcJoinRow.holds Try.pinned (OpenSpec.ofChange fnCrcJoinSpec)

/-- ITS FALSE NEIGHBOUR: 'it returns false'. Refute it at one input. -/
def fnCrcJoinWrong : ChangeSpec := { name := "fnCrcJoin", fn := fun _ => fun
  | [d1, d2, d3] => { results := [.lit (.bool false)], args := [d1, d2, d3] }
  | _ => none }
def FnCrcJoinWrongFalsely : Prop := fnCrcJoinRow.holds Try.pinned (OpenSpec.ofChange fnCrcJoinWrong)

/-- 'laws.FnBitFind': WHATEVER THE INPUT: true; the input reads as it did. -/
def fnBitFindSpec : ChangeSpec := { name := "fnBitFind", fn := fun _ => fun
  | [d1, d2] => { results := [.lit (.bool true)], args := [d1, d2] }
  | _ => none }
def fnBitFindRow : OpenClaim := { program := "ytbldfojecpljoaa", sum := "56b8ddb429568c0aa3461cfe063e9f694541c097701082bdf3d1d99b35d02c4e", func := "given.example/pub-garboard/laws.FnBitFind", spec := "fnBitFind", apart := false }
def FnBitFindSaid : Prop := fnBitFindRow.holds Try.pinned (OpenSpec.ofChange fnBitFindSpec)

/-- ITS FALSE NEIGHBOUR: 'it returns false'. Refute it at one input. -/
def fnBitFindWrong : ChangeSpec := { name := "fnBitFind", fn := fun _ => fun
  | [d1, d2] => { results := [.lit (.bool false)], args := [d1, d2] }
  | _ => none }
def FnBitFindWrongFalsely : Prop := fnBitFindRow.holds Try.pinned (OpenSpec.ofChange fnBitFindWrong)

/- THE SECOND FORM. 'bulk': how many values and letters a reading holds, each counted each time it is reached (what is shared counts as often as it is met; a slice's spare places count too). A statement '..UptoSaid' is the law's where the arguments, and the package variables that the reading takes, are together of bulk at most 1048576: NARROWER than '..Said'. Prove '..Said' where nothing that the law and all that it calls make is longer than what came in: it says more and counts as full. Else prove '..UptoSaid'. A law counts once. -/
mutual
def uptoBulk {H : Type} : DataW H → Nat
  | .lit (.string bytes) => bytes.length + 1
  | .lit _ => 1
  | .nil => 1
  | .ptr d => uptoBulk d + 1
  | .slice elems spare => uptoBulkAll elems + uptoBulkAll spare + 1
  | .agg parts => uptoBulkAll parts + 1
  | .iface _ d => uptoBulk d + 1
  | .map entries => uptoBulkEntries entries + 1
  | .held _ => 1
def uptoBulkAll {H : Type} : List (DataW H) → Nat
  | [] => 0
  | d :: r => uptoBulk d + uptoBulkAll r
def uptoBulkEntries {H : Type} : List (Lit × DataW H) → Nat
  | [] => 0
  | x :: r => uptoBulkEntry x + uptoBulkEntries r
def uptoBulkEntry {H : Type} : Lit × DataW H → Nat
  | (.string bytes, d) => bytes.length + uptoBulk d + 1
  | (_, d) => uptoBulk d + 1
 end
def uptoSmall : (H : Type) → List (DataW H) → Bool := fun _ ds => decide (uptoBulkAll ds ≤ 1048576)
def OpenSpec.upto (s : _root_.Go.ChangeSpec) : _root_.Go.OpenSpec := { _root_.Go.OpenSpec.ofChange s with cond := some uptoSmall }

/-- 'laws.FnCrc32c', WHERE WHAT IT READS IS OF BULK AT MOST 1048576: true; the input reads as it did. -/
def fnCrc32cUptoRow : OpenClaim := { program := "ytbldfojecpljoaa", sum := "56b8ddb429568c0aa3461cfe063e9f694541c097701082bdf3d1d99b35d02c4e", func := "given.example/pub-garboard/laws.FnCrc32c", spec := "fnCrc32c", apart := false, narrowed := true }
def FnCrc32cUptoSaid : Prop := fnCrc32cUptoRow.holds Try.pinned (OpenSpec.upto fnCrc32cSpec)

/-- 'laws.FnMbrBytes', WHERE WHAT IT READS IS OF BULK AT MOST 1048576: true; the input reads as it did. -/
def fnMbrBytesUptoRow : OpenClaim := { program := "ytbldfojecpljoaa", sum := "56b8ddb429568c0aa3461cfe063e9f694541c097701082bdf3d1d99b35d02c4e", func := "given.example/pub-garboard/laws.FnMbrBytes", spec := "fnMbrBytes", apart := false, narrowed := true }
def FnMbrBytesUptoSaid : Prop := fnMbrBytesUptoRow.holds Try.pinned (OpenSpec.upto fnMbrBytesSpec)

/-- 'laws.FnBitNew', WHERE WHAT IT READS IS OF BULK AT MOST 1048576: true; the input reads as it did. -/
def fnBitNewUptoRow : OpenClaim := { program := "ytbldfojecpljoaa", sum := "56b8ddb429568c0aa3461cfe063e9f694541c097701082bdf3d1d99b35d02c4e", func := "given.example/pub-garboard/laws.FnBitNew", spec := "fnBitNew", apart := false, narrowed := true }
def FnBitNewUptoSaid : Prop := fnBitNewUptoRow.holds Try.pinned (OpenSpec.upto fnBitNewSpec)

/-- 'laws.FnBitIs', WHERE WHAT IT READS IS OF BULK AT MOST 1048576: true; the input reads as it did. -/
def fnBitIsUptoRow : OpenClaim := { program := "ytbldfojecpljoaa", sum := "56b8ddb429568c0aa3461cfe063e9f694541c097701082bdf3d1d99b35d02c4e", func := "given.example/pub-garboard/laws.FnBitIs", spec := "fnBitIs", apart := false, narrowed := true }
def FnBitIsUptoSaid : Prop := fnBitIsUptoRow.holds Try.pinned (OpenSpec.upto fnBitIsSpec)

/-- 'laws.FnBitRows', WHERE WHAT IT READS IS OF BULK AT MOST 1048576: true; the input reads as it did. -/
def fnBitRowsUptoRow : OpenClaim := { program := "ytbldfojecpljoaa", sum := "56b8ddb429568c0aa3461cfe063e9f694541c097701082bdf3d1d99b35d02c4e", func := "given.example/pub-garboard/laws.FnBitRows", spec := "fnBitRows", apart := false, narrowed := true }
def FnBitRowsUptoSaid : Prop := fnBitRowsUptoRow.holds Try.pinned (OpenSpec.upto fnBitRowsSpec)

/-- 'laws.FnCrc16', WHERE WHAT IT READS IS OF BULK AT MOST 1048576: true; the input reads as it did. -/
def fnCrc16UptoRow : OpenClaim := { program := "ytbldfojecpljoaa", sum := "56b8ddb429568c0aa3461cfe063e9f694541c097701082bdf3d1d99b35d02c4e", func := "given.example/pub-garboard/laws.FnCrc16", spec := "fnCrc16", apart := false, narrowed := true }
def FnCrc16UptoSaid : Prop := fnCrc16UptoRow.holds Try.pinned (OpenSpec.upto fnCrc16Spec)

/-- 'laws.FnBitPut', WHERE WHAT IT READS IS OF BULK AT MOST 1048576: true; the input reads as it did. -/
def fnBitPutUptoRow : OpenClaim := { program := "ytbldfojecpljoaa", sum := "56b8ddb429568c0aa3461cfe063e9f694541c097701082bdf3d1d99b35d02c4e", func := "given.example/pub-garboard/laws.FnBitPut", spec := "fnBitPut", apart := false, narrowed := true }
def FnBitPutUptoSaid : Prop := fnBitPutUptoRow.holds Try.pinned (OpenSpec.upto fnBitPutSpec)

/-- 'laws.FnFatEnd', WHERE WHAT IT READS IS OF BULK AT MOST 1048576: true; the input reads as it did. -/
def fnFatEndUptoRow : OpenClaim := { program := "ytbldfojecpljoaa", sum := "56b8ddb429568c0aa3461cfe063e9f694541c097701082bdf3d1d99b35d02c4e", func := "given.example/pub-garboard/laws.FnFatEnd", spec := "fnFatEnd", unfollowed := true, recurses := true, apart := false, narrowed := true }
def FnFatEndUptoSaid : Prop := fnFatEndUptoRow.holds Try.pinned (OpenSpec.upto fnFatEndSpec)

/-- 'laws.FnCrcJoin', WHERE WHAT IT READS IS OF BULK AT MOST 1048576: true; the input reads as it did. -/
def fnCrcJoinUptoRow : OpenClaim := { program := "ytbldfojecpljoaa", sum := "56b8ddb429568c0aa3461cfe063e9f694541c097701082bdf3d1d99b35d02c4e", func := "given.example/pub-garboard/laws.FnCrcJoin", spec := "fnCrcJoin", apart := false, narrowed := true }
def FnCrcJoinUptoSaid : Prop := fnCrcJoinUptoRow.holds Try.pinned (OpenSpec.upto fnCrcJoinSpec)

/-- 'laws.FnBitFind', WHERE WHAT IT READS IS OF BULK AT MOST 1048576: true; the input reads as it did. -/
def fnBitFindUptoRow : OpenClaim := { program := "ytbldfojecpljoaa", sum := "56b8ddb429568c0aa3461cfe063e9f694541c097701082bdf3d1d99b35d02c4e", func := "given.example/pub-garboard/laws.FnBitFind", spec := "fnBitFind", apart := false, narrowed := true }
def FnBitFindUptoSaid : Prop := fnBitFindUptoRow.holds Try.pinned (OpenSpec.upto fnBitFindSpec)

end Rows
end Go.Proofs.Ytbldfojecpljoaa

/-
  No cell of these rows narrows 'for every input' (looked for: loops, veiled, ifaces, maps, wideKeys, modest, calm, conditions, laid).
  DERIVED. THE GIVEN ROWS OF THIS SEAT. 3 by the template 'for every input the law returns true; each argument reads behind the call as it read before'; 0 by the template 'total and deterministic' (their statements: YtdoiddkogigppaaTotals.lean).
  GIVEN WITH THE SEED: the statements are not yours to turn. If you find one false, say at which input.
  Laid BY PROGRAM, IN A SANDBOX (cutbox-rows.mjs): the forced cells as the released guide's own fill.sh prints them over the translation be46d83f8bae372c… (all of the seat's roots in one cut). By AI agents, Wed Nov 11 2026. No macro, syntax, notation, axiom, sorry.
-/
import Derived.Test.YtdoiddkogigppaaChecked
import GoSem.Claim
import GoSem.ClaimJoined
import GoSem.ClaimMapViews
import Derived.JoinedTies
import Derived.KernelRfl
namespace Go.Proofs.Ytdoiddkogigppaa
/- THE CELL 'sum', in the pinned program and in every row, IS THE sha256 OF THE DUMP (.gsa) THAT YtdoiddkogigppaaProg.lean LOADS. Nothing in Lean hashes anything: it is a label: what it is worth is what the hold of that sum in a sandbox is worth. -/
noncomputable def Try.pinned : Pinned := { name := "ytdoiddkogigppaa", sum := "be46d83f8bae372cff3a903af0a77815a670f62d5ddc1f82130f1066eb495ecd", checked := Try.checked }
namespace Rows
def none {H : Type} : Left H := { results := [], args := [] }

/-- 'laws.FnMbrReads': WHATEVER THE INPUT: true; the input reads as it did. -/
def fnMbrReadsSpec : ChangeSpec := { name := "fnMbrReads", fn := fun _ => fun
  | [d1, d2, d3] => { results := [.lit (.bool true)], args := [d1, d2, d3] }
  | _ => none }
def fnMbrReadsRow : OpenClaim := { program := "ytdoiddkogigppaa", sum := "be46d83f8bae372cff3a903af0a77815a670f62d5ddc1f82130f1066eb495ecd", func := "given.example/pub-garboard/laws.FnMbrReads", spec := "fnMbrReads", unfollowed := true, recurses := true, named := ["encoding/binary.LittleEndian"], apart := false }
def FnMbrReadsSaid : Prop := fnMbrReadsRow.holds Try.pinned (OpenSpec.ofChange fnMbrReadsSpec)

/-- ITS FALSE NEIGHBOUR: 'it returns false'. Refute it at one input. -/
def fnMbrReadsWrong : ChangeSpec := { name := "fnMbrReads", fn := fun _ => fun
  | [d1, d2, d3] => { results := [.lit (.bool false)], args := [d1, d2, d3] }
  | _ => none }
def FnMbrReadsWrongFalsely : Prop := fnMbrReadsRow.holds Try.pinned (OpenSpec.ofChange fnMbrReadsWrong)

/-- 'laws.FnMbrWrites': WHATEVER THE INPUT: true; the input reads as it did. -/
def fnMbrWritesSpec : ChangeSpec := { name := "fnMbrWrites", fn := fun _ => fun
  | [d1, d2] => { results := [.lit (.bool true)], args := [d1, d2] }
  | _ => none }
def fnMbrWritesRow : OpenClaim := { program := "ytdoiddkogigppaa", sum := "be46d83f8bae372cff3a903af0a77815a670f62d5ddc1f82130f1066eb495ecd", func := "given.example/pub-garboard/laws.FnMbrWrites", spec := "fnMbrWrites", unfollowed := true, recurses := true, named := ["encoding/binary.LittleEndian"], apart := false }
def FnMbrWritesSaid : Prop := fnMbrWritesRow.holds Try.pinned (OpenSpec.ofChange fnMbrWritesSpec)

/-- ITS FALSE NEIGHBOUR: 'it returns false'. Refute it at one input. -/
def fnMbrWritesWrong : ChangeSpec := { name := "fnMbrWrites", fn := fun _ => fun
  | [d1, d2] => { results := [.lit (.bool false)], args := [d1, d2] }
  | _ => none }
def FnMbrWritesWrongFalsely : Prop := fnMbrWritesRow.holds Try.pinned (OpenSpec.ofChange fnMbrWritesWrong)

/-- 'laws.FnMbrBack': WHATEVER THE INPUT: true; the input reads as it did. -/
def fnMbrBackSpec : ChangeSpec := { name := "fnMbrBack", fn := fun _ => fun
  | [d1, d2] => { results := [.lit (.bool true)], args := [d1, d2] }
  | _ => none }
def fnMbrBackRow : OpenClaim := { program := "ytdoiddkogigppaa", sum := "be46d83f8bae372cff3a903af0a77815a670f62d5ddc1f82130f1066eb495ecd", func := "given.example/pub-garboard/laws.FnMbrBack", spec := "fnMbrBack", unfollowed := true, recurses := true, named := ["encoding/binary.LittleEndian"], apart := false }
def FnMbrBackSaid : Prop := fnMbrBackRow.holds Try.pinned (OpenSpec.ofChange fnMbrBackSpec)

/-- ITS FALSE NEIGHBOUR: 'it returns false'. Refute it at one input. -/
def fnMbrBackWrong : ChangeSpec := { name := "fnMbrBack", fn := fun _ => fun
  | [d1, d2] => { results := [.lit (.bool false)], args := [d1, d2] }
  | _ => none }
def FnMbrBackWrongFalsely : Prop := fnMbrBackRow.holds Try.pinned (OpenSpec.ofChange fnMbrBackWrong)

/- THE SECOND FORM. 'bulk': how many values and letters a reading holds, each counted each time it is reached (what is shared counts as often as it is met; a slice's spare places count too). A statement '..UptoSaid' is the law's where the arguments, and the package variables that the reading takes, are together of bulk at most 1048576: NARROWER than '..Said'. Prove '..Said' where nothing that the law and all that it calls make is longer than what came in: it says more and counts as full. Else prove '..UptoSaid'. A law counts once. -/
mutual
def uptoBulk {H : Type} : DataW H → Nat
  | .lit (.string bytes) => bytes.length + 1
  | .lit _ => 1
  | .nil => 1
  | .ptr d => uptoBulk d + 1
  | .slice elems spare => uptoBulkAll elems + uptoBulkAll spare + 1
  | .agg parts => uptoBulkAll parts + 1
  | .iface _ d => uptoBulk d + 1
  | .map entries => uptoBulkEntries entries + 1
  | .held _ => 1
def uptoBulkAll {H : Type} : List (DataW H) → Nat
  | [] => 0
  | d :: r => uptoBulk d + uptoBulkAll r
def uptoBulkEntries {H : Type} : List (Lit × DataW H) → Nat
  | [] => 0
  | x :: r => uptoBulkEntry x + uptoBulkEntries r
def uptoBulkEntry {H : Type} : Lit × DataW H → Nat
  | (.string bytes, d) => bytes.length + uptoBulk d + 1
  | (_, d) => uptoBulk d + 1
 end
def uptoSmall : (H : Type) → List (DataW H) → Bool := fun _ ds => decide (uptoBulkAll ds ≤ 1048576)
def OpenSpec.upto (s : _root_.Go.ChangeSpec) : _root_.Go.OpenSpec := { _root_.Go.OpenSpec.ofChange s with cond := some uptoSmall }

/-- 'laws.FnMbrReads', WHERE WHAT IT READS IS OF BULK AT MOST 1048576: true; the input reads as it did. -/
def fnMbrReadsUptoRow : OpenClaim := { program := "ytdoiddkogigppaa", sum := "be46d83f8bae372cff3a903af0a77815a670f62d5ddc1f82130f1066eb495ecd", func := "given.example/pub-garboard/laws.FnMbrReads", spec := "fnMbrReads", unfollowed := true, recurses := true, named := ["encoding/binary.LittleEndian"], apart := false, narrowed := true }
def FnMbrReadsUptoSaid : Prop := fnMbrReadsUptoRow.holds Try.pinned (OpenSpec.upto fnMbrReadsSpec)

/-- 'laws.FnMbrWrites', WHERE WHAT IT READS IS OF BULK AT MOST 1048576: true; the input reads as it did. -/
def fnMbrWritesUptoRow : OpenClaim := { program := "ytdoiddkogigppaa", sum := "be46d83f8bae372cff3a903af0a77815a670f62d5ddc1f82130f1066eb495ecd", func := "given.example/pub-garboard/laws.FnMbrWrites", spec := "fnMbrWrites", unfollowed := true, recurses := true, named := ["encoding/binary.LittleEndian"], apart := false, narrowed := true }
def FnMbrWritesUptoSaid : Prop := fnMbrWritesUptoRow.holds Try.pinned (OpenSpec.upto fnMbrWritesSpec)

/-- 'laws.FnMbrBack', WHERE WHAT IT READS IS OF BULK AT MOST 1048576: true; the input reads as it did. -/
def fnMbrBackUptoRow : OpenClaim := { program := "ytdoiddkogigppaa", sum := "be46d83f8bae372cff3a903af0a77815a670f62d5ddc1f82130f1066eb495ecd", func := "given.example/pub-garboard/laws.FnMbrBack", spec := "fnMbrBack", unfollowed := true, recurses := true, named := ["encoding/binary.LittleEndian"], apart := false, narrowed := true }
def FnMbrBackUptoSaid : Prop := fnMbrBackUptoRow.holds Try.pinned (OpenSpec.upto fnMbrBackSpec)

end Rows
end Go.Proofs.Ytdoiddkogigppaa

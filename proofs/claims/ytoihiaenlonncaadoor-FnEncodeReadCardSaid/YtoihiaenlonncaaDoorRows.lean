/-
  NARROWER THAN 'FOR EVERY INPUT', by the rows' own cells (each row's printed sentence says how): FnEncodeHead: ifaces, laid · FnEncodeRead: ifaces, laid · FnExactEmpty: ifaces, laid · FnEncodeKeeps: ifaces, laid · FnEncodeBound: ifaces, laid.
  DERIVED. THE GIVEN ROWS OF THIS SEAT. 5 by the template 'for every input the law returns true; each argument reads behind the call as it read before'; 0 by the template 'total and deterministic' (their statements: YtoihiaenlonncaaDoorTotals.lean).
  GIVEN WITH THE SEED: the statements are not yours to turn. If you find one false, say at which input.
  Laid BY PROGRAM, IN A SANDBOX (cutbox-rows.mjs): the forced cells as the released guide's own fill.sh prints them over the translation ba5a72d4529bddf0… (all of the seat's roots in one cut). By AI agents, Wed Nov 11 2026. No macro, syntax, notation, axiom, sorry.
-/
import Derived.Test.YtoihiaenlonncaaDoorChecked
import GoSem.Claim
import GoSem.ClaimJoined
import GoSem.ClaimMapViews
import Derived.JoinedTies
import Derived.KernelRfl
namespace Go.Proofs.YtoihiaenlonncaaDoor
/- THE CELL 'sum', in the pinned program and in every row, IS THE sha256 OF THE DUMP (.gsa) THAT YtoihiaenlonncaaDoorProg.lean LOADS. Nothing in Lean hashes anything: it is a label: what it is worth is what the hold of that sum in a sandbox is worth. -/
noncomputable def Tryd.pinned : Pinned := { name := "ytoihiaenlonncaadoor", sum := "ba5a72d4529bddf077e2909678a0e201dc3b20c60b377d6718d9da73552b142b", checked := Tryd.checked }
namespace Rows
def none {H : Type} : Left H := { results := [], args := [] }

/- WHAT THE LISTED PACKAGE-LEVEL VARIABLES READ AS WHEN THE CALL BEGINS. Each datum BY PROGRAM (the guide's laid-datum.mjs) off the statement by which the dump's own 'gosem.cut.vars' lays the variable. In a bare row this is a premise. The card (YtoihiaenlonncaaDoorCards.lean) ties it to the program's text. -/
def laid_loop_example_pub_g01445_pub_snappy_ErrTooLarge {H : Type} : DataW H := .iface "*errors.errorString" (.ptr (.agg [.lit (.string [115, 110, 97, 112, 112, 121, 58, 32, 100, 101, 99, 111, 100, 101, 100, 32, 98, 108, 111, 99, 107, 32, 105, 115, 32, 116, 111, 111, 32, 108, 97, 114, 103, 101])]))

/-- 'laws.FnEncodeHead': WHATEVER THE INPUT: true; the input reads as it did. -/
def fnEncodeHeadSpec : ChangeSpec := { name := "fnEncodeHead", vars := ["loop.example/pub-g01445/pub/snappy.ErrTooLarge"], fn := fun _ => fun
  | [d, g1] => { results := [.lit (.bool true)], args := [d], vars := [g1] }
  | _ => none }
def fnEncodeHeadRow : OpenClaim := { program := "ytoihiaenlonncaadoor", sum := "ba5a72d4529bddf077e2909678a0e201dc3b20c60b377d6718d9da73552b142b", func := "loop.example/pub-g01445/laws.FnEncodeHead", spec := "fnEncodeHead", named := ["loop.example/pub-g01445/pub/snappy.ErrTooLarge"], ifaces := true, apart := false, laid := [("loop.example/pub-g01445/pub/snappy.ErrTooLarge", laid_loop_example_pub_g01445_pub_snappy_ErrTooLarge)] }
def FnEncodeHeadSaid : Prop := fnEncodeHeadRow.holds Tryd.pinned (OpenSpec.ofChange fnEncodeHeadSpec)

/-- ITS FALSE NEIGHBOUR: 'it returns false'. Refute it at one input. -/
def fnEncodeHeadWrong : ChangeSpec := { name := "fnEncodeHead", vars := ["loop.example/pub-g01445/pub/snappy.ErrTooLarge"], fn := fun _ => fun
  | [d, g1] => { results := [.lit (.bool false)], args := [d], vars := [g1] }
  | _ => none }
def FnEncodeHeadWrongFalsely : Prop := fnEncodeHeadRow.holds Tryd.pinned (OpenSpec.ofChange fnEncodeHeadWrong)

/-- 'laws.FnEncodeRead': WHATEVER THE INPUT: true; the input reads as it did. -/
def fnEncodeReadSpec : ChangeSpec := { name := "fnEncodeRead", vars := ["loop.example/pub-g01445/pub/snappy.ErrTooLarge"], fn := fun _ => fun
  | [d, g1] => { results := [.lit (.bool true)], args := [d], vars := [g1] }
  | _ => none }
def fnEncodeReadRow : OpenClaim := { program := "ytoihiaenlonncaadoor", sum := "ba5a72d4529bddf077e2909678a0e201dc3b20c60b377d6718d9da73552b142b", func := "loop.example/pub-g01445/laws.FnEncodeRead", spec := "fnEncodeRead", named := ["loop.example/pub-g01445/pub/snappy.ErrTooLarge"], ifaces := true, apart := false, laid := [("loop.example/pub-g01445/pub/snappy.ErrTooLarge", laid_loop_example_pub_g01445_pub_snappy_ErrTooLarge)] }
def FnEncodeReadSaid : Prop := fnEncodeReadRow.holds Tryd.pinned (OpenSpec.ofChange fnEncodeReadSpec)

/-- ITS FALSE NEIGHBOUR: 'it returns false'. Refute it at one input. -/
def fnEncodeReadWrong : ChangeSpec := { name := "fnEncodeRead", vars := ["loop.example/pub-g01445/pub/snappy.ErrTooLarge"], fn := fun _ => fun
  | [d, g1] => { results := [.lit (.bool false)], args := [d], vars := [g1] }
  | _ => none }
def FnEncodeReadWrongFalsely : Prop := fnEncodeReadRow.holds Tryd.pinned (OpenSpec.ofChange fnEncodeReadWrong)

/-- 'laws.FnExactEmpty': WHATEVER THE INPUT: true; the input reads as it did. -/
def fnExactEmptySpec : ChangeSpec := { name := "fnExactEmpty", vars := ["loop.example/pub-g01445/pub/snappy.ErrTooLarge"], fn := fun _ => fun
  | [d, g1] => { results := [.lit (.bool true)], args := [d], vars := [g1] }
  | _ => none }
def fnExactEmptyRow : OpenClaim := { program := "ytoihiaenlonncaadoor", sum := "ba5a72d4529bddf077e2909678a0e201dc3b20c60b377d6718d9da73552b142b", func := "loop.example/pub-g01445/laws.FnExactEmpty", spec := "fnExactEmpty", named := ["loop.example/pub-g01445/pub/snappy.ErrTooLarge"], ifaces := true, apart := false, laid := [("loop.example/pub-g01445/pub/snappy.ErrTooLarge", laid_loop_example_pub_g01445_pub_snappy_ErrTooLarge)] }
def FnExactEmptySaid : Prop := fnExactEmptyRow.holds Tryd.pinned (OpenSpec.ofChange fnExactEmptySpec)

/-- ITS FALSE NEIGHBOUR: 'it returns false'. Refute it at one input. -/
def fnExactEmptyWrong : ChangeSpec := { name := "fnExactEmpty", vars := ["loop.example/pub-g01445/pub/snappy.ErrTooLarge"], fn := fun _ => fun
  | [d, g1] => { results := [.lit (.bool false)], args := [d], vars := [g1] }
  | _ => none }
def FnExactEmptyWrongFalsely : Prop := fnExactEmptyRow.holds Tryd.pinned (OpenSpec.ofChange fnExactEmptyWrong)

/-- 'laws.FnEncodeKeeps': WHATEVER THE INPUT: true; the input reads as it did. -/
def fnEncodeKeepsSpec : ChangeSpec := { name := "fnEncodeKeeps", vars := ["loop.example/pub-g01445/pub/snappy.ErrTooLarge"], fn := fun _ => fun
  | [d1, d2, g1] => { results := [.lit (.bool true)], args := [d1, d2], vars := [g1] }
  | _ => none }
def fnEncodeKeepsRow : OpenClaim := { program := "ytoihiaenlonncaadoor", sum := "ba5a72d4529bddf077e2909678a0e201dc3b20c60b377d6718d9da73552b142b", func := "loop.example/pub-g01445/laws.FnEncodeKeeps", spec := "fnEncodeKeeps", named := ["loop.example/pub-g01445/pub/snappy.ErrTooLarge"], ifaces := true, apart := false, laid := [("loop.example/pub-g01445/pub/snappy.ErrTooLarge", laid_loop_example_pub_g01445_pub_snappy_ErrTooLarge)] }
def FnEncodeKeepsSaid : Prop := fnEncodeKeepsRow.holds Tryd.pinned (OpenSpec.ofChange fnEncodeKeepsSpec)

/-- ITS FALSE NEIGHBOUR: 'it returns false'. Refute it at one input. -/
def fnEncodeKeepsWrong : ChangeSpec := { name := "fnEncodeKeeps", vars := ["loop.example/pub-g01445/pub/snappy.ErrTooLarge"], fn := fun _ => fun
  | [d1, d2, g1] => { results := [.lit (.bool false)], args := [d1, d2], vars := [g1] }
  | _ => none }
def FnEncodeKeepsWrongFalsely : Prop := fnEncodeKeepsRow.holds Tryd.pinned (OpenSpec.ofChange fnEncodeKeepsWrong)

/-- 'laws.FnEncodeBound': WHATEVER THE INPUT: true; the input reads as it did. -/
def fnEncodeBoundSpec : ChangeSpec := { name := "fnEncodeBound", vars := ["loop.example/pub-g01445/pub/snappy.ErrTooLarge"], fn := fun _ => fun
  | [d, g1] => { results := [.lit (.bool true)], args := [d], vars := [g1] }
  | _ => none }
def fnEncodeBoundRow : OpenClaim := { program := "ytoihiaenlonncaadoor", sum := "ba5a72d4529bddf077e2909678a0e201dc3b20c60b377d6718d9da73552b142b", func := "loop.example/pub-g01445/laws.FnEncodeBound", spec := "fnEncodeBound", named := ["loop.example/pub-g01445/pub/snappy.ErrTooLarge"], ifaces := true, apart := false, laid := [("loop.example/pub-g01445/pub/snappy.ErrTooLarge", laid_loop_example_pub_g01445_pub_snappy_ErrTooLarge)] }
def FnEncodeBoundSaid : Prop := fnEncodeBoundRow.holds Tryd.pinned (OpenSpec.ofChange fnEncodeBoundSpec)

/-- ITS FALSE NEIGHBOUR: 'it returns false'. Refute it at one input. -/
def fnEncodeBoundWrong : ChangeSpec := { name := "fnEncodeBound", vars := ["loop.example/pub-g01445/pub/snappy.ErrTooLarge"], fn := fun _ => fun
  | [d, g1] => { results := [.lit (.bool false)], args := [d], vars := [g1] }
  | _ => none }
def FnEncodeBoundWrongFalsely : Prop := fnEncodeBoundRow.holds Tryd.pinned (OpenSpec.ofChange fnEncodeBoundWrong)

/- THE SECOND FORM. 'bulk': how many values and letters a reading holds, each counted each time it is reached (what is shared counts as often as it is met; a slice's spare places count too). A statement '..UptoSaid' is the law's where the arguments, and the package variables that the reading takes, are together of bulk at most 1048576: NARROWER than '..Said'. Prove '..Said' where nothing that the law and all that it calls make is longer than what came in: it says more and counts as full. Else prove '..UptoSaid'. A law counts once. -/
mutual
def uptoBulk {H : Type} : DataW H → Nat
  | .lit (.string bytes) => bytes.length + 1
  | .lit _ => 1
  | .nil => 1
  | .ptr d => uptoBulk d + 1
  | .slice elems spare => uptoBulkAll elems + uptoBulkAll spare + 1
  | .agg parts => uptoBulkAll parts + 1
  | .iface _ d => uptoBulk d + 1
  | .map entries => uptoBulkEntries entries + 1
  | .held _ => 1
def uptoBulkAll {H : Type} : List (DataW H) → Nat
  | [] => 0
  | d :: r => uptoBulk d + uptoBulkAll r
def uptoBulkEntries {H : Type} : List (Lit × DataW H) → Nat
  | [] => 0
  | x :: r => uptoBulkEntry x + uptoBulkEntries r
def uptoBulkEntry {H : Type} : Lit × DataW H → Nat
  | (.string bytes, d) => bytes.length + uptoBulk d + 1
  | (_, d) => uptoBulk d + 1
 end
def uptoSmall : (H : Type) → List (DataW H) → Bool := fun _ ds => decide (uptoBulkAll ds ≤ 1048576)
def OpenSpec.upto (s : _root_.Go.ChangeSpec) : _root_.Go.OpenSpec := { _root_.Go.OpenSpec.ofChange s with cond := some uptoSmall }

/-- 'laws.FnEncodeHead', WHERE WHAT IT READS IS OF BULK AT MOST 1048576: true; the input reads as it did. -/
def fnEncodeHeadUptoRow : OpenClaim := { program := "ytoihiaenlonncaadoor", sum := "ba5a72d4529bddf077e2909678a0e201dc3b20c60b377d6718d9da73552b142b", func := "loop.example/pub-g01445/laws.FnEncodeHead", spec := "fnEncodeHead", named := ["loop.example/pub-g01445/pub/snappy.ErrTooLarge"], ifaces := true, apart := false, laid := [("loop.example/pub-g01445/pub/snappy.ErrTooLarge", laid_loop_example_pub_g01445_pub_snappy_ErrTooLarge)], narrowed := true }
def FnEncodeHeadUptoSaid : Prop := fnEncodeHeadUptoRow.holds Tryd.pinned (OpenSpec.upto fnEncodeHeadSpec)

/-- 'laws.FnEncodeRead', WHERE WHAT IT READS IS OF BULK AT MOST 1048576: true; the input reads as it did. -/
def fnEncodeReadUptoRow : OpenClaim := { program := "ytoihiaenlonncaadoor", sum := "ba5a72d4529bddf077e2909678a0e201dc3b20c60b377d6718d9da73552b142b", func := "loop.example/pub-g01445/laws.FnEncodeRead", spec := "fnEncodeRead", named := ["loop.example/pub-g01445/pub/snappy.ErrTooLarge"], ifaces := true, apart := false, laid := [("loop.example/pub-g01445/pub/snappy.ErrTooLarge", laid_loop_example_pub_g01445_pub_snappy_ErrTooLarge)], narrowed := true }
def FnEncodeReadUptoSaid : Prop := fnEncodeReadUptoRow.holds Tryd.pinned (OpenSpec.upto fnEncodeReadSpec)

/-- 'laws.FnExactEmpty', WHERE WHAT IT READS IS OF BULK AT MOST 1048576: true; the input reads as it did. -/
def fnExactEmptyUptoRow : OpenClaim := { program := "ytoihiaenlonncaadoor", sum := "ba5a72d4529bddf077e2909678a0e201dc3b20c60b377d6718d9da73552b142b", func := "loop.example/pub-g01445/laws.FnExactEmpty", spec := "fnExactEmpty", named := ["loop.example/pub-g01445/pub/snappy.ErrTooLarge"], ifaces := true, apart := false, laid := [("loop.example/pub-g01445/pub/snappy.ErrTooLarge", laid_loop_example_pub_g01445_pub_snappy_ErrTooLarge)], narrowed := true }
def FnExactEmptyUptoSaid : Prop := fnExactEmptyUptoRow.holds Tryd.pinned (OpenSpec.upto fnExactEmptySpec)

/-- 'laws.FnEncodeKeeps', WHERE WHAT IT READS IS OF BULK AT MOST 1048576: true; the input reads as it did. -/
def fnEncodeKeepsUptoRow : OpenClaim := { program := "ytoihiaenlonncaadoor", sum := "ba5a72d4529bddf077e2909678a0e201dc3b20c60b377d6718d9da73552b142b", func := "loop.example/pub-g01445/laws.FnEncodeKeeps", spec := "fnEncodeKeeps", named := ["loop.example/pub-g01445/pub/snappy.ErrTooLarge"], ifaces := true, apart := false, laid := [("loop.example/pub-g01445/pub/snappy.ErrTooLarge", laid_loop_example_pub_g01445_pub_snappy_ErrTooLarge)], narrowed := true }
def FnEncodeKeepsUptoSaid : Prop := fnEncodeKeepsUptoRow.holds Tryd.pinned (OpenSpec.upto fnEncodeKeepsSpec)

/-- 'laws.FnEncodeBound', WHERE WHAT IT READS IS OF BULK AT MOST 1048576: true; the input reads as it did. -/
def fnEncodeBoundUptoRow : OpenClaim := { program := "ytoihiaenlonncaadoor", sum := "ba5a72d4529bddf077e2909678a0e201dc3b20c60b377d6718d9da73552b142b", func := "loop.example/pub-g01445/laws.FnEncodeBound", spec := "fnEncodeBound", named := ["loop.example/pub-g01445/pub/snappy.ErrTooLarge"], ifaces := true, apart := false, laid := [("loop.example/pub-g01445/pub/snappy.ErrTooLarge", laid_loop_example_pub_g01445_pub_snappy_ErrTooLarge)], narrowed := true }
def FnEncodeBoundUptoSaid : Prop := fnEncodeBoundUptoRow.holds Tryd.pinned (OpenSpec.upto fnEncodeBoundSpec)

end Rows
end Go.Proofs.YtoihiaenlonncaaDoor

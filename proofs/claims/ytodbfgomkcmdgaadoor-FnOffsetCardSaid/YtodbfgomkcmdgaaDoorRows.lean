/-
  NARROWER THAN 'FOR EVERY INPUT', by the rows' own cells (each row's printed sentence says how): FnDecodeKeeps: ifaces, laid · FnCutWritten: ifaces, laid · FnDecode: ifaces, laid · FnDecodeRoom: ifaces, laid · FnLength: ifaces, laid · FnLiteral: ifaces, laid · FnMore: ifaces, laid · FnOffset: ifaces, laid · FnRun: ifaces, laid · FnSpelled: ifaces, laid · FnWritten: ifaces, laid · FnDecodedLenText: ifaces, laid.
  DERIVED. THE GIVEN ROWS OF THIS SEAT. 12 by the template 'for every input the law returns true; each argument reads behind the call as it read before'; 0 by the template 'total and deterministic' (their statements: YtodbfgomkcmdgaaDoorTotals.lean).
  GIVEN WITH THE SEED: the statements are not yours to turn. If you find one false, say at which input.
  Laid BY PROGRAM, IN A SANDBOX (cutbox-rows.mjs): the forced cells as the released guide's own fill.sh prints them over the translation cb6766d8642d56a4… (all of the seat's roots in one cut). By AI agents, Wed Nov 11 2026. No macro, syntax, notation, axiom, sorry.
-/
import Derived.Test.YtodbfgomkcmdgaaDoorChecked
import GoSem.Claim
import GoSem.ClaimJoined
import GoSem.ClaimMapViews
import Derived.JoinedTies
import Derived.KernelRfl
namespace Go.Proofs.YtodbfgomkcmdgaaDoor
/- THE CELL 'sum', in the pinned program and in every row, IS THE sha256 OF THE DUMP (.gsa) THAT YtodbfgomkcmdgaaDoorProg.lean LOADS. Nothing in Lean hashes anything: it is a label: what it is worth is what the hold of that sum in a sandbox is worth. -/
noncomputable def Tryd.pinned : Pinned := { name := "ytodbfgomkcmdgaadoor", sum := "cb6766d8642d56a4be305394a99145d725528d0daf53b45d5d7594e60a0f88ce", checked := Tryd.checked }
namespace Rows
def none {H : Type} : Left H := { results := [], args := [] }

/- WHAT THE LISTED PACKAGE-LEVEL VARIABLES READ AS WHEN THE CALL BEGINS. Each datum BY PROGRAM (the guide's laid-datum.mjs) off the statement by which the dump's own 'gosem.cut.vars' lays the variable. In a bare row this is a premise. The card (YtodbfgomkcmdgaaDoorCards.lean) ties it to the program's text. -/
def laid_loop_example_pub_g01445_pub_snappy_ErrCorrupt {H : Type} : DataW H := .iface "*errors.errorString" (.ptr (.agg [.lit (.string [115, 110, 97, 112, 112, 121, 58, 32, 99, 111, 114, 114, 117, 112, 116, 32, 105, 110, 112, 117, 116])]))
def laid_loop_example_pub_g01445_pub_snappy_ErrTooLarge {H : Type} : DataW H := .iface "*errors.errorString" (.ptr (.agg [.lit (.string [115, 110, 97, 112, 112, 121, 58, 32, 100, 101, 99, 111, 100, 101, 100, 32, 98, 108, 111, 99, 107, 32, 105, 115, 32, 116, 111, 111, 32, 108, 97, 114, 103, 101])]))
def laid_loop_example_pub_g01445_pub_snappy_errUnsupportedLiteralLength {H : Type} : DataW H := .iface "*errors.errorString" (.ptr (.agg [.lit (.string [115, 110, 97, 112, 112, 121, 58, 32, 117, 110, 115, 117, 112, 112, 111, 114, 116, 101, 100, 32, 108, 105, 116, 101, 114, 97, 108, 32, 108, 101, 110, 103, 116, 104])]))
def laid_loop_example_pub_g01445_pub_snappy_ErrUnsupported {H : Type} : DataW H := .iface "*errors.errorString" (.ptr (.agg [.lit (.string [115, 110, 97, 112, 112, 121, 58, 32, 117, 110, 115, 117, 112, 112, 111, 114, 116, 101, 100, 32, 105, 110, 112, 117, 116])]))

/-- 'laws.FnDecodeKeeps': WHATEVER THE INPUT: true; the input reads as it did. -/
def fnDecodeKeepsSpec : ChangeSpec := { name := "fnDecodeKeeps", vars := ["loop.example/pub-g01445/pub/snappy.errUnsupportedLiteralLength", "loop.example/pub-g01445/pub/snappy.ErrCorrupt", "loop.example/pub-g01445/pub/snappy.ErrTooLarge"], fn := fun _ => fun
  | [d1, d2, g1, g2, g3] => { results := [.lit (.bool true)], args := [d1, d2], vars := [g1, g2, g3] }
  | _ => none }
def fnDecodeKeepsRow : OpenClaim := { program := "ytodbfgomkcmdgaadoor", sum := "cb6766d8642d56a4be305394a99145d725528d0daf53b45d5d7594e60a0f88ce", func := "loop.example/pub-g01445/laws.FnDecodeKeeps", spec := "fnDecodeKeeps", named := ["loop.example/pub-g01445/pub/snappy.errUnsupportedLiteralLength", "loop.example/pub-g01445/pub/snappy.ErrCorrupt", "loop.example/pub-g01445/pub/snappy.ErrTooLarge"], ifaces := true, apart := false, laid := [("loop.example/pub-g01445/pub/snappy.ErrCorrupt", laid_loop_example_pub_g01445_pub_snappy_ErrCorrupt), ("loop.example/pub-g01445/pub/snappy.ErrTooLarge", laid_loop_example_pub_g01445_pub_snappy_ErrTooLarge), ("loop.example/pub-g01445/pub/snappy.errUnsupportedLiteralLength", laid_loop_example_pub_g01445_pub_snappy_errUnsupportedLiteralLength)] }
def FnDecodeKeepsSaid : Prop := fnDecodeKeepsRow.holds Tryd.pinned (OpenSpec.ofChange fnDecodeKeepsSpec)

/-- ITS FALSE NEIGHBOUR: 'it returns false'. Refute it at one input. -/
def fnDecodeKeepsWrong : ChangeSpec := { name := "fnDecodeKeeps", vars := ["loop.example/pub-g01445/pub/snappy.errUnsupportedLiteralLength", "loop.example/pub-g01445/pub/snappy.ErrCorrupt", "loop.example/pub-g01445/pub/snappy.ErrTooLarge"], fn := fun _ => fun
  | [d1, d2, g1, g2, g3] => { results := [.lit (.bool false)], args := [d1, d2], vars := [g1, g2, g3] }
  | _ => none }
def FnDecodeKeepsWrongFalsely : Prop := fnDecodeKeepsRow.holds Tryd.pinned (OpenSpec.ofChange fnDecodeKeepsWrong)

/-- 'laws.FnCutWritten': WHATEVER THE INPUT: true; the input reads as it did. -/
def fnCutWrittenSpec : ChangeSpec := { name := "fnCutWritten", vars := ["loop.example/pub-g01445/pub/snappy.errUnsupportedLiteralLength", "loop.example/pub-g01445/pub/snappy.ErrCorrupt", "loop.example/pub-g01445/pub/snappy.ErrTooLarge", "loop.example/pub-g01445/pub/snappy.ErrUnsupported"], fn := fun _ => fun
  | [d1, d2, d3, g1, g2, g3, g4] => { results := [.lit (.bool true)], args := [d1, d2, d3], vars := [g1, g2, g3, g4] }
  | _ => none }
def fnCutWrittenRow : OpenClaim := { program := "ytodbfgomkcmdgaadoor", sum := "cb6766d8642d56a4be305394a99145d725528d0daf53b45d5d7594e60a0f88ce", func := "loop.example/pub-g01445/laws.FnCutWritten", spec := "fnCutWritten", named := ["loop.example/pub-g01445/pub/snappy.errUnsupportedLiteralLength", "loop.example/pub-g01445/pub/snappy.ErrCorrupt", "loop.example/pub-g01445/pub/snappy.ErrTooLarge", "loop.example/pub-g01445/pub/snappy.ErrUnsupported"], ifaces := true, apart := false, laid := [("loop.example/pub-g01445/pub/snappy.ErrCorrupt", laid_loop_example_pub_g01445_pub_snappy_ErrCorrupt), ("loop.example/pub-g01445/pub/snappy.ErrTooLarge", laid_loop_example_pub_g01445_pub_snappy_ErrTooLarge), ("loop.example/pub-g01445/pub/snappy.ErrUnsupported", laid_loop_example_pub_g01445_pub_snappy_ErrUnsupported), ("loop.example/pub-g01445/pub/snappy.errUnsupportedLiteralLength", laid_loop_example_pub_g01445_pub_snappy_errUnsupportedLiteralLength)] }
def FnCutWrittenSaid : Prop := fnCutWrittenRow.holds Tryd.pinned (OpenSpec.ofChange fnCutWrittenSpec)

/-- ITS FALSE NEIGHBOUR: 'it returns false'. Refute it at one input. -/
def fnCutWrittenWrong : ChangeSpec := { name := "fnCutWritten", vars := ["loop.example/pub-g01445/pub/snappy.errUnsupportedLiteralLength", "loop.example/pub-g01445/pub/snappy.ErrCorrupt", "loop.example/pub-g01445/pub/snappy.ErrTooLarge", "loop.example/pub-g01445/pub/snappy.ErrUnsupported"], fn := fun _ => fun
  | [d1, d2, d3, g1, g2, g3, g4] => { results := [.lit (.bool false)], args := [d1, d2, d3], vars := [g1, g2, g3, g4] }
  | _ => none }
def FnCutWrittenWrongFalsely : Prop := fnCutWrittenRow.holds Tryd.pinned (OpenSpec.ofChange fnCutWrittenWrong)

/-- 'laws.FnDecode': WHATEVER THE INPUT: true; the input reads as it did. -/
def fnDecodeSpec : ChangeSpec := { name := "fnDecode", vars := ["loop.example/pub-g01445/pub/snappy.errUnsupportedLiteralLength", "loop.example/pub-g01445/pub/snappy.ErrCorrupt", "loop.example/pub-g01445/pub/snappy.ErrTooLarge", "loop.example/pub-g01445/pub/snappy.ErrUnsupported"], fn := fun _ => fun
  | [d, g1, g2, g3, g4] => { results := [.lit (.bool true)], args := [d], vars := [g1, g2, g3, g4] }
  | _ => none }
def fnDecodeRow : OpenClaim := { program := "ytodbfgomkcmdgaadoor", sum := "cb6766d8642d56a4be305394a99145d725528d0daf53b45d5d7594e60a0f88ce", func := "loop.example/pub-g01445/laws.FnDecode", spec := "fnDecode", named := ["loop.example/pub-g01445/pub/snappy.errUnsupportedLiteralLength", "loop.example/pub-g01445/pub/snappy.ErrCorrupt", "loop.example/pub-g01445/pub/snappy.ErrTooLarge", "loop.example/pub-g01445/pub/snappy.ErrUnsupported"], ifaces := true, apart := false, laid := [("loop.example/pub-g01445/pub/snappy.ErrCorrupt", laid_loop_example_pub_g01445_pub_snappy_ErrCorrupt), ("loop.example/pub-g01445/pub/snappy.ErrTooLarge", laid_loop_example_pub_g01445_pub_snappy_ErrTooLarge), ("loop.example/pub-g01445/pub/snappy.ErrUnsupported", laid_loop_example_pub_g01445_pub_snappy_ErrUnsupported), ("loop.example/pub-g01445/pub/snappy.errUnsupportedLiteralLength", laid_loop_example_pub_g01445_pub_snappy_errUnsupportedLiteralLength)] }
def FnDecodeSaid : Prop := fnDecodeRow.holds Tryd.pinned (OpenSpec.ofChange fnDecodeSpec)

/-- ITS FALSE NEIGHBOUR: 'it returns false'. Refute it at one input. -/
def fnDecodeWrong : ChangeSpec := { name := "fnDecode", vars := ["loop.example/pub-g01445/pub/snappy.errUnsupportedLiteralLength", "loop.example/pub-g01445/pub/snappy.ErrCorrupt", "loop.example/pub-g01445/pub/snappy.ErrTooLarge", "loop.example/pub-g01445/pub/snappy.ErrUnsupported"], fn := fun _ => fun
  | [d, g1, g2, g3, g4] => { results := [.lit (.bool false)], args := [d], vars := [g1, g2, g3, g4] }
  | _ => none }
def FnDecodeWrongFalsely : Prop := fnDecodeRow.holds Tryd.pinned (OpenSpec.ofChange fnDecodeWrong)

/-- 'laws.FnDecodeRoom': WHATEVER THE INPUT: true; the input reads as it did. -/
def fnDecodeRoomSpec : ChangeSpec := { name := "fnDecodeRoom", vars := ["loop.example/pub-g01445/pub/snappy.errUnsupportedLiteralLength", "loop.example/pub-g01445/pub/snappy.ErrCorrupt", "loop.example/pub-g01445/pub/snappy.ErrTooLarge", "loop.example/pub-g01445/pub/snappy.ErrUnsupported"], fn := fun _ => fun
  | [d1, d2, g1, g2, g3, g4] => { results := [.lit (.bool true)], args := [d1, d2], vars := [g1, g2, g3, g4] }
  | _ => none }
def fnDecodeRoomRow : OpenClaim := { program := "ytodbfgomkcmdgaadoor", sum := "cb6766d8642d56a4be305394a99145d725528d0daf53b45d5d7594e60a0f88ce", func := "loop.example/pub-g01445/laws.FnDecodeRoom", spec := "fnDecodeRoom", named := ["loop.example/pub-g01445/pub/snappy.errUnsupportedLiteralLength", "loop.example/pub-g01445/pub/snappy.ErrCorrupt", "loop.example/pub-g01445/pub/snappy.ErrTooLarge", "loop.example/pub-g01445/pub/snappy.ErrUnsupported"], ifaces := true, apart := false, laid := [("loop.example/pub-g01445/pub/snappy.ErrCorrupt", laid_loop_example_pub_g01445_pub_snappy_ErrCorrupt), ("loop.example/pub-g01445/pub/snappy.ErrTooLarge", laid_loop_example_pub_g01445_pub_snappy_ErrTooLarge), ("loop.example/pub-g01445/pub/snappy.ErrUnsupported", laid_loop_example_pub_g01445_pub_snappy_ErrUnsupported), ("loop.example/pub-g01445/pub/snappy.errUnsupportedLiteralLength", laid_loop_example_pub_g01445_pub_snappy_errUnsupportedLiteralLength)] }
def FnDecodeRoomSaid : Prop := fnDecodeRoomRow.holds Tryd.pinned (OpenSpec.ofChange fnDecodeRoomSpec)

/-- ITS FALSE NEIGHBOUR: 'it returns false'. Refute it at one input. -/
def fnDecodeRoomWrong : ChangeSpec := { name := "fnDecodeRoom", vars := ["loop.example/pub-g01445/pub/snappy.errUnsupportedLiteralLength", "loop.example/pub-g01445/pub/snappy.ErrCorrupt", "loop.example/pub-g01445/pub/snappy.ErrTooLarge", "loop.example/pub-g01445/pub/snappy.ErrUnsupported"], fn := fun _ => fun
  | [d1, d2, g1, g2, g3, g4] => { results := [.lit (.bool false)], args := [d1, d2], vars := [g1, g2, g3, g4] }
  | _ => none }
def FnDecodeRoomWrongFalsely : Prop := fnDecodeRoomRow.holds Tryd.pinned (OpenSpec.ofChange fnDecodeRoomWrong)

/-- 'laws.FnLength': WHATEVER THE INPUT: true; the input reads as it did. -/
def fnLengthSpec : ChangeSpec := { name := "fnLength", vars := ["loop.example/pub-g01445/pub/snappy.errUnsupportedLiteralLength", "loop.example/pub-g01445/pub/snappy.ErrCorrupt", "loop.example/pub-g01445/pub/snappy.ErrTooLarge", "loop.example/pub-g01445/pub/snappy.ErrUnsupported"], fn := fun _ => fun
  | [d1, d2, d3, g1, g2, g3, g4] => { results := [.lit (.bool true)], args := [d1, d2, d3], vars := [g1, g2, g3, g4] }
  | _ => none }
def fnLengthRow : OpenClaim := { program := "ytodbfgomkcmdgaadoor", sum := "cb6766d8642d56a4be305394a99145d725528d0daf53b45d5d7594e60a0f88ce", func := "loop.example/pub-g01445/laws.FnLength", spec := "fnLength", named := ["loop.example/pub-g01445/pub/snappy.errUnsupportedLiteralLength", "loop.example/pub-g01445/pub/snappy.ErrCorrupt", "loop.example/pub-g01445/pub/snappy.ErrTooLarge", "loop.example/pub-g01445/pub/snappy.ErrUnsupported"], ifaces := true, apart := false, laid := [("loop.example/pub-g01445/pub/snappy.ErrCorrupt", laid_loop_example_pub_g01445_pub_snappy_ErrCorrupt), ("loop.example/pub-g01445/pub/snappy.ErrTooLarge", laid_loop_example_pub_g01445_pub_snappy_ErrTooLarge), ("loop.example/pub-g01445/pub/snappy.ErrUnsupported", laid_loop_example_pub_g01445_pub_snappy_ErrUnsupported), ("loop.example/pub-g01445/pub/snappy.errUnsupportedLiteralLength", laid_loop_example_pub_g01445_pub_snappy_errUnsupportedLiteralLength)] }
def FnLengthSaid : Prop := fnLengthRow.holds Tryd.pinned (OpenSpec.ofChange fnLengthSpec)

/-- ITS FALSE NEIGHBOUR: 'it returns false'. Refute it at one input. -/
def fnLengthWrong : ChangeSpec := { name := "fnLength", vars := ["loop.example/pub-g01445/pub/snappy.errUnsupportedLiteralLength", "loop.example/pub-g01445/pub/snappy.ErrCorrupt", "loop.example/pub-g01445/pub/snappy.ErrTooLarge", "loop.example/pub-g01445/pub/snappy.ErrUnsupported"], fn := fun _ => fun
  | [d1, d2, d3, g1, g2, g3, g4] => { results := [.lit (.bool false)], args := [d1, d2, d3], vars := [g1, g2, g3, g4] }
  | _ => none }
def FnLengthWrongFalsely : Prop := fnLengthRow.holds Tryd.pinned (OpenSpec.ofChange fnLengthWrong)

/-- 'laws.FnLiteral': WHATEVER THE INPUT: true; the input reads as it did. -/
def fnLiteralSpec : ChangeSpec := { name := "fnLiteral", vars := ["loop.example/pub-g01445/pub/snappy.errUnsupportedLiteralLength", "loop.example/pub-g01445/pub/snappy.ErrCorrupt", "loop.example/pub-g01445/pub/snappy.ErrTooLarge", "loop.example/pub-g01445/pub/snappy.ErrUnsupported"], fn := fun _ => fun
  | [d1, d2, g1, g2, g3, g4] => { results := [.lit (.bool true)], args := [d1, d2], vars := [g1, g2, g3, g4] }
  | _ => none }
def fnLiteralRow : OpenClaim := { program := "ytodbfgomkcmdgaadoor", sum := "cb6766d8642d56a4be305394a99145d725528d0daf53b45d5d7594e60a0f88ce", func := "loop.example/pub-g01445/laws.FnLiteral", spec := "fnLiteral", named := ["loop.example/pub-g01445/pub/snappy.errUnsupportedLiteralLength", "loop.example/pub-g01445/pub/snappy.ErrCorrupt", "loop.example/pub-g01445/pub/snappy.ErrTooLarge", "loop.example/pub-g01445/pub/snappy.ErrUnsupported"], ifaces := true, apart := false, laid := [("loop.example/pub-g01445/pub/snappy.ErrCorrupt", laid_loop_example_pub_g01445_pub_snappy_ErrCorrupt), ("loop.example/pub-g01445/pub/snappy.ErrTooLarge", laid_loop_example_pub_g01445_pub_snappy_ErrTooLarge), ("loop.example/pub-g01445/pub/snappy.ErrUnsupported", laid_loop_example_pub_g01445_pub_snappy_ErrUnsupported), ("loop.example/pub-g01445/pub/snappy.errUnsupportedLiteralLength", laid_loop_example_pub_g01445_pub_snappy_errUnsupportedLiteralLength)] }
def FnLiteralSaid : Prop := fnLiteralRow.holds Tryd.pinned (OpenSpec.ofChange fnLiteralSpec)

/-- ITS FALSE NEIGHBOUR: 'it returns false'. Refute it at one input. -/
def fnLiteralWrong : ChangeSpec := { name := "fnLiteral", vars := ["loop.example/pub-g01445/pub/snappy.errUnsupportedLiteralLength", "loop.example/pub-g01445/pub/snappy.ErrCorrupt", "loop.example/pub-g01445/pub/snappy.ErrTooLarge", "loop.example/pub-g01445/pub/snappy.ErrUnsupported"], fn := fun _ => fun
  | [d1, d2, g1, g2, g3, g4] => { results := [.lit (.bool false)], args := [d1, d2], vars := [g1, g2, g3, g4] }
  | _ => none }
def FnLiteralWrongFalsely : Prop := fnLiteralRow.holds Tryd.pinned (OpenSpec.ofChange fnLiteralWrong)

/-- 'laws.FnMore': WHATEVER THE INPUT: true; the input reads as it did. -/
def fnMoreSpec : ChangeSpec := { name := "fnMore", vars := ["loop.example/pub-g01445/pub/snappy.errUnsupportedLiteralLength", "loop.example/pub-g01445/pub/snappy.ErrCorrupt", "loop.example/pub-g01445/pub/snappy.ErrTooLarge", "loop.example/pub-g01445/pub/snappy.ErrUnsupported"], fn := fun _ => fun
  | [d1, d2, d3, d4, g1, g2, g3, g4] => { results := [.lit (.bool true)], args := [d1, d2, d3, d4], vars := [g1, g2, g3, g4] }
  | _ => none }
def fnMoreRow : OpenClaim := { program := "ytodbfgomkcmdgaadoor", sum := "cb6766d8642d56a4be305394a99145d725528d0daf53b45d5d7594e60a0f88ce", func := "loop.example/pub-g01445/laws.FnMore", spec := "fnMore", named := ["loop.example/pub-g01445/pub/snappy.errUnsupportedLiteralLength", "loop.example/pub-g01445/pub/snappy.ErrCorrupt", "loop.example/pub-g01445/pub/snappy.ErrTooLarge", "loop.example/pub-g01445/pub/snappy.ErrUnsupported"], ifaces := true, apart := false, laid := [("loop.example/pub-g01445/pub/snappy.ErrCorrupt", laid_loop_example_pub_g01445_pub_snappy_ErrCorrupt), ("loop.example/pub-g01445/pub/snappy.ErrTooLarge", laid_loop_example_pub_g01445_pub_snappy_ErrTooLarge), ("loop.example/pub-g01445/pub/snappy.ErrUnsupported", laid_loop_example_pub_g01445_pub_snappy_ErrUnsupported), ("loop.example/pub-g01445/pub/snappy.errUnsupportedLiteralLength", laid_loop_example_pub_g01445_pub_snappy_errUnsupportedLiteralLength)] }
def FnMoreSaid : Prop := fnMoreRow.holds Tryd.pinned (OpenSpec.ofChange fnMoreSpec)

/-- ITS FALSE NEIGHBOUR: 'it returns false'. Refute it at one input. -/
def fnMoreWrong : ChangeSpec := { name := "fnMore", vars := ["loop.example/pub-g01445/pub/snappy.errUnsupportedLiteralLength", "loop.example/pub-g01445/pub/snappy.ErrCorrupt", "loop.example/pub-g01445/pub/snappy.ErrTooLarge", "loop.example/pub-g01445/pub/snappy.ErrUnsupported"], fn := fun _ => fun
  | [d1, d2, d3, d4, g1, g2, g3, g4] => { results := [.lit (.bool false)], args := [d1, d2, d3, d4], vars := [g1, g2, g3, g4] }
  | _ => none }
def FnMoreWrongFalsely : Prop := fnMoreRow.holds Tryd.pinned (OpenSpec.ofChange fnMoreWrong)

/-- 'laws.FnOffset': WHATEVER THE INPUT: true; the input reads as it did. -/
def fnOffsetSpec : ChangeSpec := { name := "fnOffset", vars := ["loop.example/pub-g01445/pub/snappy.errUnsupportedLiteralLength", "loop.example/pub-g01445/pub/snappy.ErrCorrupt", "loop.example/pub-g01445/pub/snappy.ErrTooLarge", "loop.example/pub-g01445/pub/snappy.ErrUnsupported"], fn := fun _ => fun
  | [d1, d2, d3, d4, g1, g2, g3, g4] => { results := [.lit (.bool true)], args := [d1, d2, d3, d4], vars := [g1, g2, g3, g4] }
  | _ => none }
def fnOffsetRow : OpenClaim := { program := "ytodbfgomkcmdgaadoor", sum := "cb6766d8642d56a4be305394a99145d725528d0daf53b45d5d7594e60a0f88ce", func := "loop.example/pub-g01445/laws.FnOffset", spec := "fnOffset", named := ["loop.example/pub-g01445/pub/snappy.errUnsupportedLiteralLength", "loop.example/pub-g01445/pub/snappy.ErrCorrupt", "loop.example/pub-g01445/pub/snappy.ErrTooLarge", "loop.example/pub-g01445/pub/snappy.ErrUnsupported"], ifaces := true, apart := false, laid := [("loop.example/pub-g01445/pub/snappy.ErrCorrupt", laid_loop_example_pub_g01445_pub_snappy_ErrCorrupt), ("loop.example/pub-g01445/pub/snappy.ErrTooLarge", laid_loop_example_pub_g01445_pub_snappy_ErrTooLarge), ("loop.example/pub-g01445/pub/snappy.ErrUnsupported", laid_loop_example_pub_g01445_pub_snappy_ErrUnsupported), ("loop.example/pub-g01445/pub/snappy.errUnsupportedLiteralLength", laid_loop_example_pub_g01445_pub_snappy_errUnsupportedLiteralLength)] }
def FnOffsetSaid : Prop := fnOffsetRow.holds Tryd.pinned (OpenSpec.ofChange fnOffsetSpec)

/-- ITS FALSE NEIGHBOUR: 'it returns false'. Refute it at one input. -/
def fnOffsetWrong : ChangeSpec := { name := "fnOffset", vars := ["loop.example/pub-g01445/pub/snappy.errUnsupportedLiteralLength", "loop.example/pub-g01445/pub/snappy.ErrCorrupt", "loop.example/pub-g01445/pub/snappy.ErrTooLarge", "loop.example/pub-g01445/pub/snappy.ErrUnsupported"], fn := fun _ => fun
  | [d1, d2, d3, d4, g1, g2, g3, g4] => { results := [.lit (.bool false)], args := [d1, d2, d3, d4], vars := [g1, g2, g3, g4] }
  | _ => none }
def FnOffsetWrongFalsely : Prop := fnOffsetRow.holds Tryd.pinned (OpenSpec.ofChange fnOffsetWrong)

/-- 'laws.FnRun': WHATEVER THE INPUT: true; the input reads as it did. -/
def fnRunSpec : ChangeSpec := { name := "fnRun", vars := ["loop.example/pub-g01445/pub/snappy.errUnsupportedLiteralLength", "loop.example/pub-g01445/pub/snappy.ErrCorrupt", "loop.example/pub-g01445/pub/snappy.ErrTooLarge", "loop.example/pub-g01445/pub/snappy.ErrUnsupported"], fn := fun _ => fun
  | [d1, d2, d3, d4, g1, g2, g3, g4] => { results := [.lit (.bool true)], args := [d1, d2, d3, d4], vars := [g1, g2, g3, g4] }
  | _ => none }
def fnRunRow : OpenClaim := { program := "ytodbfgomkcmdgaadoor", sum := "cb6766d8642d56a4be305394a99145d725528d0daf53b45d5d7594e60a0f88ce", func := "loop.example/pub-g01445/laws.FnRun", spec := "fnRun", named := ["loop.example/pub-g01445/pub/snappy.errUnsupportedLiteralLength", "loop.example/pub-g01445/pub/snappy.ErrCorrupt", "loop.example/pub-g01445/pub/snappy.ErrTooLarge", "loop.example/pub-g01445/pub/snappy.ErrUnsupported"], ifaces := true, apart := false, laid := [("loop.example/pub-g01445/pub/snappy.ErrCorrupt", laid_loop_example_pub_g01445_pub_snappy_ErrCorrupt), ("loop.example/pub-g01445/pub/snappy.ErrTooLarge", laid_loop_example_pub_g01445_pub_snappy_ErrTooLarge), ("loop.example/pub-g01445/pub/snappy.ErrUnsupported", laid_loop_example_pub_g01445_pub_snappy_ErrUnsupported), ("loop.example/pub-g01445/pub/snappy.errUnsupportedLiteralLength", laid_loop_example_pub_g01445_pub_snappy_errUnsupportedLiteralLength)] }
def FnRunSaid : Prop := fnRunRow.holds Tryd.pinned (OpenSpec.ofChange fnRunSpec)

/-- ITS FALSE NEIGHBOUR: 'it returns false'. Refute it at one input. -/
def fnRunWrong : ChangeSpec := { name := "fnRun", vars := ["loop.example/pub-g01445/pub/snappy.errUnsupportedLiteralLength", "loop.example/pub-g01445/pub/snappy.ErrCorrupt", "loop.example/pub-g01445/pub/snappy.ErrTooLarge", "loop.example/pub-g01445/pub/snappy.ErrUnsupported"], fn := fun _ => fun
  | [d1, d2, d3, d4, g1, g2, g3, g4] => { results := [.lit (.bool false)], args := [d1, d2, d3, d4], vars := [g1, g2, g3, g4] }
  | _ => none }
def FnRunWrongFalsely : Prop := fnRunRow.holds Tryd.pinned (OpenSpec.ofChange fnRunWrong)

/-- 'laws.FnSpelled': WHATEVER THE INPUT: true; the input reads as it did. -/
def fnSpelledSpec : ChangeSpec := { name := "fnSpelled", vars := ["loop.example/pub-g01445/pub/snappy.errUnsupportedLiteralLength", "loop.example/pub-g01445/pub/snappy.ErrCorrupt", "loop.example/pub-g01445/pub/snappy.ErrTooLarge", "loop.example/pub-g01445/pub/snappy.ErrUnsupported"], fn := fun _ => fun
  | [d1, d2, d3, g1, g2, g3, g4] => { results := [.lit (.bool true)], args := [d1, d2, d3], vars := [g1, g2, g3, g4] }
  | _ => none }
def fnSpelledRow : OpenClaim := { program := "ytodbfgomkcmdgaadoor", sum := "cb6766d8642d56a4be305394a99145d725528d0daf53b45d5d7594e60a0f88ce", func := "loop.example/pub-g01445/laws.FnSpelled", spec := "fnSpelled", named := ["loop.example/pub-g01445/pub/snappy.errUnsupportedLiteralLength", "loop.example/pub-g01445/pub/snappy.ErrCorrupt", "loop.example/pub-g01445/pub/snappy.ErrTooLarge", "loop.example/pub-g01445/pub/snappy.ErrUnsupported"], ifaces := true, apart := false, laid := [("loop.example/pub-g01445/pub/snappy.ErrCorrupt", laid_loop_example_pub_g01445_pub_snappy_ErrCorrupt), ("loop.example/pub-g01445/pub/snappy.ErrTooLarge", laid_loop_example_pub_g01445_pub_snappy_ErrTooLarge), ("loop.example/pub-g01445/pub/snappy.ErrUnsupported", laid_loop_example_pub_g01445_pub_snappy_ErrUnsupported), ("loop.example/pub-g01445/pub/snappy.errUnsupportedLiteralLength", laid_loop_example_pub_g01445_pub_snappy_errUnsupportedLiteralLength)] }
def FnSpelledSaid : Prop := fnSpelledRow.holds Tryd.pinned (OpenSpec.ofChange fnSpelledSpec)

/-- ITS FALSE NEIGHBOUR: 'it returns false'. Refute it at one input. -/
def fnSpelledWrong : ChangeSpec := { name := "fnSpelled", vars := ["loop.example/pub-g01445/pub/snappy.errUnsupportedLiteralLength", "loop.example/pub-g01445/pub/snappy.ErrCorrupt", "loop.example/pub-g01445/pub/snappy.ErrTooLarge", "loop.example/pub-g01445/pub/snappy.ErrUnsupported"], fn := fun _ => fun
  | [d1, d2, d3, g1, g2, g3, g4] => { results := [.lit (.bool false)], args := [d1, d2, d3], vars := [g1, g2, g3, g4] }
  | _ => none }
def FnSpelledWrongFalsely : Prop := fnSpelledRow.holds Tryd.pinned (OpenSpec.ofChange fnSpelledWrong)

/-- 'laws.FnWritten': WHATEVER THE INPUT: true; the input reads as it did. -/
def fnWrittenSpec : ChangeSpec := { name := "fnWritten", vars := ["loop.example/pub-g01445/pub/snappy.errUnsupportedLiteralLength", "loop.example/pub-g01445/pub/snappy.ErrCorrupt", "loop.example/pub-g01445/pub/snappy.ErrTooLarge", "loop.example/pub-g01445/pub/snappy.ErrUnsupported"], fn := fun _ => fun
  | [d1, d2, g1, g2, g3, g4] => { results := [.lit (.bool true)], args := [d1, d2], vars := [g1, g2, g3, g4] }
  | _ => none }
def fnWrittenRow : OpenClaim := { program := "ytodbfgomkcmdgaadoor", sum := "cb6766d8642d56a4be305394a99145d725528d0daf53b45d5d7594e60a0f88ce", func := "loop.example/pub-g01445/laws.FnWritten", spec := "fnWritten", named := ["loop.example/pub-g01445/pub/snappy.errUnsupportedLiteralLength", "loop.example/pub-g01445/pub/snappy.ErrCorrupt", "loop.example/pub-g01445/pub/snappy.ErrTooLarge", "loop.example/pub-g01445/pub/snappy.ErrUnsupported"], ifaces := true, apart := false, laid := [("loop.example/pub-g01445/pub/snappy.ErrCorrupt", laid_loop_example_pub_g01445_pub_snappy_ErrCorrupt), ("loop.example/pub-g01445/pub/snappy.ErrTooLarge", laid_loop_example_pub_g01445_pub_snappy_ErrTooLarge), ("loop.example/pub-g01445/pub/snappy.ErrUnsupported", laid_loop_example_pub_g01445_pub_snappy_ErrUnsupported), ("loop.example/pub-g01445/pub/snappy.errUnsupportedLiteralLength", laid_loop_example_pub_g01445_pub_snappy_errUnsupportedLiteralLength)] }
def FnWrittenSaid : Prop := fnWrittenRow.holds Tryd.pinned (OpenSpec.ofChange fnWrittenSpec)

/-- ITS FALSE NEIGHBOUR: 'it returns false'. Refute it at one input. -/
def fnWrittenWrong : ChangeSpec := { name := "fnWritten", vars := ["loop.example/pub-g01445/pub/snappy.errUnsupportedLiteralLength", "loop.example/pub-g01445/pub/snappy.ErrCorrupt", "loop.example/pub-g01445/pub/snappy.ErrTooLarge", "loop.example/pub-g01445/pub/snappy.ErrUnsupported"], fn := fun _ => fun
  | [d1, d2, g1, g2, g3, g4] => { results := [.lit (.bool false)], args := [d1, d2], vars := [g1, g2, g3, g4] }
  | _ => none }
def FnWrittenWrongFalsely : Prop := fnWrittenRow.holds Tryd.pinned (OpenSpec.ofChange fnWrittenWrong)

/-- 'laws.FnDecodedLenText': WHATEVER THE INPUT: true; the input reads as it did. -/
def fnDecodedLenTextSpec : ChangeSpec := { name := "fnDecodedLenText", vars := ["loop.example/pub-g01445/pub/snappy.errUnsupportedLiteralLength", "loop.example/pub-g01445/pub/snappy.ErrCorrupt", "loop.example/pub-g01445/pub/snappy.ErrTooLarge", "loop.example/pub-g01445/pub/snappy.ErrUnsupported"], fn := fun _ => fun
  | [d1, d2, g1, g2, g3, g4] => { results := [.lit (.bool true)], args := [d1, d2], vars := [g1, g2, g3, g4] }
  | _ => none }
def fnDecodedLenTextRow : OpenClaim := { program := "ytodbfgomkcmdgaadoor", sum := "cb6766d8642d56a4be305394a99145d725528d0daf53b45d5d7594e60a0f88ce", func := "loop.example/pub-g01445/laws.FnDecodedLenText", spec := "fnDecodedLenText", named := ["loop.example/pub-g01445/pub/snappy.errUnsupportedLiteralLength", "loop.example/pub-g01445/pub/snappy.ErrCorrupt", "loop.example/pub-g01445/pub/snappy.ErrTooLarge", "loop.example/pub-g01445/pub/snappy.ErrUnsupported"], ifaces := true, apart := false, laid := [("loop.example/pub-g01445/pub/snappy.ErrCorrupt", laid_loop_example_pub_g01445_pub_snappy_ErrCorrupt), ("loop.example/pub-g01445/pub/snappy.ErrTooLarge", laid_loop_example_pub_g01445_pub_snappy_ErrTooLarge), ("loop.example/pub-g01445/pub/snappy.ErrUnsupported", laid_loop_example_pub_g01445_pub_snappy_ErrUnsupported), ("loop.example/pub-g01445/pub/snappy.errUnsupportedLiteralLength", laid_loop_example_pub_g01445_pub_snappy_errUnsupportedLiteralLength)] }
def FnDecodedLenTextSaid : Prop := fnDecodedLenTextRow.holds Tryd.pinned (OpenSpec.ofChange fnDecodedLenTextSpec)

/-- ITS FALSE NEIGHBOUR: 'it returns false'. Refute it at one input. -/
def fnDecodedLenTextWrong : ChangeSpec := { name := "fnDecodedLenText", vars := ["loop.example/pub-g01445/pub/snappy.errUnsupportedLiteralLength", "loop.example/pub-g01445/pub/snappy.ErrCorrupt", "loop.example/pub-g01445/pub/snappy.ErrTooLarge", "loop.example/pub-g01445/pub/snappy.ErrUnsupported"], fn := fun _ => fun
  | [d1, d2, g1, g2, g3, g4] => { results := [.lit (.bool false)], args := [d1, d2], vars := [g1, g2, g3, g4] }
  | _ => none }
def FnDecodedLenTextWrongFalsely : Prop := fnDecodedLenTextRow.holds Tryd.pinned (OpenSpec.ofChange fnDecodedLenTextWrong)

/- THE SECOND FORM. 'bulk': how many values and letters a reading holds, each counted each time it is reached (what is shared counts as often as it is met; a slice's spare places count too). A statement '..UptoSaid' is the law's where the arguments, and the package variables that the reading takes, are together of bulk at most 1048576: NARROWER than '..Said'. Prove '..Said' where nothing that the law and all that it calls make is longer than what came in: it says more and counts as full. Else prove '..UptoSaid'. A law counts once. -/
mutual
def uptoBulk {H : Type} : DataW H → Nat
  | .lit (.string bytes) => bytes.length + 1
  | .lit _ => 1
  | .nil => 1
  | .ptr d => uptoBulk d + 1
  | .slice elems spare => uptoBulkAll elems + uptoBulkAll spare + 1
  | .agg parts => uptoBulkAll parts + 1
  | .iface _ d => uptoBulk d + 1
  | .map entries => uptoBulkEntries entries + 1
  | .held _ => 1
def uptoBulkAll {H : Type} : List (DataW H) → Nat
  | [] => 0
  | d :: r => uptoBulk d + uptoBulkAll r
def uptoBulkEntries {H : Type} : List (Lit × DataW H) → Nat
  | [] => 0
  | x :: r => uptoBulkEntry x + uptoBulkEntries r
def uptoBulkEntry {H : Type} : Lit × DataW H → Nat
  | (.string bytes, d) => bytes.length + uptoBulk d + 1
  | (_, d) => uptoBulk d + 1
 end
def uptoSmall : (H : Type) → List (DataW H) → Bool := fun _ ds => decide (uptoBulkAll ds ≤ 1048576)
def OpenSpec.upto (s : _root_.Go.ChangeSpec) : _root_.Go.OpenSpec := { _root_.Go.OpenSpec.ofChange s with cond := some uptoSmall }

/-- 'laws.FnDecodeKeeps', WHERE WHAT IT READS IS OF BULK AT MOST 1048576: true; the input reads as it did. -/
def fnDecodeKeepsUptoRow : OpenClaim := { program := "ytodbfgomkcmdgaadoor", sum := "cb6766d8642d56a4be305394a99145d725528d0daf53b45d5d7594e60a0f88ce", func := "loop.example/pub-g01445/laws.FnDecodeKeeps", spec := "fnDecodeKeeps", named := ["loop.example/pub-g01445/pub/snappy.errUnsupportedLiteralLength", "loop.example/pub-g01445/pub/snappy.ErrCorrupt", "loop.example/pub-g01445/pub/snappy.ErrTooLarge"], ifaces := true, apart := false, laid := [("loop.example/pub-g01445/pub/snappy.ErrCorrupt", laid_loop_example_pub_g01445_pub_snappy_ErrCorrupt), ("loop.example/pub-g01445/pub/snappy.ErrTooLarge", laid_loop_example_pub_g01445_pub_snappy_ErrTooLarge), ("loop.example/pub-g01445/pub/snappy.errUnsupportedLiteralLength", laid_loop_example_pub_g01445_pub_snappy_errUnsupportedLiteralLength)], narrowed := true }
def FnDecodeKeepsUptoSaid : Prop := fnDecodeKeepsUptoRow.holds Tryd.pinned (OpenSpec.upto fnDecodeKeepsSpec)

/-- 'laws.FnCutWritten', WHERE WHAT IT READS IS OF BULK AT MOST 1048576: true; the input reads as it did. -/
def fnCutWrittenUptoRow : OpenClaim := { program := "ytodbfgomkcmdgaadoor", sum := "cb6766d8642d56a4be305394a99145d725528d0daf53b45d5d7594e60a0f88ce", func := "loop.example/pub-g01445/laws.FnCutWritten", spec := "fnCutWritten", named := ["loop.example/pub-g01445/pub/snappy.errUnsupportedLiteralLength", "loop.example/pub-g01445/pub/snappy.ErrCorrupt", "loop.example/pub-g01445/pub/snappy.ErrTooLarge", "loop.example/pub-g01445/pub/snappy.ErrUnsupported"], ifaces := true, apart := false, laid := [("loop.example/pub-g01445/pub/snappy.ErrCorrupt", laid_loop_example_pub_g01445_pub_snappy_ErrCorrupt), ("loop.example/pub-g01445/pub/snappy.ErrTooLarge", laid_loop_example_pub_g01445_pub_snappy_ErrTooLarge), ("loop.example/pub-g01445/pub/snappy.ErrUnsupported", laid_loop_example_pub_g01445_pub_snappy_ErrUnsupported), ("loop.example/pub-g01445/pub/snappy.errUnsupportedLiteralLength", laid_loop_example_pub_g01445_pub_snappy_errUnsupportedLiteralLength)], narrowed := true }
def FnCutWrittenUptoSaid : Prop := fnCutWrittenUptoRow.holds Tryd.pinned (OpenSpec.upto fnCutWrittenSpec)

/-- 'laws.FnDecode', WHERE WHAT IT READS IS OF BULK AT MOST 1048576: true; the input reads as it did. -/
def fnDecodeUptoRow : OpenClaim := { program := "ytodbfgomkcmdgaadoor", sum := "cb6766d8642d56a4be305394a99145d725528d0daf53b45d5d7594e60a0f88ce", func := "loop.example/pub-g01445/laws.FnDecode", spec := "fnDecode", named := ["loop.example/pub-g01445/pub/snappy.errUnsupportedLiteralLength", "loop.example/pub-g01445/pub/snappy.ErrCorrupt", "loop.example/pub-g01445/pub/snappy.ErrTooLarge", "loop.example/pub-g01445/pub/snappy.ErrUnsupported"], ifaces := true, apart := false, laid := [("loop.example/pub-g01445/pub/snappy.ErrCorrupt", laid_loop_example_pub_g01445_pub_snappy_ErrCorrupt), ("loop.example/pub-g01445/pub/snappy.ErrTooLarge", laid_loop_example_pub_g01445_pub_snappy_ErrTooLarge), ("loop.example/pub-g01445/pub/snappy.ErrUnsupported", laid_loop_example_pub_g01445_pub_snappy_ErrUnsupported), ("loop.example/pub-g01445/pub/snappy.errUnsupportedLiteralLength", laid_loop_example_pub_g01445_pub_snappy_errUnsupportedLiteralLength)], narrowed := true }
def FnDecodeUptoSaid : Prop := fnDecodeUptoRow.holds Tryd.pinned (OpenSpec.upto fnDecodeSpec)

/-- 'laws.FnDecodeRoom', WHERE WHAT IT READS IS OF BULK AT MOST 1048576: true; the input reads as it did. -/
def fnDecodeRoomUptoRow : OpenClaim := { program := "ytodbfgomkcmdgaadoor", sum := "cb6766d8642d56a4be305394a99145d725528d0daf53b45d5d7594e60a0f88ce", func := "loop.example/pub-g01445/laws.FnDecodeRoom", spec := "fnDecodeRoom", named := ["loop.example/pub-g01445/pub/snappy.errUnsupportedLiteralLength", "loop.example/pub-g01445/pub/snappy.ErrCorrupt", "loop.example/pub-g01445/pub/snappy.ErrTooLarge", "loop.example/pub-g01445/pub/snappy.ErrUnsupported"], ifaces := true, apart := false, laid := [("loop.example/pub-g01445/pub/snappy.ErrCorrupt", laid_loop_example_pub_g01445_pub_snappy_ErrCorrupt), ("loop.example/pub-g01445/pub/snappy.ErrTooLarge", laid_loop_example_pub_g01445_pub_snappy_ErrTooLarge), ("loop.example/pub-g01445/pub/snappy.ErrUnsupported", laid_loop_example_pub_g01445_pub_snappy_ErrUnsupported), ("loop.example/pub-g01445/pub/snappy.errUnsupportedLiteralLength", laid_loop_example_pub_g01445_pub_snappy_errUnsupportedLiteralLength)], narrowed := true }
def FnDecodeRoomUptoSaid : Prop := fnDecodeRoomUptoRow.holds Tryd.pinned (OpenSpec.upto fnDecodeRoomSpec)

/-- 'laws.FnLength', WHERE WHAT IT READS IS OF BULK AT MOST 1048576: true; the input reads as it did. -/
def fnLengthUptoRow : OpenClaim := { program := "ytodbfgomkcmdgaadoor", sum := "cb6766d8642d56a4be305394a99145d725528d0daf53b45d5d7594e60a0f88ce", func := "loop.example/pub-g01445/laws.FnLength", spec := "fnLength", named := ["loop.example/pub-g01445/pub/snappy.errUnsupportedLiteralLength", "loop.example/pub-g01445/pub/snappy.ErrCorrupt", "loop.example/pub-g01445/pub/snappy.ErrTooLarge", "loop.example/pub-g01445/pub/snappy.ErrUnsupported"], ifaces := true, apart := false, laid := [("loop.example/pub-g01445/pub/snappy.ErrCorrupt", laid_loop_example_pub_g01445_pub_snappy_ErrCorrupt), ("loop.example/pub-g01445/pub/snappy.ErrTooLarge", laid_loop_example_pub_g01445_pub_snappy_ErrTooLarge), ("loop.example/pub-g01445/pub/snappy.ErrUnsupported", laid_loop_example_pub_g01445_pub_snappy_ErrUnsupported), ("loop.example/pub-g01445/pub/snappy.errUnsupportedLiteralLength", laid_loop_example_pub_g01445_pub_snappy_errUnsupportedLiteralLength)], narrowed := true }
def FnLengthUptoSaid : Prop := fnLengthUptoRow.holds Tryd.pinned (OpenSpec.upto fnLengthSpec)

/-- 'laws.FnLiteral', WHERE WHAT IT READS IS OF BULK AT MOST 1048576: true; the input reads as it did. -/
def fnLiteralUptoRow : OpenClaim := { program := "ytodbfgomkcmdgaadoor", sum := "cb6766d8642d56a4be305394a99145d725528d0daf53b45d5d7594e60a0f88ce", func := "loop.example/pub-g01445/laws.FnLiteral", spec := "fnLiteral", named := ["loop.example/pub-g01445/pub/snappy.errUnsupportedLiteralLength", "loop.example/pub-g01445/pub/snappy.ErrCorrupt", "loop.example/pub-g01445/pub/snappy.ErrTooLarge", "loop.example/pub-g01445/pub/snappy.ErrUnsupported"], ifaces := true, apart := false, laid := [("loop.example/pub-g01445/pub/snappy.ErrCorrupt", laid_loop_example_pub_g01445_pub_snappy_ErrCorrupt), ("loop.example/pub-g01445/pub/snappy.ErrTooLarge", laid_loop_example_pub_g01445_pub_snappy_ErrTooLarge), ("loop.example/pub-g01445/pub/snappy.ErrUnsupported", laid_loop_example_pub_g01445_pub_snappy_ErrUnsupported), ("loop.example/pub-g01445/pub/snappy.errUnsupportedLiteralLength", laid_loop_example_pub_g01445_pub_snappy_errUnsupportedLiteralLength)], narrowed := true }
def FnLiteralUptoSaid : Prop := fnLiteralUptoRow.holds Tryd.pinned (OpenSpec.upto fnLiteralSpec)

/-- 'laws.FnMore', WHERE WHAT IT READS IS OF BULK AT MOST 1048576: true; the input reads as it did. -/
def fnMoreUptoRow : OpenClaim := { program := "ytodbfgomkcmdgaadoor", sum := "cb6766d8642d56a4be305394a99145d725528d0daf53b45d5d7594e60a0f88ce", func := "loop.example/pub-g01445/laws.FnMore", spec := "fnMore", named := ["loop.example/pub-g01445/pub/snappy.errUnsupportedLiteralLength", "loop.example/pub-g01445/pub/snappy.ErrCorrupt", "loop.example/pub-g01445/pub/snappy.ErrTooLarge", "loop.example/pub-g01445/pub/snappy.ErrUnsupported"], ifaces := true, apart := false, laid := [("loop.example/pub-g01445/pub/snappy.ErrCorrupt", laid_loop_example_pub_g01445_pub_snappy_ErrCorrupt), ("loop.example/pub-g01445/pub/snappy.ErrTooLarge", laid_loop_example_pub_g01445_pub_snappy_ErrTooLarge), ("loop.example/pub-g01445/pub/snappy.ErrUnsupported", laid_loop_example_pub_g01445_pub_snappy_ErrUnsupported), ("loop.example/pub-g01445/pub/snappy.errUnsupportedLiteralLength", laid_loop_example_pub_g01445_pub_snappy_errUnsupportedLiteralLength)], narrowed := true }
def FnMoreUptoSaid : Prop := fnMoreUptoRow.holds Tryd.pinned (OpenSpec.upto fnMoreSpec)

/-- 'laws.FnOffset', WHERE WHAT IT READS IS OF BULK AT MOST 1048576: true; the input reads as it did. -/
def fnOffsetUptoRow : OpenClaim := { program := "ytodbfgomkcmdgaadoor", sum := "cb6766d8642d56a4be305394a99145d725528d0daf53b45d5d7594e60a0f88ce", func := "loop.example/pub-g01445/laws.FnOffset", spec := "fnOffset", named := ["loop.example/pub-g01445/pub/snappy.errUnsupportedLiteralLength", "loop.example/pub-g01445/pub/snappy.ErrCorrupt", "loop.example/pub-g01445/pub/snappy.ErrTooLarge", "loop.example/pub-g01445/pub/snappy.ErrUnsupported"], ifaces := true, apart := false, laid := [("loop.example/pub-g01445/pub/snappy.ErrCorrupt", laid_loop_example_pub_g01445_pub_snappy_ErrCorrupt), ("loop.example/pub-g01445/pub/snappy.ErrTooLarge", laid_loop_example_pub_g01445_pub_snappy_ErrTooLarge), ("loop.example/pub-g01445/pub/snappy.ErrUnsupported", laid_loop_example_pub_g01445_pub_snappy_ErrUnsupported), ("loop.example/pub-g01445/pub/snappy.errUnsupportedLiteralLength", laid_loop_example_pub_g01445_pub_snappy_errUnsupportedLiteralLength)], narrowed := true }
def FnOffsetUptoSaid : Prop := fnOffsetUptoRow.holds Tryd.pinned (OpenSpec.upto fnOffsetSpec)

/-- 'laws.FnRun', WHERE WHAT IT READS IS OF BULK AT MOST 1048576: true; the input reads as it did. -/
def fnRunUptoRow : OpenClaim := { program := "ytodbfgomkcmdgaadoor", sum := "cb6766d8642d56a4be305394a99145d725528d0daf53b45d5d7594e60a0f88ce", func := "loop.example/pub-g01445/laws.FnRun", spec := "fnRun", named := ["loop.example/pub-g01445/pub/snappy.errUnsupportedLiteralLength", "loop.example/pub-g01445/pub/snappy.ErrCorrupt", "loop.example/pub-g01445/pub/snappy.ErrTooLarge", "loop.example/pub-g01445/pub/snappy.ErrUnsupported"], ifaces := true, apart := false, laid := [("loop.example/pub-g01445/pub/snappy.ErrCorrupt", laid_loop_example_pub_g01445_pub_snappy_ErrCorrupt), ("loop.example/pub-g01445/pub/snappy.ErrTooLarge", laid_loop_example_pub_g01445_pub_snappy_ErrTooLarge), ("loop.example/pub-g01445/pub/snappy.ErrUnsupported", laid_loop_example_pub_g01445_pub_snappy_ErrUnsupported), ("loop.example/pub-g01445/pub/snappy.errUnsupportedLiteralLength", laid_loop_example_pub_g01445_pub_snappy_errUnsupportedLiteralLength)], narrowed := true }
def FnRunUptoSaid : Prop := fnRunUptoRow.holds Tryd.pinned (OpenSpec.upto fnRunSpec)

/-- 'laws.FnSpelled', WHERE WHAT IT READS IS OF BULK AT MOST 1048576: true; the input reads as it did. -/
def fnSpelledUptoRow : OpenClaim := { program := "ytodbfgomkcmdgaadoor", sum := "cb6766d8642d56a4be305394a99145d725528d0daf53b45d5d7594e60a0f88ce", func := "loop.example/pub-g01445/laws.FnSpelled", spec := "fnSpelled", named := ["loop.example/pub-g01445/pub/snappy.errUnsupportedLiteralLength", "loop.example/pub-g01445/pub/snappy.ErrCorrupt", "loop.example/pub-g01445/pub/snappy.ErrTooLarge", "loop.example/pub-g01445/pub/snappy.ErrUnsupported"], ifaces := true, apart := false, laid := [("loop.example/pub-g01445/pub/snappy.ErrCorrupt", laid_loop_example_pub_g01445_pub_snappy_ErrCorrupt), ("loop.example/pub-g01445/pub/snappy.ErrTooLarge", laid_loop_example_pub_g01445_pub_snappy_ErrTooLarge), ("loop.example/pub-g01445/pub/snappy.ErrUnsupported", laid_loop_example_pub_g01445_pub_snappy_ErrUnsupported), ("loop.example/pub-g01445/pub/snappy.errUnsupportedLiteralLength", laid_loop_example_pub_g01445_pub_snappy_errUnsupportedLiteralLength)], narrowed := true }
def FnSpelledUptoSaid : Prop := fnSpelledUptoRow.holds Tryd.pinned (OpenSpec.upto fnSpelledSpec)

/-- 'laws.FnWritten', WHERE WHAT IT READS IS OF BULK AT MOST 1048576: true; the input reads as it did. -/
def fnWrittenUptoRow : OpenClaim := { program := "ytodbfgomkcmdgaadoor", sum := "cb6766d8642d56a4be305394a99145d725528d0daf53b45d5d7594e60a0f88ce", func := "loop.example/pub-g01445/laws.FnWritten", spec := "fnWritten", named := ["loop.example/pub-g01445/pub/snappy.errUnsupportedLiteralLength", "loop.example/pub-g01445/pub/snappy.ErrCorrupt", "loop.example/pub-g01445/pub/snappy.ErrTooLarge", "loop.example/pub-g01445/pub/snappy.ErrUnsupported"], ifaces := true, apart := false, laid := [("loop.example/pub-g01445/pub/snappy.ErrCorrupt", laid_loop_example_pub_g01445_pub_snappy_ErrCorrupt), ("loop.example/pub-g01445/pub/snappy.ErrTooLarge", laid_loop_example_pub_g01445_pub_snappy_ErrTooLarge), ("loop.example/pub-g01445/pub/snappy.ErrUnsupported", laid_loop_example_pub_g01445_pub_snappy_ErrUnsupported), ("loop.example/pub-g01445/pub/snappy.errUnsupportedLiteralLength", laid_loop_example_pub_g01445_pub_snappy_errUnsupportedLiteralLength)], narrowed := true }
def FnWrittenUptoSaid : Prop := fnWrittenUptoRow.holds Tryd.pinned (OpenSpec.upto fnWrittenSpec)

/-- 'laws.FnDecodedLenText', WHERE WHAT IT READS IS OF BULK AT MOST 1048576: true; the input reads as it did. -/
def fnDecodedLenTextUptoRow : OpenClaim := { program := "ytodbfgomkcmdgaadoor", sum := "cb6766d8642d56a4be305394a99145d725528d0daf53b45d5d7594e60a0f88ce", func := "loop.example/pub-g01445/laws.FnDecodedLenText", spec := "fnDecodedLenText", named := ["loop.example/pub-g01445/pub/snappy.errUnsupportedLiteralLength", "loop.example/pub-g01445/pub/snappy.ErrCorrupt", "loop.example/pub-g01445/pub/snappy.ErrTooLarge", "loop.example/pub-g01445/pub/snappy.ErrUnsupported"], ifaces := true, apart := false, laid := [("loop.example/pub-g01445/pub/snappy.ErrCorrupt", laid_loop_example_pub_g01445_pub_snappy_ErrCorrupt), ("loop.example/pub-g01445/pub/snappy.ErrTooLarge", laid_loop_example_pub_g01445_pub_snappy_ErrTooLarge), ("loop.example/pub-g01445/pub/snappy.ErrUnsupported", laid_loop_example_pub_g01445_pub_snappy_ErrUnsupported), ("loop.example/pub-g01445/pub/snappy.errUnsupportedLiteralLength", laid_loop_example_pub_g01445_pub_snappy_errUnsupportedLiteralLength)], narrowed := true }
def FnDecodedLenTextUptoSaid : Prop := fnDecodedLenTextUptoRow.holds Tryd.pinned (OpenSpec.upto fnDecodedLenTextSpec)

end Rows
end Go.Proofs.YtodbfgomkcmdgaaDoor

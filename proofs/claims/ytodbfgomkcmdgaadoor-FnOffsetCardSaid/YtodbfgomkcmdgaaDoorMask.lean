/-
  Small facts on numbers: a number's thirty low bits, of whatever sign.
-/
import Derived.Test.YtodbfgomkcmdgaaDoorMem
namespace Go.Proofs.YtodbfgomkcmdgaaDoor
open Go.RowKit
namespace Snap

/-- 'n & 0x3fffffff' is some number from 0 to 1073741823, whatever n is. -/
theorem mask30 (n : Int) : ∃ m : Nat, bits .and .i64 n 1073741823 = (m : Int) ∧ m ≤ 1073741823 := by
  have h1 : ((BitVec.ofInt 64 n) &&& (BitVec.ofInt 64 1073741823)).toNat ≤ 1073741823 := by
    rw [BitVec.toNat_and]
    have h2 : (BitVec.ofInt 64 1073741823).toNat = 1073741823 := by decide
    rw [h2]
    exact Nat.and_le_right
  refine ⟨((BitVec.ofInt 64 n) &&& (BitVec.ofInt 64 1073741823)).toNat, ?_, h1⟩
  show IntKind.i64.wrap (((BitVec.ofInt 64 n) &&& (BitVec.ofInt 64 1073741823)).toNat : Int) = _
  rw [IntKind.wrap_i64]
  omega

end Snap
end Go.Proofs.YtodbfgomkcmdgaaDoor

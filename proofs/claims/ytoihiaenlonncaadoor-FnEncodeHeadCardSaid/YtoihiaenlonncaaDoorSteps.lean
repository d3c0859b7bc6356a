/-
  Plain lemmas on 'step' and 'little': no program, no world.
-/
import Derived.Test.YtoihiaenlonncaaDoorHead
import Derived.Test.YtoihiaenlonncaaDoorMem
namespace Go.Proofs.YtoihiaenlonncaaDoor
open Go.RowKit
set_option linter.unusedVariables false
namespace Snap

theorem copyOut_succ' (out : Bs) (far i : Nat) : copyOut out far (i + 1) = copyOut out far i ++ [(copyOut out far i).getD (out.length + i - far) 0] := by
  rw [← copyOut_add far i 1]
  simp [copyOut, copyOut_length]

theorem nat_beq (a b : Nat) : ((a : Int) == (b : Int)) = decide (a = b) := by
  by_cases h : a = b
  · subst h; simp
  · rw [decide_eq_false h, beq_eq_false_iff_ne]
    omega

theorem step_lit_no {n x told : Nat} {b out : Bs} (h : item b = some ⟨false, x + 1, 0, told⟩) (hno : n < out.length + (x + 1) ∨ b.length < told + (x + 1)) : step n b out = none := by
  unfold step
  rw [h]
  simp only [Bool.false_eq_true, if_false]
  split
  · rfl
  · rw [if_pos (by omega)]

theorem step_lit_ok {n x told : Nat} {b out : Bs} (h : item b = some ⟨false, x + 1, 0, told⟩) (h1 : out.length + (x + 1) ≤ n) (h2 : told + (x + 1) ≤ b.length) : step n b out = some (b.drop (told + (x + 1)), out ++ (b.drop told).take (x + 1)) := by
  unfold step
  rw [h]
  simp only [Bool.false_eq_true, if_false]
  rw [if_neg (by omega), if_neg (by omega)]

theorem step_copy_no {n len far told : Nat} {b out : Bs} (h : item b = some ⟨true, len, far, told⟩) (hno : far = 0 ∨ out.length < far ∨ n < out.length + len) : step n b out = none := by
  unfold step
  rw [h]
  simp only [if_true]
  split
  · rfl
  · rw [if_pos (by omega)]

theorem step_copy_ok {n len far told : Nat} {b out : Bs} (h : item b = some ⟨true, len, far, told⟩) (hok : ¬ (far = 0 ∨ out.length < far ∨ n < out.length + len)) : step n b out = some (b.drop told, copyOut out far len) := by
  unfold step
  rw [h]
  simp only [if_true]
  rw [if_neg (by omega), if_neg (by omega)]

theorem step_item_none {n : Nat} {b out : Bs} (h : item b = none) : step n b out = none := by
  unfold step
  rw [h]

theorem little_one (ys : Bs) (s : Nat) (h : s + 1 ≤ ys.length) : little (ys.drop s) 1 = some (ys.getD s 0).toNat := by
  rw [drop_cons_getD ys s (by omega)]
  simp [little, leN]
theorem little_two (ys : Bs) (s : Nat) (h : s + 2 ≤ ys.length) : little (ys.drop s) 2 = some ((ys.getD s 0).toNat + 256 * (ys.getD (s + 1) 0).toNat) := by
  rw [drop_cons_getD ys s (by omega), drop_cons_getD ys (s + 1) (by omega)]
  simp [little, leN]
theorem little_three (ys : Bs) (s : Nat) (h : s + 3 ≤ ys.length) : little (ys.drop s) 3 = some ((ys.getD s 0).toNat + 256 * (ys.getD (s + 1) 0).toNat + 65536 * (ys.getD (s + 2) 0).toNat) := by
  rw [drop_cons_getD ys s (by omega), drop_cons_getD ys (s + 1) (by omega), drop_cons_getD ys (s + 2) (by omega)]
  simp [little, leN]
  omega
theorem little_four (ys : Bs) (s : Nat) (h : s + 4 ≤ ys.length) : little (ys.drop s) 4 = some ((ys.getD s 0).toNat + 256 * (ys.getD (s + 1) 0).toNat + 65536 * (ys.getD (s + 2) 0).toNat + 16777216 * (ys.getD (s + 3) 0).toNat) := by
  rw [drop_cons_getD ys s (by omega), drop_cons_getD ys (s + 1) (by omega), drop_cons_getD ys (s + 2) (by omega), drop_cons_getD ys (s + 3) (by omega)]
  simp [little, leN]
  omega
theorem little_lack (ys : Bs) (s k : Nat) (h : ys.length < s + k) (hk : 1 ≤ k) : little (ys.drop s) k = none := by
  unfold little
  rw [List.length_drop, if_pos (by omega)]

theorem item_tag0s {t : UInt8} {r : Bs} (h : t.toNat % 4 = 0) (h1 : t.toNat / 4 < 60) : item (t :: r) = some ⟨false, t.toNat / 4 + 1, 0, 1⟩ := by
  simp only [item, h, h1, if_true]
theorem item_tag0l {t : UInt8} {r : Bs} (h : t.toNat % 4 = 0) (k : Nat) (h1 : t.toNat / 4 = 59 + k) (hk : 1 ≤ k) : item (t :: r) = (little r k).map fun n => ⟨false, n + 1, 0, k + 1⟩ := by
  simp only [item, h, if_true]
  rw [if_neg (by omega), h1, show 59 + k - 59 = k from by omega, show 59 + k - 58 = k + 1 from by omega]
theorem item_tag1 {t : UInt8} {r : Bs} (h : t.toNat % 4 = 1) : item (t :: r) = (little r 1).map fun low => ⟨true, t.toNat / 4 % 8 + 4, t.toNat / 4 / 8 * 256 + low, 2⟩ := by
  simp only [item, h, if_true]
  rw [if_neg (by decide)]
theorem item_tag2 {t : UInt8} {r : Bs} (h : t.toNat % 4 = 2) : item (t :: r) = (little r 2).map fun far => ⟨true, t.toNat / 4 + 1, far, 3⟩ := by
  simp only [item, h, if_true]
  rw [if_neg (by decide), if_neg (by decide)]
theorem item_tag3 {t : UInt8} {r : Bs} (h : t.toNat % 4 = 3) : item (t :: r) = (little r 4).map fun far => ⟨true, t.toNat / 4 + 1, far, 5⟩ := by
  simp only [item, h]
  rw [if_neg (by decide), if_neg (by decide), if_neg (by decide)]

end Snap
end Go.Proofs.YtoihiaenlonncaaDoor

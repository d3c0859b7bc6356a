/-
  snappy.emitCopy, whole.
-/
import Derived.Test.YtoihiaenlonncaaDoorEmitCopy
namespace Go.Proofs.YtoihiaenlonncaaDoor
open Go.RowKit
set_option linter.unusedVariables false
namespace Snap

/-- The last copy. -/
def lastC (off len : Nat) : Bs := if 12 ≤ len ∨ 2048 ≤ off then copyL 2 len off else copyL 1 len off

/-- The copies behind the long ones. -/
def tailC (off len : Nat) : Bs := if 64 < len then copyL 2 60 off ++ lastC off (len - 60) else lastC off len

/-- All copies. -/
def copiesF : Nat → Nat → Nat → Bs
  | 0, off, len => tailC off len
  | k + 1, off, len => if 68 ≤ len then copyL 2 64 off ++ copiesF k off (len - 64) else tailC off len

def copies (off len : Nat) : Bs := copiesF len off len

theorem copyL2_len (len off : Nat) : (copyL 2 len off).length = 3 := by
  unfold copyL
  rw [if_neg (by decide)]
  simp [leB_length]

theorem copyL1_len (len off : Nat) : (copyL 1 len off).length = 2 := by
  unfold copyL
  rw [if_pos rfl]
  rfl

theorem copiesF_enough : ∀ (k j off len : Nat), len ≤ k → len ≤ j → copiesF k off len = copiesF j off len := by
  intro k
  induction k with
  | zero =>
    intro j off len hk _
    cases j with
    | zero => rfl
    | succ j => simp only [copiesF]; rw [if_neg (by omega)]
  | succ k ih =>
    intro j off len hk hj
    cases j with
    | zero => simp only [copiesF]; rw [if_neg (by omega)]
    | succ j =>
      simp only [copiesF]
      by_cases h : 68 ≤ len
      · rw [if_pos h, if_pos h, ih j off (len - 64) (by omega) (by omega)]
      · rw [if_neg h, if_neg h]

theorem copies_long {off len : Nat} (h : 68 ≤ len) : copies off len = copyL 2 64 off ++ copies off (len - 64) := by
  unfold copies
  obtain ⟨k, rfl⟩ : ∃ k, len = k + 1 := ⟨len - 1, by omega⟩
  simp only [copiesF]
  rw [if_pos h, copiesF_enough k (k + 1 - 64) off (k + 1 - 64) (by omega) (Nat.le_refl _)]

theorem copies_short {off len : Nat} (h : len < 68) : copies off len = tailC off len := by
  unfold copies
  cases len with
  | zero => rfl
  | succ k => simp only [copiesF]; rw [if_neg (by omega)]

theorem lastC_len (off len : Nat) : 2 ≤ (lastC off len).length ∧ (lastC off len).length ≤ 3 := by
  unfold lastC
  split
  · rw [copyL2_len]; omega
  · rw [copyL1_len]; omega

theorem copies_len : ∀ (k off len : Nat), len ≤ k → 4 ≤ len → 2 ≤ (copies off len).length ∧ (copies off len).length + 1 ≤ len := by
  intro k
  induction k with
  | zero => intro off len hk h4; omega
  | succ k ih =>
    intro off len hk h4
    by_cases h : 68 ≤ len
    · rw [copies_long h, List.length_append, copyL2_len]
      have := ih off (len - 64) (by omega) (by omega)
      omega
    · rw [copies_short (by omega)]
      unfold tailC
      split
      · rw [List.length_append, copyL2_len]
        have := lastC_len off (len - 60)
        omega
      · have := lastC_len off len
        omega

theorem elem_two (T : Bs) {off len : Nat} (h1 : 1 ≤ len) (h2 : len ≤ 64) (ho : 1 ≤ off) (ho2 : off ≤ 65535) (hT : off ≤ T.length) : Elem T (copyL 2 len off) (copyOut T off len) :=
  elem_copy (by unfold fitsL; rw [if_neg (by decide), if_pos rfl]; exact decide_eq_true ⟨h1, h2, by omega⟩) ho hT

theorem lastC_chain (T : Bs) {off len : Nat} (h1 : 4 ≤ len) (h2 : len ≤ 64) (ho : 1 ≤ off) (ho2 : off ≤ 65535) (hT : off ≤ T.length) : Chain T (lastC off len) (copyOut T off len) := by
  unfold lastC
  split
  · exact Chain.one (elem_two T (by omega) h2 ho ho2 hT)
  · rename_i hc
    exact Chain.one (elem_copy (by unfold fitsL; rw [if_pos rfl]; exact decide_eq_true ⟨h1, by omega, by omega⟩) ho hT)

theorem copies_chain : ∀ (k : Nat) (T : Bs) (off len : Nat), len ≤ k → 4 ≤ len → 1 ≤ off → off ≤ 65535 → off ≤ T.length → Chain T (copies off len) (copyOut T off len) := by
  intro k
  induction k with
  | zero => intro T off len hk h4; omega
  | succ k ih =>
    intro T off len hk h4 ho ho2 hT
    by_cases h : 68 ≤ len
    · rw [copies_long h]
      have e1 := elem_two T (len := 64) (by omega) (by omega) ho ho2 hT
      have e2 := ih (copyOut T off 64) off (len - 64) (by omega) (by omega) ho ho2 (by rw [copyOut_length]; omega)
      rw [copyOut_add, show 64 + (len - 64) = len from by omega] at e2
      exact Chain.cons e1 e2
    · rw [copies_short (by omega)]
      unfold tailC
      split
      · have e1 := elem_two T (len := 60) (by omega) (by omega) ho ho2 hT
        have e2 := lastC_chain (copyOut T off 60) (len := len - 60) (by omega) (by omega) ho ho2 (by rw [copyOut_length]; omega)
        rw [copyOut_add, show 60 + (len - 60) = len from by omega] at e2
        exact Chain.cons e1 e2
      · exact lastC_chain T h4 (by omega) ho ho2 hT

end Snap
end Go.Proofs.YtoihiaenlonncaaDoor

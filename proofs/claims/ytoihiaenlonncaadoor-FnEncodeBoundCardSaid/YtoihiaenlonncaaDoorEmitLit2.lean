/-
  snappy.emitLiteral, whole.
-/
import Derived.Test.YtoihiaenlonncaaDoorEmitLit
namespace Go.Proofs.YtoihiaenlonncaaDoor
open Go.RowKit
set_option linter.unusedVariables false
namespace Snap

/-- How many bytes the head of a literal has. -/
def litHead (m : Nat) : Nat := if m ≤ 60 then 1 else if m ≤ 256 then 2 else 3

theorem litL_len (xs : Bs) (h1 : 1 ≤ xs.length) (h2 : xs.length ≤ 65536) : (litL xs 0).length = xs.length + litHead xs.length := by
  unfold litL litHead
  dsimp only
  by_cases a1 : xs.length ≤ 60
  · rw [if_pos (litM_short (by omega)), if_pos a1]
    simp
  · by_cases a2 : xs.length ≤ 256
    · rw [litM_one (by omega) (by omega), if_neg (by decide), if_neg a1, if_pos a2]
      simp [leB_length]
      omega
    · rw [litM_two (by omega) (by omega), if_neg (by decide), if_neg a1, if_neg a2]
      simp [leB_length]
      omega

theorem emitLiteral_any (g o n c N b off m cl : Nat) (xs out : Bs) (w : World) (hs : Src w g b off m xs) (hm1 : 1 ≤ m) (hm2 : m ≤ 65536) (hout : out.length = o) (hN : o + n ≤ N) (hnc : n ≤ c) (hn : m + litHead m ≤ n) (hcl : m ≤ cl) (hNb : N ≤ 4294967295) (hd : Dst w g N out) :
    Calls Tryd.prog 23 #[.slice (some ⟨g, o, none⟩) n c, .slice (some ⟨b, off, none⟩) m cl] w (Laid w g N out (litL xs 0)) := by
  obtain ⟨k, rfl⟩ : ∃ k, m = k + 1 := ⟨m - 1, by omega⟩
  unfold litHead at hn
  by_cases a1 : k < 60
  · rw [if_pos (by omega)] at hn
    exact emitLiteral_short g o n c N b off k cl xs out w hs a1 hout hN hnc hn hcl hNb hd
  · rw [if_neg (by omega)] at hn
    by_cases a2 : k < 256
    · rw [if_pos (by omega)] at hn
      exact emitLiteral_one g o n c N b off k cl xs out w hs (by omega) a2 hout hN hnc hn hcl hNb hd
    · rw [if_neg (by omega)] at hn
      exact emitLiteral_two g o n c N b off k cl xs out w hs (by omega) (by omega) hout hN hnc hn hcl hNb hd

end Snap
end Go.Proofs.YtoihiaenlonncaaDoor

/-
  What snappy.encodeBlock has said so far: plain lists.
-/
import Derived.Test.YtoihiaenlonncaaDoorEmitCopy2
namespace Go.Proofs.YtoihiaenlonncaaDoor
open Go.RowKit
set_option linter.unusedVariables false
namespace Snap

/-- The elements 'e' say k bytes of xs behind the text T0, and are not too long. -/
structure Told (T0 xs e : Bs) (k slack : Nat) : Prop where
  chain : Chain T0 e (T0 ++ xs.take k)
  cost : 60 * e.length ≤ 61 * k + slack

theorem Told.nil (T0 xs : Bs) : Told T0 xs [] 0 0 := ⟨by simpa using Chain.nil T0, by simp⟩

theorem Told.lit {T0 xs e : Bs} {ne s : Nat} (h : Told T0 xs e ne 0) (h1 : ne < s) (h2 : s ≤ xs.length) (h3 : s - ne ≤ 65536) : Told T0 xs (e ++ litL ((xs.drop ne).take (s - ne)) 0) s 60 := by
  have hl : ((xs.drop ne).take (s - ne)).length = s - ne := by rw [List.length_take, List.length_drop]; omega
  have hc := h.cost
  refine ⟨h.chain.snoc ?_, ?_⟩
  · have he := elem_lit (T0 ++ xs.take ne) ((xs.drop ne).take (s - ne)) 0 (by omega) (by omega) (by omega)
    have hx : T0 ++ xs.take ne ++ (xs.drop ne).take (s - ne) = T0 ++ xs.take s := by
      rw [List.append_assoc, ← List.take_add, show ne + (s - ne) = s from by omega]
    rw [hx] at he
    exact he
  · rw [List.length_append, litL_len _ (by omega) (by omega), hl]
    unfold litHead
    repeat' split
    all_goals omega

theorem Told.copy {T0 xs e : Bs} {bs ca L : Nat} (h : Told T0 xs e bs 60) (h1 : ca < bs) (h2 : bs ≤ 65535) (h4 : 4 ≤ L) (hl : bs + L ≤ xs.length) (hm : ∀ j, j < L → xs.getD (ca + j) 0 = xs.getD (bs + j) 0) : Told T0 xs (e ++ copies (bs - ca) L) (bs + L) 0 := by
  have hc := h.cost
  refine ⟨h.chain.trans ?_, ?_⟩
  · have hk := copies_chain L (T0 ++ xs.take bs) (bs - ca) L (Nat.le_refl _) h4 (by omega) (by omega) (by rw [List.length_append, List.length_take]; omega)
    have ht := copyOut_take (T0 ++ xs) (bs - ca) (by omega) L (T0.length + bs) (by omega) (by rw [List.length_append]; omega) ?_
    · have k1 : ∀ m, (T0 ++ xs).take (T0.length + m) = T0 ++ xs.take m := fun m => by
        rw [List.take_append, List.take_of_length_le (by omega), show T0.length + m - T0.length = m from by omega]
      rw [Nat.add_assoc, k1, k1] at ht
      rw [ht] at hk
      exact hk
    · intro k hk'
      have e1 : (T0 ++ xs).getD (T0.length + bs + k) 0 = xs.getD (bs + k) 0 := by
        rw [List.getD_eq_getElem?_getD, List.getElem?_append_right (by omega), List.getD_eq_getElem?_getD, show T0.length + bs + k - T0.length = bs + k from by omega]
      have e2 : (T0 ++ xs).getD (T0.length + bs + k - (bs - ca)) 0 = xs.getD (ca + k) 0 := by
        rw [List.getD_eq_getElem?_getD, List.getElem?_append_right (by omega), List.getD_eq_getElem?_getD, show T0.length + bs + k - (bs - ca) - T0.length = ca + k from by omega]
      rw [e1, e2]
      exact (hm k hk').symm
  · have := copies_len L (bs - ca) L (Nat.le_refl _) h4
    rw [List.length_append]
    omega

end Snap
end Go.Proofs.YtoihiaenlonncaaDoor

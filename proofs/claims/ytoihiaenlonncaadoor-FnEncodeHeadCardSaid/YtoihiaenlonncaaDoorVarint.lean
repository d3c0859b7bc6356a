/-
  spec.Varint: it returns the varint of a length, in memory of its own; nothing that was there has turned.
-/
import Derived.Test.YtoihiaenlonncaaDoorMem
namespace Go.Proofs.YtoihiaenlonncaaDoor
open Go.RowKit
namespace Snap

theorem varF_length_le : ∀ (k f n : Nat), n < 128 ^ (k + 1) → n ≤ f → (varF f n).length ≤ k + 1 := by
  intro k
  induction k with
  | zero =>
    intro f n h _
    cases f with
    | zero => simp [varF]
    | succ f => simp only [Nat.zero_add, Nat.pow_one] at h; simp [varF, h]
  | succ k ih =>
    intro f n h hf
    cases f with
    | zero => simp [varF]
    | succ f =>
      simp only [varF]
      split
      · simp
      · have hd : n / 128 < 128 ^ (k + 1) := by
          rw [Nat.div_lt_iff_lt_mul (by decide), ← Nat.pow_succ]
          exact h
        have := ih f (n / 128) hd (by omega)
        simp only [List.length_cons]
        omega

theorem varL_length_le (n : Nat) (h : n < 8589934592) : (varL n).length ≤ 5 :=
  varF_length_le 4 n n (by rw [show (128 : Nat) ^ (4 + 1) = 34359738368 from by decide]; omega) (Nat.le_refl _)

set_option maxRecDepth 100000 in
set_option maxHeartbeats 400000 in
theorem Varint_any (n : Nat) (hn : n < 8589934592) (w : World) : Calls Tryd.prog 11 #[.int .i64 (n : Int)] w (Gives w (varL n)) := by
  have hlen := varL_length_le n hn
  go_enter Tryd.func11, Tryd.ntmps11
  go_wp2
  go_loopw [0, 3] (fun vn vo wr => ∃ (m : Nat) (acc : Bs), vn = .int .i64 (m : Int) ∧ m ≤ n ∧ Own wr w.heap.size vo acc ∧ Below w.heap.size w wr ∧ acc.length + (varL m).length ≤ 5 ∧ Hid (acc ++ varL m = varL n)) (fun vn _ _ => (intOf vn).toNat)
  case atStart => exact ⟨n, [], rfl, Nat.le_refl _, Own.nil _ _, Below.refl _ _, by simpa using hlen, hide rfl⟩
  case round =>
    obtain ⟨m, acc, rfl, hmn, hown, hbel, hl, hacc⟩ := hrel
    have hsz := hbel.size
    by_cases hm : 128 ≤ m
    · have hstep : varL m = UInt8.ofNat (m % 128 + 128) :: varL (m / 128) := varL_large hm
      have hl' : acc.length + 1 + (varL (m / 128)).length ≤ 5 := by rw [hstep, List.length_cons] at hl; omega
      have HA : Hid (acc ++ [UInt8.ofNat (m % 128 + 128)] ++ varL (m / 128) = varL n) := by
        unfold Hid
        rw [List.append_assoc, ← hacc.out, hstep]
        rfl
      have hb : (((UInt8.ofNat (m % 128 + 128)).toNat : Nat) : Int) = (m : Int) % 128 + 128 := by
        rw [toNat_ofNat (by omega)]; omega
      have HB := hide hb
      clear hb hstep hacc hl
      go_wp2_with (at_builtin; refine append_own rfl (.tmp 6) (.tmp 11) rfl w.heap.size w u3 acc rfl (hown.alloc _) (hbel.alloc hbel.size _) (wr.heap.size + 1) (some ⟨wr.heap.size, 0, none⟩) 1 1 [UInt8.ofNat (m % 128 + 128)] rfl (Rd.one _ _ _ HB.out.symm) (by simp; omega) (by simp; omega) ?_; intro v' w1 hown1 hgrow1 hbel1)
      clear hown hbel hgrow1
      go_roundw
      case rel => exact ⟨m / 128, acc ++ [UInt8.ofNat (m % 128 + 128)], by go_num, by omega, hown1, hbel1, by simp; omega, HA⟩
      case measure => simp [intOf]; omega
    · have hm' : m < 128 := by omega
      have hstep : varL m = [UInt8.ofNat m] := varL_small hm'
      have HA : Hid (acc ++ [UInt8.ofNat m] = varL n) := by
        unfold Hid
        rw [← hacc.out, hstep]
      have hl' : acc.length + 1 ≤ 5 := by rw [hstep] at hl; exact hl
      have hb : (((UInt8.ofNat m).toNat : Nat) : Int) = (m : Int) := by
        rw [toNat_ofNat (by omega)]
      have HB := hide hb
      clear hb hstep hacc hl
      go_wp2_with (at_builtin; refine append_own rfl (.tmp 15) (.tmp 18) rfl w.heap.size w u3 acc rfl (hown.alloc _) (hbel.alloc hbel.size _) (wr.heap.size + 1) (some ⟨wr.heap.size, 0, none⟩) 1 1 [UInt8.ofNat m] rfl (Rd.one _ _ _ HB.out.symm) (by simp; omega) (by simp; omega) ?_; intro v' w1 hown1 hgrow1 hbel1)
      go_ret
      rw [HA.out] at hown1
      exact ⟨_, rfl, hown1, hbel1⟩

end Snap
end Go.Proofs.YtoihiaenlonncaaDoor

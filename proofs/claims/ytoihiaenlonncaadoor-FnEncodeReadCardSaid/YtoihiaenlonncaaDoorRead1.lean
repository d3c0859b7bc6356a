/-
  Functions that only read bytes: spec.Same (at two texts that are the same), spec.little.
-/
import Derived.Test.YtoihiaenlonncaaDoorMem
namespace Go.Proofs.YtoihiaenlonncaaDoor
open Go.RowKit
namespace Snap

set_option maxRecDepth 100000 in
set_option maxHeartbeats 400000 in
theorem Same_any (A A' : Option Addr) (n c c' B B' : Nat) (xs : Bs) (w : World) (hx : Rd w B A n xs) (hy : Rd w B' A' n xs) (hn : n ≤ 4294967295) :
    Calls Tryd.prog 13 #[.slice A n c, .slice A' n c'] w (Quiet w (.bool true)) := by
  by_cases h0 : n = 0
  · subst h0
    clear hx hy hn
    go_enter Tryd.func13, Tryd.ntmps13
    go_wp2
    go_loop [13] (fun i => i = .int .i64 0) (fun _ => 0)
    case atStart => rfl
    case round =>
      subst hrel
      go_wp2
      go_ret
      exact ⟨rfl, 0, rfl⟩
  · obtain ⟨b, off, rfl, _, hc⟩ := hx.at_ (by omega)
    obtain ⟨b', off', rfl, _, hc'⟩ := hy.at_ (by omega)
    clear hx hy
    have HC := hide hc
    have HC' := hide hc'
    clear hc hc'
    go_enter Tryd.func13, Tryd.ntmps13
    go_wp2
    go_loopw [13] (fun i wr => ∃ k q : Nat, k ≤ n ∧ i = .int .i64 k ∧ wr = w.drewN q) (fun i _ => n - (intOf i).toNat)
    case atStart => exact ⟨0, 0, Nat.zero_le _, rfl, rfl⟩
    case round =>
      obtain ⟨k, q, hk, rfl, rfl⟩ := hrel
      by_cases hlt : k < n
      · have g1 : w.cell? ⟨b, off + k, none⟩ = some (.int .u8 ((xs.getD k 0).toNat : Int)) := HC.out k hlt
        have g2 : w.cell? ⟨b', off' + k, none⟩ = some (.int .u8 ((xs.getD k 0).toNat : Int)) := HC'.out k hlt
        generalize (xs.getD k 0).toNat = x at g1 g2
        have l1 : (0 : Int) ≤ (k : Int) := by omega
        have l2 : (k : Int) < (n : Int) := by omega
        go_wp2_with fail
        go_quiet (fail)
        go_wp2
        go_roundw
        case rel => exact ⟨k + 1, _, by omega, by go_num, rfl⟩
        case measure => simp [intOf]; omega
      · go_wp2
        go_ret
        exact ⟨rfl, _, rfl⟩

def littleV (xs : Bs) (m : Nat) : Int := match little xs m with | none => -1 | some v => (v : Int)

set_option maxRecDepth 100000 in
set_option maxHeartbeats 400000 in
theorem little_any (A : Option Addr) (n c B m : Nat) (xs : Bs) (w : World) (hx : Rd w B A n xs) (hn : n ≤ 4294967295) (h1 : 1 ≤ m) (h4 : m ≤ 4) :
    Calls Tryd.prog 25 #[.slice A n c, .int .i64 (m : Int)] w fun e w' => e = .returned (.int .i64 (littleV xs m)) ∧ w = w' := by
  have hl := hx.len
  by_cases hs : n < m
  · have hv : littleV xs m = -1 := by unfold littleV little; rw [if_pos (by omega)]
    rw [hv]
    clear hx hl hv
    go_enter Tryd.func25, Tryd.ntmps25
    go_wp2
    go_ret
    exact ⟨rfl, rfl⟩
  · have hv : littleV xs m = (leN (xs.take m) : Int) := by unfold littleV little; rw [if_neg (by omega)]
    rw [hv]
    clear hv
    have hms : m ≤ n := by omega
    obtain ⟨b, off, rfl, _, hc⟩ := hx.at_ (by omega)
    have hlt4 : leN (xs.take m) < 4294967296 := by
      have h := leN_lt (xs.take m)
      have hlen : (xs.take m).length ≤ 4 := by rw [List.length_take]; omega
      exact Nat.lt_of_lt_of_le h (Nat.pow_le_pow_right (by decide) hlen)
    have hbd : ∀ j, leN ((xs.take m).drop j) ≤ leN (xs.take m) := by
      intro j
      have key : ∀ (l : Bs) (j : Nat), leN (l.drop j) ≤ leN l := by
        intro l
        induction l with
        | nil => intro j; simp
        | cons x r ih =>
          intro j
          cases j with
          | zero => simp
          | succ j =>
            have := ih j
            simp only [List.drop_succ_cons, leN]
            omega
      exact key _ _
    have hstep : ∀ j, j < m → leN ((xs.take m).drop j) = (xs.getD j 0).toNat + 256 * leN ((xs.take m).drop (j + 1)) := by
      intro j hj
      rw [drop_cons_getD _ j (by rw [List.length_take]; omega)]
      simp only [leN]
      congr 2
      simp only [List.getD_eq_getElem?_getD]
      rw [List.getElem?_take_of_lt hj]
    generalize hV : leN (xs.take m) = V at hlt4 hbd ⊢
    obtain ⟨f, hf⟩ : ∃ f : Nat → Nat, f = fun j => leN ((xs.take m).drop j) := ⟨_, rfl⟩
    have hf0 : f 0 = V := by rw [hf]; exact hV
    have hfm : f m = 0 := by
      rw [hf]
      show leN ((xs.take m).drop m) = 0
      rw [List.drop_of_length_le (by rw [List.length_take]; omega)]
      rfl
    have hfb : ∀ j, f j ≤ V := by intro j; rw [hf]; exact hbd j
    have hfs : ∀ j, j < m → f j = (xs.getD j 0).toNat + 256 * f (j + 1) := by intro j hj; rw [hf]; exact hstep j hj
    have HC := hide hc
    have H0 := hide hf0
    have HM := hide hfm
    have HB := hide hfb
    have HS := hide hfs
    clear hc hbd hstep hV hf hf0 hfm hfb hfs hx hl
    go_enter Tryd.func25, Tryd.ntmps25
    go_wp2
    go_loop [5, 6] (fun vn vi => ∃ j : Nat, j ≤ m ∧ vi = .int .i64 ((j : Int) - 1) ∧ vn = .int .i64 (f j : Int)) (fun _ vi => (intOf vi + 1).toNat)
    case atStart => exact ⟨m, Nat.le_refl _, rfl, by rw [HM.out]; rfl⟩
    case round =>
      obtain ⟨j, hj, rfl, rfl⟩ := hrel
      by_cases hpos : 1 ≤ j
      · obtain ⟨i, rfl⟩ : ∃ i, j = i + 1 := ⟨j - 1, by omega⟩
        have g1 : w.cell? ⟨b, off + i, none⟩ = some (.int .u8 ((xs.getD i 0).toNat : Int)) := HC.out i (by omega)
        have hx256 := (xs.getD i 0).toNat_lt
        have hfi := HS.out i (by omega)
        have hb1 := HB.out i
        have HF := hide hfi
        have hb2 : (xs.getD i 0).toNat + 256 * f (i + 1) ≤ V := by rw [← hfi]; exact hb1
        clear hfi hb1
        generalize (xs.getD i 0).toNat = x at g1 hx256 HF hb2
        generalize hfv : f (i + 1) = y at HF hb2 ⊢
        clear hfv
        have ei : ((i + 1 : Nat) : Int) - 1 = (i : Int) := by omega
        rw [ei]
        clear ei
        go_wp2
        go_round
        case rel => exact ⟨i, by omega, rfl, by rw [HF.out]; go_num⟩
        case measure => simp [intOf]
      · obtain rfl : j = 0 := by omega
        have e0 : ((0 : Nat) : Int) - 1 = -1 := rfl
        rw [e0]
        clear e0
        go_wp2
        go_ret
        exact ⟨by rw [H0.out]; rfl, rfl⟩

end Snap
end Go.Proofs.YtoihiaenlonncaaDoor

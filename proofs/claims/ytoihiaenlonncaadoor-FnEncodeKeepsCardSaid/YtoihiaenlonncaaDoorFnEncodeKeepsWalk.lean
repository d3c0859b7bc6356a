/-
  The law FnEncodeKeeps, walked: it returns true.
-/
import Derived.Test.YtoihiaenlonncaaDoorEnc3
namespace Go.Proofs.YtoihiaenlonncaaDoor
open Go.RowKit
set_option linter.unusedVariables false
namespace Snap

set_option maxRecDepth 100000 in
set_option maxHeartbeats 800000 in
theorem FnEncodeKeeps_long (A0 : Option Addr) (n0 c0 : Nat) (A : Option Addr) (n c : Nat) (w : World) (hn : 2147483647 < n0 ∨ 2147483647 < n) : Calls Tryd.prog 6 #[.slice A0 n0 c0, .slice A n c] w (Yes w) := by
  by_cases h : 2147483647 < n0
  · clear hn
    have hd : decide ((2147483647 : Int) < (n0 : Int)) = true := decide_eq_true (by omega)
    go_enter Tryd.func6, Tryd.ntmps6
    go_wp2
    go_ret
    exact ⟨rfl, Below.refl _ _⟩
  · have h1 : n0 ≤ 2147483647 := by omega
    have h2 : 2147483647 < n := by omega
    have hd : decide ((2147483647 : Int) < (n0 : Int)) = false := decide_eq_false (by omega)
    have hd2 : decide ((2147483647 : Int) < (n : Int)) = true := decide_eq_true (by omega)
    clear hn h
    go_enter Tryd.func6, Tryd.ntmps6
    go_wp2
    go_ret
    exact ⟨rfl, Below.refl _ _⟩

set_option maxRecDepth 100000 in
set_option maxHeartbeats 800000 in
theorem FnEncodeKeeps_large (A0 : Option Addr) (n0 c0 : Nat) (A : Option Addr) (n c : Nat) (w : World) (hn0 : n0 ≤ 2147483647) (hn : n ≤ 2147483647) (h : 1000000 < n) : Calls Tryd.prog 6 #[.slice A0 n0 c0, .slice A n c] w (Yes w) := by
  have hs := common_any A n c w
  rw [decide_eq_false (show ¬ n ≤ 1000000 by omega)] at hs
  have HS := hide hs
  have hd : decide ((2147483647 : Int) < (n0 : Int)) = false := decide_eq_false (by omega)
  have hd2 : decide ((2147483647 : Int) < (n : Int)) = false := decide_eq_false (by omega)
  clear hs
  go_enter Tryd.func6, Tryd.ntmps6
  go_wp2_with fail
  refine HS.out.mono ?_
  rintro e w' ⟨rfl, rfl⟩
  go_wp2
  go_ret
  exact ⟨rfl, Below.refl _ _⟩

set_option maxRecDepth 100000 in
set_option maxHeartbeats 800000 in
theorem FnEncodeKeeps_walk (A0 : Option Addr) (n0 c0 : Nat) (xs0 : Bs) (A : Option Addr) (n c : Nat) (xs : Bs) (w : World) (hx0 : Rd w w.heap.size A0 n0 xs0) (hA0 : A0 = none → n0 = 0) (hn0 : n0 ≤ 2147483647) (hx : Rd w w.heap.size A n xs) (hA : A = none → n = 0) (hn : n ≤ 1000000) : Calls Tryd.prog 6 #[.slice A0 n0 c0, .slice A n c] w (Yes w) := by
  have hs := common_any A n c w
  rw [decide_eq_true hn] at hs
  have HS := hide hs
  have hd : decide ((2147483647 : Int) < (n0 : Int)) = false := decide_eq_false (by omega)
  have hd2 : decide ((2147483647 : Int) < (n : Int)) = false := decide_eq_false (by omega)
  clear hs
  have HC := hide (iEncodeKeeps_any A0 n0 c0 xs0 A n c xs w hx0 hn0 hA0 hx hn hA)
  have HX := hide hx
  obtain rfl := hx.len
  clear hx hx0 hA0 hA
  go_enter Tryd.func6, Tryd.ntmps6
  go_wp2_with fail
  refine HS.out.mono ?_
  rintro e w' ⟨rfl, rfl⟩
  go_wp2_with fail
  refine HC.out.mono ?_
  rintro e w1 ⟨A1, c1, rfl, hr1, hb1⟩
  have HR := hide hr1
  have HX1 := hide (HX.out.below hb1)
  have HB := hide hb1
  clear hr1 hb1
  go_wp2_with fail
  refine (Same_any A1 A xs.length c1 c _ _ xs w1 HR.out HX1.out (by omega)).mono ?_
  rintro e w' ⟨rfl, k, rfl⟩
  go_wp2
  go_ret
  exact ⟨rfl, Below.drewN HB.out k⟩

theorem FnEncodeKeeps_total (w : World) (A0 : Option Addr) (n0 c0 : Nat) (xs0 : Bs) (hx0 : Rd w w.heap.size A0 n0 xs0) (hA0 : A0 = none → n0 = 0) (hnc0 : n0 ≤ c0) (A : Option Addr) (n c : Nat) (xs : Bs) (hx : Rd w w.heap.size A n xs) (hA : A = none → n = 0) (hnc : n ≤ c) :
    Calls Tryd.prog 6 #[.slice A0 n0 c0, .slice A n c] w (Yes w) := by
  by_cases h : 2147483647 < n0 ∨ 2147483647 < n
  · exact FnEncodeKeeps_long A0 n0 c0 A n c w h
  · by_cases hN : 1000000 < n
    · exact FnEncodeKeeps_large A0 n0 c0 A n c w (by omega) (by omega) hN
    · exact FnEncodeKeeps_walk A0 n0 c0 xs0 A n c xs w hx0 hA0 (by omega) hx hA (by omega)


end Snap
end Go.Proofs.YtoihiaenlonncaaDoor

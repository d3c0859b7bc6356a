/-
  The law FnEncodeBound, walked: it returns true.
-/
import Derived.Test.YtoihiaenlonncaaDoorEnc3
namespace Go.Proofs.YtoihiaenlonncaaDoor
open Go.RowKit
set_option linter.unusedVariables false
namespace Snap

set_option maxRecDepth 100000 in
set_option maxHeartbeats 800000 in
theorem FnEncodeBound_long (A : Option Addr) (n c : Nat) (w : World) (hn : 2147483647 < n) : Calls Tryd.prog 7 #[.slice A n c] w (Yes w) := by
  have hd : decide ((2147483647 : Int) < (n : Int)) = true := decide_eq_true (by omega)
  go_enter Tryd.func7, Tryd.ntmps7
  go_wp2
  go_ret
  exact ⟨rfl, Below.refl _ _⟩

set_option maxRecDepth 100000 in
set_option maxHeartbeats 800000 in
theorem FnEncodeBound_large (A : Option Addr) (n c : Nat) (w : World) (hn : n ≤ 2147483647) (h : 1000000 < n) : Calls Tryd.prog 7 #[.slice A n c] w (Yes w) := by
  have hs := common_any A n c w
  rw [decide_eq_false (show ¬ n ≤ 1000000 by omega)] at hs
  have HS := hide hs
  have hd2 : decide ((2147483647 : Int) < (n : Int)) = false := decide_eq_false (by omega)
  clear hs
  go_enter Tryd.func7, Tryd.ntmps7
  go_wp2_with fail
  refine HS.out.mono ?_
  rintro e w' ⟨rfl, rfl⟩
  go_wp2
  go_ret
  exact ⟨rfl, Below.refl _ _⟩

set_option maxRecDepth 100000 in
set_option maxHeartbeats 800000 in
theorem FnEncodeBound_walk (A : Option Addr) (n c : Nat) (xs : Bs) (w : World) (hx : Rd w w.heap.size A n xs) (hA : A = none → n = 0) (hn : n ≤ 1000000) : Calls Tryd.prog 7 #[.slice A n c] w (Yes w) := by
  have hs := common_any A n c w
  rw [decide_eq_true hn] at hs
  have HS := hide hs
  have hd2 : decide ((2147483647 : Int) < (n : Int)) = false := decide_eq_false (by omega)
  clear hs
  have HC := hide (iEncode_any A n c xs w hx hn hA)
  have HX := hide hx
  obtain rfl := hx.len
  clear hx hA
  go_enter Tryd.func7, Tryd.ntmps7
  go_wp2_with fail
  refine HS.out.mono ?_
  rintro e w' ⟨rfl, rfl⟩
  go_wp2_with fail
  refine HC.out.mono ?_
  rintro e w1 ⟨A1, c1, out, body, rfl, ho, hch, hcost, hoc, hrd, hb1⟩
  have hpos : 1 ≤ out.length := by
    have := List.length_pos_iff.2 (varL_ne xs.length)
    rw [ho, List.length_append]
    omega
  have hle : 60 * out.length ≤ 62 * xs.length + 360 := hcost
  have HB := hide hb1
  clear ho hch hcost hoc hrd hb1
  obtain ⟨q, hq⟩ : ∃ q, q = out.length := ⟨_, rfl⟩
  rw [← hq] at hpos hle ⊢
  clear hq
  have e1 : decide ((0 : Int) < (q : Int)) = true := decide_eq_true (by omega)
  have e2 : decide ((q : Int) ≤ 32 + (xs.length : Int) + (xs.length : Int) / 6) = true := decide_eq_true (by omega)
  go_wp2_with fail
  refine (iMaxLen_any xs.length (by omega) w1).mono ?_
  rintro e w2 ⟨rfl, rfl⟩
  go_wp2
  go_ret
  exact ⟨rfl, HB.out⟩

theorem FnEncodeBound_total (w : World) (A : Option Addr) (n c : Nat) (xs : Bs) (hx : Rd w w.heap.size A n xs) (hA : A = none → n = 0) (hnc : n ≤ c) :
    Calls Tryd.prog 7 #[.slice A n c] w (Yes w) := by
  by_cases h : 2147483647 < n
  · exact FnEncodeBound_long A n c w h
  · by_cases hN : 1000000 < n
    · exact FnEncodeBound_large A n c w (by omega) hN
    · exact FnEncodeBound_walk A n c xs w hx hA (by omega)


end Snap
end Go.Proofs.YtoihiaenlonncaaDoor

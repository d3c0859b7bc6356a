/-
  The law FnEncodeHead, walked: it returns true.
-/
import Derived.Test.YtoihiaenlonncaaDoorEnc3
namespace Go.Proofs.YtoihiaenlonncaaDoor
open Go.RowKit
set_option linter.unusedVariables false
namespace Snap

set_option maxRecDepth 100000 in
set_option maxHeartbeats 800000 in
theorem FnEncodeHead_long (A : Option Addr) (n c : Nat) (w : World) (hn : 2147483647 < n) : Calls Tryd.prog 3 #[.slice A n c] w (Yes w) := by
  have hd : decide ((2147483647 : Int) < (n : Int)) = true := decide_eq_true (by omega)
  go_enter Tryd.func3, Tryd.ntmps3
  go_wp2
  go_ret
  exact ⟨rfl, Below.refl _ _⟩

set_option maxRecDepth 100000 in
set_option maxHeartbeats 800000 in
theorem FnEncodeHead_large (A : Option Addr) (n c : Nat) (w : World) (hn : n ≤ 2147483647) (h : 1000000 < n) : Calls Tryd.prog 3 #[.slice A n c] w (Yes w) := by
  have hs := common_any A n c w
  rw [decide_eq_false (show ¬ n ≤ 1000000 by omega)] at hs
  have HS := hide hs
  have hd2 : decide ((2147483647 : Int) < (n : Int)) = false := decide_eq_false (by omega)
  clear hs
  go_enter Tryd.func3, Tryd.ntmps3
  go_wp2_with fail
  refine HS.out.mono ?_
  rintro e w' ⟨rfl, rfl⟩
  go_wp2
  go_ret
  exact ⟨rfl, Below.refl _ _⟩

set_option maxRecDepth 100000 in
set_option maxHeartbeats 800000 in
theorem FnEncodeHead_walk (A : Option Addr) (n c : Nat) (xs : Bs) (w : World) (hx : Rd w w.heap.size A n xs) (hA : A = none → n = 0) (hn : n ≤ 1000000) : Calls Tryd.prog 3 #[.slice A n c] w (Yes w) := by
  have hs := common_any A n c w
  rw [decide_eq_true hn] at hs
  have HS := hide hs
  have hd2 : decide ((2147483647 : Int) < (n : Int)) = false := decide_eq_false (by omega)
  clear hs
  have HC := hide (iEncode_any A n c xs w hx hn hA)
  have HX := hide hx
  obtain rfl := hx.len
  clear hx hA
  go_enter Tryd.func3, Tryd.ntmps3
  go_wp2_with fail
  refine HS.out.mono ?_
  rintro e w' ⟨rfl, rfl⟩
  go_wp2_with fail
  refine HC.out.mono ?_
  rintro e w1 ⟨A1, c1, out, body, rfl, ho, hch, hcost, hoc, hrd, hb1⟩
  have HV := hide (Varint_any xs.length (by omega) w1)
  have hob : out.length ≤ 4294967295 := by omega
  have HO := hide ho
  have HR := hide hrd
  have HB := hide hb1
  have HOC := hide hoc
  clear ho hch hcost hoc hrd hb1
  go_wp2_with fail
  refine HV.out.mono ?_
  rintro e w2 ⟨v2, rfl, ho2, hb2⟩
  obtain ⟨A2, c2, rfl, _, _, hr2, _⟩ := ho2.form
  have hr1 := HR.out.below hb2
  have hz := HB.out.size
  have hS := starts_yes A1 A2 out.length c1 (varL xs.length).length c2 _ _ body (varL xs.length) w2 (by have := HO.out; rw [← this]; exact hr1) HOC.out hr2 hob
  have HST := hide hS
  have HB2 := hide (HB.out.trans (hb2.mono hz))
  clear ho2 hb2 hr2 hr1 hS HV HO HR
  generalize (varL xs.length).length = vl at *
  go_wp2_with fail
  refine HST.out.mono ?_
  rintro e w3 ⟨rfl, k, rfl⟩
  go_wp2
  go_ret
  exact ⟨rfl, Below.drewN HB2.out k⟩

theorem FnEncodeHead_total (w : World) (A : Option Addr) (n c : Nat) (xs : Bs) (hx : Rd w w.heap.size A n xs) (hA : A = none → n = 0) (hnc : n ≤ c) :
    Calls Tryd.prog 3 #[.slice A n c] w (Yes w) := by
  by_cases h : 2147483647 < n
  · exact FnEncodeHead_long A n c w h
  · by_cases hN : 1000000 < n
    · exact FnEncodeHead_large A n c w (by omega) hN
    · exact FnEncodeHead_walk A n c xs w hx hA (by omega)


end Snap
end Go.Proofs.YtoihiaenlonncaaDoor

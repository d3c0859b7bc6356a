/-
  The law FnEncodeRead, walked: it returns true.
-/
import Derived.Test.YtoihiaenlonncaaDoorEnc3
import Derived.Test.YtoihiaenlonncaaDoorRead5E
namespace Go.Proofs.YtoihiaenlonncaaDoor
open Go.RowKit
set_option linter.unusedVariables false
namespace Snap

set_option maxRecDepth 100000 in
set_option maxHeartbeats 800000 in
theorem FnEncodeRead_long (A : Option Addr) (n c : Nat) (w : World) (hn : 2147483647 < n) : Calls Tryd.prog 4 #[.slice A n c] w (Yes w) := by
  have hd : decide ((2147483647 : Int) < (n : Int)) = true := decide_eq_true (by omega)
  go_enter Tryd.func4, Tryd.ntmps4
  go_wp2
  go_ret
  exact ⟨rfl, Below.refl _ _⟩

set_option maxRecDepth 100000 in
set_option maxHeartbeats 800000 in
theorem FnEncodeRead_large (A : Option Addr) (n c : Nat) (w : World) (hn : n ≤ 2147483647) (h : 1000000 < n) : Calls Tryd.prog 4 #[.slice A n c] w (Yes w) := by
  have hs := common_any A n c w
  rw [decide_eq_false (show ¬ n ≤ 1000000 by omega)] at hs
  have HS := hide hs
  have hd2 : decide ((2147483647 : Int) < (n : Int)) = false := decide_eq_false (by omega)
  clear hs
  go_enter Tryd.func4, Tryd.ntmps4
  go_wp2_with fail
  refine HS.out.mono ?_
  rintro e w' ⟨rfl, rfl⟩
  go_wp2
  go_ret
  exact ⟨rfl, Below.refl _ _⟩

set_option maxRecDepth 100000 in
set_option maxHeartbeats 800000 in
theorem FnEncodeRead_walk (A : Option Addr) (n c : Nat) (xs : Bs) (w : World) (hx : Rd w w.heap.size A n xs) (hA : A = none → n = 0) (hn : n ≤ 1000000) : Calls Tryd.prog 4 #[.slice A n c] w (Yes w) := by
  have hs := common_any A n c w
  rw [decide_eq_true hn] at hs
  have HS := hide hs
  have hd2 : decide ((2147483647 : Int) < (n : Int)) = false := decide_eq_false (by omega)
  clear hs
  have HC := hide (iEncode_any A n c xs w hx hn hA)
  have HX := hide hx
  obtain rfl := hx.len
  clear hx hA
  go_enter Tryd.func4, Tryd.ntmps4
  go_wp2_with fail
  refine HS.out.mono ?_
  rintro e w' ⟨rfl, rfl⟩
  go_wp2_with fail
  refine HC.out.mono ?_
  rintro e w1 ⟨A1, c1, out, body, rfl, ho, hch, hcost, hoc, hrd, hb1⟩
  have hob : out.length ≤ 4294967295 := by omega
  have hdec : dec out = some xs := by rw [ho]; exact dec_chain hch (by omega)
  have hR := Read_any A1 out.length c1 out w1 hrd hob hoc
  rw [hdec] at hR
  have HR := hide hR
  have HX1 := hide (HX.out.below hb1)
  have HB := hide hb1
  have hz := hb1.size
  clear ho hch hcost hoc hrd hb1 hdec hR
  go_wp2_with fail
  refine HR.out.mono ?_
  rintro e w2 ⟨hb2, ⟨v2, t, ht, rfl, ho2, _⟩ | ⟨hno, _⟩⟩
  · obtain rfl := Option.some.inj ht
    obtain ⟨A2, c2, rfl, _, _, hr2, _⟩ := ho2.form
    have HX2 := hide (HX1.out.below (hb2.mono hz))
    have HS2 := hide (Same_any A2 A xs.length c2 c _ _ xs w2 hr2 HX2.out (by omega))
    have HB2 := hide (HB.out.trans (hb2.mono hz))
    clear ho2 hb2 hr2 HR HX HX1 HX2 ht
    go_wp2_with fail
    refine HS2.out.mono ?_
    rintro e w3 ⟨rfl, k, rfl⟩
    go_wp2
    go_ret
    exact ⟨rfl, Below.drewN HB2.out k⟩
  · cases hno

theorem FnEncodeRead_total (w : World) (A : Option Addr) (n c : Nat) (xs : Bs) (hx : Rd w w.heap.size A n xs) (hA : A = none → n = 0) (hnc : n ≤ c) :
    Calls Tryd.prog 4 #[.slice A n c] w (Yes w) := by
  by_cases h : 2147483647 < n
  · exact FnEncodeRead_long A n c w h
  · by_cases hN : 1000000 < n
    · exact FnEncodeRead_large A n c w (by omega) hN
    · exact FnEncodeRead_walk A n c xs w hx hA (by omega)


end Snap
end Go.Proofs.YtoihiaenlonncaaDoor

/-
  The law FnWritten, walked: it returns true.
-/
import Derived.Test.YtodbfgomkcmdgaaDoorLaws1
import Derived.Test.YtodbfgomkcmdgaaDoorWrite
namespace Go.Proofs.YtodbfgomkcmdgaaDoor
open Go.RowKit
set_option linter.unusedVariables false
namespace Snap

set_option maxRecDepth 100000 in
set_option maxHeartbeats 1000000 in
theorem FnWritten_long (A : Option Addr) (n c : Nat) (xs : Bs) (H : Option Addr) (hn hc : Nat) (zs : List Int) (w : World) (h : 2147483647 < n ∨ 2147483647 < hn) : Calls Tryd.prog 13 #[.slice A n c, .slice H hn hc] w (Yes w) := by
  by_cases h0 : 2147483647 < n
  · have d0 : decide ((2147483647 : Int) < (n : Int)) = true := decide_eq_true (by omega)
    have l0 : 2147483647 < n := by omega
    clear h h0
    go_enter Tryd.func13, Tryd.ntmps13
    go_wp2
    go_ret
    exact ⟨rfl, Below.refl _ _⟩
  have d0 : decide ((2147483647 : Int) < (n : Int)) = false := decide_eq_false (by omega)
  have l0 : n ≤ 2147483647 := by omega
  have d1 : decide ((2147483647 : Int) < (hn : Int)) = true := decide_eq_true (by omega)
  have l1 : 2147483647 < hn := by omega
  clear h h0
  go_enter Tryd.func13, Tryd.ntmps13
  go_wp2
  go_ret
  exact ⟨rfl, Below.refl _ _⟩

set_option maxRecDepth 100000 in
set_option maxHeartbeats 1000000 in
theorem FnWritten_large (A : Option Addr) (n c : Nat) (xs : Bs) (H : Option Addr) (hn hc : Nat) (zs : List Int) (w : World) (l0 : n ≤ 2147483647) (l1 : hn ≤ 2147483647) (h : 1000000 < n) : Calls Tryd.prog 13 #[.slice A n c, .slice H hn hc] w (Yes w) := by
  have d0 : decide ((2147483647 : Int) < (n : Int)) = false := decide_eq_false (by omega)
  have d1 : decide ((2147483647 : Int) < (hn : Int)) = false := decide_eq_false (by omega)
  have HC := common_any A n c w
  rw [decide_eq_false (by omega)] at HC
  replace HC := hide HC
  go_enter Tryd.func13, Tryd.ntmps13
  go_wp2_with fail
  refine HC.out.mono ?_
  rintro e w' ⟨rfl, rfl⟩
  go_wp2
  go_ret
  exact ⟨rfl, Below.refl _ _⟩

set_option maxRecDepth 100000 in
set_option maxHeartbeats 1000000 in
theorem FnWritten_walk (A : Option Addr) (n c : Nat) (xs : Bs) (H : Option Addr) (hn hc : Nat) (zs : List Int) (p : Addr) (w : World) (hx : Rd w w.heap.size A n xs) (hA : A = none → n = 0) (hnc : n ≤ c) (hz : RdI w w.heap.size H hn zs) (hH : H = none → hn = 0) (hhc : hn ≤ hc) (l0 : n ≤ 2147483647) (l1 : hn ≤ 2147483647) (hN : n ≤ 1000000) (hE : Corrupt w p) : Calls Tryd.prog 13 #[.slice A n c, .slice H hn hc] w (Yes w) := by
  have hlt := hE.lt
  have d0 : decide ((2147483647 : Int) < (n : Int)) = false := decide_eq_false (by omega)
  have d1 : decide ((2147483647 : Int) < (hn : Int)) = false := decide_eq_false (by omega)
  have HCm := common_any A n c w
  rw [decide_eq_true hN] at HCm
  replace HCm := hide HCm
  have HE := hide hE
  have HWr := hide (Write_any A H n c hn hc w.heap.size w.heap.size xs zs w hx hz (Nat.le_refl _) (Nat.le_refl _) hN hnc (by omega))
  have HX := hide hx
  have HXL := hide hx.len
  clear hx hA hnc hz hH hhc hE
  go_enter Tryd.func13, Tryd.ntmps13
  go_wp2_with fail
  refine HCm.out.mono ?_
  rintro e w' ⟨rfl, rfl⟩
  go_wp2_with fail
  refine HWr.out.mono ?_
  rintro e w1 ⟨v1, out, rfl, ho1, hw1, hb1⟩
  obtain ⟨body, hout, hchain, hbl⟩ := hw1
  rw [List.take_length] at hchain
  have hol : out.length ≤ 6000010 := by
    have := varL_length_le xs.length (by rw [HXL.out]; omega)
    rw [hout, List.length_append]
    have := HXL.out
    omega
  have hz1 := hb1.size
  obtain ⟨A1, c1, rfl, hc1, _, hr1, hA1⟩ := ho1.form
  have HR1 := hide hr1
  have HO1 := hide ho1
  have HB1 := hide hb1
  have HX1 := hide (HX.out.below hb1)
  have HE1 := hide (HE.out.keep hb1 hlt)
  have HOUT := hide hout
  have HCH := hide hchain
  have HA1 := hide (show A1 = none → out.length = 0 from fun h => by have := hA1 h; omega)
  clear ho1 hb1 hr1 hout hchain hA1
  have hdec : decG out = some xs := by rw [HOUT.out]; exact decG_chain HCH.out (by rw [HXL.out]; omega)
  have HD := iDecode_any A1 out.length c1 _ out p w1 HR1.out (Nat.le_refl _) (by omega) HA1.out HE1.out
  rw [hdec] at HD
  replace HD := hide HD
  clear hdec
  go_wp2_with fail
  refine HD.out.mono ?_
  rintro e w2 ⟨hb2, ⟨v2, t, ht, rfl, ho2, htl⟩ | ⟨h, _⟩⟩
  · obtain rfl := Option.some.inj ht
    have hz2 := hb2.size
    obtain ⟨A2, c2, rfl, _, _, hr2, _⟩ := ho2.form
    have hx2 := HX1.out.keep (w' := w2) (fun k hk => hb2.block k (by omega))
    rw [← HXL.out] at hx2
    have HX2 := hide hx2
    have HR2 := hide hr2
    have HB2 := hide (HB1.out.trans (hb2.mono hz1))
    have hnl : xs.length = n := HXL.out
    subst hnl
    clear ht ho2 hr2 hx2 hb2
    go_wp2_with fail
    refine (says_yes A2 A xs.length c2 c _ _ xs w2 HR2.out (Nat.le_refl _) HX2.out (by omega) htl).mono ?_
    rintro e w3 ⟨rfl, hb3⟩
    have HB3 := hide (HB2.out.trans (hb3.mono (by omega)))
    clear hb3
    go_wp2
    go_ret
    exact ⟨rfl, HB3.out⟩
  · cases h

theorem FnWritten_total (w : World) (A : Option Addr) (n c : Nat) (xs : Bs) (hx : Rd w w.heap.size A n xs) (hA : A = none → n = 0) (hnc : n ≤ c) (H : Option Addr) (hn hc : Nat) (zs : List Int) (hz : RdI w w.heap.size H hn zs) (hH : H = none → hn = 0) (hhc : hn ≤ hc) (p : Addr) (hE : Corrupt w p) : Calls Tryd.prog 13 #[.slice A n c, .slice H hn hc] w (Yes w) := by
  by_cases h : 2147483647 < n ∨ 2147483647 < hn
  · exact FnWritten_long A n c xs H hn hc zs w h
  · by_cases hN : 1000000 < n
    · exact FnWritten_large A n c xs H hn hc zs w (by omega) (by omega) hN
    · exact FnWritten_walk A n c xs H hn hc zs p w hx hA hnc hz hH hhc (by omega) (by omega) (by omega) hE

end Snap
end Go.Proofs.YtodbfgomkcmdgaaDoor

/-
  The law FnDecodedLenText, walked: it returns true.
-/
import Derived.Test.YtodbfgomkcmdgaaDoorLaws1
import Derived.Test.YtodbfgomkcmdgaaDoorWrite
namespace Go.Proofs.YtodbfgomkcmdgaaDoor
open Go.RowKit
set_option linter.unusedVariables false
namespace Snap

theorem FnDecodedLenText_none {w : World} {base n c : Nat} {A : Option Addr} {xs : Bs} (h : Own w base (.slice A n c) xs) : A = none → n = 0 := by
  obtain ⟨A', c', he, hc, _, _, hA⟩ := h.form
  injection he with h1 h2 h3
  intro h0
  have h4 := hA (h1.symm.trans h0)
  omega

set_option maxRecDepth 100000 in
set_option maxHeartbeats 1000000 in
theorem FnDecodedLenText_long (A : Option Addr) (n c : Nat) (xs : Bs) (H : Option Addr) (hn hc : Nat) (zs : List Int) (w : World) (h : 2147483647 < n ∨ 2147483647 < hn) : Calls Tryd.prog 14 #[.slice A n c, .slice H hn hc] w (Yes w) := by
  by_cases h0 : 2147483647 < n
  · have d0 : decide ((2147483647 : Int) < (n : Int)) = true := decide_eq_true (by omega)
    have l0 : 2147483647 < n := by omega
    clear h h0
    go_enter Tryd.func14, Tryd.ntmps14
    go_wp2
    go_ret
    exact ⟨rfl, Below.refl _ _⟩
  have d0 : decide ((2147483647 : Int) < (n : Int)) = false := decide_eq_false (by omega)
  have l0 : n ≤ 2147483647 := by omega
  have d1 : decide ((2147483647 : Int) < (hn : Int)) = true := decide_eq_true (by omega)
  have l1 : 2147483647 < hn := by omega
  clear h h0
  go_enter Tryd.func14, Tryd.ntmps14
  go_wp2
  go_ret
  exact ⟨rfl, Below.refl _ _⟩

set_option maxRecDepth 100000 in
set_option maxHeartbeats 1000000 in
theorem FnDecodedLenText_large (A : Option Addr) (n c : Nat) (xs : Bs) (H : Option Addr) (hn hc : Nat) (zs : List Int) (w : World) (l0 : n ≤ 2147483647) (l1 : hn ≤ 2147483647) (h : 1000000 < n) : Calls Tryd.prog 14 #[.slice A n c, .slice H hn hc] w (Yes w) := by
  have d0 : decide ((2147483647 : Int) < (n : Int)) = false := decide_eq_false (by omega)
  have d1 : decide ((2147483647 : Int) < (hn : Int)) = false := decide_eq_false (by omega)
  have HC := common_any A n c w
  rw [decide_eq_false (by omega)] at HC
  replace HC := hide HC
  go_enter Tryd.func14, Tryd.ntmps14
  go_wp2_with fail
  refine HC.out.mono ?_
  rintro e w' ⟨rfl, rfl⟩
  go_wp2
  go_ret
  exact ⟨rfl, Below.refl _ _⟩

set_option maxRecDepth 100000 in
set_option maxHeartbeats 1000000 in
theorem FnDecodedLenText_walk (A : Option Addr) (n c : Nat) (xs : Bs) (H : Option Addr) (hn hc : Nat) (zs : List Int) (p : Addr) (w : World) (hx : Rd w w.heap.size A n xs) (hA : A = none → n = 0) (hnc : n ≤ c) (hz : RdI w w.heap.size H hn zs) (hH : H = none → hn = 0) (hhc : hn ≤ hc) (l0 : n ≤ 2147483647) (l1 : hn ≤ 2147483647) (hN : n ≤ 1000000) (hE : Corrupt w p) : Calls Tryd.prog 14 #[.slice A n c, .slice H hn hc] w (Yes w) := by
  have hlt := hE.lt
  have d0 : decide ((2147483647 : Int) < (n : Int)) = false := decide_eq_false (by omega)
  have d1 : decide ((2147483647 : Int) < (hn : Int)) = false := decide_eq_false (by omega)
  have HCm := common_any A n c w
  rw [decide_eq_true hN] at HCm
  replace HCm := hide HCm
  have HE := hide hE
  have HWr := hide (Write_any A H n c hn hc w.heap.size w.heap.size xs zs w hx hz (Nat.le_refl _) (Nat.le_refl _) hN hnc (by omega))
  have HX := hide hx
  have HXL := hide hx.len
  clear hx hA hnc hz hH hhc hE
  go_enter Tryd.func14, Tryd.ntmps14
  go_wp2_with fail
  refine HCm.out.mono ?_
  rintro e w' ⟨rfl, rfl⟩
  go_wp2_with fail
  refine HWr.out.mono ?_
  rintro e w1 ⟨v1, out, rfl, ho1, hw1, hb1⟩
  obtain ⟨body, hout, hchain, hbl⟩ := hw1
  rw [List.take_length] at hchain
  have hol : out.length ≤ 6000010 := by
    have := varL_length_le xs.length (by rw [HXL.out]; omega)
    rw [hout, List.length_append]
    have := HXL.out
    omega
  have hz1 := hb1.size
  obtain ⟨A1, c1, rfl, hc1, _, hr1, hA1⟩ := ho1.form
  have HR1 := hide hr1
  have HO1 := hide ho1
  have HB1 := hide hb1
  have HX1 := hide (HX.out.below hb1)
  have HE1 := hide (HE.out.keep hb1 hlt)
  have HOUT := hide hout
  have HCH := hide hchain
  have HA1 := hide (show A1 = none → out.length = 0 from fun h => by have := hA1 h; omega)
  clear ho1 hb1 hr1 hout hchain hA1
  have hdec : decG out = some xs := by rw [HOUT.out]; exact decG_chain HCH.out (by rw [HXL.out]; omega)
  have huv : uvHead out = some (xs.length, (varL xs.length).length) := by
    rw [HOUT.out, uvHead_eq _ (plain_varL _ _)]
    exact head_varL _ _ (by rw [HXL.out]; omega)
  have HD := iDecode_any A1 out.length c1 _ out p w1 HR1.out (Nat.le_refl _) (by omega) HA1.out HE1.out
  rw [hdec] at HD
  replace HD := hide HD
  have HU := hide huv
  clear hdec huv
  go_wp2_with fail
  refine HD.out.mono ?_
  rintro e w2 ⟨hb2, ⟨v2, t, ht, rfl, ho2, htl⟩ | ⟨h, _⟩⟩
  · obtain rfl := Option.some.inj ht
    have hz2 := hb2.size
    obtain ⟨A2, c2, rfl, _, _, hr2, _⟩ := ho2.form
    have hnl : xs.length = n := HXL.out
    rw [hnl] at hr2 ⊢
    have HB2 := hide (HB1.out.trans (hb2.mono hz1))
    have HL2 := hide (iDecodedLen_some A1 out.length c1 _ xs.length _ out w2 (HR1.out.keep (w' := w2) (fun k hk => hb2.block k hk)) (by omega) (by omega) HA1.out HU.out)
    rw [hnl] at HL2
    clear ht ho2 hr2 hb2 hnl
    go_wp2_with fail
    refine HL2.out.mono ?_
    rintro e w3 ⟨rfl, hb3⟩
    have hz3 := hb3.size
    have HB3 := hide (HB2.out.trans (hb3.mono (by omega)))
    clear hb3
    go_wp2
    go_ret
    have hz13 : w.heap.size ≤ w3.heap.size := by omega
    exact ⟨rfl, (HB3.out.alloc hz13 _).alloc (by rw [World.size_alloc]; omega) _⟩
  · cases h

theorem FnDecodedLenText_total (w : World) (A : Option Addr) (n c : Nat) (xs : Bs) (hx : Rd w w.heap.size A n xs) (hA : A = none → n = 0) (hnc : n ≤ c) (H : Option Addr) (hn hc : Nat) (zs : List Int) (hz : RdI w w.heap.size H hn zs) (hH : H = none → hn = 0) (hhc : hn ≤ hc) (p : Addr) (hE : Corrupt w p) : Calls Tryd.prog 14 #[.slice A n c, .slice H hn hc] w (Yes w) := by
  by_cases h : 2147483647 < n ∨ 2147483647 < hn
  · exact FnDecodedLenText_long A n c xs H hn hc zs w h
  · by_cases hN : 1000000 < n
    · exact FnDecodedLenText_large A n c xs H hn hc zs w (by omega) (by omega) hN
    · exact FnDecodedLenText_walk A n c xs H hn hc zs p w hx hA hnc hz hH hhc (by omega) (by omega) (by omega) hE

end Snap
end Go.Proofs.YtodbfgomkcmdgaaDoor

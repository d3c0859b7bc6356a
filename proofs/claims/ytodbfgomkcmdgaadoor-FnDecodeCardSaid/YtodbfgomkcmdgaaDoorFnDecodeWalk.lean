/-
  The law FnDecode, walked: it returns true.
-/
import Derived.Test.YtodbfgomkcmdgaaDoorLaws1
namespace Go.Proofs.YtodbfgomkcmdgaaDoor
open Go.RowKit
set_option linter.unusedVariables false
namespace Snap

set_option maxRecDepth 100000 in
set_option maxHeartbeats 800000 in
theorem FnDecode_long (A : Option Addr) (n c : Nat) (w : World) (hn : 2147483647 < n) : Calls Tryd.prog 5 #[.slice A n c] w (Yes w) := by
  go_enter Tryd.func5, Tryd.ntmps5
  go_wp2
  go_ret
  exact ⟨rfl, Below.refl _ _⟩

set_option maxRecDepth 100000 in
set_option maxHeartbeats 800000 in
theorem FnDecode_large (A : Option Addr) (n c : Nat) (xs : Bs) (w : World) (hx : Rd w w.heap.size A n xs) (hn : n ≤ 2147483647) (hs : smallB xs = false) : Calls Tryd.prog 5 #[.slice A n c] w (Yes w) := by
  have HS := small_any A n c _ xs w hx (by omega)
  rw [hs] at HS
  replace HS := hide HS
  clear hx hs
  go_enter Tryd.func5, Tryd.ntmps5
  go_wp2_with fail
  refine HS.out.mono ?_
  rintro e w' ⟨rfl, rfl⟩
  go_wp2
  go_ret
  exact ⟨rfl, Below.refl _ _⟩

set_option maxRecDepth 100000 in
set_option maxHeartbeats 800000 in
theorem FnDecode_walk (A : Option Addr) (n c : Nat) (xs : Bs) (p : Addr) (w : World) (hx : Rd w w.heap.size A n xs) (hA : A = none → n = 0) (hnc : n ≤ c) (hn : n ≤ 2147483647) (hE : Corrupt w p) (hs : smallB xs = true) : Calls Tryd.prog 5 #[.slice A n c] w (Yes w) := by
  have HS := small_any A n c _ xs w hx (by omega)
  rw [hs] at HS
  replace HS := hide HS
  have hpl : plain xs = true := by
    unfold smallB at hs
    cases hp : plain xs with
    | true => rfl
    | false => rw [hp] at hs; simp at hs
  have hdec := decG_eq xs hpl
  have HC := hide (iDecode_any A n c _ xs p w hx (Nat.le_refl _) (by omega) hA hE)
  rw [hdec] at HC
  have HX := hide hx
  clear hx hs hpl hdec hA hE
  go_enter Tryd.func5, Tryd.ntmps5
  go_wp2_with fail
  refine HS.out.mono ?_
  rintro e w' ⟨rfl, rfl⟩
  go_wp2_with fail
  refine HC.out.mono ?_
  rintro e w1 ⟨hbel, ⟨v, t, ht, rfl, hown, htl⟩ | ⟨ht, rfl⟩⟩
  · have hz := hbel.size
    obtain ⟨A1, c1, rfl, _, _, hr1, _⟩ := hown.form
    have HR := hide hr1
    have HX1 := hide ((HX.out.below hbel).more hz)
    have HB := hide hbel
    have HT := hide ht
    clear hr1 hown hbel ht
    go_wp2_with fail
    refine (agrees_some A1 A t.length c1 n c t xs w1 HR.out htl HX1.out (by omega) hnc HT.out).mono ?_
    rintro e w2 ⟨rfl, hb2⟩
    have HB2 := hide (HB.out.trans (hb2.mono hz))
    clear hb2
    go_wp2
    go_ret
    exact ⟨rfl, HB2.out⟩
  · have hz := hbel.size
    have HX1 := hide ((HX.out.below hbel).more hz)
    have HB := hide hbel
    have HT := hide ht
    clear hbel ht
    go_wp2_with fail
    refine (agrees_none A n c xs w1 HX1.out (by omega) hnc HT.out).mono ?_
    rintro e w2 ⟨rfl, hb2⟩
    have HB2 := hide (HB.out.trans (hb2.mono hz))
    clear hb2
    go_wp2
    go_ret
    exact ⟨rfl, HB2.out⟩

theorem FnDecode_total (w : World) (A : Option Addr) (n c : Nat) (xs : Bs) (hx : Rd w w.heap.size A n xs) (hA : A = none → n = 0) (hnc : n ≤ c) (p : Addr) (hE : Corrupt w p) :
    Calls Tryd.prog 5 #[.slice A n c] w (Yes w) := by
  by_cases hn : 2147483647 < n
  · exact FnDecode_long A n c w hn
  · cases hs : smallB xs with
    | false => exact FnDecode_large A n c xs w hx (by omega) hs
    | true => exact FnDecode_walk A n c xs p w hx hA hnc (by omega) hE hs

end Snap
end Go.Proofs.YtodbfgomkcmdgaaDoor

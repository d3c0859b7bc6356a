/-
  The law FnDecodeRoom, walked: it returns true.
-/
import Derived.Test.YtodbfgomkcmdgaaDoorLaws1
namespace Go.Proofs.YtodbfgomkcmdgaaDoor
open Go.RowKit
set_option linter.unusedVariables false
namespace Snap

set_option maxRecDepth 100000 in
set_option maxHeartbeats 800000 in
theorem FnDecodeRoom_long (A0 : Option Addr) (n0 c0 : Nat) (A : Option Addr) (n c : Nat) (w : World) (hn : 2147483647 < n0 ∨ 2147483647 < n) : Calls Tryd.prog 6 #[.slice A0 n0 c0, .slice A n c] w (Yes w) := by
  by_cases h : 2147483647 < n0
  · clear hn
    have hd : decide ((2147483647 : Int) < (n0 : Int)) = true := decide_eq_true (by omega)
    go_enter Tryd.func6, Tryd.ntmps6
    go_wp2
    go_ret
    exact ⟨rfl, Below.refl _ _⟩
  · have h1 : n0 ≤ 2147483647 := by omega
    have h2 : 2147483647 < n := by omega
    have hd : decide ((2147483647 : Int) < (n0 : Int)) = false := decide_eq_false (by omega)
    have hd2 : decide ((2147483647 : Int) < (n : Int)) = true := decide_eq_true (by omega)
    clear hn h
    go_enter Tryd.func6, Tryd.ntmps6
    go_wp2
    go_ret
    exact ⟨rfl, Below.refl _ _⟩

set_option maxRecDepth 100000 in
set_option maxHeartbeats 800000 in
theorem FnDecodeRoom_large (A0 : Option Addr) (n0 c0 : Nat) (xs0 : Bs) (A : Option Addr) (n c : Nat) (xs : Bs) (w : World) (hn0 : n0 ≤ 2147483647) (hx : Rd w w.heap.size A n xs) (hn : n ≤ 2147483647) (hs : smallB xs = false) : Calls Tryd.prog 6 #[.slice A0 n0 c0, .slice A n c] w (Yes w) := by
  have HS := small_any A n c _ xs w hx (by omega)
  rw [hs] at HS
  replace HS := hide HS
  have hd : decide ((2147483647 : Int) < (n0 : Int)) = false := decide_eq_false (by omega)
  have hd2 : decide ((2147483647 : Int) < (n : Int)) = false := decide_eq_false (by omega)
  clear hx hs
  go_enter Tryd.func6, Tryd.ntmps6
  go_wp2_with fail
  refine HS.out.mono ?_
  rintro e w' ⟨rfl, rfl⟩
  go_wp2
  go_ret
  exact ⟨rfl, Below.refl _ _⟩

set_option maxRecDepth 100000 in
set_option maxHeartbeats 800000 in
theorem FnDecodeRoom_walk (A0 : Option Addr) (n0 c0 : Nat) (xs0 : Bs) (A : Option Addr) (n c : Nat) (xs : Bs) (p : Addr) (w : World) (hx0 : Rd w w.heap.size A0 n0 xs0) (hA0 : A0 = none → n0 = 0) (hnc0 : n0 ≤ c0) (hn0 : n0 ≤ 2147483647) (hx : Rd w w.heap.size A n xs) (hA : A = none → n = 0) (hnc : n ≤ c) (hn : n ≤ 2147483647) (hE : Corrupt w p) (hs : smallB xs = true) : Calls Tryd.prog 6 #[.slice A0 n0 c0, .slice A n c] w (Yes w) := by
  have HS := small_any A n c _ xs w hx (by omega)
  rw [hs] at HS
  replace HS := hide HS
  have hpl : plain xs = true := by
    unfold smallB at hs
    cases hp : plain xs with
    | true => rfl
    | false => rw [hp] at hs; simp at hs
  have hdec := decG_eq xs hpl
  have HC := hide (iDecodeInto_any A0 n0 c0 _ xs0 A n c _ xs p w hx0 (Nat.le_refl _) (by omega) hA0 hx (Nat.le_refl _) (by omega) hA hE)
  rw [hdec] at HC
  have HX := hide hx
  have hd : decide ((2147483647 : Int) < (n0 : Int)) = false := decide_eq_false (by omega)
  have hd2 : decide ((2147483647 : Int) < (n : Int)) = false := decide_eq_false (by omega)
  clear hx hs hpl hdec hA hE hx0 hA0
  go_enter Tryd.func6, Tryd.ntmps6
  go_wp2_with fail
  refine HS.out.mono ?_
  rintro e w' ⟨rfl, rfl⟩
  go_wp2_with fail
  refine HC.out.mono ?_
  rintro e w1 ⟨hbel, ⟨v, t, ht, rfl, hown, htl⟩ | ⟨ht, rfl⟩⟩
  · have hz := hbel.size
    obtain ⟨A1, c1, rfl, _, _, hr1, _⟩ := hown.form
    have HR := hide hr1
    have HX1 := hide ((HX.out.below hbel).more hz)
    have HB := hide hbel
    have HT := hide ht
    clear hr1 hown hbel ht
    go_wp2_with fail
    refine (agrees_some A1 A t.length c1 n c t xs w1 HR.out htl HX1.out (by omega) hnc HT.out).mono ?_
    rintro e w2 ⟨rfl, hb2⟩
    have HB2 := hide (HB.out.trans (hb2.mono hz))
    clear hb2
    go_wp2
    go_ret
    exact ⟨rfl, HB2.out⟩
  · have hz := hbel.size
    have HX1 := hide ((HX.out.below hbel).more hz)
    have HB := hide hbel
    have HT := hide ht
    clear hbel ht
    go_wp2_with fail
    refine (agrees_none A n c xs w1 HX1.out (by omega) hnc HT.out).mono ?_
    rintro e w2 ⟨rfl, hb2⟩
    have HB2 := hide (HB.out.trans (hb2.mono hz))
    clear hb2
    go_wp2
    go_ret
    exact ⟨rfl, HB2.out⟩

theorem FnDecodeRoom_total (w : World) (A0 : Option Addr) (n0 c0 : Nat) (xs0 : Bs) (hx0 : Rd w w.heap.size A0 n0 xs0) (hA0 : A0 = none → n0 = 0) (hnc0 : n0 ≤ c0) (A : Option Addr) (n c : Nat) (xs : Bs) (hx : Rd w w.heap.size A n xs) (hA : A = none → n = 0) (hnc : n ≤ c) (p : Addr) (hE : Corrupt w p) :
    Calls Tryd.prog 6 #[.slice A0 n0 c0, .slice A n c] w (Yes w) := by
  by_cases hn : 2147483647 < n0 ∨ 2147483647 < n
  · exact FnDecodeRoom_long A0 n0 c0 A n c w hn
  · cases hs : smallB xs with
    | false => exact FnDecodeRoom_large A0 n0 c0 xs0 A n c xs w (by omega) hx (by omega) hs
    | true => exact FnDecodeRoom_walk A0 n0 c0 xs0 A n c xs p w hx0 hA0 hnc0 (by omega) hx hA hnc (by omega) hE hs

end Snap
end Go.Proofs.YtodbfgomkcmdgaaDoor

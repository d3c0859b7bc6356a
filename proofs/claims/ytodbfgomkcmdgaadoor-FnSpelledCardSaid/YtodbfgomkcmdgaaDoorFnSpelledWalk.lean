/-
  The law FnSpelled, walked: it returns true.
-/
import Derived.Test.YtodbfgomkcmdgaaDoorLaws1
import Derived.Test.YtodbfgomkcmdgaaDoorWrite
namespace Go.Proofs.YtodbfgomkcmdgaaDoor
open Go.RowKit
set_option linter.unusedVariables false
namespace Snap

theorem FnSpelled_none {w : World} {base n c : Nat} {A : Option Addr} {xs : Bs} (h : Own w base (.slice A n c) xs) : A = none → n = 0 := by
  obtain ⟨A', c', he, hc, _, _, hA⟩ := h.form
  injection he with h1 h2 h3
  intro h0
  have h4 := hA (h1.symm.trans h0)
  omega

set_option maxRecDepth 100000 in
set_option maxHeartbeats 1000000 in
theorem FnSpelled_long (A : Option Addr) (n c : Nat) (xs : Bs) (H : Option Addr) (hn hc : Nat) (zs : List Int) (H2 : Option Addr) (hn2 hc2 : Nat) (zs2 : List Int) (w : World) (h : 2147483647 < n ∨ 2147483647 < hn ∨ 2147483647 < hn2) : Calls Tryd.prog 12 #[.slice A n c, .slice H hn hc, .slice H2 hn2 hc2] w (Yes w) := by
  by_cases h0 : 2147483647 < n
  · have d0 : decide ((2147483647 : Int) < (n : Int)) = true := decide_eq_true (by omega)
    have l0 : 2147483647 < n := by omega
    clear h h0
    go_enter Tryd.func12, Tryd.ntmps12
    go_wp2
    go_ret
    exact ⟨rfl, Below.refl _ _⟩
  by_cases h1 : 2147483647 < hn
  · have d0 : decide ((2147483647 : Int) < (n : Int)) = false := decide_eq_false (by omega)
    have l0 : n ≤ 2147483647 := by omega
    have d1 : decide ((2147483647 : Int) < (hn : Int)) = true := decide_eq_true (by omega)
    have l1 : 2147483647 < hn := by omega
    clear h h0 h1
    go_enter Tryd.func12, Tryd.ntmps12
    go_wp2
    go_ret
    exact ⟨rfl, Below.refl _ _⟩
  have d0 : decide ((2147483647 : Int) < (n : Int)) = false := decide_eq_false (by omega)
  have l0 : n ≤ 2147483647 := by omega
  have d1 : decide ((2147483647 : Int) < (hn : Int)) = false := decide_eq_false (by omega)
  have l1 : hn ≤ 2147483647 := by omega
  have d2 : decide ((2147483647 : Int) < (hn2 : Int)) = true := decide_eq_true (by omega)
  have l2 : 2147483647 < hn2 := by omega
  clear h h0 h1
  go_enter Tryd.func12, Tryd.ntmps12
  go_wp2
  go_ret
  exact ⟨rfl, Below.refl _ _⟩

set_option maxRecDepth 100000 in
set_option maxHeartbeats 1000000 in
theorem FnSpelled_large (A : Option Addr) (n c : Nat) (xs : Bs) (H : Option Addr) (hn hc : Nat) (zs : List Int) (H2 : Option Addr) (hn2 hc2 : Nat) (zs2 : List Int) (w : World) (l0 : n ≤ 2147483647) (l1 : hn ≤ 2147483647) (l2 : hn2 ≤ 2147483647) (h : 1000000 < n) : Calls Tryd.prog 12 #[.slice A n c, .slice H hn hc, .slice H2 hn2 hc2] w (Yes w) := by
  have d0 : decide ((2147483647 : Int) < (n : Int)) = false := decide_eq_false (by omega)
  have d1 : decide ((2147483647 : Int) < (hn : Int)) = false := decide_eq_false (by omega)
  have d2 : decide ((2147483647 : Int) < (hn2 : Int)) = false := decide_eq_false (by omega)
  have HC := common_any A n c w
  rw [decide_eq_false (by omega)] at HC
  replace HC := hide HC
  go_enter Tryd.func12, Tryd.ntmps12
  go_wp2_with fail
  refine HC.out.mono ?_
  rintro e w' ⟨rfl, rfl⟩
  go_wp2
  go_ret
  exact ⟨rfl, Below.refl _ _⟩

set_option maxRecDepth 100000 in
set_option maxHeartbeats 1000000 in
theorem FnSpelled_walk (A : Option Addr) (n c : Nat) (xs : Bs) (H : Option Addr) (hn hc : Nat) (zs : List Int) (H2 : Option Addr) (hn2 hc2 : Nat) (zs2 : List Int) (p : Addr) (w : World) (hx : Rd w w.heap.size A n xs) (hA : A = none → n = 0) (hnc : n ≤ c) (hz : RdI w w.heap.size H hn zs) (hH : H = none → hn = 0) (hhc : hn ≤ hc) (hz2 : RdI w w.heap.size H2 hn2 zs2) (hH2 : H2 = none → hn2 = 0) (hhc2 : hn2 ≤ hc2) (l0 : n ≤ 2147483647) (l1 : hn ≤ 2147483647) (l2 : hn2 ≤ 2147483647) (hN : n ≤ 1000000) (hE : Corrupt w p) : Calls Tryd.prog 12 #[.slice A n c, .slice H hn hc, .slice H2 hn2 hc2] w (Yes w) := by
  have hlt := hE.lt
  have d0 : decide ((2147483647 : Int) < (n : Int)) = false := decide_eq_false (by omega)
  have d1 : decide ((2147483647 : Int) < (hn : Int)) = false := decide_eq_false (by omega)
  have d2 : decide ((2147483647 : Int) < (hn2 : Int)) = false := decide_eq_false (by omega)
  have HCm := common_any A n c w
  rw [decide_eq_true hN] at HCm
  replace HCm := hide HCm
  have HE := hide hE
  obtain rfl := hx.len
  have HWr := hide (Write_any A H xs.length c hn hc w.heap.size w.heap.size xs zs w hx hz (Nat.le_refl _) (Nat.le_refl _) hN hnc (by omega))
  have HX := hide hx
  have HZ2 := hide hz2
  clear hx hA hz hH hhc hz2 hH2 hhc2 hE
  go_enter Tryd.func12, Tryd.ntmps12
  go_wp2_with fail
  refine HCm.out.mono ?_
  rintro e w' ⟨rfl, rfl⟩
  go_wp2_with fail
  refine HWr.out.mono ?_
  rintro e w1 ⟨v1, out, rfl, ho1, hw1, hb1⟩
  obtain ⟨body, hout, hchain, hbl⟩ := hw1
  rw [List.take_length] at hchain
  have hol : out.length ≤ 6000010 := by
    have := varL_length_le xs.length (by omega)
    rw [hout, List.length_append]
    omega
  have hz1 := hb1.size
  obtain ⟨A1, c1, rfl, hc1, _, hr1, hA1⟩ := ho1.form
  have HR1 := hide hr1
  have HO1 := hide ho1
  have HB1 := hide hb1
  have HX1 := hide (HX.out.below hb1)
  have HE1 := hide (HE.out.keep hb1 hlt)
  have HOUT := hide hout
  have HCH := hide hchain
  have HA1 := hide (show A1 = none → out.length = 0 from fun h => by have := hA1 h; omega)
  clear ho1 hb1 hr1 hout hchain hA1
  have hdec : decG out = some xs := by rw [HOUT.out]; exact decG_chain HCH.out (by omega)
  have HD := iDecode_any A1 out.length c1 _ out p w1 HR1.out (Nat.le_refl _) (by omega) HA1.out HE1.out
  rw [hdec] at HD
  replace HD := hide HD
  clear hdec
  go_wp2_with fail
  refine HD.out.mono ?_
  rintro e w2 ⟨hb2, ⟨v2, t, ht, rfl, ho2, htl⟩ | ⟨h, _⟩⟩
  · obtain rfl := Option.some.inj ht
    have hz2' := hb2.size
    obtain ⟨A2, c2, rfl, _, _, _, _⟩ := ho2.form
    have hb02 := HB1.out.trans (hb2.mono hz1)
    have HWr2 := hide (Write_any A H2 xs.length c hn2 hc2 w.heap.size w.heap.size xs zs2 w2 (HX.out.below hb02) (HZ2.out.below hb02) (by omega) (by omega) hN hnc (by omega))
    have HB2 := hide hb02
    have HO2 := hide ho2
    clear ht ho2 hb2 hb02
    go_wp2_with fail
    refine HWr2.out.mono ?_
    rintro e w3 ⟨v3, out3, rfl, ho3, hw3, hb3⟩
    obtain ⟨body3, hout3, hchain3, hbl3⟩ := hw3
    rw [List.take_length] at hchain3
    have hol3 : out3.length ≤ 6000010 := by
      have := varL_length_le xs.length (by omega)
      rw [hout3, List.length_append]
      omega
    have hz3 := hb3.size
    obtain ⟨A3, c3, rfl, hc3, _, hr3, hA3⟩ := ho3.form
    have HB3 := hide (HB2.out.trans (hb3.mono (by omega)))
    have HO23 := hide (HO2.out.kept hb3)
    have hdec3 : decG out3 = some xs := by rw [hout3]; exact decG_chain hchain3 (by omega)
    have HD3 := iDecode_any A3 out3.length c3 _ out3 p w3 hr3 (Nat.le_refl _) (by omega) (fun h => by have := hA3 h; omega) (HE.out.keep HB3.out hlt)
    rw [hdec3] at HD3
    replace HD3 := hide HD3
    clear ho3 hb3 hr3 hout3 hchain3 hdec3 hA3
    go_wp2_with fail
    refine HD3.out.mono ?_
    rintro e w4 ⟨hb4, ⟨v4, t4, ht4, rfl, ho4, htl4⟩ | ⟨h, _⟩⟩
    · obtain rfl := Option.some.inj ht4
      have hz4 := hb4.size
      obtain ⟨A4, c4, rfl, _, _, hr4, _⟩ := ho4.form
      have hr2 := (HO23.out.kept hb4).rd.1
      have HR4 := hide hr4
      have HR2 := hide hr2
      have HB4 := hide (HB3.out.trans (hb4.mono (by omega)))
      clear ht4 ho4 hr4 hr2 hb4
      go_wp2_with fail
      refine (says_yes A4 A2 xs.length c4 c2 w4.heap.size w4.heap.size xs _ ((HR4.out.alloc (Nat.le_refl _) _).alloc (by simp) _) (by simp; omega) ((HR2.out.alloc (Nat.le_refl _) _).alloc (by simp) _) (by simp; omega) htl).mono ?_
      rintro e w5 ⟨rfl, hb5⟩
      have hz14 : w.heap.size ≤ w4.heap.size := by omega
      have HB5 := hide (((HB4.out.alloc hz14 _).alloc (by rw [World.size_alloc]; omega) _).trans (hb5.mono (by simp; omega)))
      have g0 := (hb5.cell (p := ⟨w4.heap.size, 0, none⟩) (by show w4.heap.size < _; simp only [World.size_alloc]; omega)).trans ((World.cell?_alloc_lt _ _ _ (by show w4.heap.size < _; simp only [World.size_alloc]; omega)).trans (World.cell?_alloc_at #[.slice A2 xs.length c2, .int .i64 0] 30 _ 0 rfl))
      clear hb5
      go_wp2
      go_ret
      exact ⟨rfl, HB5.out⟩
    · cases h
  · cases h

theorem FnSpelled_total (w : World) (A : Option Addr) (n c : Nat) (xs : Bs) (hx : Rd w w.heap.size A n xs) (hA : A = none → n = 0) (hnc : n ≤ c) (H : Option Addr) (hn hc : Nat) (zs : List Int) (hz : RdI w w.heap.size H hn zs) (hH : H = none → hn = 0) (hhc : hn ≤ hc) (H2 : Option Addr) (hn2 hc2 : Nat) (zs2 : List Int) (hz2 : RdI w w.heap.size H2 hn2 zs2) (hH2 : H2 = none → hn2 = 0) (hhc2 : hn2 ≤ hc2) (p : Addr) (hE : Corrupt w p) : Calls Tryd.prog 12 #[.slice A n c, .slice H hn hc, .slice H2 hn2 hc2] w (Yes w) := by
  by_cases h : 2147483647 < n ∨ 2147483647 < hn ∨ 2147483647 < hn2
  · exact FnSpelled_long A n c xs H hn hc zs H2 hn2 hc2 zs2 w h
  · by_cases hN : 1000000 < n
    · exact FnSpelled_large A n c xs H hn hc zs H2 hn2 hc2 zs2 w (by omega) (by omega) (by omega) hN
    · exact FnSpelled_walk A n c xs H hn hc zs H2 hn2 hc2 zs2 p w hx hA hnc hz hH hhc hz2 hH2 hhc2 (by omega) (by omega) (by omega) (by omega) hE

end Snap
end Go.Proofs.YtodbfgomkcmdgaaDoor

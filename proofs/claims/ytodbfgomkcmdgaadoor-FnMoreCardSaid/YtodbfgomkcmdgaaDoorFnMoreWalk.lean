/-
  The law FnMore, walked: it returns true.
-/
import Derived.Test.YtodbfgomkcmdgaaDoorLaws1
import Derived.Test.YtodbfgomkcmdgaaDoorWrite
namespace Go.Proofs.YtodbfgomkcmdgaaDoor
open Go.RowKit
set_option linter.unusedVariables false
namespace Snap

theorem FnMore_none {w : World} {base n c : Nat} {A : Option Addr} {xs : Bs} (h : Own w base (.slice A n c) xs) : A = none → n = 0 := by
  obtain ⟨A', c', he, hc, _, _, hA⟩ := h.form
  injection he with h1 h2 h3
  intro h0
  have h4 := hA (h1.symm.trans h0)
  omega

theorem mask1 (n : Int) : ∃ m : Nat, bits .and .i64 n 1 = (m : Int) ∧ m ≤ 1 := by
  have h1 : ((BitVec.ofInt 64 n) &&& (BitVec.ofInt 64 1)).toNat ≤ 1 := by
    rw [BitVec.toNat_and]
    have h2 : (BitVec.ofInt 64 1).toNat = 1 := by decide
    rw [h2]
    exact Nat.and_le_right
  refine ⟨((BitVec.ofInt 64 n) &&& (BitVec.ofInt 64 1)).toNat, ?_, h1⟩
  show IntKind.i64.wrap (((BitVec.ofInt 64 n) &&& (BitVec.ofInt 64 1)).toNat : Int) = _
  rw [IntKind.wrap_i64]
  omega

set_option maxRecDepth 100000 in
set_option maxHeartbeats 1000000 in
theorem FnMore_long (A : Option Addr) (n c : Nat) (xs : Bs) (H : Option Addr) (hn hc : Nat) (zs : List Int) (A2 : Option Addr) (n2 c2 : Nat) (xs2 : Bs) (z : Int) (w : World) (h : 2147483647 < n ∨ 2147483647 < hn ∨ 2147483647 < n2) : Calls Tryd.prog 9 #[.slice A n c, .slice H hn hc, .slice A2 n2 c2, .int .i64 z] w (Yes w) := by
  by_cases h0 : 2147483647 < n
  · have d0 : decide ((2147483647 : Int) < (n : Int)) = true := decide_eq_true (by omega)
    have l0 : 2147483647 < n := by omega
    clear h h0
    go_enter Tryd.func9, Tryd.ntmps9
    go_wp2
    go_ret
    exact ⟨rfl, Below.refl _ _⟩
  by_cases h1 : 2147483647 < hn
  · have d0 : decide ((2147483647 : Int) < (n : Int)) = false := decide_eq_false (by omega)
    have l0 : n ≤ 2147483647 := by omega
    have d1 : decide ((2147483647 : Int) < (hn : Int)) = true := decide_eq_true (by omega)
    have l1 : 2147483647 < hn := by omega
    clear h h0 h1
    go_enter Tryd.func9, Tryd.ntmps9
    go_wp2
    go_ret
    exact ⟨rfl, Below.refl _ _⟩
  have d0 : decide ((2147483647 : Int) < (n : Int)) = false := decide_eq_false (by omega)
  have l0 : n ≤ 2147483647 := by omega
  have d1 : decide ((2147483647 : Int) < (hn : Int)) = false := decide_eq_false (by omega)
  have l1 : hn ≤ 2147483647 := by omega
  have d2 : decide ((2147483647 : Int) < (n2 : Int)) = true := decide_eq_true (by omega)
  have l2 : 2147483647 < n2 := by omega
  clear h h0 h1
  go_enter Tryd.func9, Tryd.ntmps9
  go_wp2
  go_ret
  exact ⟨rfl, Below.refl _ _⟩

set_option maxRecDepth 100000 in
set_option maxHeartbeats 1000000 in
theorem FnMore_large (A : Option Addr) (n c : Nat) (xs : Bs) (H : Option Addr) (hn hc : Nat) (zs : List Int) (A2 : Option Addr) (n2 c2 : Nat) (xs2 : Bs) (z : Int) (w : World) (l0 : n ≤ 2147483647) (l1 : hn ≤ 2147483647) (l2 : n2 ≤ 2147483647) (h : 1000000 < n) : Calls Tryd.prog 9 #[.slice A n c, .slice H hn hc, .slice A2 n2 c2, .int .i64 z] w (Yes w) := by
  have d0 : decide ((2147483647 : Int) < (n : Int)) = false := decide_eq_false (by omega)
  have d1 : decide ((2147483647 : Int) < (hn : Int)) = false := decide_eq_false (by omega)
  have d2 : decide ((2147483647 : Int) < (n2 : Int)) = false := decide_eq_false (by omega)
  have HC := common_any A n c w
  rw [decide_eq_false (by omega)] at HC
  replace HC := hide HC
  go_enter Tryd.func9, Tryd.ntmps9
  go_wp2_with fail
  refine HC.out.mono ?_
  rintro e w' ⟨rfl, rfl⟩
  go_wp2
  go_ret
  exact ⟨rfl, Below.refl _ _⟩

set_option maxRecDepth 100000 in
set_option maxHeartbeats 1000000 in
theorem FnMore_walk (A : Option Addr) (n c : Nat) (xs : Bs) (H : Option Addr) (hn hc : Nat) (zs : List Int) (A2 : Option Addr) (n2 c2 : Nat) (xs2 : Bs) (z : Int) (p : Addr) (w : World) (hx : Rd w w.heap.size A n xs) (hA : A = none → n = 0) (hnc : n ≤ c) (hz : RdI w w.heap.size H hn zs) (hH : H = none → hn = 0) (hhc : hn ≤ hc) (hx2 : Rd w w.heap.size A2 n2 xs2) (hA2 : A2 = none → n2 = 0) (hnc2 : n2 ≤ c2) (hzi : (Lit.int .i64 z).wf = true) (l0 : n ≤ 2147483647) (l1 : hn ≤ 2147483647) (l2 : n2 ≤ 2147483647) (hN : n ≤ 1000000) (hE : Corrupt w p) : Calls Tryd.prog 9 #[.slice A n c, .slice H hn hc, .slice A2 n2 c2, .int .i64 z] w (Yes w) := by
  have hlt := hE.lt
  have d0 : decide ((2147483647 : Int) < (n : Int)) = false := decide_eq_false (by omega)
  have d1 : decide ((2147483647 : Int) < (hn : Int)) = false := decide_eq_false (by omega)
  have d2 : decide ((2147483647 : Int) < (n2 : Int)) = false := decide_eq_false (by omega)
  have HCm := common_any A n c w
  rw [decide_eq_true hN] at HCm
  replace HCm := hide HCm
  have HE := hide hE
  obtain rfl := hx.len
  have HWr := hide (Write_any A H xs.length c hn hc w.heap.size w.heap.size xs zs w hx hz (Nat.le_refl _) (Nat.le_refl _) hN hnc (by omega))
  have HX := hide hx
  have HX2 := hide hx2
  obtain ⟨m1, hm1, hm1b⟩ := mask1 z
  clear hx hA hz hH hhc hx2 hA2 hnc2 hzi hE
  go_enter Tryd.func9, Tryd.ntmps9
  go_wp2_with fail
  refine HCm.out.mono ?_
  rintro e w' ⟨rfl, rfl⟩
  go_wp2_with fail
  refine HWr.out.mono ?_
  rintro e w1 ⟨v1, out, rfl, ho1, hw1, hb1⟩
  obtain ⟨body, hout, hchain, hbl⟩ := hw1
  rw [List.take_length] at hchain
  have hol : out.length ≤ 6000010 := by
    have := varL_length_le xs.length (by omega)
    rw [hout, List.length_append]
    omega
  have hz1 := hb1.size
  obtain ⟨A1, c1, rfl, hc1, _, hr1, hA1⟩ := ho1.form
  have HR1 := hide hr1
  have HO1 := hide ho1
  have HB1 := hide hb1
  have HX1 := hide (HX.out.below hb1)
  have HE1 := hide (HE.out.keep hb1 hlt)
  have HOUT := hide hout
  have HCH := hide hchain
  have HA1 := hide (show A1 = none → out.length = 0 from fun h => by have := hA1 h; omega)
  clear ho1 hb1 hr1 hout hchain hA1
  by_cases hm : m1 = 0
  · subst hm
    by_cases hne : xs.length = 0
    · have en : decide ((0 : Int) < (xs.length : Int)) = false := decide_eq_false (by omega)
      have en' : decide (0 < xs.length) = false := decide_eq_false (by omega)
      clear hne
      have e7 : (((7 : UInt8).toNat : Nat) : Int) = 7 := by decide
      have HO7 := hide (own_one w1 7 7 e7.symm)
      clear e7
      go_wp2_with (at_builtin; refine append_own rfl (.tmp 44) (.tmp 45) rfl w1.heap.size w1 (.slice (some ⟨w1.heap.size, 0, none⟩) 1 1) [7] rfl HO7.out ((Below.refl _ _).alloc (Nat.le_refl _) _) w.heap.size A2 n2 c2 xs2 rfl ((HX2.out.below HB1.out).alloc hz1 _) (by rw [HX2.out.len]; simp; omega) (by simp) ?_; intro v2 w2 ho2 hg2 hb2; obtain ⟨A3, c3, hv3, hc3, hcm3, hr3, hn3⟩ := ho2.form; subst hv3; have hyl : ([7] ++ xs2 : Bs).length = n2 + 1 := by { rw [List.length_append, HX2.out.len]; simp; omega }; rw [hyl] at ho2 hr3 hc3 ⊢)
      have hz2 := hb2.size
      obtain ⟨ys, hys⟩ : ∃ ys, ys = ([7] ++ xs2 : Bs) := ⟨_, rfl⟩
      rw [← hys] at ho2 hr3 hyl
      obtain ⟨k, hk, hpart⟩ := part_any z 5 (by omega) (by omega) w2
      have HP := hide hpart
      have hlit := Literal_any A3 n2 c3 k w2.heap.size ys w2 hr3 (Nat.le_refl _) (by omega) (by omega)
      have hdec : decG (out ++ litL ys k) = none := by
        rw [HOUT.out, List.append_assoc, decG_varL _ _ (by omega)]
        exact HCH.out.run_more (elem_lit xs ys k (by rw [hyl]; omega) (by rw [hyl]; omega) (by omega))
      have hcl := litL_length_le ys k (by omega)
      rw [hyl] at hcl
      have HC := hide hlit
      have HDEC := hide hdec
      have HCL := hide hcl
      have HO2 := hide (HO1.out.kept hb2)
      have HB2 := hide (HB1.out.trans (hb2.mono hz1))
      clear hpart hdec hcl hlit hys hyl ho2 hg2 hb2 hr3 hcm3 hn3
      generalize litL ys k = el at *
      go_wp2_with fail
      refine HP.out.mono ?_
      rintro e w' ⟨rfl, rfl⟩
      go_wp2_with fail
      refine HC.out.mono ?_
      rintro e w4 ⟨v4, rfl, ho4, hb4⟩
      have hz4 := hb4.size
      obtain ⟨A4, c4, rfl, _, _, hr4, _⟩ := ho4.form
      have HR4 := hide hr4
      have HO4 := hide (HO2.out.kept hb4)
      have HB4 := hide (HB2.out.trans (hb4.mono (by omega)))
      clear ho4 hb4 hr4
      go_wp2_with (at_builtin; refine append_own rfl (.tmp 43) (.tmp 49) rfl w.heap.size w (.slice A1 out.length c1) out rfl HO4.out HB4.out w4.heap.size A4 el.length c4 el rfl HR4.out (by have := HCL.out; omega) (by omega) ?_; intro v5 w5 ho5 hg5 hb5; have hl5 : (out ++ el).length ≤ 4294967290 := by { rw [List.length_append]; have := HCL.out; omega })
      obtain ⟨A6, c6, rfl, _, _, hr6, _⟩ := ho5.form
      generalize hL : (out ++ el).length = L at *
      have hd := iDecode_any A6 L c6 _ (out ++ el) p w5 hr6 (Nat.le_refl _) (by omega) (FnMore_none ho5) (HE.out.keep hb5 hlt)
      rw [HDEC.out] at hd
      have HD := hide hd
      have hz5 := hb5.size
      have HB5 := hide hb5
      clear hL hd ho5 hg5 hb5 hr6
      go_wp2_with fail
      refine HD.out.mono ?_
      rintro e w6 ⟨hb6, ⟨v6, t, ht, _⟩ | ⟨_, rfl⟩⟩
      · cases ht
      · have hz6 := hb6.size
        have HB6 := hide (HB5.out.trans (hb6.mono (by omega)))
        clear hb6
        go_wp2_with fail
        refine (refused_yes (.slice none 0 0) w6 ⟨_, _, _, rfl⟩).mono ?_
        rintro e w7 ⟨rfl, hb7⟩
        have HB7 := hide (HB6.out.trans (hb7.mono (by omega)))
        clear hb7
        go_wp2
        go_ret
        exact ⟨rfl, HB7.out⟩

    · have HNE : 1 ≤ xs.length := by omega
      have en : decide ((0 : Int) < (xs.length : Int)) = true := decide_eq_true (by omega)
      have en' : decide (0 < xs.length) = true := decide_eq_true (by omega)
      clear hne
      obtain ⟨k, hk, hpart⟩ := part_any z 3 (by omega) (by omega) w1
      have HP := hide hpart
      have hfit : fitsL (1 + k) 4 1 = true := by
        have hkk : k = 0 ∨ k = 1 ∨ k = 2 := by omega
        rcases hkk with rfl | rfl | rfl <;> decide
      have hdec : decG (out ++ copyL (1 + k) 4 1) = none := by
        rw [HOUT.out, List.append_assoc, decG_varL _ _ (by omega)]
        exact HCH.out.run_more (elem_copy hfit (by omega) HNE)
      have hcl := copyL_length_le (1 + k) 4 1 hfit
      have HC := Copy_any (1 + k) 4 1 w1 hfit
      rw [show (((1 + k : Nat) : Nat) : Int) = 1 + (k : Int) from by omega] at HC
      replace HC := hide HC
      have HDEC := hide hdec
      have HCL := hide hcl
      clear hpart hdec hcl hfit
      generalize copyL (1 + k) 4 1 = el at *
      go_wp2_with fail
      refine HP.out.mono ?_
      rintro e w' ⟨rfl, rfl⟩
      go_wp2_with fail
      refine HC.out.mono ?_
      rintro e w4 ⟨v4, rfl, ho4, hb4⟩
      have hz4 := hb4.size
      obtain ⟨A4, c4, rfl, _, _, hr4, _⟩ := ho4.form
      have HR4 := hide hr4
      have HO4 := hide (HO1.out.kept hb4)
      have HB4 := hide (HB1.out.trans (hb4.mono hz1))
      clear ho4 hb4 hr4
      go_wp2_with (at_builtin; refine append_own rfl (.tmp 37) (.tmp 41) rfl w.heap.size w (.slice A1 out.length c1) out rfl HO4.out HB4.out w4.heap.size A4 el.length c4 el rfl HR4.out (by have := HCL.out; omega) (by omega) ?_; intro v5 w5 ho5 hg5 hb5; have hl5 : (out ++ el).length ≤ 6000020 := by { rw [List.length_append]; have := HCL.out; omega })
      obtain ⟨A6, c6, rfl, _, _, hr6, _⟩ := ho5.form
      generalize hL : (out ++ el).length = L at *
      have hd := iDecode_any A6 L c6 _ (out ++ el) p w5 hr6 (Nat.le_refl _) (by omega) (FnMore_none ho5) (HE.out.keep hb5 hlt)
      rw [HDEC.out] at hd
      have HD := hide hd
      have hz5 := hb5.size
      have HB5 := hide hb5
      clear hL hd ho5 hg5 hb5 hr6
      go_wp2_with fail
      refine HD.out.mono ?_
      rintro e w6 ⟨hb6, ⟨v6, t, ht, _⟩ | ⟨_, rfl⟩⟩
      · cases ht
      · have hz6 := hb6.size
        have HB6 := hide (HB5.out.trans (hb6.mono (by omega)))
        clear hb6
        go_wp2_with fail
        refine (refused_yes (.slice none 0 0) w6 ⟨_, _, _, rfl⟩).mono ?_
        rintro e w7 ⟨rfl, hb7⟩
        have HB7 := hide (HB6.out.trans (hb7.mono (by omega)))
        clear hb7
        go_wp2
        go_ret
        exact ⟨rfl, HB7.out⟩

  · have e1 : ((m1 : Int) == 0) = false := by rw [beq_eq_false_iff_ne]; omega
    clear hm
    have e7 : (((7 : UInt8).toNat : Nat) : Int) = 7 := by decide
    have HO7 := hide (own_one w1 7 7 e7.symm)
    clear e7
    go_wp2_with (at_builtin; refine append_own rfl (.tmp 44) (.tmp 45) rfl w1.heap.size w1 (.slice (some ⟨w1.heap.size, 0, none⟩) 1 1) [7] rfl HO7.out ((Below.refl _ _).alloc (Nat.le_refl _) _) w.heap.size A2 n2 c2 xs2 rfl ((HX2.out.below HB1.out).alloc hz1 _) (by rw [HX2.out.len]; simp; omega) (by simp) ?_; intro v2 w2 ho2 hg2 hb2; obtain ⟨A3, c3, hv3, hc3, hcm3, hr3, hn3⟩ := ho2.form; subst hv3; have hyl : ([7] ++ xs2 : Bs).length = n2 + 1 := by { rw [List.length_append, HX2.out.len]; simp; omega }; rw [hyl] at ho2 hr3 hc3 ⊢)
    have hz2 := hb2.size
    obtain ⟨ys, hys⟩ : ∃ ys, ys = ([7] ++ xs2 : Bs) := ⟨_, rfl⟩
    rw [← hys] at ho2 hr3 hyl
    obtain ⟨k, hk, hpart⟩ := part_any z 5 (by omega) (by omega) w2
    have HP := hide hpart
    have hlit := Literal_any A3 n2 c3 k w2.heap.size ys w2 hr3 (Nat.le_refl _) (by omega) (by omega)
    have hdec : decG (out ++ litL ys k) = none := by
      rw [HOUT.out, List.append_assoc, decG_varL _ _ (by omega)]
      exact HCH.out.run_more (elem_lit xs ys k (by rw [hyl]; omega) (by rw [hyl]; omega) (by omega))
    have hcl := litL_length_le ys k (by omega)
    rw [hyl] at hcl
    have HC := hide hlit
    have HDEC := hide hdec
    have HCL := hide hcl
    have HO2 := hide (HO1.out.kept hb2)
    have HB2 := hide (HB1.out.trans (hb2.mono hz1))
    clear hpart hdec hcl hlit hys hyl ho2 hg2 hb2 hr3 hcm3 hn3
    generalize litL ys k = el at *
    go_wp2_with fail
    refine HP.out.mono ?_
    rintro e w' ⟨rfl, rfl⟩
    go_wp2_with fail
    refine HC.out.mono ?_
    rintro e w4 ⟨v4, rfl, ho4, hb4⟩
    have hz4 := hb4.size
    obtain ⟨A4, c4, rfl, _, _, hr4, _⟩ := ho4.form
    have HR4 := hide hr4
    have HO4 := hide (HO2.out.kept hb4)
    have HB4 := hide (HB2.out.trans (hb4.mono (by omega)))
    clear ho4 hb4 hr4
    go_wp2_with (at_builtin; refine append_own rfl (.tmp 43) (.tmp 49) rfl w.heap.size w (.slice A1 out.length c1) out rfl HO4.out HB4.out w4.heap.size A4 el.length c4 el rfl HR4.out (by have := HCL.out; omega) (by omega) ?_; intro v5 w5 ho5 hg5 hb5; have hl5 : (out ++ el).length ≤ 4294967290 := by { rw [List.length_append]; have := HCL.out; omega })
    obtain ⟨A6, c6, rfl, _, _, hr6, _⟩ := ho5.form
    generalize hL : (out ++ el).length = L at *
    have hd := iDecode_any A6 L c6 _ (out ++ el) p w5 hr6 (Nat.le_refl _) (by omega) (FnMore_none ho5) (HE.out.keep hb5 hlt)
    rw [HDEC.out] at hd
    have HD := hide hd
    have hz5 := hb5.size
    have HB5 := hide hb5
    clear hL hd ho5 hg5 hb5 hr6
    go_wp2_with fail
    refine HD.out.mono ?_
    rintro e w6 ⟨hb6, ⟨v6, t, ht, _⟩ | ⟨_, rfl⟩⟩
    · cases ht
    · have hz6 := hb6.size
      have HB6 := hide (HB5.out.trans (hb6.mono (by omega)))
      clear hb6
      go_wp2_with fail
      refine (refused_yes (.slice none 0 0) w6 ⟨_, _, _, rfl⟩).mono ?_
      rintro e w7 ⟨rfl, hb7⟩
      have HB7 := hide (HB6.out.trans (hb7.mono (by omega)))
      clear hb7
      go_wp2
      go_ret
      exact ⟨rfl, HB7.out⟩

theorem FnMore_total (w : World) (A : Option Addr) (n c : Nat) (xs : Bs) (hx : Rd w w.heap.size A n xs) (hA : A = none → n = 0) (hnc : n ≤ c) (H : Option Addr) (hn hc : Nat) (zs : List Int) (hz : RdI w w.heap.size H hn zs) (hH : H = none → hn = 0) (hhc : hn ≤ hc) (A2 : Option Addr) (n2 c2 : Nat) (xs2 : Bs) (hx2 : Rd w w.heap.size A2 n2 xs2) (hA2 : A2 = none → n2 = 0) (hnc2 : n2 ≤ c2) (z : Int) (hzi : (Lit.int .i64 z).wf = true) (p : Addr) (hE : Corrupt w p) : Calls Tryd.prog 9 #[.slice A n c, .slice H hn hc, .slice A2 n2 c2, .int .i64 z] w (Yes w) := by
  by_cases h : 2147483647 < n ∨ 2147483647 < hn ∨ 2147483647 < n2
  · exact FnMore_long A n c xs H hn hc zs A2 n2 c2 xs2 z w h
  · by_cases hN : 1000000 < n
    · exact FnMore_large A n c xs H hn hc zs A2 n2 c2 xs2 z w (by omega) (by omega) (by omega) hN
    · exact FnMore_walk A n c xs H hn hc zs A2 n2 c2 xs2 z p w hx hA hnc hz hH hhc hx2 hA2 hnc2 hzi (by omega) (by omega) (by omega) (by omega) hE

end Snap
end Go.Proofs.YtodbfgomkcmdgaaDoor

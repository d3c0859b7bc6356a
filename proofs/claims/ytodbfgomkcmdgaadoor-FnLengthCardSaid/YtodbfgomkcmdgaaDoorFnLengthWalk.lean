/-
  The law FnLength, walked: it returns true.
-/
import Derived.Test.YtodbfgomkcmdgaaDoorLaws1
import Derived.Test.YtodbfgomkcmdgaaDoorWrite
namespace Go.Proofs.YtodbfgomkcmdgaaDoor
open Go.RowKit
set_option linter.unusedVariables false
namespace Snap

theorem FnLength_none {w : World} {base n c : Nat} {A : Option Addr} {xs : Bs} (h : Own w base (.slice A n c) xs) : A = none → n = 0 := by
  obtain ⟨A', c', he, hc, _, _, hA⟩ := h.form
  injection he with h1 h2 h3
  intro h0
  have h4 := hA (h1.symm.trans h0)
  omega

set_option maxRecDepth 100000 in
set_option maxHeartbeats 1000000 in
theorem FnLength_long (A : Option Addr) (n c : Nat) (xs : Bs) (H : Option Addr) (hn hc : Nat) (zs : List Int) (z : Int) (w : World) (h : 2147483647 < n ∨ 2147483647 < hn) : Calls Tryd.prog 7 #[.slice A n c, .slice H hn hc, .int .i64 z] w (Yes w) := by
  by_cases h0 : 2147483647 < n
  · have d0 : decide ((2147483647 : Int) < (n : Int)) = true := decide_eq_true (by omega)
    have l0 : 2147483647 < n := by omega
    clear h h0
    go_enter Tryd.func7, Tryd.ntmps7
    go_wp2
    go_ret
    exact ⟨rfl, Below.refl _ _⟩
  have d0 : decide ((2147483647 : Int) < (n : Int)) = false := decide_eq_false (by omega)
  have l0 : n ≤ 2147483647 := by omega
  have d1 : decide ((2147483647 : Int) < (hn : Int)) = true := decide_eq_true (by omega)
  have l1 : 2147483647 < hn := by omega
  clear h h0
  go_enter Tryd.func7, Tryd.ntmps7
  go_wp2
  go_ret
  exact ⟨rfl, Below.refl _ _⟩

set_option maxRecDepth 100000 in
set_option maxHeartbeats 1000000 in
theorem FnLength_large (A : Option Addr) (n c : Nat) (xs : Bs) (H : Option Addr) (hn hc : Nat) (zs : List Int) (z : Int) (w : World) (l0 : n ≤ 2147483647) (l1 : hn ≤ 2147483647) (h : 1000000 < n) : Calls Tryd.prog 7 #[.slice A n c, .slice H hn hc, .int .i64 z] w (Yes w) := by
  have d0 : decide ((2147483647 : Int) < (n : Int)) = false := decide_eq_false (by omega)
  have d1 : decide ((2147483647 : Int) < (hn : Int)) = false := decide_eq_false (by omega)
  have HC := common_any A n c w
  rw [decide_eq_false (by omega)] at HC
  replace HC := hide HC
  go_enter Tryd.func7, Tryd.ntmps7
  go_wp2_with fail
  refine HC.out.mono ?_
  rintro e w' ⟨rfl, rfl⟩
  go_wp2
  go_ret
  exact ⟨rfl, Below.refl _ _⟩

set_option maxRecDepth 100000 in
set_option maxHeartbeats 1000000 in
theorem FnLength_walk (A : Option Addr) (n c : Nat) (xs : Bs) (H : Option Addr) (hn hc : Nat) (zs : List Int) (z : Int) (p : Addr) (w : World) (hx : Rd w w.heap.size A n xs) (hA : A = none → n = 0) (hnc : n ≤ c) (hz : RdI w w.heap.size H hn zs) (hH : H = none → hn = 0) (hhc : hn ≤ hc) (hzi : (Lit.int .i64 z).wf = true) (l0 : n ≤ 2147483647) (l1 : hn ≤ 2147483647) (hN : n ≤ 1000000) (hE : Corrupt w p) : Calls Tryd.prog 7 #[.slice A n c, .slice H hn hc, .int .i64 z] w (Yes w) := by
  have hlt := hE.lt
  have d0 : decide ((2147483647 : Int) < (n : Int)) = false := decide_eq_false (by omega)
  have d1 : decide ((2147483647 : Int) < (hn : Int)) = false := decide_eq_false (by omega)
  have HCm := common_any A n c w
  rw [decide_eq_true hN] at HCm
  replace HCm := hide HCm
  have HE := hide hE
  obtain ⟨k, hk, hpart⟩ := part_any z 90000 (by omega) (by omega) w
  have HP := hide hpart
  obtain rfl := hx.len
  have HX := hide hx
  have HZ := hide hz
  clear hpart hx hA hz hH hhc hzi hE
  go_enter Tryd.func7, Tryd.ntmps7
  go_wp2_with fail
  refine HCm.out.mono ?_
  rintro e w' ⟨rfl, rfl⟩
  go_wp2_with fail
  refine HP.out.mono ?_
  rintro e w' ⟨rfl, rfl⟩
  by_cases hq : k = xs.length
  · have eq1 : ((k : Int) == (xs.length : Int)) = true := by rw [hq]; simp
    have hq2 : k + 1 ≠ xs.length := by omega
    have hk2 : k + 1 ≤ 90001 := by omega
    obtain ⟨q, hqq⟩ : ∃ q, q = k + 1 := ⟨_, rfl⟩
    have hqi : (k : Int) + 1 = (q : Int) := by omega
    rw [← hqq] at hq2 hk2
    have HV := hide (Varint_any q (by omega) w)
    have HQ2 := hide hq2
    clear hqq hq hq2
    go_wp2_with fail
    refine HV.out.mono ?_
    rintro e w1 ⟨v1, rfl, ho1, hb1⟩
    have hz1 := hb1.size
    have hvl := varL_length_le q (by omega)
    have HVL := hide hvl
    have HWr := hide (Write_any A H xs.length c hn hc w.heap.size w.heap.size xs zs w1 (HX.out.below hb1) (HZ.out.below hb1) hz1 hz1 hN hnc (by omega))
    have HO1 := hide ho1
    have HB1 := hide hb1
    clear ho1 hb1 hvl
    go_wp2_with fail
    refine HWr.out.mono ?_
    rintro e w2 ⟨v2, out, rfl, ho2, hw2, hb2⟩
    obtain ⟨body, hout, hchain, hbl⟩ := hw2
    rw [List.take_length] at hchain
    have hz2 := hb2.size
    have hvx := varL_length_le xs.length (by omega)
    have hol : out.length ≤ 6000010 := by rw [hout, List.length_append]; omega
    have hat : (varL xs.length).length ≤ out.length := by rw [hout, List.length_append]; omega
    have hhead : head out = some (xs.length, (varL xs.length).length) := by rw [hout]; exact head_varL _ _ (by omega)
    have hdrop : out.drop (varL xs.length).length = body := by rw [hout]; exact List.drop_left
    obtain ⟨A2, c2, rfl, hc2, _, hr2, _⟩ := ho2.form
    have HBd := hide (Body_any A2 out.length c2 _ xs.length (varL xs.length).length out w2 hr2 (by omega) hc2 hhead hat)
    have hcut := hr2.cut (k := (varL xs.length).length) (cap := c2) hat hc2
    rw [hdrop] at hcut
    generalize (varL xs.length).length = at_ at *
    have HR2 := hide hcut
    have HCH := hide hchain
    have HO2 := hide (HO1.out.kept hb2)
    have HB2 := hide (HB1.out.trans (hb2.mono hz1))
    have hlb : body.length = out.length - at_ := hcut.len
    have HLB := hide hlb
    clear ho2 hb2 hr2 hcut hchain hout hhead hdrop hlb
    go_wp2_with fail
    refine HBd.out.mono ?_
    rintro e w' ⟨rfl, rfl⟩
    go_wp2_with (at_builtin; refine append_own rfl (.tmp 27) (.tmp 31) rfl w.heap.size w v1 (varL q) rfl HO2.out HB2.out w2.heap.size (cutA A2 c2 at_) (out.length - at_) (c2 - at_) body rfl HR2.out (by rw [HLB.out]; have := HVL.out; omega) (by omega) ?_; intro v3 w3 hown3 hgrow3 hbel3)
    have hdec : decG (varL q ++ body) = none := by
      rw [decG_varL q body (by omega)]
      exact HCH.out.run_other q HQ2.out
    obtain ⟨A3, c3, rfl, _, _, hr3, hA3⟩ := hown3.form
    have hl3 : (varL q ++ body).length ≤ 6000020 := by rw [List.length_append, HLB.out]; have := HVL.out; omega
    have HD := iDecode_any A3 (varL q ++ body).length c3 _ (varL q ++ body) p w3 hr3 (Nat.le_refl _) (by omega) (FnLength_none hown3) (HE.out.keep hbel3 hlt)
    rw [hdec] at HD
    replace HD := hide HD
    have hz3 := hbel3.size
    have HB3 := hide hbel3
    clear hown3 hgrow3 hbel3 hdec hr3 hA3 hl3
    go_wp2_with fail
    refine HD.out.mono ?_
    rintro e w4 ⟨hb4, ⟨v4, t, ht, _⟩ | ⟨_, rfl⟩⟩
    · cases ht
    · have hz4 := hb4.size
      have HB4 := hide (HB3.out.trans (hb4.mono (by omega)))
      clear hb4
      go_wp2_with fail
      refine (refused_yes (.slice none 0 0) w4 ⟨_, _, _, rfl⟩).mono ?_
      rintro e w5 ⟨rfl, hb5⟩
      have HB5 := hide (HB4.out.trans (hb5.mono (by omega)))
      clear hb5
      go_wp2
      go_ret
      exact ⟨rfl, HB5.out⟩
  · have eq1 : ((k : Int) == (xs.length : Int)) = false := by rw [beq_eq_false_iff_ne]; omega
    have hk2 : k ≤ 90001 := by omega
    obtain ⟨q, hqq⟩ : ∃ q, q = k := ⟨_, rfl⟩
    have hqi : (k : Int) = (q : Int) := by omega
    rw [← hqq] at hq hk2
    have HV := hide (Varint_any q (by omega) w)
    have HQ2 := hide hq
    clear hqq hq
    go_wp2_with fail
    refine HV.out.mono ?_
    rintro e w1 ⟨v1, rfl, ho1, hb1⟩
    have hz1 := hb1.size
    have hvl := varL_length_le q (by omega)
    have HVL := hide hvl
    have HWr := hide (Write_any A H xs.length c hn hc w.heap.size w.heap.size xs zs w1 (HX.out.below hb1) (HZ.out.below hb1) hz1 hz1 hN hnc (by omega))
    have HO1 := hide ho1
    have HB1 := hide hb1
    clear ho1 hb1 hvl
    go_wp2_with fail
    refine HWr.out.mono ?_
    rintro e w2 ⟨v2, out, rfl, ho2, hw2, hb2⟩
    obtain ⟨body, hout, hchain, hbl⟩ := hw2
    rw [List.take_length] at hchain
    have hz2 := hb2.size
    have hvx := varL_length_le xs.length (by omega)
    have hol : out.length ≤ 6000010 := by rw [hout, List.length_append]; omega
    have hat : (varL xs.length).length ≤ out.length := by rw [hout, List.length_append]; omega
    have hhead : head out = some (xs.length, (varL xs.length).length) := by rw [hout]; exact head_varL _ _ (by omega)
    have hdrop : out.drop (varL xs.length).length = body := by rw [hout]; exact List.drop_left
    obtain ⟨A2, c2, rfl, hc2, _, hr2, _⟩ := ho2.form
    have HBd := hide (Body_any A2 out.length c2 _ xs.length (varL xs.length).length out w2 hr2 (by omega) hc2 hhead hat)
    have hcut := hr2.cut (k := (varL xs.length).length) (cap := c2) hat hc2
    rw [hdrop] at hcut
    generalize (varL xs.length).length = at_ at *
    have HR2 := hide hcut
    have HCH := hide hchain
    have HO2 := hide (HO1.out.kept hb2)
    have HB2 := hide (HB1.out.trans (hb2.mono hz1))
    have hlb : body.length = out.length - at_ := hcut.len
    have HLB := hide hlb
    clear ho2 hb2 hr2 hcut hchain hout hhead hdrop hlb
    go_wp2_with fail
    refine HBd.out.mono ?_
    rintro e w' ⟨rfl, rfl⟩
    go_wp2_with (at_builtin; refine append_own rfl (.tmp 27) (.tmp 31) rfl w.heap.size w v1 (varL q) rfl HO2.out HB2.out w2.heap.size (cutA A2 c2 at_) (out.length - at_) (c2 - at_) body rfl HR2.out (by rw [HLB.out]; have := HVL.out; omega) (by omega) ?_; intro v3 w3 hown3 hgrow3 hbel3)
    have hdec : decG (varL q ++ body) = none := by
      rw [decG_varL q body (by omega)]
      exact HCH.out.run_other q HQ2.out
    obtain ⟨A3, c3, rfl, _, _, hr3, hA3⟩ := hown3.form
    have hl3 : (varL q ++ body).length ≤ 6000020 := by rw [List.length_append, HLB.out]; have := HVL.out; omega
    have HD := iDecode_any A3 (varL q ++ body).length c3 _ (varL q ++ body) p w3 hr3 (Nat.le_refl _) (by omega) (FnLength_none hown3) (HE.out.keep hbel3 hlt)
    rw [hdec] at HD
    replace HD := hide HD
    have hz3 := hbel3.size
    have HB3 := hide hbel3
    clear hown3 hgrow3 hbel3 hdec hr3 hA3 hl3
    go_wp2_with fail
    refine HD.out.mono ?_
    rintro e w4 ⟨hb4, ⟨v4, t, ht, _⟩ | ⟨_, rfl⟩⟩
    · cases ht
    · have hz4 := hb4.size
      have HB4 := hide (HB3.out.trans (hb4.mono (by omega)))
      clear hb4
      go_wp2_with fail
      refine (refused_yes (.slice none 0 0) w4 ⟨_, _, _, rfl⟩).mono ?_
      rintro e w5 ⟨rfl, hb5⟩
      have HB5 := hide (HB4.out.trans (hb5.mono (by omega)))
      clear hb5
      go_wp2
      go_ret
      exact ⟨rfl, HB5.out⟩

theorem FnLength_total (w : World) (A : Option Addr) (n c : Nat) (xs : Bs) (hx : Rd w w.heap.size A n xs) (hA : A = none → n = 0) (hnc : n ≤ c) (H : Option Addr) (hn hc : Nat) (zs : List Int) (hz : RdI w w.heap.size H hn zs) (hH : H = none → hn = 0) (hhc : hn ≤ hc) (z : Int) (hzi : (Lit.int .i64 z).wf = true) (p : Addr) (hE : Corrupt w p) : Calls Tryd.prog 7 #[.slice A n c, .slice H hn hc, .int .i64 z] w (Yes w) := by
  by_cases h : 2147483647 < n ∨ 2147483647 < hn
  · exact FnLength_long A n c xs H hn hc zs z w h
  · by_cases hN : 1000000 < n
    · exact FnLength_large A n c xs H hn hc zs z w (by omega) (by omega) hN
    · exact FnLength_walk A n c xs H hn hc zs z p w hx hA hnc hz hH hhc hzi (by omega) (by omega) (by omega) hE

end Snap
end Go.Proofs.YtodbfgomkcmdgaaDoor

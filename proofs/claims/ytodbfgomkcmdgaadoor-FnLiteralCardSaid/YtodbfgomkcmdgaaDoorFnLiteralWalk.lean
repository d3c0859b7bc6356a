/-
  The law FnLiteral, walked: it returns true.
-/
import Derived.Test.YtodbfgomkcmdgaaDoorLaws1
import Derived.Test.YtodbfgomkcmdgaaDoorWrite
namespace Go.Proofs.YtodbfgomkcmdgaaDoor
open Go.RowKit
set_option linter.unusedVariables false
namespace Snap

theorem FnLiteral_none {w : World} {base n c : Nat} {A : Option Addr} {xs : Bs} (h : Own w base (.slice A n c) xs) : A = none → n = 0 := by
  obtain ⟨A', c', he, hc, _, _, hA⟩ := h.form
  injection he with h1 h2 h3
  intro h0
  have h4 := hA (h1.symm.trans h0)
  omega

set_option maxRecDepth 100000 in
set_option maxHeartbeats 1000000 in
theorem FnLiteral_long (A : Option Addr) (n c : Nat) (xs : Bs) (z : Int) (w : World) (h : 2147483647 < n) : Calls Tryd.prog 8 #[.slice A n c, .int .i64 z] w (Yes w) := by
  have d0 : decide ((2147483647 : Int) < (n : Int)) = true := decide_eq_true (by omega)
  have l0 : 2147483647 < n := by omega
  clear h
  go_enter Tryd.func8, Tryd.ntmps8
  go_wp2
  go_ret
  exact ⟨rfl, Below.refl _ _⟩

set_option maxRecDepth 100000 in
set_option maxHeartbeats 1000000 in
theorem FnLiteral_large (A : Option Addr) (n c : Nat) (xs : Bs) (z : Int) (w : World) (l0 : n ≤ 2147483647) (h : 1000000 < n) : Calls Tryd.prog 8 #[.slice A n c, .int .i64 z] w (Yes w) := by
  have d0 : decide ((2147483647 : Int) < (n : Int)) = false := decide_eq_false (by omega)
  have HC := common_any A n c w
  rw [decide_eq_false (by omega)] at HC
  replace HC := hide HC
  go_enter Tryd.func8, Tryd.ntmps8
  go_wp2_with fail
  refine HC.out.mono ?_
  rintro e w' ⟨rfl, rfl⟩
  go_wp2
  go_ret
  exact ⟨rfl, Below.refl _ _⟩

set_option maxRecDepth 100000 in
set_option maxHeartbeats 1000000 in
theorem FnLiteral_walk (A : Option Addr) (n c : Nat) (xs : Bs) (z : Int) (p : Addr) (w : World) (hx : Rd w w.heap.size A n xs) (hA : A = none → n = 0) (hnc : n ≤ c) (hzi : (Lit.int .i64 z).wf = true) (l0 : n ≤ 2147483647) (hN : n ≤ 1000000) (hE : Corrupt w p) : Calls Tryd.prog 8 #[.slice A n c, .int .i64 z] w (Yes w) := by
  have hlt := hE.lt
  have d0 : decide ((2147483647 : Int) < (n : Int)) = false := decide_eq_false (by omega)
  have HCm := common_any A n c w
  rw [decide_eq_true hN] at HCm
  replace HCm := hide HCm
  have HE := hide hE
  obtain ⟨bt, hbt, hpart⟩ := part_any z 5 (by omega) (by omega) w
  obtain rfl := hx.len
  have HX := hide hx
  have hown0 : Own (w.alloc (.cells #[] 5)) w.heap.size (.slice (some ⟨w.heap.size, 0, none⟩) 0 0) [] :=
    World.ownsRow_lit w #[] 0 (Nat.le_refl _) (by simp [maxLen]) rfl
  have HO0 := hide hown0
  have e3 : (((3 : UInt8).toNat : Nat) : Int) = 3 := by decide
  have E3 := hide e3
  clear hpart hown0 e3 hx hA hnc hzi hE
  go_enter Tryd.func8, Tryd.ntmps8
  go_wp2_with fail
  refine HCm.out.mono ?_
  rintro e w' ⟨rfl, rfl⟩
  go_wp2_with (first
    | (at_builtin; refine append_own rfl (.tmp 11) (.tmp 12) rfl w.heap.size w (.slice (some ⟨w.heap.size, 0, none⟩) 0 0) [] rfl HO0.out ((Below.refl _ _).alloc (Nat.le_refl _) _) w.heap.size A xs.length c xs rfl (HX.out.alloc (Nat.le_refl _) _) (by simp; omega) (by simp) ?_; intro v1 w1 ho1 hg1 hb1)
    | (at_builtin; refine append_own rfl (.tmp 13) (.tmp 14) rfl w.heap.size w v1 ([] ++ xs) rfl (ho1.alloc _) (hb1.alloc hb1.size _) (w1.heap.size + 1) (some ⟨w1.heap.size, 0, none⟩) 1 1 [3] rfl (Rd.one _ _ _ E3.out.symm) (by simp; omega) (by have := hb1.size; simp; omega) ?_; intro v2 w2 ho2 hg2 hb2; obtain ⟨A2, c2, hv2, hc2, hcm2, hr2, hn2⟩ := ho2.form; subst hv2))
  have hz1 := hb1.size
  clear ho1 hg1 hb1 hcm2 hn2
  have hyl : ([] ++ xs ++ [3] : Bs).length = xs.length + 1 := by simp
  rw [hyl] at ho2 hr2 hc2
  obtain ⟨ys, hys⟩ : ∃ ys, ys = [] ++ xs ++ [3] := ⟨_, rfl⟩
  rw [← hys] at ho2 hr2 hyl
  have hz2 := hb2.size
  have HV := hide (Varint_any (xs.length + 1) (by omega) w2)
  have HLi := hide hr2
  have HTX2 := hide hr2
  have HO2 := hide ho2
  have HB2 := hide hb2
  have HYL := hide hyl
  clear ho2 hg2 hb2 hr2 hys hyl
  go_wp2_with fail
  refine HV.out.mono ?_
  rintro e w3 ⟨v3, rfl, ho3, hb3⟩
  have hz3 := hb3.size
  have hvl := varL_length_le (xs.length + 1) (by omega)
  have HVL := hide hvl
  obtain ⟨bt, hbt, hpart⟩ := part_any z 5 (by omega) (by omega) w3
  have HP := hide hpart
  have hr3 := HLi.out.keep (w' := w3) (fun k hk => hb3.block k (by omega))
  have HL3 := hide (Literal_any A2 xs.length c2 bt w2.heap.size ys w3 hr3 hz3 (by omega) (by omega))
  have HTX3 := hide hr3
  have HO3 := hide ho3
  have HB3 := hide hb3
  clear ho3 hb3 hvl hpart hr3
  go_wp2_with fail
  refine HP.out.mono ?_
  rintro e w' ⟨rfl, rfl⟩
  go_wp2_with fail
  refine HL3.out.mono ?_
  rintro e w4 ⟨v4, rfl, ho4, hb4⟩
  have hz4 := hb4.size
  have hll := litL_length_le ys bt (by omega)
  have hdec : decG (varL (xs.length + 1) ++ litL ys bt) = some ys := by
    have hch := Chain.one (elem_lit [] ys bt (by rw [HYL.out]; omega) (by rw [HYL.out]; omega) (by omega))
    have := decG_chain hch (by simp [HYL.out]; omega)
    simpa [HYL.out] using this
  have HDEC := hide hdec
  rw [HYL.out] at hll
  obtain ⟨A4, c4, rfl, _, _, hr4, _⟩ := ho4.form
  have HR4 := hide hr4
  have HLL := hide hll
  have HO4 := hide (HO3.out.kept hb4)
  have HB24 := hide (HB3.out.trans (hb4.mono hz3))
  have HTX4 := hide (HTX3.out.keep (w' := w4) (fun k hk => hb4.block k (by omega)))
  clear ho4 hb4 hr4 hdec hll
  generalize litL ys bt = el at *
  go_wp2_with (at_builtin; refine append_own rfl (.tmp 18) (.tmp 22) rfl w2.heap.size w2 v3 (varL (xs.length + 1)) rfl HO4.out HB24.out w4.heap.size A4 el.length c4 el rfl HR4.out (by have := HVL.out; have := HLL.out; omega) (by omega) ?_; intro v5 w5 ho5 hg5 hb25)
  have hz25 := hb25.size
  have HTX := hide (HTX2.out.keep (w' := w5) (fun k hk => hb25.block k hk))
  have HB4 := hide (HB2.out.trans (hb25.mono hz2))
  obtain ⟨A6, c6, rfl, _, _, hr6, _⟩ := ho5.form
  have hl6 : (varL (xs.length + 1) ++ el).length ≤ 4294967295 := by rw [List.length_append]; have := HVL.out; have := HLL.out; omega
  generalize hL : (varL (xs.length + 1) ++ el).length = L at *
  clear hL
  have HD := iDecode_any A6 L c6 _ (varL (xs.length + 1) ++ el) p w5 hr6 (Nat.le_refl _) hl6 (FnLiteral_none ho5) (HE.out.keep HB4.out hlt)
  rw [HDEC.out] at HD
  replace HD := hide HD
  clear ho5 hg5 hb25 hr6 hl6
  go_wp2_with fail
  refine HD.out.mono ?_
  rintro e w7 ⟨hb5, ⟨v5, t, ht, rfl, ho5, htl⟩ | ⟨h, _⟩⟩
  · obtain rfl := Option.some.inj ht
    have hz5 := hb5.size
    obtain ⟨A5, c5, rfl, _, _, hr5, _⟩ := ho5.form
    rw [HYL.out] at hr5 htl ⊢
    have hx5 := HTX.out.keep (w' := w7) (fun k hk => hb5.block k (by omega))
    have HX5 := hide hx5
    have HR5 := hide hr5
    have HB5 := hide (HB4.out.trans (hb5.mono (by omega)))
    clear ht ho5 hr5 hx5 hb5
    go_wp2_with fail
    refine (says_yes A5 A2 (xs.length + 1) c5 c2 _ _ ys w7 HR5.out (Nat.le_refl _) HX5.out (by omega) (by omega)).mono ?_
    rintro e w8 ⟨rfl, hb6⟩
    have HB6 := hide (HB5.out.trans (hb6.mono (by omega)))
    clear hb6
    go_wp2
    go_ret
    exact ⟨rfl, HB6.out⟩
  · cases h

theorem FnLiteral_total (w : World) (A : Option Addr) (n c : Nat) (xs : Bs) (hx : Rd w w.heap.size A n xs) (hA : A = none → n = 0) (hnc : n ≤ c) (z : Int) (hzi : (Lit.int .i64 z).wf = true) (p : Addr) (hE : Corrupt w p) : Calls Tryd.prog 8 #[.slice A n c, .int .i64 z] w (Yes w) := by
  by_cases h : 2147483647 < n
  · exact FnLiteral_long A n c xs z w h
  · by_cases hN : 1000000 < n
    · exact FnLiteral_large A n c xs z w (by omega) hN
    · exact FnLiteral_walk A n c xs z p w hx hA hnc hzi (by omega) (by omega) hE

end Snap
end Go.Proofs.YtodbfgomkcmdgaaDoor

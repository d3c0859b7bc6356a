/-
  The law FnRun, walked: it returns true.
-/
import Derived.Test.YtodbfgomkcmdgaaDoorLaws1
import Derived.Test.YtodbfgomkcmdgaaDoorWrite
import Derived.Test.YtodbfgomkcmdgaaDoorRun1
namespace Go.Proofs.YtodbfgomkcmdgaaDoor
open Go.RowKit
set_option linter.unusedVariables false
namespace Snap

theorem FnRun_none {w : World} {base n c : Nat} {A : Option Addr} {xs : Bs} (h : Own w base (.slice A n c) xs) : A = none → n = 0 := by
  obtain ⟨A', c', he, hc, _, _, hA⟩ := h.form
  injection he with h1 h2 h3
  intro h0
  have h4 := hA (h1.symm.trans h0)
  omega

set_option maxRecDepth 100000 in
set_option maxHeartbeats 1000000 in
theorem FnRun_long (A : Option Addr) (n c : Nat) (xs : Bs) (z : Int) (z2 : Int) (z3 : Int) (w : World) (h : 2147483647 < n) : Calls Tryd.prog 11 #[.slice A n c, .int .i64 z, .int .i64 z2, .int .i64 z3] w (Yes w) := by
  have d0 : decide ((2147483647 : Int) < (n : Int)) = true := decide_eq_true (by omega)
  have l0 : 2147483647 < n := by omega
  clear h
  go_enter Tryd.func11, Tryd.ntmps11
  go_wp2
  go_ret
  exact ⟨rfl, Below.refl _ _⟩

set_option maxRecDepth 100000 in
set_option maxHeartbeats 1000000 in
theorem FnRun_large (A : Option Addr) (n c : Nat) (xs : Bs) (z : Int) (z2 : Int) (z3 : Int) (w : World) (l0 : n ≤ 2147483647) (h : 1000000 < n) : Calls Tryd.prog 11 #[.slice A n c, .int .i64 z, .int .i64 z2, .int .i64 z3] w (Yes w) := by
  have d0 : decide ((2147483647 : Int) < (n : Int)) = false := decide_eq_false (by omega)
  have HC := common_any A n c w
  rw [decide_eq_false (by omega)] at HC
  replace HC := hide HC
  go_enter Tryd.func11, Tryd.ntmps11
  go_wp2_with fail
  refine HC.out.mono ?_
  rintro e w' ⟨rfl, rfl⟩
  go_wp2
  go_ret
  exact ⟨rfl, Below.refl _ _⟩

set_option maxRecDepth 100000 in
set_option maxHeartbeats 1000000 in
theorem FnRun_walk (A : Option Addr) (n c : Nat) (xs : Bs) (z : Int) (z2 : Int) (z3 : Int) (p : Addr) (w : World) (hx : Rd w w.heap.size A n xs) (hA : A = none → n = 0) (hnc : n ≤ c) (hzi : (Lit.int .i64 z).wf = true) (hzi2 : (Lit.int .i64 z2).wf = true) (hzi3 : (Lit.int .i64 z3).wf = true) (l0 : n ≤ 2147483647) (hN : n ≤ 1000000) (hE : Corrupt w p) : Calls Tryd.prog 11 #[.slice A n c, .int .i64 z, .int .i64 z2, .int .i64 z3] w (Yes w) := by
  have hlt := hE.lt
  have d0 : decide ((2147483647 : Int) < (n : Int)) = false := decide_eq_false (by omega)
  have HCm := common_any A n c w
  rw [decide_eq_true hN] at HCm
  replace HCm := hide HCm
  have HE := hide hE
  obtain rfl := hx.len
  have HX := hide hx
  have e5 : (((5 : UInt8).toNat : Nat) : Int) = 5 := by decide
  have HO5 := hide (own_one w 5 5 e5.symm)
  clear e5 hx hA hzi hzi2 hzi3 hE
  go_enter Tryd.func11, Tryd.ntmps11
  go_wp2_with fail
  refine HCm.out.mono ?_
  rintro e w' ⟨rfl, rfl⟩
  go_wp2_with (at_builtin; refine append_own rfl (.tmp 17) (.tmp 18) rfl w.heap.size w (.slice (some ⟨w.heap.size, 0, none⟩) 1 1) [5] rfl HO5.out ((Below.refl _ _).alloc (Nat.le_refl _) _) w.heap.size A xs.length c xs rfl (HX.out.alloc (Nat.le_refl _) _) (by simp; omega) (by simp) ?_; intro v2 w2 ho2 hg2 hb2; obtain ⟨A2, c2, hv2, hc2, hcm2, hr2, hn2⟩ := ho2.form; subst hv2; have hyl : ([5] ++ xs : Bs).length = xs.length + 1 := by { rw [List.length_append]; simp; omega }; rw [hyl] at ho2 hr2 hc2 ⊢)
  have hz2 := hb2.size
  obtain ⟨ys, hys⟩ : ∃ ys, ys = ([5] ++ xs : Bs) := ⟨_, rfl⟩
  rw [← hys] at ho2 hr2 hyl
  obtain ⟨kn, hkn, hp1⟩ := part_any z3 8 (by omega) (by omega) w2
  obtain ⟨km, hkm, hp2⟩ := part_any z2 40 (by omega) (by omega) w2
  obtain ⟨kf, hkf, hp3⟩ := part_any z 3 (by omega) (by omega) w2
  obtain ⟨nn, hnn⟩ : ∃ nn, nn = 4 + kn := ⟨_, rfl⟩
  have hnni : 4 + (kn : Int) = (nn : Int) := by omega
  obtain ⟨fm0, hfm0⟩ : ∃ fm, fm = 1 + kf := ⟨_, rfl⟩
  have hfmi : 1 + (kf : Int) = (fm0 : Int) := by omega
  have hnb1 : 4 ≤ nn := by omega
  have hnb2 : nn ≤ 11 := by omega
  have hfit0 := Fits_any fm0 nn (xs.length + 1) w2 (by omega) (by omega) (by omega) (by omega)
  have hfit1 : Calls Tryd.prog 31 #[.int .i64 (fm0 : Int), .int .i64 (nn : Int), .int .i64 ((xs.length : Int) + 1)] w2 (fun e w' => e = .returned (.bool (fitsL fm0 nn (xs.length + 1))) ∧ w2 = w') := hfit0
  have HP1 := hide hp1
  have HP2 := hide hp2
  have HP3 := hide hp3
  have HTX := hide hr2
  have HYL := hide hyl
  have HB2 := hide hb2
  have hkf3 : fm0 ≤ 3 := by omega
  clear hp1 hp2 hp3 hys hyl ho2 hg2 hb2 hr2 hcm2 hn2 hnn hfm0 hfit0
  go_wp2_with fail
  refine HP1.out.mono ?_
  rintro e w' ⟨rfl, rfl⟩
  go_wp2_with fail
  refine HP2.out.mono ?_
  rintro e w' ⟨rfl, rfl⟩
  go_wp2_with fail
  refine HP3.out.mono ?_
  rintro e w' ⟨rfl, rfl⟩
  cases hfit : fitsL fm0 nn (xs.length + 1) with
  | true =>
    rw [hfit] at hfit1
    have HF1 := hide hfit1
    obtain ⟨fm, hfm⟩ : ∃ fm, fm = fm0 := ⟨_, rfl⟩
    subst hfm
    have HFIT := hide hfit
    clear hfit hfit1
    go_wp2_with fail
    refine HF1.out.mono ?_
    rintro e w' ⟨rfl, rfl⟩
    have hnm0 : nn * km ≤ 11 * 39 := Nat.mul_le_mul (by omega) (by omega)
    obtain ⟨nm, hnm⟩ : ∃ nm, nm = nn * km := ⟨_, rfl⟩
    have hnmi : (nn : Int) * (km : Int) = (nm : Int) := by rw [hnm]; simp
    rw [← hnm] at hnm0
    have hvv : Calls Tryd.prog 25 #[.int .i64 ((xs.length : Int) + 1 + (nm : Int))] w2 (Gives w2 (varL (xs.length + 1 + nm))) := Varint_any (xs.length + 1 + nm) (by omega) w2
    have HV := hide hvv
    have HNM := hide hnm
    clear hvv hnm
    go_wp2_with fail
    refine HV.out.mono ?_
    rintro e w3 ⟨v3, rfl, ho3, hb3⟩
    have hz3 := hb3.size
    have hvl := varL_length_le (xs.length + 1 + nm) (by omega)
    have HVL := hide hvl
    have hr3 := HTX.out.keep (w' := w3) (fun k hk => hb3.block k hk)
    have hl3 : Calls Tryd.prog 28 #[.slice A2 (xs.length + 1) c2, .int .i64 0] w3 (Gives w3 (litL ys 0)) := Literal_any A2 xs.length c2 0 w2.heap.size ys w3 hr3 hz3 (by omega) (by omega)
    have HL3 := hide hl3
    have HO3 := hide ho3
    have HB3 := hide hb3
    clear ho3 hb3 hvl hr3 hl3
    go_wp2_with fail
    refine HL3.out.mono ?_
    rintro e w4 ⟨v4, rfl, ho4, hb4⟩
    have hz4 := hb4.size
    have hll := litL_length_le ys 0 (by omega)
    have hch := Chain.one (elem_lit [] ys 0 (by rw [HYL.out]; omega) (by rw [HYL.out]; omega) (by omega))
    have hag : [] ++ ys = again ys (xs.length + 1) := by rw [← HYL.out, again_self]; rfl
    rw [hag] at hch
    have HCH := hide hch
    rw [HYL.out] at hll
    obtain ⟨A4, c4, rfl, _, _, hr4, _⟩ := ho4.form
    have HR4 := hide hr4
    have HLL := hide hll
    have HO4 := hide (HO3.out.kept hb4)
    have HB24 := hide (HB3.out.trans (hb4.mono hz3))
    clear ho4 hb4 hr4 hll hch hag
    generalize litL ys 0 = el at *
    go_wp2_with (at_builtin; refine append_own rfl (.tmp 40) (.tmp 42) rfl w2.heap.size w2 v3 (varL (xs.length + 1 + nm)) rfl HO4.out HB24.out w4.heap.size A4 el.length c4 el rfl HR4.out (by have := HVL.out; have := HLL.out; omega) (by omega) ?_; intro v5 w5 ho5 hg5 hb5; obtain ⟨A5, c5, hv5, _, _, _, _⟩ := ho5.form; subst hv5; have hl5 : (varL (xs.length + 1 + nm) ++ el).length ≤ 1000100 := by { rw [List.length_append]; have := HVL.out; have := HLL.out; omega }; generalize hL : (varL (xs.length + 1 + nm) ++ el).length = L at *)
    refine ru_loop A2 xs.length c2 fm km nn A5 L c5 w2.heap.size w2 w5 ys _ _ _ ⟨rfl, rfl, rfl, rfl, rfl, rfl, rfl, rfl⟩ hL hl5 (Nat.le_refl _) (by omega) hN HYL.out HFIT.out ho5 hb5 el (varL (xs.length + 1 + nm)) rfl HCH.out ?_
    intro a7 w7 A7 k7 c7 out7 body7 hf7 ho7 hl7 hlb7 hb7 he7 hc7
    have hdec : decG out7 = some (again ys (xs.length + 1 + nm)) := by
      rw [HNM.out, he7, HNM.out]
      have := decG_chain hc7 (by rw [again_length, ← HNM.out]; omega)
      rw [again_length] at this
      exact this
    obtain ⟨f7, rfl⟩ := hf7.open_
    have hz7 := hb7.size
    have hb07 := HB2.out.trans (hb7.mono hz2)
    have HD := iDecode_any A7 k7 c7 _ out7 p w7 ho7.rd.1 (Nat.le_refl _) (by omega) (FnRun_none ho7) (HE.out.keep hb07 hlt)
    rw [hdec] at HD
    replace HD := hide HD
    have HTX7 := hide (HTX.out.keep (w' := w7) (fun k hk => hb7.block k hk))
    have HB7 := hide hb07
    clear hdec hf7 ho7 hl7 hb7 he7 hc7 hb07 hg5 hL ho5 hb5 hl5
    go_wp2_with fail
    refine HD.out.mono ?_
    rintro e w8 ⟨hb8, ⟨v8, t, ht, rfl, ho8, htl⟩ | ⟨h, _⟩⟩
    · obtain rfl := Option.some.inj ht
      have hz8 := hb8.size
      obtain ⟨A8, c8, rfl, _, _, _, _⟩ := ho8.form
      rw [again_length] at ho8 htl ⊢
      have hx8 := HTX7.out.keep (w' := w8) (fun k hk => hb8.block k (by omega))
      have hag8 : Calls Tryd.prog 30 #[.slice A2 (xs.length + 1) c2, .int .i64 ((xs.length : Int) + 1 + (nm : Int))] w8 (Gives w8 (again ys (xs.length + 1 + nm))) := Again_any A2 (xs.length + 1) c2 (xs.length + 1 + nm) w2.heap.size ys w8 hx8 (by omega) (by omega) (by omega) (by omega)
      have HA8 := hide hag8
      have HO8 := hide ho8
      have HB8 := hide (HB7.out.trans (hb8.mono (by omega)))
      clear ht ho8 hx8 hb8 hag8
      go_wp2_with fail
      refine HA8.out.mono ?_
      rintro e w9 ⟨v9, rfl, ho9, hb9⟩
      have hz9 := hb9.size
      obtain ⟨A9, c9, rfl, _, _, _, _⟩ := ho9.form
      rw [again_length] at ho9 ⊢
      have HR9 := hide ho9.rd.1
      have HR8 := hide (HO8.out.kept hb9).rd.1
      have HB9 := hide (HB8.out.trans (hb9.mono (by omega)))
      clear ho9 hb9
      go_wp2_with fail
      refine (says_yes A8 A9 (xs.length + 1 + nm) c8 c9 _ _ _ w9 HR8.out (Nat.le_refl _) HR9.out (Nat.le_refl _) (by omega)).mono ?_
      rintro e w10 ⟨rfl, hb10⟩
      have HB10 := hide (HB9.out.trans (hb10.mono (by omega)))
      clear hb10
      go_wp2
      go_ret
      exact ⟨rfl, HB10.out⟩
    · cases h

  | false =>
    rw [hfit] at hfit1
    have HF1 := hide hfit1
    obtain ⟨fm, hfm⟩ : ∃ fm, fm = 3 := ⟨_, rfl⟩
    have hf3 : fitsL 3 nn (xs.length + 1) = true := by
      unfold fitsL
      rw [if_neg (by decide), if_neg (by decide), if_pos rfl]
      exact decide_eq_true ⟨by omega, by omega, by omega⟩
    have HFIT := hide (show fitsL fm nn (xs.length + 1) = true by rw [hfm]; exact hf3)
    subst hfm
    clear hfit hfit1 hf3
    go_wp2_with fail
    refine HF1.out.mono ?_
    rintro e w' ⟨rfl, rfl⟩
    have hnm0 : nn * km ≤ 11 * 39 := Nat.mul_le_mul (by omega) (by omega)
    obtain ⟨nm, hnm⟩ : ∃ nm, nm = nn * km := ⟨_, rfl⟩
    have hnmi : (nn : Int) * (km : Int) = (nm : Int) := by rw [hnm]; simp
    rw [← hnm] at hnm0
    have hvv : Calls Tryd.prog 25 #[.int .i64 ((xs.length : Int) + 1 + (nm : Int))] w2 (Gives w2 (varL (xs.length + 1 + nm))) := Varint_any (xs.length + 1 + nm) (by omega) w2
    have HV := hide hvv
    have HNM := hide hnm
    clear hvv hnm
    go_wp2_with fail
    refine HV.out.mono ?_
    rintro e w3 ⟨v3, rfl, ho3, hb3⟩
    have hz3 := hb3.size
    have hvl := varL_length_le (xs.length + 1 + nm) (by omega)
    have HVL := hide hvl
    have hr3 := HTX.out.keep (w' := w3) (fun k hk => hb3.block k hk)
    have hl3 : Calls Tryd.prog 28 #[.slice A2 (xs.length + 1) c2, .int .i64 0] w3 (Gives w3 (litL ys 0)) := Literal_any A2 xs.length c2 0 w2.heap.size ys w3 hr3 hz3 (by omega) (by omega)
    have HL3 := hide hl3
    have HO3 := hide ho3
    have HB3 := hide hb3
    clear ho3 hb3 hvl hr3 hl3
    go_wp2_with fail
    refine HL3.out.mono ?_
    rintro e w4 ⟨v4, rfl, ho4, hb4⟩
    have hz4 := hb4.size
    have hll := litL_length_le ys 0 (by omega)
    have hch := Chain.one (elem_lit [] ys 0 (by rw [HYL.out]; omega) (by rw [HYL.out]; omega) (by omega))
    have hag : [] ++ ys = again ys (xs.length + 1) := by rw [← HYL.out, again_self]; rfl
    rw [hag] at hch
    have HCH := hide hch
    rw [HYL.out] at hll
    obtain ⟨A4, c4, rfl, _, _, hr4, _⟩ := ho4.form
    have HR4 := hide hr4
    have HLL := hide hll
    have HO4 := hide (HO3.out.kept hb4)
    have HB24 := hide (HB3.out.trans (hb4.mono hz3))
    clear ho4 hb4 hr4 hll hch hag
    generalize litL ys 0 = el at *
    go_wp2_with (at_builtin; refine append_own rfl (.tmp 40) (.tmp 42) rfl w2.heap.size w2 v3 (varL (xs.length + 1 + nm)) rfl HO4.out HB24.out w4.heap.size A4 el.length c4 el rfl HR4.out (by have := HVL.out; have := HLL.out; omega) (by omega) ?_; intro v5 w5 ho5 hg5 hb5; obtain ⟨A5, c5, hv5, _, _, _, _⟩ := ho5.form; subst hv5; have hl5 : (varL (xs.length + 1 + nm) ++ el).length ≤ 1000100 := by { rw [List.length_append]; have := HVL.out; have := HLL.out; omega }; generalize hL : (varL (xs.length + 1 + nm) ++ el).length = L at *)
    refine ru_loop A2 xs.length c2 3 km nn A5 L c5 w2.heap.size w2 w5 ys _ _ _ ⟨rfl, rfl, rfl, rfl, rfl, rfl, rfl, rfl⟩ hL hl5 (Nat.le_refl _) (by omega) hN HYL.out HFIT.out ho5 hb5 el (varL (xs.length + 1 + nm)) rfl HCH.out ?_
    intro a7 w7 A7 k7 c7 out7 body7 hf7 ho7 hl7 hlb7 hb7 he7 hc7
    have hdec : decG out7 = some (again ys (xs.length + 1 + nm)) := by
      rw [HNM.out, he7, HNM.out]
      have := decG_chain hc7 (by rw [again_length, ← HNM.out]; omega)
      rw [again_length] at this
      exact this
    obtain ⟨f7, rfl⟩ := hf7.open_
    have hz7 := hb7.size
    have hb07 := HB2.out.trans (hb7.mono hz2)
    have HD := iDecode_any A7 k7 c7 _ out7 p w7 ho7.rd.1 (Nat.le_refl _) (by omega) (FnRun_none ho7) (HE.out.keep hb07 hlt)
    rw [hdec] at HD
    replace HD := hide HD
    have HTX7 := hide (HTX.out.keep (w' := w7) (fun k hk => hb7.block k hk))
    have HB7 := hide hb07
    clear hdec hf7 ho7 hl7 hb7 he7 hc7 hb07 hg5 hL ho5 hb5 hl5
    go_wp2_with fail
    refine HD.out.mono ?_
    rintro e w8 ⟨hb8, ⟨v8, t, ht, rfl, ho8, htl⟩ | ⟨h, _⟩⟩
    · obtain rfl := Option.some.inj ht
      have hz8 := hb8.size
      obtain ⟨A8, c8, rfl, _, _, _, _⟩ := ho8.form
      rw [again_length] at ho8 htl ⊢
      have hx8 := HTX7.out.keep (w' := w8) (fun k hk => hb8.block k (by omega))
      have hag8 : Calls Tryd.prog 30 #[.slice A2 (xs.length + 1) c2, .int .i64 ((xs.length : Int) + 1 + (nm : Int))] w8 (Gives w8 (again ys (xs.length + 1 + nm))) := Again_any A2 (xs.length + 1) c2 (xs.length + 1 + nm) w2.heap.size ys w8 hx8 (by omega) (by omega) (by omega) (by omega)
      have HA8 := hide hag8
      have HO8 := hide ho8
      have HB8 := hide (HB7.out.trans (hb8.mono (by omega)))
      clear ht ho8 hx8 hb8 hag8
      go_wp2_with fail
      refine HA8.out.mono ?_
      rintro e w9 ⟨v9, rfl, ho9, hb9⟩
      have hz9 := hb9.size
      obtain ⟨A9, c9, rfl, _, _, _, _⟩ := ho9.form
      rw [again_length] at ho9 ⊢
      have HR9 := hide ho9.rd.1
      have HR8 := hide (HO8.out.kept hb9).rd.1
      have HB9 := hide (HB8.out.trans (hb9.mono (by omega)))
      clear ho9 hb9
      go_wp2_with fail
      refine (says_yes A8 A9 (xs.length + 1 + nm) c8 c9 _ _ _ w9 HR8.out (Nat.le_refl _) HR9.out (Nat.le_refl _) (by omega)).mono ?_
      rintro e w10 ⟨rfl, hb10⟩
      have HB10 := hide (HB9.out.trans (hb10.mono (by omega)))
      clear hb10
      go_wp2
      go_ret
      exact ⟨rfl, HB10.out⟩
    · cases h

theorem FnRun_total (w : World) (A : Option Addr) (n c : Nat) (xs : Bs) (hx : Rd w w.heap.size A n xs) (hA : A = none → n = 0) (hnc : n ≤ c) (z : Int) (hzi : (Lit.int .i64 z).wf = true) (z2 : Int) (hzi2 : (Lit.int .i64 z2).wf = true) (z3 : Int) (hzi3 : (Lit.int .i64 z3).wf = true) (p : Addr) (hE : Corrupt w p) : Calls Tryd.prog 11 #[.slice A n c, .int .i64 z, .int .i64 z2, .int .i64 z3] w (Yes w) := by
  by_cases h : 2147483647 < n
  · exact FnRun_long A n c xs z z2 z3 w h
  · by_cases hN : 1000000 < n
    · exact FnRun_large A n c xs z z2 z3 w (by omega) hN
    · exact FnRun_walk A n c xs z z2 z3 p w hx hA hnc hzi hzi2 hzi3 (by omega) (by omega) hE

end Snap
end Go.Proofs.YtodbfgomkcmdgaaDoor

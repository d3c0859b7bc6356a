/-
  The law FnOffset, walked: it returns true.
-/
import Derived.Test.YtodbfgomkcmdgaaDoorLaws1
import Derived.Test.YtodbfgomkcmdgaaDoorWrite
namespace Go.Proofs.YtodbfgomkcmdgaaDoor
open Go.RowKit
set_option linter.unusedVariables false
namespace Snap

theorem FnOffset_none {w : World} {base n c : Nat} {A : Option Addr} {xs : Bs} (h : Own w base (.slice A n c) xs) : A = none → n = 0 := by
  obtain ⟨A', c', he, hc, _, _, hA⟩ := h.form
  injection he with h1 h2 h3
  intro h0
  have h4 := hA (h1.symm.trans h0)
  omega

/-- append onto a row of the call's own, as one step of a region that draws. -/
theorem step_append {ops : Array Oper} {o : Oper} {a : Act} {w : World} {K : Act → World → Prop} {Q : Exit → Act → World → Prop} {E : Prop} (hgd : o.guard = none) (s x : Operand)
    (ho : o.op = .call { callee := .builtin .append, args := #[s, x], argTypes := #[22, 22] })
    (base : Nat) (w0 : World) (v : Value) (xs : Bs) (hs : a.eval s = v) (hown : Own w base v xs) (hbel : Below base w0 w)
    (B : Nat) (A : Option Addr) (m c : Nat) (ys : Bs) (hx : a.eval x = .slice A m c) (hr : Rd w B A m ys) (hm0 : 0 < m) (hlen : xs.length + ys.length ≤ 70368744177664) (hbase : base ≤ w.heap.size)
    (h : ∀ v' w', Own w' base v' (xs ++ ys) → w.grownBy w' v.ownBlock → Below base w0 w' → K (a.put o.dst v') w') : if Region.wanted o (yielded ops a.tmps) = true then Oper.wp Tryd.prog o a w K Q else E := by
  have hw : Region.wanted o (yielded ops a.tmps) = true := by simp [Region.wanted, hgd]
  rw [if_pos hw]
  obtain ⟨i, hi, hz, hsz, hby⟩ := info_parts info_u8
  have hm := hr.len
  obtain ⟨b, off, rfl, hb, hc⟩ := hr.at_ hm0
  obtain ⟨v', w', hrun, h1, h2, _⟩ := run_append_own (P := Tryd.prog) w base 22 o.type 5 i (.int .u8 0) 1 1 Tryd.underlying22 hi hz hsz hby rfl (by decide) v xs.length (xs.map bv) hown ⟨b, off, none⟩ m c (ys.map bv) (by simp [hm]) (by
    intro j u hu
    have hj : j < m := by
      have := (List.getElem?_eq_some_iff.1 hu).1
      simpa [hm] using this
    rw [Addr.add_lit, hc j hj, ← hu]
    simp [List.getElem?_eq_getElem (show j < ys.length by omega), List.getD_eq_getElem?_getD]) (bytes_oneCell ys) (by unfold maxLen; omega) (by omega) hbase
  unfold Oper.wp
  simp [execOp, ho, resolve, invoke, builtin, hs, hx, hrun, Result.andThen]
  refine h v' w' ?_ h2 (hbel.grown h2 hbase (fun k hk => (hown.lt k hk).1))
  unfold Own
  rw [List.length_append, List.map_append, hr.len]
  exact h1

set_option maxRecDepth 100000 in
set_option maxHeartbeats 1000000 in
theorem FnOffset_long (A : Option Addr) (n c : Nat) (xs : Bs) (z : Int) (z2 : Int) (z3 : Int) (w : World) (h : 2147483647 < n) : Calls Tryd.prog 10 #[.slice A n c, .int .i64 z, .int .i64 z2, .int .i64 z3] w (Yes w) := by
  have d0 : decide ((2147483647 : Int) < (n : Int)) = true := decide_eq_true (by omega)
  have l0 : 2147483647 < n := by omega
  clear h
  go_enter Tryd.func10, Tryd.ntmps10
  go_wp2
  go_ret
  exact ⟨rfl, Below.refl _ _⟩

set_option maxRecDepth 100000 in
set_option maxHeartbeats 1000000 in
theorem FnOffset_large (A : Option Addr) (n c : Nat) (xs : Bs) (z : Int) (z2 : Int) (z3 : Int) (w : World) (l0 : n ≤ 2147483647) (h : 1000000 < n) : Calls Tryd.prog 10 #[.slice A n c, .int .i64 z, .int .i64 z2, .int .i64 z3] w (Yes w) := by
  have d0 : decide ((2147483647 : Int) < (n : Int)) = false := decide_eq_false (by omega)
  have HC := common_any A n c w
  rw [decide_eq_false (by omega)] at HC
  replace HC := hide HC
  go_enter Tryd.func10, Tryd.ntmps10
  go_wp2_with fail
  refine HC.out.mono ?_
  rintro e w' ⟨rfl, rfl⟩
  go_wp2
  go_ret
  exact ⟨rfl, Below.refl _ _⟩

set_option maxRecDepth 100000 in
set_option maxHeartbeats 1000000 in
theorem FnOffset_walk (A : Option Addr) (n c : Nat) (xs : Bs) (z : Int) (z2 : Int) (z3 : Int) (p : Addr) (w : World) (hx : Rd w w.heap.size A n xs) (hA : A = none → n = 0) (hnc : n ≤ c) (hzi : (Lit.int .i64 z).wf = true) (hzi2 : (Lit.int .i64 z2).wf = true) (hzi3 : (Lit.int .i64 z3).wf = true) (l0 : n ≤ 2147483647) (hN : n ≤ 1000000) (hE : Corrupt w p) : Calls Tryd.prog 10 #[.slice A n c, .int .i64 z, .int .i64 z2, .int .i64 z3] w (Yes w) := by
  have hlt := hE.lt
  have d0 : decide ((2147483647 : Int) < (n : Int)) = false := decide_eq_false (by omega)
  have HCm := common_any A n c w
  rw [decide_eq_true hN] at HCm
  replace HCm := hide HCm
  have HE := hide hE
  obtain rfl := hx.len
  have HX := hide hx
  clear hx hA hzi hzi2 hzi3 hE
  go_enter Tryd.func10, Tryd.ntmps10
  go_wp2_with fail
  refine HCm.out.mono ?_
  rintro e w' ⟨rfl, rfl⟩
  obtain ⟨kn, hkn, hp1⟩ := part_any z2 8 (by omega) (by omega) w
  obtain ⟨far, hkm, hp2⟩ := part_any z3 2048 (by omega) (by omega) w
  obtain ⟨kf, hkf, hp3⟩ := part_any z 3 (by omega) (by omega) w
  obtain ⟨nn, hnn⟩ : ∃ nn, nn = 4 + kn := ⟨_, rfl⟩
  have hnni : 4 + (kn : Int) = (nn : Int) := by omega
  obtain ⟨fm, hfm0⟩ : ∃ fm, fm = 1 + kf := ⟨_, rfl⟩
  have hfmi : 1 + (kf : Int) = (fm : Int) := by omega
  have hnb1 : 4 ≤ nn := by omega
  have hnb2 : nn ≤ 11 := by omega
  have hfit : fitsL fm nn far = true := by
    have hc : fm = 1 ∨ fm = 2 ∨ fm = 3 := by omega
    unfold fitsL
    rcases hc with h | h | h
    · rw [if_pos h]; exact decide_eq_true ⟨by omega, by omega, by omega⟩
    · rw [if_neg (by omega), if_pos h]; exact decide_eq_true ⟨by omega, by omega, by omega⟩
    · rw [if_neg (by omega), if_neg (by omega), if_pos h]; exact decide_eq_true ⟨by omega, by omega, by omega⟩
  have HFIT := hide hfit
  have hvv : Calls Tryd.prog 25 #[.int .i64 ((xs.length : Int) + (nn : Int))] w (Gives w (varL (xs.length + nn))) := Varint_any (xs.length + nn) (by omega) w
  have hvl := varL_length_le (xs.length + nn) (by omega)
  have HV := hide hvv
  have HVL := hide hvl
  have HP1 := hide hp1
  have HP2 := hide hp2
  have HP3 := hide hp3
  clear hp1 hp2 hp3 hnn hfm0 hfit hvv hvl
  go_wp2_with fail
  refine HP1.out.mono ?_
  rintro e w' ⟨rfl, rfl⟩
  go_wp2_with fail
  refine HP2.out.mono ?_
  rintro e w' ⟨rfl, rfl⟩
  go_wp2_with fail
  refine HP3.out.mono ?_
  rintro e w' ⟨rfl, rfl⟩
  go_wp2_with fail
  refine HV.out.mono ?_
  rintro e w3 ⟨v3, rfl, ho3, hb3⟩
  have hz3 := hb3.size
  have HO3 := hide ho3
  have HB3 := hide hb3
  clear ho3 hb3
  by_cases hx0 : xs.length = 0
  · have en : decide ((0 : Int) < (xs.length : Int)) = false := decide_eq_false (by omega)
    have en' : decide (0 < xs.length) = false := decide_eq_false (by omega)
    by_cases hf0 : far = 0
    · have hbad : far = 0 ∨ xs.length < far := .inl hf0
      have ef : ((far : Int) == 0) = true := by rw [hf0]; rfl
      have HBAD := hide hbad
      clear hf0 hbad
      have hch : Chain [] [] xs := by
        have : xs = [] := List.eq_nil_of_length_eq_zero hx0
        rw [this]
        exact Chain.nil []
      obtain ⟨pre, hpre⟩ : ∃ pre : Bs, pre = [] := ⟨_, rfl⟩
      have HCH := hide (show Chain [] pre xs by rw [hpre]; exact hch)
      obtain ⟨blk, hblk⟩ : ∃ blk, blk = varL (xs.length + nn) ++ pre := ⟨_, rfl⟩
      have hb0 : blk = varL (xs.length + nn) := by rw [hblk, hpre, List.append_nil]
      have hbl0 : blk.length ≤ 1000020 := by rw [hb0]; have := HVL.out; omega
      have HBLK := hide hblk
      have ho3' := HO3.out
      rw [← hb0] at ho3'
      obtain ⟨Ab, cb, rfl, _, _, _, _⟩ := ho3'.form
      have HO4 := hide ho3'
      have HB4 := HB3
      have hz4 : w.heap.size ≤ w3.heap.size := hz3
      obtain ⟨w4, hw4⟩ : ∃ w4, w4 = w3 := ⟨_, rfl⟩
      subst hw4
      clear hch hpre hblk hb0 ho3' hz3 hx0
      obtain ⟨LB, hLB⟩ : ∃ LB, LB = blk.length := ⟨_, rfl⟩
      rw [← hLB] at hbl0
      have HLB := hide hLB
      have ho4 := HO4.out
      rw [← hLB] at ho4 ⊢
      have HO4' := hide ho4
      have hcp := Copy_any fm nn far w4 HFIT.out
      have HC := hide hcp
      have hcl := copyL_length_le fm nn far HFIT.out
      have HCL := hide hcl
      have hdec := (show decG (blk ++ copyL fm nn far) = none by
        rw [HBLK.out, List.append_assoc, decG_varL _ _ (by omega), HCH.out.run_append _ _ (by omega)]
        exact run_none (copyL_ne _ _ _) (step_bad_copy _ (item_copyL HFIT.out).1 HBAD.out))
      have HDEC := hide hdec
      clear hcp hcl hdec ho4 hLB
      generalize copyL fm nn far = el at *
      go_wp2_with fail
      refine HC.out.mono ?_
      rintro e w5 ⟨v5, rfl, ho5, hb5⟩
      have hz5 := hb5.size
      obtain ⟨A5, c5, rfl, _, _, hr5, _⟩ := ho5.form
      have HR5 := hide hr5
      have HO5 := hide (HO4'.out.kept hb5)
      have HB5 := hide (HB4.out.trans (hb5.mono hz4))
      clear ho5 hb5 hr5
      go_wp2_with (at_builtin; refine append_own rfl (.tmp 38) (.tmp 42) rfl w.heap.size w (.slice Ab LB cb) blk rfl HO5.out HB5.out w5.heap.size A5 el.length c5 el rfl HR5.out (by rw [← HLB.out]; have := HCL.out; omega) (by omega) ?_; intro v6 w6 ho6 hg6 hb6; obtain ⟨A6, c6, hv6, _, _, _, _⟩ := ho6.form; subst hv6; have hl6 : (blk ++ el).length ≤ 1000030 := by { rw [List.length_append, ← HLB.out]; have := HCL.out; omega }; generalize hL6 : (blk ++ el).length = L6 at *)
      have HD := iDecode_any A6 L6 c6 _ (blk ++ el) p w6 ho6.rd.1 (Nat.le_refl _) (by omega) (FnOffset_none ho6) (HE.out.keep hb6 hlt)
      rw [HDEC.out] at HD
      replace HD := hide HD
      have hz6 := hb6.size
      have HB6 := hide hb6
      clear ho6 hg6 hb6 hL6
      go_wp2_with fail
      refine HD.out.mono ?_
      rintro e w7 ⟨hb7, ⟨v7, t, ht, _⟩ | ⟨_, rfl⟩⟩
      · cases ht
      · have hz7 := hb7.size
        have HB7 := hide (HB6.out.trans (hb7.mono (by omega)))
        clear hb7
        go_wp2_with fail
        refine (refused_yes (.slice none 0 0) _ ⟨_, _, _, rfl⟩).mono ?_
        rintro e w8 ⟨rfl, hb8⟩
        have hz17 : w.heap.size ≤ w7.heap.size := by omega
        have HB8 := hide ((HB7.out.alloc hz17 _).trans (hb8.mono (by rw [World.size_alloc]; omega)))
        clear hb8
        go_wp2
        go_ret
        exact ⟨rfl, HB8.out⟩

    · by_cases hfl : xs.length < far
      · have hbad : far = 0 ∨ xs.length < far := .inr hfl
        have ef : ((far : Int) == 0) = false := by rw [beq_eq_false_iff_ne]; omega
        have ef2 : decide ((xs.length : Int) < (far : Int)) = true := decide_eq_true (by omega)
        have ef3 : decide (xs.length < far) = true := decide_eq_true (by omega)
        have HBAD := hide hbad
        clear hbad
        have hch : Chain [] [] xs := by
          have : xs = [] := List.eq_nil_of_length_eq_zero hx0
          rw [this]
          exact Chain.nil []
        obtain ⟨pre, hpre⟩ : ∃ pre : Bs, pre = [] := ⟨_, rfl⟩
        have HCH := hide (show Chain [] pre xs by rw [hpre]; exact hch)
        obtain ⟨blk, hblk⟩ : ∃ blk, blk = varL (xs.length + nn) ++ pre := ⟨_, rfl⟩
        have hb0 : blk = varL (xs.length + nn) := by rw [hblk, hpre, List.append_nil]
        have hbl0 : blk.length ≤ 1000020 := by rw [hb0]; have := HVL.out; omega
        have HBLK := hide hblk
        have ho3' := HO3.out
        rw [← hb0] at ho3'
        obtain ⟨Ab, cb, rfl, _, _, _, _⟩ := ho3'.form
        have HO4 := hide ho3'
        have HB4 := HB3
        have hz4 : w.heap.size ≤ w3.heap.size := hz3
        obtain ⟨w4, hw4⟩ : ∃ w4, w4 = w3 := ⟨_, rfl⟩
        subst hw4
        clear hch hpre hblk hb0 ho3' hz3 hx0
        obtain ⟨LB, hLB⟩ : ∃ LB, LB = blk.length := ⟨_, rfl⟩
        rw [← hLB] at hbl0
        have HLB := hide hLB
        have ho4 := HO4.out
        rw [← hLB] at ho4 ⊢
        have HO4' := hide ho4
        have hcp := Copy_any fm nn far w4 HFIT.out
        have HC := hide hcp
        have hcl := copyL_length_le fm nn far HFIT.out
        have HCL := hide hcl
        have hdec := (show decG (blk ++ copyL fm nn far) = none by
          rw [HBLK.out, List.append_assoc, decG_varL _ _ (by omega), HCH.out.run_append _ _ (by omega)]
          exact run_none (copyL_ne _ _ _) (step_bad_copy _ (item_copyL HFIT.out).1 HBAD.out))
        have HDEC := hide hdec
        clear hcp hcl hdec ho4 hLB
        generalize copyL fm nn far = el at *
        go_wp2_with fail
        refine HC.out.mono ?_
        rintro e w5 ⟨v5, rfl, ho5, hb5⟩
        have hz5 := hb5.size
        obtain ⟨A5, c5, rfl, _, _, hr5, _⟩ := ho5.form
        have HR5 := hide hr5
        have HO5 := hide (HO4'.out.kept hb5)
        have HB5 := hide (HB4.out.trans (hb5.mono hz4))
        clear ho5 hb5 hr5
        go_wp2_with (at_builtin; refine append_own rfl (.tmp 38) (.tmp 42) rfl w.heap.size w (.slice Ab LB cb) blk rfl HO5.out HB5.out w5.heap.size A5 el.length c5 el rfl HR5.out (by rw [← HLB.out]; have := HCL.out; omega) (by omega) ?_; intro v6 w6 ho6 hg6 hb6; obtain ⟨A6, c6, hv6, _, _, _, _⟩ := ho6.form; subst hv6; have hl6 : (blk ++ el).length ≤ 1000030 := by { rw [List.length_append, ← HLB.out]; have := HCL.out; omega }; generalize hL6 : (blk ++ el).length = L6 at *)
        have HD := iDecode_any A6 L6 c6 _ (blk ++ el) p w6 ho6.rd.1 (Nat.le_refl _) (by omega) (FnOffset_none ho6) (HE.out.keep hb6 hlt)
        rw [HDEC.out] at HD
        replace HD := hide HD
        have hz6 := hb6.size
        have HB6 := hide hb6
        clear ho6 hg6 hb6 hL6
        go_wp2_with fail
        refine HD.out.mono ?_
        rintro e w7 ⟨hb7, ⟨v7, t, ht, _⟩ | ⟨_, rfl⟩⟩
        · cases ht
        · have hz7 := hb7.size
          have HB7 := hide (HB6.out.trans (hb7.mono (by omega)))
          clear hb7
          go_wp2_with fail
          refine (refused_yes (.slice none 0 0) _ ⟨_, _, _, rfl⟩).mono ?_
          rintro e w8 ⟨rfl, hb8⟩
          have hz17 : w.heap.size ≤ w7.heap.size := by omega
          have HB8 := hide ((HB7.out.alloc hz17 _).trans (hb8.mono (by rw [World.size_alloc]; omega)))
          clear hb8
          go_wp2
          go_ret
          exact ⟨rfl, HB8.out⟩

      · exact absurd hfl (by omega)

  · have hx1 : 1 ≤ xs.length := by omega
    have en : decide ((0 : Int) < (xs.length : Int)) = true := decide_eq_true (by omega)
    have en' : decide (0 < xs.length) = true := decide_eq_true (by omega)
    by_cases hf0 : far = 0
    · have hbad : far = 0 ∨ xs.length < far := .inl hf0
      have ef : ((far : Int) == 0) = true := by rw [hf0]; rfl
      have HBAD := hide hbad
      clear hf0 hbad
      obtain ⟨k, hk⟩ : ∃ k, xs.length = k + 1 := ⟨xs.length - 1, by omega⟩
      have hlit : Calls Tryd.prog 28 #[.slice A xs.length c, .int .i64 0] w3 (Gives w3 (litL xs 0)) := by
        have hr3 := HX.out.keep (w' := w3) (fun k hk => HB3.out.block k hk)
        rw [hk] at hr3 ⊢
        exact Literal_any A k c 0 w.heap.size xs w3 hr3 hz3 (by omega) (by omega)
      have hll := litL_length_le xs 0 (by omega)
      have hch := Chain.one (elem_lit [] xs 0 (by omega) (by omega) (by omega))
      have hnn : ([] : Bs) ++ xs = xs := rfl
      rw [hnn] at hch
      have HLit := hide hlit
      have HLL := hide hll
      have HCH := hide hch
      clear hlit hll hch hnn hk
      generalize litL xs 0 = pre at *
      go_wp2_with fail
      refine HLit.out.mono ?_
      rintro e wl ⟨vl, rfl, hol, hbl⟩
      have hzl := hbl.size
      obtain ⟨Al, cl, rfl, _, _, hrl, _⟩ := hol.form
      have HRl := hide hrl
      have HOl := hide (HO3.out.kept hbl)
      have HBl := hide (HB3.out.trans (hbl.mono hz3))
      clear hol hbl hrl
      go_wp2_with (at_builtin; refine append_own rfl (.tmp 34) (.tmp 36) rfl w.heap.size w v3 (varL (xs.length + nn)) rfl HOl.out HBl.out wl.heap.size Al pre.length cl pre rfl HRl.out (by have := HVL.out; have := HLL.out; omega) (by omega) ?_; intro v4 w4 ho4 hg4 hb4; obtain ⟨Ab, cb, hv4, _, _, _, _⟩ := ho4.form; subst hv4; have hbl0 : (varL (xs.length + nn) ++ pre).length ≤ 1000020 := by { rw [List.length_append]; have := HVL.out; have := HLL.out; omega }; generalize hblk : varL (xs.length + nn) ++ pre = blk at *; have HBLK := hide hblk.symm; have HO4 := hide ho4; have HB4 := hide hb4; have hz4 := hb4.size; clear ho4 hg4 hb4 hblk)
      obtain ⟨LB, hLB⟩ : ∃ LB, LB = blk.length := ⟨_, rfl⟩
      rw [← hLB] at hbl0
      have HLB := hide hLB
      have ho4 := HO4.out
      rw [← hLB] at ho4 ⊢
      have HO4' := hide ho4
      have hcp := Copy_any fm nn far w4 HFIT.out
      have HC := hide hcp
      have hcl := copyL_length_le fm nn far HFIT.out
      have HCL := hide hcl
      have hdec := (show decG (blk ++ copyL fm nn far) = none by
        rw [HBLK.out, List.append_assoc, decG_varL _ _ (by omega), HCH.out.run_append _ _ (by omega)]
        exact run_none (copyL_ne _ _ _) (step_bad_copy _ (item_copyL HFIT.out).1 HBAD.out))
      have HDEC := hide hdec
      clear hcp hcl hdec ho4 hLB
      generalize copyL fm nn far = el at *
      go_wp2_with fail
      refine HC.out.mono ?_
      rintro e w5 ⟨v5, rfl, ho5, hb5⟩
      have hz5 := hb5.size
      obtain ⟨A5, c5, rfl, _, _, hr5, _⟩ := ho5.form
      have HR5 := hide hr5
      have HO5 := hide (HO4'.out.kept hb5)
      have HB5 := hide (HB4.out.trans (hb5.mono hz4))
      clear ho5 hb5 hr5
      go_wp2_with (at_builtin; refine append_own rfl (.tmp 38) (.tmp 42) rfl w.heap.size w (.slice Ab LB cb) blk rfl HO5.out HB5.out w5.heap.size A5 el.length c5 el rfl HR5.out (by rw [← HLB.out]; have := HCL.out; omega) (by omega) ?_; intro v6 w6 ho6 hg6 hb6; obtain ⟨A6, c6, hv6, _, _, _, _⟩ := ho6.form; subst hv6; have hl6 : (blk ++ el).length ≤ 1000030 := by { rw [List.length_append, ← HLB.out]; have := HCL.out; omega }; generalize hL6 : (blk ++ el).length = L6 at *)
      have HD := iDecode_any A6 L6 c6 _ (blk ++ el) p w6 ho6.rd.1 (Nat.le_refl _) (by omega) (FnOffset_none ho6) (HE.out.keep hb6 hlt)
      rw [HDEC.out] at HD
      replace HD := hide HD
      have hz6 := hb6.size
      have HB6 := hide hb6
      clear ho6 hg6 hb6 hL6
      go_wp2_with fail
      refine HD.out.mono ?_
      rintro e w7 ⟨hb7, ⟨v7, t, ht, _⟩ | ⟨_, rfl⟩⟩
      · cases ht
      · have hz7 := hb7.size
        have HB7 := hide (HB6.out.trans (hb7.mono (by omega)))
        clear hb7
        go_wp2_with fail
        refine (refused_yes (.slice none 0 0) _ ⟨_, _, _, rfl⟩).mono ?_
        rintro e w8 ⟨rfl, hb8⟩
        have hz17 : w.heap.size ≤ w7.heap.size := by omega
        have HB8 := hide ((HB7.out.alloc hz17 _).trans (hb8.mono (by rw [World.size_alloc]; omega)))
        clear hb8
        go_wp2
        go_ret
        exact ⟨rfl, HB8.out⟩

    · by_cases hfl : xs.length < far
      · have hbad : far = 0 ∨ xs.length < far := .inr hfl
        have ef : ((far : Int) == 0) = false := by rw [beq_eq_false_iff_ne]; omega
        have ef2 : decide ((xs.length : Int) < (far : Int)) = true := decide_eq_true (by omega)
        have ef3 : decide (xs.length < far) = true := decide_eq_true (by omega)
        have HBAD := hide hbad
        clear hbad
        obtain ⟨k, hk⟩ : ∃ k, xs.length = k + 1 := ⟨xs.length - 1, by omega⟩
        have hlit : Calls Tryd.prog 28 #[.slice A xs.length c, .int .i64 0] w3 (Gives w3 (litL xs 0)) := by
          have hr3 := HX.out.keep (w' := w3) (fun k hk => HB3.out.block k hk)
          rw [hk] at hr3 ⊢
          exact Literal_any A k c 0 w.heap.size xs w3 hr3 hz3 (by omega) (by omega)
        have hll := litL_length_le xs 0 (by omega)
        have hch := Chain.one (elem_lit [] xs 0 (by omega) (by omega) (by omega))
        have hnn : ([] : Bs) ++ xs = xs := rfl
        rw [hnn] at hch
        have HLit := hide hlit
        have HLL := hide hll
        have HCH := hide hch
        clear hlit hll hch hnn hk
        generalize litL xs 0 = pre at *
        go_wp2_with fail
        refine HLit.out.mono ?_
        rintro e wl ⟨vl, rfl, hol, hbl⟩
        have hzl := hbl.size
        obtain ⟨Al, cl, rfl, _, _, hrl, _⟩ := hol.form
        have HRl := hide hrl
        have HOl := hide (HO3.out.kept hbl)
        have HBl := hide (HB3.out.trans (hbl.mono hz3))
        clear hol hbl hrl
        go_wp2_with (at_builtin; refine append_own rfl (.tmp 34) (.tmp 36) rfl w.heap.size w v3 (varL (xs.length + nn)) rfl HOl.out HBl.out wl.heap.size Al pre.length cl pre rfl HRl.out (by have := HVL.out; have := HLL.out; omega) (by omega) ?_; intro v4 w4 ho4 hg4 hb4; obtain ⟨Ab, cb, hv4, _, _, _, _⟩ := ho4.form; subst hv4; have hbl0 : (varL (xs.length + nn) ++ pre).length ≤ 1000020 := by { rw [List.length_append]; have := HVL.out; have := HLL.out; omega }; generalize hblk : varL (xs.length + nn) ++ pre = blk at *; have HBLK := hide hblk.symm; have HO4 := hide ho4; have HB4 := hide hb4; have hz4 := hb4.size; clear ho4 hg4 hb4 hblk)
        obtain ⟨LB, hLB⟩ : ∃ LB, LB = blk.length := ⟨_, rfl⟩
        rw [← hLB] at hbl0
        have HLB := hide hLB
        have ho4 := HO4.out
        rw [← hLB] at ho4 ⊢
        have HO4' := hide ho4
        have hcp := Copy_any fm nn far w4 HFIT.out
        have HC := hide hcp
        have hcl := copyL_length_le fm nn far HFIT.out
        have HCL := hide hcl
        have hdec := (show decG (blk ++ copyL fm nn far) = none by
          rw [HBLK.out, List.append_assoc, decG_varL _ _ (by omega), HCH.out.run_append _ _ (by omega)]
          exact run_none (copyL_ne _ _ _) (step_bad_copy _ (item_copyL HFIT.out).1 HBAD.out))
        have HDEC := hide hdec
        clear hcp hcl hdec ho4 hLB
        generalize copyL fm nn far = el at *
        go_wp2_with fail
        refine HC.out.mono ?_
        rintro e w5 ⟨v5, rfl, ho5, hb5⟩
        have hz5 := hb5.size
        obtain ⟨A5, c5, rfl, _, _, hr5, _⟩ := ho5.form
        have HR5 := hide hr5
        have HO5 := hide (HO4'.out.kept hb5)
        have HB5 := hide (HB4.out.trans (hb5.mono hz4))
        clear ho5 hb5 hr5
        go_wp2_with (at_builtin; refine append_own rfl (.tmp 38) (.tmp 42) rfl w.heap.size w (.slice Ab LB cb) blk rfl HO5.out HB5.out w5.heap.size A5 el.length c5 el rfl HR5.out (by rw [← HLB.out]; have := HCL.out; omega) (by omega) ?_; intro v6 w6 ho6 hg6 hb6; obtain ⟨A6, c6, hv6, _, _, _, _⟩ := ho6.form; subst hv6; have hl6 : (blk ++ el).length ≤ 1000030 := by { rw [List.length_append, ← HLB.out]; have := HCL.out; omega }; generalize hL6 : (blk ++ el).length = L6 at *)
        have HD := iDecode_any A6 L6 c6 _ (blk ++ el) p w6 ho6.rd.1 (Nat.le_refl _) (by omega) (FnOffset_none ho6) (HE.out.keep hb6 hlt)
        rw [HDEC.out] at HD
        replace HD := hide HD
        have hz6 := hb6.size
        have HB6 := hide hb6
        clear ho6 hg6 hb6 hL6
        go_wp2_with fail
        refine HD.out.mono ?_
        rintro e w7 ⟨hb7, ⟨v7, t, ht, _⟩ | ⟨_, rfl⟩⟩
        · cases ht
        · have hz7 := hb7.size
          have HB7 := hide (HB6.out.trans (hb7.mono (by omega)))
          clear hb7
          go_wp2_with fail
          refine (refused_yes (.slice none 0 0) _ ⟨_, _, _, rfl⟩).mono ?_
          rintro e w8 ⟨rfl, hb8⟩
          have hz17 : w.heap.size ≤ w7.heap.size := by omega
          have HB8 := hide ((HB7.out.alloc hz17 _).trans (hb8.mono (by rw [World.size_alloc]; omega)))
          clear hb8
          go_wp2
          go_ret
          exact ⟨rfl, HB8.out⟩

      · skip
        have ef : ((far : Int) == 0) = false := by rw [beq_eq_false_iff_ne]; omega
        have ef2 : decide ((xs.length : Int) < (far : Int)) = false := decide_eq_false (by omega)
        have hfar1 : 1 ≤ far := by omega
        have hfar2 : far ≤ xs.length := by omega
        obtain ⟨k, hk⟩ : ∃ k, xs.length = k + 1 := ⟨xs.length - 1, by omega⟩
        have hlit : Calls Tryd.prog 28 #[.slice A xs.length c, .int .i64 0] w3 (Gives w3 (litL xs 0)) := by
          have hr3 := HX.out.keep (w' := w3) (fun k hk => HB3.out.block k hk)
          rw [hk] at hr3 ⊢
          exact Literal_any A k c 0 w.heap.size xs w3 hr3 hz3 (by omega) (by omega)
        have hll := litL_length_le xs 0 (by omega)
        have hch := Chain.one (elem_lit [] xs 0 (by omega) (by omega) (by omega))
        have hnn : ([] : Bs) ++ xs = xs := rfl
        rw [hnn] at hch
        have HLit := hide hlit
        have HLL := hide hll
        have HCH := hide hch
        clear hlit hll hch hnn hk
        generalize litL xs 0 = pre at *
        go_wp2_with fail
        refine HLit.out.mono ?_
        rintro e wl ⟨vl, rfl, hol, hbl⟩
        have hzl := hbl.size
        obtain ⟨Al, cl, rfl, _, _, hrl, _⟩ := hol.form
        have HRl := hide hrl
        have HOl := hide (HO3.out.kept hbl)
        have HBl := hide (HB3.out.trans (hbl.mono hz3))
        clear hol hbl hrl
        go_wp2_with (at_builtin; refine append_own rfl (.tmp 34) (.tmp 36) rfl w.heap.size w v3 (varL (xs.length + nn)) rfl HOl.out HBl.out wl.heap.size Al pre.length cl pre rfl HRl.out (by have := HVL.out; have := HLL.out; omega) (by omega) ?_; intro v4 w4 ho4 hg4 hb4; obtain ⟨Ab, cb, hv4, _, _, _, _⟩ := ho4.form; subst hv4; have hbl0 : (varL (xs.length + nn) ++ pre).length ≤ 1000020 := by { rw [List.length_append]; have := HVL.out; have := HLL.out; omega }; generalize hblk : varL (xs.length + nn) ++ pre = blk at *; have HBLK := hide hblk.symm; have HO4 := hide ho4; have HB4 := hide hb4; have hz4 := hb4.size; clear ho4 hg4 hb4 hblk)
        obtain ⟨LB, hLB⟩ : ∃ LB, LB = blk.length := ⟨_, rfl⟩
        rw [← hLB] at hbl0
        have HLB := hide hLB
        have ho4 := HO4.out
        rw [← hLB] at ho4 ⊢
        have HO4' := hide ho4
        have hcp := Copy_any fm nn far w4 HFIT.out
        have HC := hide hcp
        have hcl := copyL_length_le fm nn far HFIT.out
        have HCL := hide hcl
        have hdec := (show decG (blk ++ copyL fm nn far) = some (xs ++ again (xs.drop (xs.length - far)) nn) by
          have h1 := HCH.out.snoc (elem_copy (out := xs) HFIT.out hfar1 hfar2)
          have h2 := decG_chain h1 (by rw [copyOut_length]; omega)
          rw [copyOut_length, copyOut_tail xs far nn hfar1 hfar2] at h2
          rw [HBLK.out, List.append_assoc]
          exact h2)
        have HDEC := hide hdec
        clear hcp hcl hdec ho4 hLB
        generalize copyL fm nn far = el at *
        go_wp2_with fail
        refine HC.out.mono ?_
        rintro e w5 ⟨v5, rfl, ho5, hb5⟩
        have hz5 := hb5.size
        obtain ⟨A5, c5, rfl, _, _, hr5, _⟩ := ho5.form
        have HR5 := hide hr5
        have HO5 := hide (HO4'.out.kept hb5)
        have HB5 := hide (HB4.out.trans (hb5.mono hz4))
        clear ho5 hb5 hr5
        go_wp2_with (at_builtin; refine append_own rfl (.tmp 38) (.tmp 42) rfl w.heap.size w (.slice Ab LB cb) blk rfl HO5.out HB5.out w5.heap.size A5 el.length c5 el rfl HR5.out (by rw [← HLB.out]; have := HCL.out; omega) (by omega) ?_; intro v6 w6 ho6 hg6 hb6; obtain ⟨A6, c6, hv6, _, _, _, _⟩ := ho6.form; subst hv6; have hl6 : (blk ++ el).length ≤ 1000030 := by { rw [List.length_append, ← HLB.out]; have := HCL.out; omega }; generalize hL6 : (blk ++ el).length = L6 at *)
        have HD := iDecode_any A6 L6 c6 _ (blk ++ el) p w6 ho6.rd.1 (Nat.le_refl _) (by omega) (FnOffset_none ho6) (HE.out.keep hb6 hlt)
        rw [HDEC.out] at HD
        replace HD := hide HD
        have hz6 := hb6.size
        have HB6 := hide hb6
        clear ho6 hg6 hb6 hL6
        go_wp2_with fail
        refine HD.out.mono ?_
        rintro e w7 ⟨hb7, ⟨v7, t, ht, rfl, ho7, htl⟩ | ⟨h, _⟩⟩
        · obtain rfl := Option.some.inj ht
          have hz7 := hb7.size
          obtain ⟨tt, htt⟩ : ∃ tt, tt = xs ++ again (xs.drop (xs.length - far)) nn := ⟨_, rfl⟩
          rw [← htt] at ho7
          have htt2 : tt.length = xs.length + nn := by rw [htt, List.length_append, again_length]
          obtain ⟨A7, c7, rfl, _, _, _, _⟩ := ho7.form
          rw [htt2] at ho7 ⊢
          have HTT := hide htt
          have HTT2 := hide htt2
          have HB7 := hide (HB6.out.trans (hb7.mono (by omega)))
          have HO7 := hide ho7
          have HX7 := hide (HX.out.keep (w' := w7) (fun k hk => HB7.out.block k hk))
          obtain ⟨wa, hwa⟩ : ∃ wa, wa = w7.alloc (.cells #[.slice A7 (xs.length + nn) c7, .int .i64 0] 30) := ⟨_, rfl⟩
          have hwaz : wa.heap.size = w7.heap.size + 1 := by rw [hwa]; simp
          have hown0 : Own (wa.alloc (.cells #[] 5)) (w7.heap.size + 1) (.slice (some ⟨wa.heap.size, 0, none⟩) 0 0) [] := by
            rw [← hwaz]
            exact World.ownsRow_lit wa #[] 0 (Nat.le_refl _) (by simp [maxLen]) rfl
          have hxa : Rd (wa.alloc (.cells #[] 5)) w.heap.size A xs.length xs := by
            have h1 := HX7.out.alloc (by omega) (.cells #[.slice A7 (xs.length + nn) c7, .int .i64 0] 30)
            rw [← hwa] at h1
            exact h1.alloc (by omega) _
          have hba : Below (w7.heap.size + 1) wa (wa.alloc (.cells #[] 5)) := (Below.refl _ _).alloc (by omega) _
          rw [hwa, World.size_alloc] at hown0
          rw [hwa] at hxa hba
          have HOW := hide hown0
          have HXA := hide hxa
          have HBA := hide hba
          clear hb7 ho7 htt htt2 hown0 hxa hba hwa hwaz
          go_wp2_with (at_builtin; refine append_own rfl (.tmp 55) (.tmp 56) rfl (w7.heap.size + 1) _ (.slice (some ⟨w7.heap.size + 1, 0, none⟩) 0 0) [] rfl HOW.out HBA.out w.heap.size A xs.length c xs rfl HXA.out (by simp; omega) (by simp) ?_; intro v8 w8 ho8 hg8 hb8; obtain ⟨A8, c8, hv8, _, _, _, _⟩ := ho8.form; subst hv8)
          obtain ⟨g0, g1, _, _⟩ := agg_block hb8
          replace ho8 : Own w8 (w7.heap.size + 1) (.slice A8 xs.length c8) xs := ho8
          have HO8 := hide ho8
          have HB8 := hide hb8
          clear ho8 hb8 hg8
          have hsl := run_cut_l A xs.length c ((xs.length : Int) - (far : Int)) (xs.length - far) (by omega) (by omega) (by omega)
          have hw1 : IntKind.i64.wrap ((xs.length : Int) - (far : Int)) = (xs.length : Int) - (far : Int) := IntWalk.i64_in _ (by omega)
          have hz8 := HB8.out.size
          rw [World.size_alloc] at hz8
          have hx8 : Rd w8 w.heap.size A xs.length xs := (HX7.out.alloc (by omega) _).keep (fun k hk => HB8.out.block k (by omega))
          have hcut := (hx8.cut (k := xs.length - far) (cap := c) (by omega) hnc).drew
          have hag := Again_any (cutA A c (xs.length - far)) (xs.length - (xs.length - far)) (c - (xs.length - far)) nn w.heap.size (xs.drop (xs.length - far)) w8.drew hcut (by show _ ≤ w8.heap.size; omega) (by omega) (by omega) (by omega)
          have hagl := again_length (xs.drop (xs.length - far)) nn
          have HAg := hide hag
          have HAgl := hide hagl
          have HTT3 := hide (show tt = xs ++ again (xs.drop (xs.length - far)) nn from HTT.out)
          have HS8 := hide ((HO7.out.rd.1.alloc (Nat.le_refl _) (.cells #[.slice A7 (xs.length + nn) c7, .int .i64 0] 30)).keep (w' := w8) (fun k hk => HB8.out.block k (by omega)))
          clear hx8 hcut hag hagl HTT
          generalize again (xs.drop (xs.length - far)) nn = ag at *
          have hszd : w8.drew.heap.size = w8.heap.size := rfl
          go_region_law (first
            | (refine step_append rfl (.tmp 59) (.tmp 67) rfl (w7.heap.size + 1) w8 (.slice A8 xs.length c8) xs (by simp [Act.eval]) HO9.out HB9.out w9.heap.size A9 nn c9 ag (by simp [Act.eval]) HR9.out (by omega) (by rw [HAgl.out]; omega) (by omega) ?_; intro v10 w10 ho10 hg10 hb10; rw [← HTT3.out] at ho10; obtain ⟨A10, c10, hv10, _, _, _, _⟩ := ho10.form; subst hv10; rw [HTT2.out] at ho10 ⊢; have hz10 := hb10.size; have HS10 := hide ((HS8.out.keep (w' := w10) (fun k hk => hb10.block k (by omega))).more (show w7.heap.size ≤ w10.heap.size by omega)); have HO10 := hide ho10; have HB10 := hide hb10; have g20 := (hb10.cell (p := ⟨w7.heap.size, 0, none⟩) (by show w7.heap.size < _; omega)).trans g0; have g21 := (hb10.cell (p := ⟨w7.heap.size, 1, none⟩) (by show w7.heap.size < _; omega)).trans g1; clear ho10 hg10 hb10)
            | (go_simp; go_at_call 30; refine HAg.out.mono ?_; rintro e w9 ⟨v9, rfl, ho9, hb9⟩; obtain ⟨A9, c9, hv9, _, _, hr9, _⟩ := ho9.form; subst hv9; rw [HAgl.out] at hr9 ⊢; have hz9 := hb9.size; have g10 := (hb9.cell (p := ⟨w7.heap.size, 0, none⟩) (by show w7.heap.size < w8.heap.size; omega)).trans g0; have g11 := (hb9.cell (p := ⟨w7.heap.size, 1, none⟩) (by show w7.heap.size < w8.heap.size; omega)).trans g1; have HR9 := hide hr9; have HO9 := hide (show Own w9 (w7.heap.size + 1) (.slice A8 xs.length c8) xs from (show Own w8.drew (w7.heap.size + 1) (.slice A8 xs.length c8) xs from HO8.out).kept hb9); have HB9 := hide (show Below (w7.heap.size + 1) w8 w9 from (show Below (w7.heap.size + 1) w8 w8.drew from (Below.refl _ _).drew).trans (hb9.mono (by show _ ≤ w8.heap.size; omega))); clear ho9 hb9 hr9)
            | (go_simp; go_at_call 27; refine (says_yes A7 A10 (xs.length + nn) c7 c10 w10.heap.size w10.heap.size tt w10 HS10.out (Nat.le_refl _) HO10.out.rd.1 (Nat.le_refl _) (by omega)).mono ?_; rintro e w11 ⟨rfl, hb11⟩; have HB11 := hide hb11; clear hb11))
          all_goals go_wp2
          all_goals go_ret
          all_goals exact ⟨rfl, ((HB7.out.alloc HB7.out.size _).trans ((HB8.out.trans HB10.out).mono (Nat.le_succ_of_le HB7.out.size))).trans (HB11.out.mono (by omega))⟩
        · cases h

theorem FnOffset_total (w : World) (A : Option Addr) (n c : Nat) (xs : Bs) (hx : Rd w w.heap.size A n xs) (hA : A = none → n = 0) (hnc : n ≤ c) (z : Int) (hzi : (Lit.int .i64 z).wf = true) (z2 : Int) (hzi2 : (Lit.int .i64 z2).wf = true) (z3 : Int) (hzi3 : (Lit.int .i64 z3).wf = true) (p : Addr) (hE : Corrupt w p) : Calls Tryd.prog 10 #[.slice A n c, .int .i64 z, .int .i64 z2, .int .i64 z3] w (Yes w) := by
  by_cases h : 2147483647 < n
  · exact FnOffset_long A n c xs z z2 z3 w h
  · by_cases hN : 1000000 < n
    · exact FnOffset_large A n c xs z z2 z3 w (by omega) hN
    · exact FnOffset_walk A n c xs z z2 z3 p w hx hA hnc hzi hzi2 hzi3 (by omega) (by omega) hE

end Snap
end Go.Proofs.YtodbfgomkcmdgaaDoor

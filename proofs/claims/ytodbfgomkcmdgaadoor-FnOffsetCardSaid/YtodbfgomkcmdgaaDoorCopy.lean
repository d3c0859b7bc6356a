/-
  spec.Fits, spec.Copy: they give 'fitsL' and the bytes 'copyL'.
-/
import Derived.Test.YtodbfgomkcmdgaaDoorLiteral
namespace Go.Proofs.YtodbfgomkcmdgaaDoor
open Go.RowKit
set_option linter.unusedVariables false
namespace Snap

set_option maxRecDepth 100000 in
set_option maxHeartbeats 1000000 in
theorem Fits_1 (n far : Nat) (w : World) (hn : n ≤ 2147483647) (hf : far ≤ 9223372036854775807) : Calls Tryd.prog 31 #[.int .i64 1, .int .i64 (n : Int), .int .i64 (far : Int)] w (fun e w' => e = .returned (.bool (fitsL 1 n far)) ∧ w = w') := by
  have e0 : decide ((0 : Int) ≤ (far : Int)) = true := decide_eq_true (by omega)
  go_enter Tryd.func31, Tryd.ntmps31
  go_wp2
  all_goals go_ret
  all_goals exact ⟨congrArg (fun b => Ending.returned (Value.bool b)) (by rw [Bool.eq_iff_iff]; simp [fitsL]; try omega), rfl⟩

set_option maxRecDepth 100000 in
set_option maxHeartbeats 1000000 in
theorem Fits_2 (n far : Nat) (w : World) (hn : n ≤ 2147483647) (hf : far ≤ 9223372036854775807) : Calls Tryd.prog 31 #[.int .i64 2, .int .i64 (n : Int), .int .i64 (far : Int)] w (fun e w' => e = .returned (.bool (fitsL 2 n far)) ∧ w = w') := by
  have e0 : decide ((0 : Int) ≤ (far : Int)) = true := decide_eq_true (by omega)
  go_enter Tryd.func31, Tryd.ntmps31
  go_wp2
  all_goals go_ret
  all_goals exact ⟨congrArg (fun b => Ending.returned (Value.bool b)) (by rw [Bool.eq_iff_iff]; simp [fitsL]; try omega), rfl⟩

set_option maxRecDepth 100000 in
set_option maxHeartbeats 1000000 in
theorem Fits_3 (n far : Nat) (w : World) (hn : n ≤ 2147483647) (hf : far ≤ 9223372036854775807) : Calls Tryd.prog 31 #[.int .i64 3, .int .i64 (n : Int), .int .i64 (far : Int)] w (fun e w' => e = .returned (.bool (fitsL 3 n far)) ∧ w = w') := by
  have e0 : decide ((0 : Int) ≤ (far : Int)) = true := decide_eq_true (by omega)
  go_enter Tryd.func31, Tryd.ntmps31
  go_wp2
  all_goals go_ret
  all_goals exact ⟨congrArg (fun b => Ending.returned (Value.bool b)) (by rw [Bool.eq_iff_iff]; simp [fitsL]; try omega), rfl⟩

theorem Fits_any (form n far : Nat) (w : World) (h1 : 1 ≤ form) (h3 : form ≤ 3) (hn : n ≤ 2147483647) (hf : far ≤ 9223372036854775807) : Calls Tryd.prog 31 #[.int .i64 (form : Int), .int .i64 (n : Int), .int .i64 (far : Int)] w (fun e w' => e = .returned (.bool (fitsL form n far)) ∧ w = w') := by
  have hc : form = 1 ∨ form = 2 ∨ form = 3 := by omega
  rcases hc with rfl | rfl | rfl
  · exact Fits_1 n far w hn hf
  · exact Fits_2 n far w hn hf
  · exact Fits_3 n far w hn hf

theorem list53 (f : Nat → Value) : ((List.range 53).map f).toArray = #[f 0, f 1, f 2, f 3, f 4, f 5, f 6, f 7, f 8, f 9, f 10, f 11, f 12, f 13, f 14, f 15, f 16, f 17, f 18, f 19, f 20, f 21, f 22, f 23, f 24, f 25, f 26, f 27, f 28, f 29, f 30, f 31, f 32, f 33, f 34, f 35, f 36, f 37, f 38, f 39, f 40, f 41, f 42, f 43, f 44, f 45, f 46, f 47, f 48, f 49, f 50, f 51, f 52] := by kernel_rfl

/-- A frame of 53 slots. -/
theorem open53 (a : Act) (hs : a.tmps.size = 53) (hd : a.defers = []) : ∃ f : Nat → Value, (∀ i, f i = a.tmps.getD i undef) ∧ a = ⟨#[f 0, f 1, f 2, f 3, f 4, f 5, f 6, f 7, f 8, f 9, f 10, f 11, f 12, f 13, f 14, f 15, f 16, f 17, f 18, f 19, f 20, f 21, f 22, f 23, f 24, f 25, f 26, f 27, f 28, f 29, f 30, f 31, f 32, f 33, f 34, f 35, f 36, f 37, f 38, f 39, f 40, f 41, f 42, f 43, f 44, f 45, f 46, f 47, f 48, f 49, f 50, f 51, f 52], []⟩ := by
  refine ⟨fun i => a.tmps.getD i undef, fun _ => rfl, ?_⟩
  exact (act_slots a 53 hs hd).trans (congrArg (fun l => (⟨l, []⟩ : Act)) (list53 _))

/-- The frame at the loop's head. -/
structure CpFr (fm q : Nat) (Ao : Option Addr) (ko co i : Nat) (a : Act) : Prop where
  size : a.tmps.size = 53
  defers : a.defers = []
  s0 : a.tmps.getD 0 undef = .int .i64 (fm : Int)
  s2 : a.tmps.getD 2 undef = .int .i64 (q : Int)
  s7 : a.tmps.getD 7 undef = .slice Ao ko co
  s8 : a.tmps.getD 8 undef = .int .i64 (i : Int)

set_option maxRecDepth 100000 in
theorem CpFr.open_ {fm q : Nat} {Ao : Option Addr} {ko co i : Nat} {a : Act} (h : CpFr fm q Ao ko co i a) : ∃ f : Nat → Value, a = ⟨#[.int .i64 (fm : Int), f 1, .int .i64 (q : Int), f 3, f 4, f 5, f 6, .slice Ao ko co, .int .i64 (i : Int), f 9, f 10, f 11, f 12, f 13, f 14, f 15, f 16, f 17, f 18, f 19, f 20, f 21, f 22, f 23, f 24, f 25, f 26, f 27, f 28, f 29, f 30, f 31, f 32, f 33, f 34, f 35, f 36, f 37, f 38, f 39, f 40, f 41, f 42, f 43, f 44, f 45, f 46, f 47, f 48, f 49, f 50, f 51, f 52], []⟩ := by
  obtain ⟨f, hf, ha⟩ := open53 a h.size h.defers
  refine ⟨f, ha.trans ?_⟩
  simp only [(hf 0).trans h.s0, (hf 2).trans h.s2, (hf 7).trans h.s7, (hf 8).trans h.s8]

noncomputable def cpBody : Code := bodyOf Tryd.f29
noncomputable def cpLoop : Code := cL (cB (c2 (c1 (c2 (c2 (c2 (c2 cpBody)))))))

theorem own_two (w : World) (x y : Int) (b c : UInt8) (hx : x = (b.toNat : Int)) (hy : y = (c.toNat : Int)) : Own (w.alloc (.cells #[.int .u8 x, .int .u8 y] 5)) w.heap.size (.slice (some ⟨w.heap.size, 0, none⟩) 2 2) [b, c] := by
  subst hx
  subst hy
  exact World.ownsRow_lit w #[.int .u8 (b.toNat : Int), .int .u8 (c.toNat : Int)] 2 (by simp) (by simp [maxLen]) rfl

set_option maxRecDepth 100000 in
set_option maxHeartbeats 1000000 in
theorem cp_end (fm q : Nat) (Ao : Option Addr) (ko co i base : Nat) (w0 wr : World) (out : Bs) (Q : Exit → Act → World → Prop) (a : Act) (hfr : CpFr fm q Ao ko co i a) (hko : out.length = ko) (hko5 : ko ≤ 5) (hq : q ≤ 4294967295) (h2 : 2 ≤ fm) (h3 : fm ≤ 3) (hB : base ≤ wr.heap.size) (hown : Own wr base (.slice Ao ko co) out) (hbel : Below base w0 wr) (hi : i = 2 * fm - 2) (h : ∀ a, CpFr fm q Ao ko co i a → Q (.exit 0) a wr) : Code.wp Tryd.prog cpLoop Q a wr := by
  obtain ⟨f, rfl⟩ := hfr.open_
  have hd : decide ((i : Int) < 2 * (fm : Int) - 2) = false := decide_eq_false (by omega)
  have h' : 2 * (fm : Int) - 2 ≤ (i : Int) := by omega
  clear hfr hown hbel hko hi
  conv => arg 2; whnf
  go_wp2
  exact ⟨rfl, rfl, rfl, rfl, rfl, rfl⟩

set_option maxRecDepth 100000 in
set_option maxHeartbeats 1000000 in
theorem cp_step (fm q : Nat) (Ao : Option Addr) (ko co i base : Nat) (w0 wr : World) (out : Bs) (Q : Exit → Act → World → Prop) (a : Act) (hfr : CpFr fm q Ao ko co i a) (hko : out.length = ko) (hko5 : ko ≤ 5) (hq : q ≤ 4294967295) (h2 : 2 ≤ fm) (h3 : fm ≤ 3) (hB : base ≤ wr.heap.size) (hown : Own wr base (.slice Ao ko co) out) (hbel : Below base w0 wr) (hi : i < 2 * fm - 2)
    (h : ∀ a w Ao co, CpFr fm (q / 256) Ao (ko + 1) co (i + 1) a → Own w base (.slice Ao (ko + 1) co) (out ++ [UInt8.ofNat (q % 256)]) → Below base w0 w → Q .normal a w) : Code.wp Tryd.prog cpLoop Q a wr := by
  obtain ⟨f, rfl⟩ := hfr.open_
  have hd : decide ((i : Int) < 2 * (fm : Int) - 2) = true := decide_eq_true (by omega)
  have h' : (i : Int) < 2 * (fm : Int) - 2 := by omega
  have hb : (((UInt8.ofNat (q % 256)).toNat : Nat) : Int) = (q : Int) % 256 := by rw [toNat_ofNat (Nat.mod_lt _ (by decide))]; omega
  have HY := hide hb
  have HK := hide hko
  have HO := hide hown
  have HB := hide hbel
  clear hko hown hbel hfr hb hi
  generalize UInt8.ofNat (q % 256) = y at *
  conv => arg 2; whnf
  go_wp2_with (at_builtin; refine append_own rfl (.tmp 44) (.tmp 48) rfl base w0 (.slice Ao ko co) out rfl (HO.out.alloc _) (HB.out.alloc hB _) (wr.heap.size + 1) (some ⟨wr.heap.size, 0, none⟩) 1 1 [y] rfl (Rd.one _ _ _ HY.out.symm) (by rw [HK.out]; simp; omega) (by simp; omega) ?_; intro v' w1 hown1 hgrow1 hbel1)
  have hlen1 : (out ++ [y]).length = ko + 1 := by rw [List.length_append, HK.out]; rfl
  obtain ⟨A1, c1, rfl, _, _, _, _⟩ := hown1.form
  rw [hlen1] at hown1 ⊢
  have HO1 := hide hown1
  have HB1 := hide hbel1
  clear hown1 hbel1 hgrow1 hlen1
  go_wp2
  exact h _ _ _ _ ⟨rfl, rfl, rfl, rfl, rfl, rfl⟩ HO1.out HB1.out

theorem cp_loop (fm q : Nat) (Ao : Option Addr) (co base : Nat) (w0 wr : World) (out : Bs) (Q : Exit → Act → World → Prop) (a : Act) (hfr : CpFr fm q Ao 1 co 0 a) (hko : out.length = 1) (hq : q ≤ 4294967295) (h2 : 2 ≤ fm) (h3 : fm ≤ 3) (hB0 : base ≤ w0.heap.size)
    (hown : Own wr base (.slice Ao 1 co) out) (hbel : Below base w0 wr)
    (h : ∀ a w q' Ao ko co i, CpFr fm q' Ao ko co i a → Own w base (.slice Ao ko co) (out ++ leB (2 * fm - 2) q) → Below base w0 w → Q (.exit 0) a w) : Code.wp Tryd.prog (.loop cpLoop) Q a wr := by
  refine wp_loop (fun a w => ∃ i q1 Ao co outi, i ≤ 2 * fm - 2 ∧ q1 ≤ 4294967295 ∧ CpFr fm q1 Ao (1 + i) co i a ∧ Own w base (.slice Ao (1 + i) co) outi ∧ outi.length = 1 + i ∧ Below base w0 w ∧ outi ++ leB (2 * fm - 2 - i) q1 = out ++ leB (2 * fm - 2) q)
    (fun a _ => match a.tmps.getD 8 undef with | .int _ k => 2 * fm - 2 - k.toNat | _ => 0) ⟨0, q, Ao, co, out, Nat.zero_le _, hq, hfr, hown, hko, hbel, rfl⟩ ?_
  rintro a w ⟨i, q1, Ao, co, outi, hi, hq1, hf, ho, hlen, hb, he⟩
  have h8 := hf.s8
  have hsz := hb.size
  by_cases him : i = 2 * fm - 2
  · refine cp_end fm q1 Ao (1 + i) co i base w0 w outi _ a hf hlen (by omega) hq1 h2 h3 (by omega) ho hb him ?_
    intro a' hf'
    rw [him, Nat.sub_self] at he
    simp only [leB, List.append_nil] at he
    rw [he] at ho
    exact h a' w q1 Ao _ co _ hf' ho hb
  · refine cp_step fm q1 Ao (1 + i) co i base w0 w outi _ a hf hlen (by omega) hq1 h2 h3 (by omega) ho hb (by omega) ?_
    intro a' w' Ao' co' hf' ho' hb'
    rw [Nat.add_assoc] at hf' ho'
    refine ⟨⟨i + 1, q1 / 256, Ao', co', _, by omega, by omega, hf', ho', by rw [List.length_append, hlen]; rfl, hb', ?_⟩, ?_⟩
    · rw [← he, show 2 * fm - 2 - i = (2 * fm - 2 - (i + 1)) + 1 from by omega]
      simp [leB]
    · rw [hf'.s8, h8]
      show 2 * fm - 2 - (((i + 1 : Nat) : Int)).toNat < 2 * fm - 2 - ((i : Nat) : Int).toNat
      omega

set_option maxRecDepth 100000 in
set_option maxHeartbeats 1000000 in
theorem Copy_any (fm n far : Nat) (w : World) (hfit : fitsL fm n far = true) :
    Calls Tryd.prog 29 #[.int .i64 (fm : Int), .int .i64 (n : Int), .int .i64 (far : Int)] w (Gives w (copyL fm n far)) := by
  have hbnd : (1 ≤ fm ∧ fm ≤ 3) ∧ n ≤ 64 ∧ far ≤ 4294967295 ∧ 1 ≤ n ∧ (fm = 1 → 4 ≤ n ∧ n ≤ 11 ∧ far < 2048) := by
    unfold fitsL at hfit
    repeat' split at hfit
    all_goals simp at hfit
    all_goals omega
  obtain ⟨⟨hf1, hf3⟩, hn64, hfar, hn1, hone⟩ := hbnd
  have HF := Fits_any fm n far w hf1 hf3 (by omega) (by omega)
  rw [hfit] at HF
  replace HF := hide HF
  clear hfit
  by_cases h1 : fm = 1
  · subst h1
    obtain ⟨h4, h11, h2048⟩ := hone rfl
    have hL : copyL 1 n far = [UInt8.ofNat (1 + (n - 4) * 4 + far / 256 * 32), UInt8.ofNat (far % 256)] := by unfold copyL; rw [if_pos rfl]
    have HL := hide hL
    have hx : (((UInt8.ofNat (1 + (n - 4) * 4 + far / 256 * 32)).toNat : Nat) : Int) = 1 + ((n : Int) - 4) * 4 + (far : Int) / 256 * 32 := by rw [toNat_ofNat (by omega)]; omega
    have hy : (((UInt8.ofNat (far % 256)).toNat : Nat) : Int) = (far : Int) % 256 := by rw [toNat_ofNat (Nat.mod_lt _ (by decide))]; omega
    have HX := hide hx
    have HY := hide hy
    clear hone hL hx hy
    generalize UInt8.ofNat (1 + (n - 4) * 4 + far / 256 * 32) = x at *
    generalize UInt8.ofNat (far % 256) = y at *
    go_enter Tryd.func29, Tryd.ntmps29
    go_wp2_with fail
    refine HF.out.mono ?_
    rintro e w' ⟨rfl, rfl⟩
    go_wp2
    go_ret
    exact ⟨_, rfl, by rw [HL.out]; exact own_two w _ _ x y HX.out.symm HY.out.symm, (Below.refl _ _).alloc (Nat.le_refl _) _⟩
  · have h2 : 2 ≤ fm := by omega
    have hL : copyL fm n far = UInt8.ofNat (fm + (n - 1) * 4) :: leB (2 * fm - 2) far := by unfold copyL; rw [if_neg h1]
    have HL := hide hL
    have hx : (((UInt8.ofNat (fm + (n - 1) * 4)).toNat : Nat) : Int) = (fm : Int) + ((n : Int) - 1) * 4 := by rw [toNat_ofNat (by omega)]; omega
    have HX := hide hx
    have hne : ((fm : Int) == 1) = false := by rw [beq_eq_false_iff_ne]; omega
    clear hone hL hx h1
    generalize UInt8.ofNat (fm + (n - 1) * 4) = x at *
    go_enter Tryd.func29, Tryd.ntmps29
    go_wp2_with fail
    refine HF.out.mono ?_
    rintro e w' ⟨rfl, rfl⟩
    go_wp2
    rename_i K hK
    refine cp_loop fm far (some ⟨w.heap.size, 0, none⟩) 1 w.heap.size w _ [x] _ _ ⟨rfl, rfl, rfl, rfl, rfl, rfl⟩ rfl hfar h2 hf3 (Nat.le_refl _) (own_one w _ x HX.out.symm) ((Below.refl _ _).alloc (Nat.le_refl _) _) ?_
    intro a1 w1 q1 A1 k1 c1 i1 hf1' ho1 hb1
    have HO1 := hide ho1
    have HB1 := hide hb1
    obtain ⟨f1, rfl⟩ := hf1'.open_
    clear ho1 hb1 hf1'
    go_wp2
    go_ret
    exact ⟨_, rfl, by rw [HL.out]; exact HO1.out, HB1.out⟩


end Snap
end Go.Proofs.YtodbfgomkcmdgaaDoor

/-
  The law FnRun: its loop lays one copy behind another.
-/
import Derived.Test.YtodbfgomkcmdgaaDoorLaws1
import Derived.Test.YtodbfgomkcmdgaaDoorWrite
namespace Go.Proofs.YtodbfgomkcmdgaaDoor
open Go.RowKit
set_option linter.unusedVariables false
namespace Snap

theorem list67 (f : Nat → Value) : ((List.range 67).map f).toArray = #[f 0, f 1, f 2, f 3, f 4, f 5, f 6, f 7, f 8, f 9, f 10, f 11, f 12, f 13, f 14, f 15, f 16, f 17, f 18, f 19, f 20, f 21, f 22, f 23, f 24, f 25, f 26, f 27, f 28, f 29, f 30, f 31, f 32, f 33, f 34, f 35, f 36, f 37, f 38, f 39, f 40, f 41, f 42, f 43, f 44, f 45, f 46, f 47, f 48, f 49, f 50, f 51, f 52, f 53, f 54, f 55, f 56, f 57, f 58, f 59, f 60, f 61, f 62, f 63, f 64, f 65, f 66] := by kernel_rfl

/-- A frame of 67 slots. -/
theorem open67 (a : Act) (hs : a.tmps.size = 67) (hd : a.defers = []) : ∃ f : Nat → Value, (∀ i, f i = a.tmps.getD i undef) ∧ a = ⟨#[f 0, f 1, f 2, f 3, f 4, f 5, f 6, f 7, f 8, f 9, f 10, f 11, f 12, f 13, f 14, f 15, f 16, f 17, f 18, f 19, f 20, f 21, f 22, f 23, f 24, f 25, f 26, f 27, f 28, f 29, f 30, f 31, f 32, f 33, f 34, f 35, f 36, f 37, f 38, f 39, f 40, f 41, f 42, f 43, f 44, f 45, f 46, f 47, f 48, f 49, f 50, f 51, f 52, f 53, f 54, f 55, f 56, f 57, f 58, f 59, f 60, f 61, f 62, f 63, f 64, f 65, f 66], []⟩ := by
  refine ⟨fun i => a.tmps.getD i undef, fun _ => rfl, ?_⟩
  exact (act_slots a 67 hs hd).trans (congrArg (fun l => (⟨l, []⟩ : Act)) (list67 _))

/-- The frame at the loop's head. -/
structure RuFr (A : Option Addr) (k c fm many nn : Nat) (Ao : Option Addr) (ko co i : Nat) (a : Act) : Prop where
  size : a.tmps.size = 67
  defers : a.defers = []
  s0 : a.tmps.getD 0 undef = .slice A (k + 1) c
  s1 : a.tmps.getD 1 undef = .int .i64 (fm : Int)
  s2 : a.tmps.getD 2 undef = .int .i64 (many : Int)
  s3 : a.tmps.getD 3 undef = .int .i64 (nn : Int)
  s9 : a.tmps.getD 9 undef = .slice Ao ko co
  s10 : a.tmps.getD 10 undef = .int .i64 (i : Int)

set_option maxRecDepth 100000 in
theorem RuFr.open_ {A : Option Addr} {k c fm many nn : Nat} {Ao : Option Addr} {ko co i : Nat} {a : Act} (h : RuFr A k c fm many nn Ao ko co i a) : ∃ f : Nat → Value, a = ⟨#[.slice A (k + 1) c, .int .i64 (fm : Int), .int .i64 (many : Int), .int .i64 (nn : Int), f 4, f 5, f 6, f 7, f 8, .slice Ao ko co, .int .i64 (i : Int), f 11, f 12, f 13, f 14, f 15, f 16, f 17, f 18, f 19, f 20, f 21, f 22, f 23, f 24, f 25, f 26, f 27, f 28, f 29, f 30, f 31, f 32, f 33, f 34, f 35, f 36, f 37, f 38, f 39, f 40, f 41, f 42, f 43, f 44, f 45, f 46, f 47, f 48, f 49, f 50, f 51, f 52, f 53, f 54, f 55, f 56, f 57, f 58, f 59, f 60, f 61, f 62, f 63, f 64, f 65, f 66], []⟩ := by
  obtain ⟨f, hf, ha⟩ := open67 a h.size h.defers
  refine ⟨f, ha.trans ?_⟩
  simp only [(hf 0).trans h.s0, (hf 1).trans h.s1, (hf 2).trans h.s2, (hf 3).trans h.s3, (hf 9).trans h.s9, (hf 10).trans h.s10]

noncomputable def ruBody : Code := bodyOf Tryd.f11
noncomputable def ruTail : Code := c2 (c2 (c2 (c2 (c2 (c2 ruBody)))))
noncomputable def ruLoop : Code := cL (cB (c2 (c1 (c2 ruTail))))

set_option maxRecDepth 100000 in
set_option maxHeartbeats 1000000 in
theorem ru_end (A : Option Addr) (k c fm many nn : Nat) (Ao : Option Addr) (ko co i base : Nat) (w0 wr : World) (out : Bs) (Q : Exit → Act → World → Prop) (a : Act) (hfr : RuFr A k c fm many nn Ao ko co i a) (hko : out.length = ko) (hkb : ko ≤ 2000000) (hB : base ≤ wr.heap.size) (hmany : many ≤ 40) (hk : k ≤ 1000000) (hown : Own wr base (.slice Ao ko co) out) (hbel : Below base w0 wr) (hi : i = many) (h : ∀ a, RuFr A k c fm many nn Ao ko co i a → Q (.exit 0) a wr) : Code.wp Tryd.prog ruLoop Q a wr := by
  subst hi
  obtain ⟨f, rfl⟩ := hfr.open_
  clear hfr hown hbel hko
  conv => arg 2; whnf
  go_wp2
  exact ⟨rfl, rfl, rfl, rfl, rfl, rfl, rfl, rfl⟩

set_option maxRecDepth 100000 in
set_option maxHeartbeats 1000000 in
theorem ru_step (A : Option Addr) (k c fm many nn : Nat) (Ao : Option Addr) (ko co i base : Nat) (w0 wr : World) (out : Bs) (Q : Exit → Act → World → Prop) (a : Act) (hfr : RuFr A k c fm many nn Ao ko co i a) (hko : out.length = ko) (hkb : ko ≤ 2000000) (hB : base ≤ wr.heap.size) (hmany : many ≤ 40) (hk : k ≤ 1000000) (hown : Own wr base (.slice Ao ko co) out) (hbel : Below base w0 wr) (hi : i < many) (hfit : fitsL fm nn (k + 1) = true)
    (h : ∀ a w Ao ko co, RuFr A k c fm many nn Ao ko co (i + 1) a → Own w base (.slice Ao ko co) (out ++ copyL fm nn (k + 1)) → (out ++ copyL fm nn (k + 1)).length = ko → Below base w0 w → Q .normal a w) : Code.wp Tryd.prog ruLoop Q a wr := by
  obtain ⟨f, rfl⟩ := hfr.open_
  have hcl := copyL_length_le fm nn (k + 1) hfit
  have hc := Copy_any fm nn (k + 1) wr hfit
  rw [show (((k + 1 : Nat) : Nat) : Int) = (k : Int) + 1 from by omega] at hc
  have HC := hide hc
  have HCL := hide hcl
  have HK := hide hko
  have HO := hide hown
  have HB := hide hbel
  have H1 := hide h
  clear hc hcl hko hown hbel hfr h hfit
  generalize copyL fm nn (k + 1) = el at *
  conv => arg 2; whnf
  go_wp2_with fail
  refine HC.out.mono ?_
  rintro e w1 ⟨v1, rfl, ho1, hb1⟩
  have hz1 := hb1.size
  obtain ⟨A1, c1, rfl, _, _, hr1, _⟩ := ho1.form
  have HR := hide hr1
  have HO1 := hide (HO.out.kept hb1)
  have HB1 := hide (HB.out.trans (hb1.mono hB))
  clear ho1 hb1 hr1
  go_wp2_with (at_builtin; refine append_own rfl (.tmp 49) (.tmp 54) rfl base w0 (.slice Ao ko co) out rfl HO1.out HB1.out w1.heap.size A1 el.length c1 el rfl HR.out (by rw [HK.out]; have := HCL.out; omega) (by omega) ?_; intro v' w2 hown2 hgrow2 hbel2)
  obtain ⟨A2, c2, rfl, _, _, _, _⟩ := hown2.form
  have HO2 := hide hown2
  have HB2 := hide hbel2
  clear hown2 hgrow2 hbel2
  generalize hg : (out ++ el).length = kk at *
  clear hg
  go_wp2
  exact H1.out _ _ _ _ _ ⟨rfl, rfl, rfl, rfl, rfl, rfl, rfl, rfl⟩ HO2.out rfl HB2.out

theorem ru_loop (A : Option Addr) (k c fm many nn : Nat) (Ao : Option Addr) (ko co base : Nat) (w0 wr : World) (ys out : Bs) (Q : Exit → Act → World → Prop) (a : Act) (hfr : RuFr A k c fm many nn Ao ko co 0 a) (hko : out.length = ko) (hkb : ko ≤ 1000100) (hbw : base ≤ w0.heap.size) (hmany : many ≤ 40) (hk : k ≤ 1000000)
    (hyl : ys.length = k + 1) (hfit : fitsL fm nn (k + 1) = true) (hown : Own wr base (.slice Ao ko co) out) (hbel : Below base w0 wr)
    (body : Bs) (pre : Bs) (hout : out = pre ++ body) (hch : Chain [] body (again ys (k + 1)))
    (h : ∀ a w Ao ko co out body, RuFr A k c fm many nn Ao ko co many a → Own w base (.slice Ao ko co) out → out.length = ko → ko ≤ 1000300 → Below base w0 w → out = pre ++ body → Chain [] body (again ys (k + 1 + nn * many)) → Q (.exit 0) a w) : Code.wp Tryd.prog (.loop ruLoop) Q a wr := by
  refine wp_loop (fun a w => ∃ i Ao ko co out body, i ≤ many ∧ RuFr A k c fm many nn Ao ko co i a ∧ Own w base (.slice Ao ko co) out ∧ out.length = ko ∧ ko ≤ 1000100 + 5 * i ∧ Below base w0 w ∧ out = pre ++ body ∧ Chain [] body (again ys (k + 1 + nn * i)))
    (fun a _ => match a.tmps.getD 10 undef with | .int _ k => many - k.toNat | _ => 0) ⟨0, Ao, ko, co, out, body, Nat.zero_le _, hfr, hown, hko, by omega, hbel, hout, hch⟩ ?_
  rintro a w ⟨i, Ao, ko, co, out, body, hi, hf, ho, hl, hlb, hb, he, hc⟩
  have h10 := hf.s10
  have hsz := hb.size
  by_cases him : i = many
  · refine ru_end A k c fm many nn Ao ko co i base w0 w out _ a hf hl (by omega) (by omega) hmany hk ho hb him ?_
    intro a' hf'
    rw [him] at hf' hc
    exact h a' w Ao ko co out body hf' ho hl (by omega) hb he hc
  · refine ru_step A k c fm many nn Ao ko co i base w0 w out _ a hf hl (by omega) (by omega) hmany hk ho hb (by omega) hfit ?_
    intro a' w' Ao' ko' co' hf' ho' hl' hb'
    have hcl := copyL_length_le fm nn (k + 1) hfit
    have hle : (out ++ copyL fm nn (k + 1)).length ≤ ko + 5 := by rw [List.length_append]; omega
    refine ⟨⟨i + 1, Ao', ko', co', _, body ++ copyL fm nn (k + 1), by omega, hf', ho', hl', by omega, hb', by rw [he, List.append_assoc], ?_⟩, ?_⟩
    · have he2 := elem_copy (out := again ys (k + 1 + nn * i)) hfit (by omega) (by rw [again_length]; omega)
      have hca := copyOut_again ys (k + 1 + nn * i) nn (by omega) (by omega)
      rw [hyl] at hca
      rw [hca, show k + 1 + nn * i + nn = k + 1 + nn * (i + 1) from by rw [Nat.mul_succ]; omega] at he2
      exact hc.snoc he2
    · rw [hf'.s10, h10]
      show many - (((i + 1 : Nat) : Int)).toNat < many - ((i : Nat) : Int).toNat
      omega


end Snap
end Go.Proofs.YtodbfgomkcmdgaaDoor

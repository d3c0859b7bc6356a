/-
  snappy.decode, whole: it returns 0 and has laid the text that the elements say, or 1 where they are not well formed.
-/
import Derived.Test.YtodbfgomkcmdgaaDoorDecode8
namespace Go.Proofs.YtodbfgomkcmdgaaDoor
open Go.RowKit
set_option linter.unusedVariables false
namespace Snap

theorem loop_all (Ad : Option Addr) (n cd b off m cs g : Nat) (ys : Bs) (w0 wr : World) (Q : Exit → Act → World → Prop) (a : Act) (B : Base Ad n cd b off m cs g) (hs0 : Src w0 g b off m ys)
    (hT : Top w0 Ad n cd b off m cs g ys 0 0 [] a wr)
    (hret : run n ys [] = none → ∀ a w, RetOne w0 g a w → Q .ret a w)
    (hexit : ∀ out a w, run n ys [] = fin n out → Top w0 Ad n cd b off m cs g ys out.length m out a w → Q (.exit 0) a w) : Code.wp Tryd.prog (.loop dLoop) Q a wr := by
  refine wp_loop (fun a w => ∃ d s out, Top w0 Ad n cd b off m cs g ys d s out a w ∧ run n ys [] = run n (ys.drop s) out) (fun a _ => match a.tmps.getD 6 undef with | .int _ k => m - k.toNat | _ => 0)
    ⟨0, 0, [], hT, by rw [List.drop_zero]⟩ ?_
  rintro a w ⟨d, s, out, hT, hr⟩
  have hs6 := hT.fr.s6
  have hl := hs0.len
  have hol := hT.olen
  by_cases hs : s = m
  · rw [dLoop_eq]
    refine wp_seq (r2_end Ad n cd b off m cs w d s _ a hT.fr B.hn B.hm B.hmcs hT.dn hs (fun a1 h1 => ?_))
    rw [hs, ← hl, List.drop_length, run_nil] at hr
    subst hs
    subst hol
    exact hexit out a1 w hr ⟨h1, rfl, hT.dn, hT.sm, hT.dst, hT.src, hT.grown⟩
  · have hsm := hT.sm
    have hne : ys.drop s ≠ [] := by
      intro h
      have h' : (ys.drop s).length = 0 := by rw [h]; rfl
      rw [List.length_drop] at h'
      omega
    refine round_any Ad n cd b off m cs g ys w0 w d s out _ a B hs0 hT (by omega) ?_ ?_
    · intro hst a' w' h'
      exact hret (hr.trans (run_none hne hst)) a' w' h'
    · intro d' s' out' hst hlt a' w' hT'
      refine ⟨⟨d', s', out', hT', hr.trans (run_some hst)⟩, ?_⟩
      have h6 := hT'.fr.s6
      have hsm' := hT'.sm
      rw [h6, hs6]
      show m - ((s' : Nat) : Int).toNat < m - ((s : Nat) : Int).toNat
      omega

theorem results_tmp1 {fn : Func} {t : Tmp} (h : fn.results = #[.tmp t]) (tmps : Array Value) (P : Program) (w : World) {v : Value} (hv : tmps.getD t undef = v) :
    (results fn tmps).run P w = .ok v w := by
  subst hv
  simp [results, h]

noncomputable def dRest : Code := c2 (c2 (c2 dBody))

set_option maxRecDepth 100000 in
set_option maxHeartbeats 1000000 in
theorem rest_any (Ad : Option Addr) (n cd b off m cs : Nat) (wr : World) (d s : Nat) (Q : Exit → Act → World → Prop) (a : Act) (hfr : Fr Ad n cd b off m cs d s a) (hn : n ≤ 4294967295) (hdn : d ≤ n)
    (h : ∀ a, a.defers = [] → a.tmps.getD 4 undef = .int .i64 (if d = n then 0 else 1) → Q .ret a wr) : Code.wp Tryd.prog dRest Q a wr := by
  obtain ⟨f, rfl⟩ := hfr.open_
  by_cases hd : d = n
  · subst hd
    rw [if_pos rfl] at h
    conv => arg 2; whnf
    go_wp2
    exact h _ rfl rfl
  · rw [if_neg hd] at h
    have hb : ((d : Int) == (n : Int)) = false := by rw [beq_eq_false_iff_ne]; omega
    have hb2 : ((d : Int) != (n : Int)) = true := by rw [bne, hb]; rfl
    conv => arg 2; whnf
    go_wp2
    exact h _ rfl rfl

/-- What decode gives back. -/
def Decoded (W : World) (g n : Nat) (ys : Bs) (e : Ending) (w : World) : Prop :=
  W.grownBy w (some g) ∧ ((e = .returned (.int .i64 0) ∧ ∃ out, run n ys [] = some out ∧ Dst w g n out) ∨ (e = .returned (.int .i64 1) ∧ run n ys [] = none))

set_option maxRecDepth 100000 in
set_option maxHeartbeats 1000000 in
theorem decode_any (Ad : Option Addr) (n cd b off m cs g : Nat) (ys : Bs) (W : World) (B : Base Ad n cd b off m cs g) (hs0 : Src W g b off m ys) (hdst : Dst W g n []) :
    Calls Tryd.prog 43 #[.slice Ad n cd, .slice (some ⟨b, off, none⟩) m cs] W (Decoded W g n ys) := by
  have HB := hide B
  have HS := hide hs0
  have HD := hide hdst
  clear B hs0 hdst
  go_enter Tryd.func43, Tryd.ntmps43
  go_wp2
  rename_i K hK
  have hB := HB.out
  refine loop_all Ad n cd b off m cs g ys W W _ _ hB HS.out ⟨⟨rfl, rfl, rfl, rfl, rfl, rfl⟩, rfl, Nat.zero_le _, Nat.zero_le _, HD.out, HS.out, World.grownBy.refl _ _⟩ ?_ ?_
  · rintro hnone a w ⟨hd, h4, hg⟩
    exact bodyPost_ret (results_tmp1 rfl _ _ _ h4) hd ⟨hg, .inr ⟨rfl, hnone⟩⟩
  · intro out a w hrun hT
    refine hK _ _ (rest_any Ad n cd b off m cs w out.length m _ a hT.fr hB.hn hT.dn ?_)
    intro a' hd h4
    unfold fin at hrun
    by_cases hl : out.length = n
    · rw [if_pos hl] at h4 hrun
      exact bodyPost_ret (results_tmp1 rfl _ _ _ h4) hd ⟨hT.grown, .inl ⟨rfl, out, hrun, hT.dst⟩⟩
    · rw [if_neg hl] at h4 hrun
      exact bodyPost_ret (results_tmp1 rfl _ _ _ h4) hd ⟨hT.grown, .inr ⟨rfl, hrun⟩⟩

end Snap
end Go.Proofs.YtodbfgomkcmdgaaDoor

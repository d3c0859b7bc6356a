/-
  snappy.encodeBlock: the literal ahead of a match; the end.
-/
import Derived.Test.YtoihiaenlonncaaDoorBlk3
namespace Go.Proofs.YtoihiaenlonncaaDoor
open Go.RowKit
set_option linter.unusedVariables false
namespace Snap

/-- Q, but False at a panic. -/
def noPanic (Q : Exit → Act → World → Prop) : Exit → Act → World → Prop
  | .panic _, _, _ => False
  | e, a, w => Q e a w

theorem wp_noPanic {P : Program} {c : Code} {Q : Exit → Act → World → Prop} {a : Act} {w : World} (h : c.wp P (noPanic Q) a w) : c.wp P Q a w :=
  Code.wp_mono (fun e a w hq => by cases e <;> first | exact hq | exact hq.elim) h

set_option maxRecDepth 100000 in
set_option maxHeartbeats 1000000 in
theorem bk_r11 (g o nd cd b off n cl tb d sh ne s nh : Nat) (w : World) (Q : Exit → Act → World → Prop) (a : Act) (hfr : BkH g o nd cd b off n cl tb d sh ne s nh a)  (h : ∀ a, BkI g o nd cd b off n cl tb d sh ne s nh a → Q .normal a w) : Code.wp Tryd.prog bkR11 Q a w := by
  obtain ⟨f, rfl⟩ := hfr.open_
  clear hfr
  conv => arg 2; whnf
  go_wp2
  exact ⟨rfl, rfl, rfl, rfl, rfl, rfl, rfl, rfl, rfl, rfl, rfl, rfl⟩

set_option maxRecDepth 100000 in
set_option maxHeartbeats 1000000 in
theorem bk_r12 (g o nd cd b off n cl tb d sh ne s nh : Nat) (w : World) (Q : Exit → Act → World → Prop) (a : Act) (hfr : BkI g o nd cd b off n cl tb d sh ne s nh a)  (h : ∀ a, BkS g o nd cd b off n cl tb d sh ne s nh 32 s a → Q .normal a w) : Code.wp Tryd.prog bkR12 Q a w := by
  obtain ⟨f, rfl⟩ := hfr.open_
  clear hfr
  conv => arg 2; whnf
  go_wp2
  exact ⟨rfl, rfl, rfl, rfl, rfl, rfl, rfl, rfl, rfl, rfl, rfl, rfl, rfl⟩

set_option maxRecDepth 100000 in
set_option maxHeartbeats 1000000 in
theorem bk_r13 (g o nd cd b off n cl tb d sh ne s nh : Nat) (w : World) (Q : Exit → Act → World → Prop) (a : Act) (hfr : BkS g o nd cd b off n cl tb d sh ne s nh 32 s a)  (h : ∀ a, BkS g o nd cd b off n cl tb d sh ne s nh 32 s a → Q .normal a w) : Code.wp Tryd.prog bkR13 Q a w := by
  obtain ⟨f, rfl⟩ := hfr.open_
  clear hfr
  conv => arg 2; whnf
  go_wp2
  exact ⟨rfl, rfl, rfl, rfl, rfl, rfl, rfl, rfl, rfl, rfl, rfl, rfl, rfl⟩

set_option maxRecDepth 100000 in
set_option maxHeartbeats 1000000 in
theorem bk_r23 (g o nd cd b off n cl tb d sh ne s ca N : Nat) (xs out : Bs) (w0 w : World) (Q : Exit → Act → World → Prop) (a : Act) (hfr : BkM g o nd cd b off n cl tb d sh ne s ca a) (hw : BkW w0 w g b off n tb N xs out (s + 1)) (hn : n ≤ 65536) (hncl : n ≤ cl) (hndcd : nd ≤ cd) (hnd : nd ≤ 4294967295)
    (hnes : ne < s) (hsn : s ≤ n) (hroom : d + (s - ne) + 3 ≤ nd) (hout : out.length = o + d) (hN : o + nd ≤ N) (hNb : N ≤ 4294967295)
    (h : ∀ a w', BkM g o nd cd b off n cl tb (d + (litL ((xs.drop ne).take (s - ne)) 0).length) sh ne s ca a → BkW w0 w' g b off n tb N xs (out ++ litL ((xs.drop ne).take (s - ne)) 0) (s + 1) → Q .normal a w') : Code.wp Tryd.prog bkR23 Q a w := by
  obtain ⟨f, rfl⟩ := hfr.open_
  have hsl1 := run_cut_l (some ⟨g, o, none⟩) nd cd (d : Int) d (by omega) (by omega) (by omega)
  rw [cutA_some g o cd d (by omega)] at hsl1
  have hsl2 := run_cut_lh (some ⟨b, off, none⟩) n cl (ne : Int) (s : Int) ne s (by omega) (by omega) (by omega) (by omega) (by omega)
  rw [cutA_some b off cl ne (by omega)] at hsl2
  have hs := hw.src.cut ne (s - ne) (by omega)
  have hh : litHead (s - ne) ≤ 3 := by unfold litHead; repeat' split
                                       all_goals omega
  have HC := hide (fun (w' : World) (hs : Src w' g b (off + ne) (s - ne) ((xs.drop ne).take (s - ne))) (hd : Dst w' g N out) => emitLiteral_any g (o + d) (nd - d) (cd - d) N b (off + ne) (s - ne) (cl - ne) _ out w' hs (by omega) (by omega) hout (by omega) (by omega) (by omega) (by omega) hNb hd)
  have HW := hide hw
  have hel : (litL ((xs.drop ne).take (s - ne)) 0).length ≤ s - ne + 3 := by
    rw [litL_len _ (by rw [hs.len]; omega) (by rw [hs.len]; omega), hs.len]
    omega
  generalize litL ((xs.drop ne).take (s - ne)) 0 = e at *
  clear hfr hw hs hh
  refine wp_noPanic ?_
  conv => arg 2; whnf
  have HWD : Hid (BkW w0 w.drew g b off n tb N xs out (s + 1)) := hide (HW.out.drewN 1)
  have HC1 := hide (HC.out w.drew (HWD.out.src.cut ne (s - ne) (by omega)) HWD.out.dst)
  have hwr : IntKind.i64.wrap ((d : Int) + (e.length : Int)) = (d : Int) + (e.length : Int) := IntWalk.i64_in _ (by omega)
  go_region_law (go_simp; go_at_call 23; refine HC1.out.mono ?_; rintro e' w2 ⟨rfl, hd2, hg2⟩; have HW2 := hide (HWD.out.laid hd2 hg2); clear hd2 hg2)
  all_goals exact h _ _ ⟨rfl, rfl, rfl, rfl, rfl, rfl, rfl, rfl, rfl, rfl, rfl⟩ HW2.out

set_option maxRecDepth 100000 in
set_option maxHeartbeats 1000000 in
theorem bk_t1_none (g o nd cd b off n cl d ne : Nat) (w : World) (Q : Exit → Act → World → Prop) (a : Act) (hfr : BkT g o nd cd b off n cl d ne a) (hn : n ≤ 65536) (hne : n ≤ ne) (hne2 : ne ≤ 65536) (h : ∀ a, BkT g o nd cd b off n cl d ne a → Q .normal a w) : Code.wp Tryd.prog bkT1 Q a w := by
  obtain ⟨f, rfl⟩ := hfr.open_
  clear hfr
  conv => arg 2; whnf
  go_wp2
  exact ⟨rfl, rfl, rfl, rfl, rfl, rfl⟩

set_option maxRecDepth 100000 in
set_option maxHeartbeats 1000000 in
theorem bk_t1_lit (g o nd cd b off n cl tb d ne N : Nat) (xs out : Bs) (w0 w : World) (Q : Exit → Act → World → Prop) (a : Act) (hfr : BkT g o nd cd b off n cl d ne a) (hw : BkW w0 w g b off n tb N xs out n) (hn : n ≤ 65536) (hncl : n ≤ cl) (hndcd : nd ≤ cd) (hnd : nd ≤ 4294967295)
    (hnes : ne < n) (hroom : d + (n - ne) + 3 ≤ nd) (hout : out.length = o + d) (hN : o + nd ≤ N) (hNb : N ≤ 4294967295)
    (h : ∀ a w', BkT g o nd cd b off n cl (d + (litL (xs.drop ne) 0).length) ne a → BkW w0 w' g b off n tb N xs (out ++ litL (xs.drop ne) 0) n → Q .normal a w') : Code.wp Tryd.prog bkT1 Q a w := by
  obtain ⟨f, rfl⟩ := hfr.open_
  have hsl1 := run_cut_l (some ⟨g, o, none⟩) nd cd (d : Int) d (by omega) (by omega) (by omega)
  rw [cutA_some g o cd d (by omega)] at hsl1
  have hsl2 := run_cut_l (some ⟨b, off, none⟩) n cl (ne : Int) ne (by omega) (by omega) (by omega)
  rw [cutA_some b off cl ne (by omega)] at hsl2
  have hfull : (xs.drop ne).take (n - ne) = xs.drop ne := List.take_of_length_le (by rw [List.length_drop, hw.src.len]; omega)
  have hs := hw.src.cut ne (n - ne) (by omega)
  rw [hfull] at hs
  have hh : litHead (n - ne) ≤ 3 := by unfold litHead; repeat' split
                                       all_goals omega
  have HC := hide (fun (w' : World) (hs : Src w' g b (off + ne) (n - ne) (xs.drop ne)) (hd : Dst w' g N out) => emitLiteral_any g (o + d) (nd - d) (cd - d) N b (off + ne) (n - ne) (cl - ne) _ out w' hs (by omega) (by omega) hout (by omega) (by omega) (by omega) (by omega) hNb hd)
  have HW := hide hw
  have hel : (litL (xs.drop ne) 0).length ≤ n - ne + 3 := by
    rw [litL_len _ (by rw [hs.len]; omega) (by rw [hs.len]; omega), hs.len]
    omega
  have HF := hide hfull
  generalize litL (xs.drop ne) 0 = e at *
  clear hfr hw hs hh hfull
  refine wp_noPanic ?_
  conv => arg 2; whnf
  go_wp2_with fail
  have HWD : Hid (BkW w0 w.drew g b off n tb N xs out n) := hide (HW.out.drewN 1)
  have hs1 := HWD.out.src.cut ne (n - ne) (by omega)
  rw [HF.out] at hs1
  have HC1 := hide (HC.out w.drew hs1 HWD.out.dst)
  clear hs1
  have hwr : IntKind.i64.wrap ((d : Int) + (e.length : Int)) = (d : Int) + (e.length : Int) := IntWalk.i64_in _ (by omega)
  go_region_law (go_simp; go_at_call 23; refine HC1.out.mono ?_; rintro e' w2 ⟨rfl, hd2, hg2⟩; have HW2 := hide (HWD.out.laid hd2 hg2); clear hd2 hg2)
  all_goals exact h _ _ ⟨rfl, rfl, rfl, rfl, rfl, rfl⟩ HW2.out

/-- So many is returned. -/
def RetBk (d : Nat) (a : Act) : Prop := a.defers = [] ∧ a.tmps.getD 4 undef = .int .i64 (d : Int)

set_option maxRecDepth 100000 in
set_option maxHeartbeats 1000000 in
theorem bk_t2 (g o nd cd b off n cl d ne : Nat) (w : World) (Q : Exit → Act → World → Prop) (a : Act) (hfr : BkT g o nd cd b off n cl d ne a)  (h : ∀ a, RetBk d a → Q .ret a w) : Code.wp Tryd.prog bkT2 Q a w := by
  obtain ⟨f, rfl⟩ := hfr.open_
  clear hfr
  conv => arg 2; whnf
  go_wp2
  exact ⟨rfl, rfl⟩


end Snap
end Go.Proofs.YtoihiaenlonncaaDoor

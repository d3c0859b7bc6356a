/-
  snappy.encodeBlock: a match is stretched, the copy is laid, the next one is sought.
-/
import Derived.Test.YtoihiaenlonncaaDoorBlk4
namespace Go.Proofs.YtoihiaenlonncaaDoor
open Go.RowKit
set_option linter.unusedVariables false
namespace Snap

set_option maxRecDepth 100000 in
set_option maxHeartbeats 1000000 in
theorem bk_r24 (g o nd cd b off n cl tb d sh ne s ca : Nat) (w : World) (Q : Exit → Act → World → Prop) (a : Act) (hfr : BkM g o nd cd b off n cl tb d sh ne s ca a) (hs : s ≤ 65536) (h : ∀ a, BkN g o nd cd b off n cl tb d sh ne s ca s a → Q .normal a w) : Code.wp Tryd.prog bkR24 Q a w := by
  obtain ⟨f, rfl⟩ := hfr.open_
  clear hfr
  conv => arg 2; whnf
  go_wp2
  exact ⟨rfl, rfl, rfl, rfl, rfl, rfl, rfl, rfl, rfl, rfl, rfl, rfl⟩

set_option maxRecDepth 100000 in
set_option maxHeartbeats 1000000 in
theorem bk_r25 (g o nd cd b off n cl tb d sh ne s ca bs : Nat) (w : World) (Q : Exit → Act → World → Prop) (a : Act) (hfr : BkN g o nd cd b off n cl tb d sh ne s ca bs a) (hs : s ≤ 65536) (h : ∀ a, BkN g o nd cd b off n cl tb d sh ne (s + 4) ca bs a → Q .normal a w) : Code.wp Tryd.prog bkR25 Q a w := by
  obtain ⟨f, rfl⟩ := hfr.open_
  clear hfr
  conv => arg 2; whnf
  go_wp2
  exact ⟨rfl, rfl, rfl, rfl, rfl, rfl, rfl, rfl, rfl, rfl, rfl, rfl⟩

set_option maxRecDepth 100000 in
set_option maxHeartbeats 1000000 in
theorem bk_r26 (g o nd cd b off n cl tb d sh ne s ca bs : Nat) (w : World) (Q : Exit → Act → World → Prop) (a : Act) (hfr : BkN g o nd cd b off n cl tb d sh ne s ca bs a) (hs : ca ≤ 65536) (h : ∀ a, BkE g o nd cd b off n cl tb d sh ne s ca bs (ca + 4) a → Q .normal a w) : Code.wp Tryd.prog bkR26 Q a w := by
  obtain ⟨f, rfl⟩ := hfr.open_
  clear hfr
  conv => arg 2; whnf
  go_wp2
  exact ⟨rfl, rfl, rfl, rfl, rfl, rfl, rfl, rfl, rfl, rfl, rfl, rfl, rfl⟩

set_option maxRecDepth 100000 in
set_option maxHeartbeats 1000000 in
theorem ext_go (g o nd cd b off n cl tb d sh ne s ca bs i x : Nat) (w : World) (Q : Exit → Act → World → Prop) (a : Act) (hfr : BkE g o nd cd b off n cl tb d sh ne s ca bs i a) (hn : n ≤ 65536) (hsn : s < n) (hi : i < s) (gi : w.cell? ⟨b, off + i, none⟩ = some (.int .u8 (x : Int))) (gs : w.cell? ⟨b, off + s, none⟩ = some (.int .u8 (x : Int))) (h : ∀ a k, BkE g o nd cd b off n cl tb d sh ne (s + 1) ca bs (i + 1) a → Q .normal a (w.drewN k)) : Code.wp Tryd.prog bkExt Q a w := by
  obtain ⟨f, rfl⟩ := hfr.open_
  clear hfr
  conv => arg 2; whnf
  go_wp2
  go_quiet (fail)
  go_wp2
  exact ⟨rfl, rfl, rfl, rfl, rfl, rfl, rfl, rfl, rfl, rfl, rfl, rfl, rfl⟩

set_option maxRecDepth 100000 in
set_option maxHeartbeats 1000000 in
theorem ext_end1 (g o nd cd b off n cl tb d sh ne s ca bs i : Nat) (w : World) (Q : Exit → Act → World → Prop) (a : Act) (hfr : BkE g o nd cd b off n cl tb d sh ne s ca bs i a) (hn : n ≤ 65536) (hsn : n ≤ s) (hs : s ≤ 65536) (h : ∀ a k, BkE g o nd cd b off n cl tb d sh ne s ca bs i a → Q (.exit 8) a (w.drewN k)) : Code.wp Tryd.prog bkExt Q a w := by
  obtain ⟨f, rfl⟩ := hfr.open_
  clear hfr
  have e1 : decide ((s : Int) < (n : Int)) = false := decide_eq_false (by omega)
  have e1x : decide (s < n) = false := decide_eq_false (by omega)
  conv => arg 2; whnf
  go_wp2
  go_quiet (fail)
  go_wp2
  exact ⟨rfl, rfl, rfl, rfl, rfl, rfl, rfl, rfl, rfl, rfl, rfl, rfl, rfl⟩

set_option maxRecDepth 100000 in
set_option maxHeartbeats 1000000 in
theorem ext_end2 (g o nd cd b off n cl tb d sh ne s ca bs i x y : Nat) (w : World) (Q : Exit → Act → World → Prop) (a : Act) (hfr : BkE g o nd cd b off n cl tb d sh ne s ca bs i a) (hn : n ≤ 65536) (hsn : s < n) (hi : i < s) (gi : w.cell? ⟨b, off + i, none⟩ = some (.int .u8 (x : Int))) (gs : w.cell? ⟨b, off + s, none⟩ = some (.int .u8 (y : Int))) (hxy : x ≠ y) (h : ∀ a k, BkE g o nd cd b off n cl tb d sh ne s ca bs i a → Q (.exit 8) a (w.drewN k)) : Code.wp Tryd.prog bkExt Q a w := by
  obtain ⟨f, rfl⟩ := hfr.open_
  clear hfr
  have e1 : decide ((s : Int) < (n : Int)) = true := decide_eq_true (by omega)
  have e1x : decide (s < n) = true := decide_eq_true (by omega)
  have e3 : ((x : Int) == (y : Int)) = false := by rw [beq_eq_false_iff_ne]; omega
  conv => arg 2; whnf
  go_wp2
  go_quiet (fail)
  go_wp2
  exact ⟨rfl, rfl, rfl, rfl, rfl, rfl, rfl, rfl, rfl, rfl, rfl, rfl, rfl⟩

set_option maxRecDepth 100000 in
set_option maxHeartbeats 1000000 in
theorem bk_ext (g o nd cd b off n cl tb d sh ne ca bs N : Nat) (xs out : Bs) (w0 w : World) (Q : Exit → Act → World → Prop) (a : Act) (hfr : BkE g o nd cd b off n cl tb d sh ne (bs + 4) ca bs (ca + 4) a) (hw : BkW w0 w g b off n tb N xs out (bs + 1)) (hn : n ≤ 65536) (hcb : ca < bs) (hbn : bs + 4 ≤ n) (hm : w4 xs bs = w4 xs ca)
    (h : ∀ a w' L, 4 ≤ L → bs + L ≤ n → (∀ j, j < L → xs.getD (ca + j) 0 = xs.getD (bs + j) 0) → BkE g o nd cd b off n cl tb d sh ne (bs + L) ca bs (ca + L) a → BkW w0 w' g b off n tb N xs out (bs + 1) → Q (.exit 8) a w') : Code.wp Tryd.prog (.loop bkExt) Q a w := by
  refine wp_loop (fun a w' => ∃ L, 4 ≤ L ∧ bs + L ≤ n ∧ (∀ j, j < L → xs.getD (ca + j) 0 = xs.getD (bs + j) 0) ∧ BkE g o nd cd b off n cl tb d sh ne (bs + L) ca bs (ca + L) a ∧ BkW w0 w' g b off n tb N xs out (bs + 1)) (fun a _ => match a.tmps.getD 10 undef with | .int _ k => n - k.toNat | _ => 0)
    ⟨4, Nat.le_refl _, hbn, fun j hj => (w4_same hm j hj).symm, hfr, hw⟩ ?_
  rintro a w' ⟨L, hL4, hLn, hall, hf, hw'⟩
  have h10 := hf.s10
  by_cases hend : n ≤ bs + L
  · exact ext_end1 g o nd cd b off n cl tb d sh ne (bs + L) ca bs (ca + L) w' _ a hf hn hend (by omega) (fun a' k hf' => h a' _ L hL4 hLn hall hf' (hw'.drewN k))
  · have gi := hw'.src.cell (ca + L) (by omega)
    have gs := hw'.src.cell (bs + L) (by omega)
    by_cases heq : xs.getD (ca + L) 0 = xs.getD (bs + L) 0
    · rw [← heq] at gs
      refine ext_go g o nd cd b off n cl tb d sh ne (bs + L) ca bs (ca + L) _ w' _ a hf hn (by omega) (by omega) gi gs ?_
      intro a' k hf'
      refine ⟨⟨L + 1, by omega, by omega, ?_, hf', hw'.drewN k⟩, ?_⟩
      · intro j hj
        by_cases hjL : j = L
        · subst hjL; exact heq
        · exact hall j (by omega)
      · rw [hf'.s10, h10]
        show n - (((bs + L + 1 : Nat) : Int)).toNat < n - ((bs + L : Nat) : Int).toNat
        omega
    · refine ext_end2 g o nd cd b off n cl tb d sh ne (bs + L) ca bs (ca + L) _ _ w' _ a hf hn (by omega) (by omega) gi gs ?_ (fun a' k hf' => h a' _ L hL4 hLn hall hf' (hw'.drewN k))
      intro he
      exact heq (UInt8.toNat_inj.1 he)

set_option maxRecDepth 100000 in
set_option maxHeartbeats 1000000 in
theorem bk_r29 (g o nd cd b off n cl tb d sh ne ca bs L N : Nat) (xs out : Bs) (w0 w : World) (Q : Exit → Act → World → Prop) (a : Act) (hfr : BkE g o nd cd b off n cl tb d sh ne (bs + L) ca bs (ca + L) a) (hw : BkW w0 w g b off n tb N xs out (bs + 1)) (hn : n ≤ 65536) (hndcd : nd ≤ cd) (hnd : nd ≤ 4294967295)
    (hcb : ca < bs) (hL4 : 4 ≤ L) (hbn : bs + L ≤ n) (hroom : d + L ≤ nd) (hout : out.length = o + d) (hN : o + nd ≤ N) (hNb : N ≤ 4294967295)
    (h : ∀ a w', BkF g o nd cd b off n cl tb (d + (copies (bs - ca) L).length) sh ne (bs + L) a → BkW w0 w' g b off n tb N xs (out ++ copies (bs - ca) L) (bs + 1) → Q .normal a w') : Code.wp Tryd.prog bkR29 Q a w := by
  obtain ⟨f, rfl⟩ := hfr.open_
  have hsl1 := run_cut_l (some ⟨g, o, none⟩) nd cd (d : Int) d (by omega) (by omega) (by omega)
  rw [cutA_some g o cd d (by omega)] at hsl1
  have hcl := copies_len L (bs - ca) L (Nat.le_refl _) hL4
  have HC := hide (emitCopy_any g (o + d) (nd - d) (cd - d) N (bs - ca) L w out hout (by omega) hNb (by omega) (by omega) hL4 (by omega) (by omega) hw.dst)
  obtain ⟨q, hq⟩ : ∃ q, q = bs - ca := ⟨_, rfl⟩
  have hq1 : (bs : Int) - (ca : Int) = (q : Int) := by omega
  have hq2 : ((bs + L : Nat) : Int) - (bs : Int) = (L : Int) := by omega
  rw [← hq] at HC hcl
  rw [← hq] at h
  obtain ⟨s, hs⟩ : ∃ s, s = bs + L := ⟨_, rfl⟩
  rw [← hs] at hq2 hbn
  rw [← hs] at h
  rw [← hs]
  generalize copies q L = e at *
  have HW := hide hw
  have HQ := hide hq
  have HS := hide hs
  clear hfr hw hq hs
  conv => arg 2; whnf
  go_wp2_with fail
  refine HC.out.mono ?_
  rintro e' w2 ⟨rfl, hd2, hg2⟩
  have HW2 := hide (HW.out.laid hd2 hg2)
  clear hd2 hg2
  go_wp2
  exact h _ _ ⟨rfl, rfl, rfl, rfl, rfl, rfl, rfl, rfl, rfl, rfl⟩ HW2.out


end Snap
end Go.Proofs.YtoihiaenlonncaaDoor

/-
  snappy.emitCopy: its contract.
-/
import Derived.Test.YtoihiaenlonncaaDoorEmitCopy2
namespace Go.Proofs.YtoihiaenlonncaaDoor
open Go.RowKit
set_option linter.unusedVariables false
namespace Snap

theorem ec_loop (g o n c N off L : Nat) (w0 : World) (out : Bs) (Q : Exit → Act → World → Prop) (a : Act) (hfr : EcFr g o n c off L 0 a) (hol : out.length = o) (hN : o + n ≤ N) (hNb : N ≤ 4294967295) (ho1 : 1 ≤ off) (ho2 : off ≤ 65535) (hL4 : 4 ≤ L) (hL : L ≤ 65536)
    (hn : (copies off L).length + 1 ≤ n) (hd : Dst w0 g N out)
    (h : ∀ a w i len e, EcFr g o n c off len i a → e.length = i → 4 ≤ len → len < 68 → e ++ copies off len = copies off L → Dst w g N (out ++ e) → w0.grownBy w (some g) → Q (.exit 0) a w) : Code.wp Tryd.prog (.loop ecLoop) Q a w0 := by
  refine wp_loop (fun a w => ∃ i len e, EcFr g o n c off len i a ∧ e.length = i ∧ 4 ≤ len ∧ len ≤ 65536 ∧ e ++ copies off len = copies off L ∧ Dst w g N (out ++ e) ∧ w0.grownBy w (some g)) (fun a _ => match a.tmps.getD 2 undef with | .int _ k => k.toNat | _ => 0)
    ⟨0, L, [], hfr, rfl, hL4, hL, rfl, by simpa using hd, World.grownBy.refl _ _⟩ ?_
  rintro a w ⟨i, len, e, hf, hel, h4, h6, he, hd', hg⟩
  have h2 := hf.s2
  have hlen := congrArg List.length he
  rw [List.length_append, hel] at hlen
  have hcl := copies_len len off len (Nat.le_refl _) h4
  by_cases hl : 68 ≤ len
  · refine ec_loop_step g o n c N off len i w0 w (out ++ e) _ a hf (by rw [List.length_append, hol, hel]) hN hNb ho1 ho2 h6 (by rw [copies_long hl, List.length_append, copyL2_len] at hlen; omega) hd' hg hl ?_
    intro a' w' hf' hd'' hg'
    refine ⟨⟨i + 3, len - 64, e ++ copyL 2 64 off, hf', by rw [List.length_append, hel, copyL2_len], by omega, by omega, by rw [List.append_assoc, ← copies_long hl]; exact he, by rw [← List.append_assoc]; exact hd'', hg'⟩, ?_⟩
    rw [hf'.s2, h2]
    show (((len - 64 : Nat) : Int)).toNat < ((len : Nat) : Int).toNat
    omega
  · exact ec_loop_end g o n c off len i w _ a hf ho2 h6 (by omega) (by omega) (fun a' hf' => h a' w i len e hf' hel h4 (by omega) he hd' hg)

set_option maxRecDepth 100000 in
set_option maxHeartbeats 1000000 in
theorem emitCopy_any (g o n c N off L : Nat) (w0 : World) (out : Bs) (hol : out.length = o) (hN : o + n ≤ N) (hNb : N ≤ 4294967295) (ho1 : 1 ≤ off) (ho2 : off ≤ 65535) (hL4 : 4 ≤ L) (hL : L ≤ 65536)
    (hn : (copies off L).length + 1 ≤ n) (hd : Dst w0 g N out) :
    Calls Tryd.prog 28 #[.slice (some ⟨g, o, none⟩) n c, .int .i64 (off : Int), .int .i64 (L : Int)] w0 (Laid w0 g N out (copies off L)) := by
  have fin : ∀ a w i e, RetEc i a → e.length = i → e = copies off L → Dst w g N (out ++ e) → w0.grownBy w (some g) → bodyPost Tryd.prog Tryd.f28 (Laid w0 g N out (copies off L)) .ret a w := by
    rintro a w i e ⟨hdf, h6⟩ hel he hd' hg
    subst he
    exact bodyPost_ret (results_one rfl _ _ _ h6) hdf ⟨by rw [hel], hd', hg⟩
  have fin2 : ∀ (Q : Exit → Act → World → Prop) a w i len e, (∀ a w i e, RetEc i a → e.length = i → e = copies off L → Dst w g N (out ++ e) → w0.grownBy w (some g) → Q .ret a w) → EcFr g o n c off len i a → e.length = i → 4 ≤ len → len ≤ 64 → e ++ lastC off len = copies off L → Dst w g N (out ++ e) → w0.grownBy w (some g) → Code.wp Tryd.prog (.seq ec14 ec19) Q a w := by
    intro Q a w i len e hQ hf hel h4 h64 he hd' hg
    have hlen := congrArg List.length he
    rw [List.length_append, hel] at hlen
    have hlc := lastC_len off len
    by_cases hc : 12 ≤ len ∨ 2048 ≤ off
    · refine wp_seq (ec14_yes g o n c N off len i w0 w (out ++ e) _ a hf (by rw [List.length_append, hol, hel]) hN hNb ho1 ho2 (by omega) (by unfold lastC at hlen; rw [if_pos hc, copyL2_len] at hlen; omega) hd' hg (by omega) h64 hc ?_)
      intro a' w' hr hd'' hg'
      refine hQ a' w' (i + 3) (e ++ copyL 2 len off) hr (by rw [List.length_append, hel, copyL2_len]) ?_ (by rw [← List.append_assoc]; exact hd'') hg'
      rw [← he]
      unfold lastC
      rw [if_pos hc]
    · refine wp_seq (ec14_no g o n c off len i w _ a hf ho2 (by omega) (by omega) (by omega) (by omega) (fun a1 hf1 => ?_))
      refine ec19_any g o n c N off len i w0 w (out ++ e) _ a1 hf1 (by rw [List.length_append, hol, hel]) hN hNb ho1 ho2 (by omega) (by omega) hd' hg h4 (by omega) (by omega) ?_
      intro a' w' hr hd'' hg'
      refine hQ a' w' (i + 2) (e ++ copyL 1 len off) hr (by rw [List.length_append, hel, copyL1_len]) ?_ (by rw [← List.append_assoc]; exact hd'') hg'
      rw [← he]
      unfold lastC
      rw [if_neg hc]
  have main : ∀ (Q : Exit → Act → World → Prop) a, EcFr g o n c off L 0 a → (∀ a w i e, RetEc i a → e.length = i → e = copies off L → Dst w g N (out ++ e) → w0.grownBy w (some g) → Q .ret a w) → Code.wp Tryd.prog ec2 Q a w0 := by
    intro Q a hf hQ
    rw [ec2_eq]
    refine wp_seq (wp_block (ec_loop g o n c N off L w0 out _ a hf hol hN hNb ho1 ho2 hL4 hL hn hd ?_))
    intro a1 w1 i len e hf1 hel h4 h68 he hd1 hg1
    show Code.wp _ (.seq ec8 (.seq ec14 ec19)) Q a1 w1
    have hlen := congrArg List.length he
    rw [List.length_append, hel] at hlen
    have hcl := copies_len len off len (Nat.le_refl _) h4
    rw [copies_short h68] at he hlen
    by_cases h64 : 64 < len
    · have ht : tailC off len = copyL 2 60 off ++ lastC off (len - 60) := by unfold tailC; rw [if_pos h64]
      have hlc := lastC_len off (len - 60)
      rw [ht] at he hlen
      rw [List.length_append, copyL2_len] at hlen
      refine wp_seq (ec8_yes g o n c N off len i w0 w1 (out ++ e) _ a1 hf1 (by rw [List.length_append, hol, hel]) hN hNb ho1 ho2 (by omega) (by omega) hd1 hg1 h64 h68 ?_)
      intro a2 w2 hf2 hd2 hg2
      exact fin2 Q a2 w2 (i + 3) (len - 60) (e ++ copyL 2 60 off) hQ hf2 (by rw [List.length_append, hel, copyL2_len]) (by omega) (by omega) (by rw [List.append_assoc]; exact he) (by rw [← List.append_assoc]; exact hd2) hg2
    · have ht : tailC off len = lastC off len := by unfold tailC; rw [if_neg h64]
      rw [ht] at he
      exact wp_seq (ec8_no g o n c off len i w1 _ a1 hf1 ho2 (by omega) (by omega) (by omega) (fun a2 hf2 => fin2 Q a2 w1 i len e hQ hf2 hel h4 (by omega) he hd1 hg1))
  have HM := hide main
  have HF := hide fin
  clear main fin fin2 hd hn
  go_enter Tryd.func28, Tryd.ntmps28
  refine wp_seq (ec_r0 g o n c off L w0 _ _ ⟨rfl, rfl, rfl, rfl, rfl⟩ (fun a1 h1 => wp_seq (ec_r1 g o n c off L w0 _ a1 h1 (fun a2 h2 => HM.out _ a2 h2 ?_))))
  intro a w i e hr hel he hd' hg
  exact HF.out a w i e hr hel he hd' hg

end Snap
end Go.Proofs.YtoihiaenlonncaaDoor

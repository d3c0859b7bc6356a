/-
  snappy.decode: a round of the loop.
-/
import Derived.Test.YtodbfgomkcmdgaaDoorDecode7
namespace Go.Proofs.YtodbfgomkcmdgaaDoor
open Go.RowKit
set_option linter.unusedVariables false
namespace Snap

section
variable (Ad : Option Addr) (n cd b off m cs g : Nat) (ys : Bs) (w0 wr : World) (d s : Nat) (out : Bs) (Q : Exit → Act → World → Prop) (a : Act)

theorem dLit_any (B : Base Ad n cd b off m cs g) (hs0 : Src w0 g b off m ys) (ho : out.length = d) (hd : d ≤ n) (hs : s < m) (hdst : Dst wr g n out) (hgr : w0.grownBy wr (some g)) (hfr : TFr Ad n cd b off m cs d s 0 a) (h0 : (ys.getD s 0).toNat % 4 = 0)
    (hret : step n (ys.drop s) out = none → ∀ a w, RetOne w0 g a w → Q .ret a w)
    (hok : ∀ d' s' out', step n (ys.drop s) out = some (ys.drop s', out') → s < s' → ∀ a w, Top w0 Ad n cd b off m cs g ys d' s' out' a w → Q (.exit 1) a w) : Code.wp Tryd.prog dLit Q a wr := by
  have hl := hs0.len
  have hsr := hs0.grown hgr
  have ht := (ys.getD s 0).toNat_lt
  have hdrop := drop_cons_getD ys s (by omega)
  rw [dLit_eq]
  refine wp_seq (r5_any Ad n cd b off m cs wr d s _ a hfr B.hn B.hm B.hmcs hd hs (ys.getD s 0).toNat ht (hsr.cell s hs) (fun a1 h1 => ?_))
  refine wp_seq ?_
  by_cases hx : (ys.getD s 0).toNat / 4 < 60
  · refine mid_short Ad n cd b off m cs g w0 wr d s _ a1 _ h1 B.hn B.hm B.hmcs hd hs hx (fun a2 h2 => ?_)
    exact lit_step Ad n cd b off m cs g ys w0 wr d s out Q a2 B hs0 ho hd hdst hgr 1 _ (by omega) (by omega) h2 (by rw [hdrop]; exact item_tag0s h0 hx) hret hok

  by_cases hx1 : (ys.getD s 0).toNat / 4 = 60
  · rw [hx1] at h1
    have hit := item_tag0l (r := ys.drop (s + 1)) h0 1 hx1 (by omega)
    rw [← hdrop] at hit
    by_cases hlack : m < s + 2
    · rw [little_lack ys (s + 1) 1 (by omega) (by omega)] at hit
      exact mid1_no Ad n cd b off m cs g w0 wr d s _ a1 h1 B.hn B.hm B.hmcs hd hs hlack hgr (hret (step_item_none hit))
    · rw [little_one ys (s + 1) (by omega)] at hit
      have ht1 := (ys.getD (s + 1) 0).toNat_lt
      refine mid1_ok Ad n cd b off m cs g w0 wr d s _ a1 h1 B.hn B.hm B.hmcs hd hs (by omega) (ys.getD (s + 1) 0).toNat ht1 (hsr.cell (s + 1) (by omega)) (fun a2 q h2 => ?_)
      exact lit_step Ad n cd b off m cs g ys w0 (wr.drewN q) d s out Q a2 B hs0 ho hd (hdst.drewN q) (grown_drewN hgr q) 2 _ (by omega) (by omega) h2 hit hret hok
  by_cases hx2 : (ys.getD s 0).toNat / 4 = 61
  · rw [hx2] at h1
    have hit := item_tag0l (r := ys.drop (s + 1)) h0 2 hx2 (by omega)
    rw [← hdrop] at hit
    by_cases hlack : m < s + 3
    · rw [little_lack ys (s + 1) 2 (by omega) (by omega)] at hit
      exact mid2_no Ad n cd b off m cs g w0 wr d s _ a1 h1 B.hn B.hm B.hmcs hd hs hlack hgr (hret (step_item_none hit))
    · rw [little_two ys (s + 1) (by omega)] at hit
      have ht1 := (ys.getD (s + 1) 0).toNat_lt
      have ht2 := (ys.getD (s + 2) 0).toNat_lt
      refine mid2_ok Ad n cd b off m cs g w0 wr d s _ a1 h1 B.hn B.hm B.hmcs hd hs (by omega) (ys.getD (s + 1) 0).toNat (ys.getD (s + 2) 0).toNat ht1 ht2 (hsr.cell (s + 1) (by omega)) (hsr.cell (s + 2) (by omega)) (fun a2 q h2 => ?_)
      exact lit_step Ad n cd b off m cs g ys w0 (wr.drewN q) d s out Q a2 B hs0 ho hd (hdst.drewN q) (grown_drewN hgr q) 3 _ (by omega) (by omega) h2 hit hret hok
  by_cases hx3 : (ys.getD s 0).toNat / 4 = 62
  · rw [hx3] at h1
    have hit := item_tag0l (r := ys.drop (s + 1)) h0 3 hx3 (by omega)
    rw [← hdrop] at hit
    by_cases hlack : m < s + 4
    · rw [little_lack ys (s + 1) 3 (by omega) (by omega)] at hit
      exact mid3_no Ad n cd b off m cs g w0 wr d s _ a1 h1 B.hn B.hm B.hmcs hd hs hlack hgr (hret (step_item_none hit))
    · rw [little_three ys (s + 1) (by omega)] at hit
      have ht1 := (ys.getD (s + 1) 0).toNat_lt
      have ht2 := (ys.getD (s + 2) 0).toNat_lt
      have ht3 := (ys.getD (s + 3) 0).toNat_lt
      refine mid3_ok Ad n cd b off m cs g w0 wr d s _ a1 h1 B.hn B.hm B.hmcs hd hs (by omega) (ys.getD (s + 1) 0).toNat (ys.getD (s + 2) 0).toNat (ys.getD (s + 3) 0).toNat ht1 ht2 ht3 (hsr.cell (s + 1) (by omega)) (hsr.cell (s + 2) (by omega)) (hsr.cell (s + 3) (by omega)) (fun a2 q h2 => ?_)
      exact lit_step Ad n cd b off m cs g ys w0 (wr.drewN q) d s out Q a2 B hs0 ho hd (hdst.drewN q) (grown_drewN hgr q) 4 _ (by omega) (by omega) h2 hit hret hok
  by_cases hx4 : (ys.getD s 0).toNat / 4 = 63
  · rw [hx4] at h1
    have hit := item_tag0l (r := ys.drop (s + 1)) h0 4 hx4 (by omega)
    rw [← hdrop] at hit
    by_cases hlack : m < s + 5
    · rw [little_lack ys (s + 1) 4 (by omega) (by omega)] at hit
      exact mid4_no Ad n cd b off m cs g w0 wr d s _ a1 h1 B.hn B.hm B.hmcs hd hs hlack hgr (hret (step_item_none hit))
    · rw [little_four ys (s + 1) (by omega)] at hit
      have ht1 := (ys.getD (s + 1) 0).toNat_lt
      have ht2 := (ys.getD (s + 2) 0).toNat_lt
      have ht3 := (ys.getD (s + 3) 0).toNat_lt
      have ht4 := (ys.getD (s + 4) 0).toNat_lt
      refine mid4_ok Ad n cd b off m cs g w0 wr d s _ a1 h1 B.hn B.hm B.hmcs hd hs (by omega) (ys.getD (s + 1) 0).toNat (ys.getD (s + 2) 0).toNat (ys.getD (s + 3) 0).toNat (ys.getD (s + 4) 0).toNat ht1 ht2 ht3 ht4 (hsr.cell (s + 1) (by omega)) (hsr.cell (s + 2) (by omega)) (hsr.cell (s + 3) (by omega)) (hsr.cell (s + 4) (by omega)) (fun a2 q h2 => ?_)
      exact lit_step Ad n cd b off m cs g ys w0 (wr.drewN q) d s out Q a2 B hs0 ho hd (hdst.drewN q) (grown_drewN hgr q) 5 _ (by omega) (by omega) h2 hit hret hok
  · omega

theorem dC1_any (B : Base Ad n cd b off m cs g) (hs0 : Src w0 g b off m ys) (ho : out.length = d) (hd : d ≤ n) (hs : s < m) (hdst : Dst wr g n out) (hgr : w0.grownBy wr (some g)) (hfr : Fr Ad n cd b off m cs d s a) (h0 : (ys.getD s 0).toNat % 4 = 1)
    (hret : step n (ys.drop s) out = none → ∀ a w, RetOne w0 g a w → Q .ret a w)
    (hcopy : ∀ far len told, item (ys.drop s) = some ⟨true, len, far, told⟩ → far < 4294967296 → len ≤ 64 → 1 ≤ len → 1 ≤ told → s + told ≤ m → ∀ a k, CFr Ad n cd b off m cs d (s + told) far len a → Q .normal a (wr.drewN k)) : Code.wp Tryd.prog dC1 Q a wr := by
  have hl := hs0.len
  have hsr := hs0.grown hgr
  have ht := (ys.getD s 0).toNat_lt
  have hdrop := drop_cons_getD ys s (by omega)
  have hit := item_tag1 (r := ys.drop (s + 1)) h0
  rw [← hdrop] at hit
  by_cases hlack : m < s + 2
  · rw [little_lack ys (s + 1) 1 (by omega) (by omega)] at hit
    exact c1_no Ad n cd b off m cs g w0 wr d s _ a hfr B.hn B.hm B.hmcs hd hs hlack hgr (hret (step_item_none hit))
  · rw [little_one ys (s + 1) (by omega)] at hit
    have ht1 := (ys.getD (s + 1) 0).toNat_lt
    have hu1 := (ys.getD (s + 1 + 0) 0).toNat_lt
    refine c1_ok Ad n cd b off m cs g w0 wr d s _ a hfr B.hn B.hm B.hmcs hd hs (by omega) (ys.getD s 0).toNat ht (hsr.cell s hs) (ys.getD (s + 1) 0).toNat ht1 (hsr.cell (s + 1) (by omega)) (fun a2 q h2 => ?_)
    exact hcopy _ _ _ hit (by omega) (by omega) (by omega) (by omega) (by omega) a2 q h2

theorem dC2_any (B : Base Ad n cd b off m cs g) (hs0 : Src w0 g b off m ys) (ho : out.length = d) (hd : d ≤ n) (hs : s < m) (hdst : Dst wr g n out) (hgr : w0.grownBy wr (some g)) (hfr : Fr Ad n cd b off m cs d s a) (h0 : (ys.getD s 0).toNat % 4 = 2)
    (hret : step n (ys.drop s) out = none → ∀ a w, RetOne w0 g a w → Q .ret a w)
    (hcopy : ∀ far len told, item (ys.drop s) = some ⟨true, len, far, told⟩ → far < 4294967296 → len ≤ 64 → 1 ≤ len → 1 ≤ told → s + told ≤ m → ∀ a k, CFr Ad n cd b off m cs d (s + told) far len a → Q .normal a (wr.drewN k)) : Code.wp Tryd.prog dC2 Q a wr := by
  have hl := hs0.len
  have hsr := hs0.grown hgr
  have ht := (ys.getD s 0).toNat_lt
  have hdrop := drop_cons_getD ys s (by omega)
  have hit := item_tag2 (r := ys.drop (s + 1)) h0
  rw [← hdrop] at hit
  by_cases hlack : m < s + 3
  · rw [little_lack ys (s + 1) 2 (by omega) (by omega)] at hit
    exact c2_no Ad n cd b off m cs g w0 wr d s _ a hfr B.hn B.hm B.hmcs hd hs hlack hgr (hret (step_item_none hit))
  · rw [little_two ys (s + 1) (by omega)] at hit
    have ht1 := (ys.getD (s + 1) 0).toNat_lt
    have hu1 := (ys.getD (s + 1 + 0) 0).toNat_lt
    have ht2 := (ys.getD (s + 2) 0).toNat_lt
    have hu2 := (ys.getD (s + 1 + 1) 0).toNat_lt
    refine c2_ok Ad n cd b off m cs g w0 wr d s _ a hfr B.hn B.hm B.hmcs hd hs (by omega) (ys.getD s 0).toNat ht (hsr.cell s hs) (ys.getD (s + 1) 0).toNat (ys.getD (s + 2) 0).toNat ht1 ht2 (hsr.cell (s + 1) (by omega)) (hsr.cell (s + 2) (by omega)) (fun a2 q h2 => ?_)
    exact hcopy _ _ _ hit (by omega) (by omega) (by omega) (by omega) (by omega) a2 q h2

theorem dC4_any (B : Base Ad n cd b off m cs g) (hs0 : Src w0 g b off m ys) (ho : out.length = d) (hd : d ≤ n) (hs : s < m) (hdst : Dst wr g n out) (hgr : w0.grownBy wr (some g)) (hfr : Fr Ad n cd b off m cs d s a) (h0 : (ys.getD s 0).toNat % 4 = 3)
    (hret : step n (ys.drop s) out = none → ∀ a w, RetOne w0 g a w → Q .ret a w)
    (hcopy : ∀ far len told, item (ys.drop s) = some ⟨true, len, far, told⟩ → far < 4294967296 → len ≤ 64 → 1 ≤ len → 1 ≤ told → s + told ≤ m → ∀ a k, CFr Ad n cd b off m cs d (s + told) far len a → Q .normal a (wr.drewN k)) : Code.wp Tryd.prog dC4 Q a wr := by
  have hl := hs0.len
  have hsr := hs0.grown hgr
  have ht := (ys.getD s 0).toNat_lt
  have hdrop := drop_cons_getD ys s (by omega)
  have hit := item_tag3 (r := ys.drop (s + 1)) h0
  rw [← hdrop] at hit
  by_cases hlack : m < s + 5
  · rw [little_lack ys (s + 1) 4 (by omega) (by omega)] at hit
    exact c4_no Ad n cd b off m cs g w0 wr d s _ a hfr B.hn B.hm B.hmcs hd hs hlack hgr (hret (step_item_none hit))
  · rw [little_four ys (s + 1) (by omega)] at hit
    have ht1 := (ys.getD (s + 1) 0).toNat_lt
    have hu1 := (ys.getD (s + 1 + 0) 0).toNat_lt
    have ht2 := (ys.getD (s + 2) 0).toNat_lt
    have hu2 := (ys.getD (s + 1 + 1) 0).toNat_lt
    have ht3 := (ys.getD (s + 3) 0).toNat_lt
    have hu3 := (ys.getD (s + 1 + 2) 0).toNat_lt
    have ht4 := (ys.getD (s + 4) 0).toNat_lt
    have hu4 := (ys.getD (s + 1 + 3) 0).toNat_lt
    refine c4_ok Ad n cd b off m cs g w0 wr d s _ a hfr B.hn B.hm B.hmcs hd hs (by omega) (ys.getD s 0).toNat ht (hsr.cell s hs) (ys.getD (s + 1) 0).toNat (ys.getD (s + 2) 0).toNat (ys.getD (s + 3) 0).toNat (ys.getD (s + 4) 0).toNat ht1 ht2 ht3 ht4 (hsr.cell (s + 1) (by omega)) (hsr.cell (s + 2) (by omega)) (hsr.cell (s + 3) (by omega)) (hsr.cell (s + 4) (by omega)) (fun a2 q h2 => ?_)
    exact hcopy _ _ _ hit (by omega) (by omega) (by omega) (by omega) (by omega) a2 q h2

theorem TFr.fr {Ad : Option Addr} {n cd b off m cs d s k : Nat} {a : Act} (h : TFr Ad n cd b off m cs d s k a) : Fr Ad n cd b off m cs d s a := ⟨h.size, h.defers, h.s0, h.s1, h.s5, h.s6⟩

theorem dB2_any (B : Base Ad n cd b off m cs g) (hs0 : Src w0 g b off m ys) (ho : out.length = d) (hd : d ≤ n) (hs : s < m) (hdst : Dst wr g n out) (hgr : w0.grownBy wr (some g)) (hfr : TFr Ad n cd b off m cs d s ((ys.getD s 0).toNat % 4) a)
    (hret : step n (ys.drop s) out = none → ∀ a w, RetOne w0 g a w → Q .ret a w)
    (hok : ∀ d' s' out', step n (ys.drop s) out = some (ys.drop s', out') → s < s' → ∀ a w, Top w0 Ad n cd b off m cs g ys d' s' out' a w → Q (.exit 1) a w)
    (hcopy : ∀ far len told, item (ys.drop s) = some ⟨true, len, far, told⟩ → far < 4294967296 → len ≤ 64 → 1 ≤ len → 1 ≤ told → s + told ≤ m → ∀ a k, CFr Ad n cd b off m cs d (s + told) far len a → Q .normal a (wr.drewN k)) : Code.wp Tryd.prog dB2 Q a wr := by
  have hk : (ys.getD s 0).toNat % 4 < 4 := Nat.mod_lt _ (by decide)
  generalize hkk : (ys.getD s 0).toNat % 4 = k at hfr hk
  rw [dB2_eq]
  refine wp_seq (r4_any Ad n cd b off m cs wr d s _ a k hfr B.hn B.hm B.hmcs hd hk (fun a1 h1 e1 => wp_cond e1 ?_))
  by_cases k0 : k = 0
  · subst k0
    exact dLit_any Ad n cd b off m cs g ys w0 wr d s out Q a1 B hs0 ho hd hs hdst hgr h1 hkk hret hok
  · rw [decide_eq_false k0]
    show Code.wp _ dE1 Q a1 wr
    rw [dE1_eq]
    refine wp_seq (r36_any Ad n cd b off m cs wr d s _ a1 k h1 B.hn B.hm B.hmcs hd hk (fun a2 h2 e2 => wp_cond e2 ?_))
    by_cases k1 : k = 1
    · subst k1
      exact dC1_any Ad n cd b off m cs g ys w0 wr d s out Q a2 B hs0 ho hd hs hdst hgr h2.fr hkk hret hcopy
    · rw [decide_eq_false k1]
      show Code.wp _ dE2 Q a2 wr
      rw [dE2_eq]
      refine wp_seq (r42_any Ad n cd b off m cs wr d s _ a2 k h2 B.hn B.hm B.hmcs hd hk (fun a3 h3 e3 => wp_cond e3 ?_))
      by_cases k2 : k = 2
      · subst k2
        exact dC2_any Ad n cd b off m cs g ys w0 wr d s out Q a3 B hs0 ho hd hs hdst hgr h3.fr hkk hret hcopy
      · rw [decide_eq_false k2]
        show Code.wp _ dE3 Q a3 wr
        rw [dE3_eq]
        refine wp_seq (r48_any Ad n cd b off m cs wr d s _ a3 k h3 B.hn B.hm B.hmcs hd hk (fun a4 h4 e4 => wp_cond e4 ?_))
        obtain rfl : k = 3 := by omega
        exact dC4_any Ad n cd b off m cs g ys w0 wr d s out Q a4 B hs0 ho hd hs hdst hgr h4.fr hkk hret hcopy

theorem round_any (B : Base Ad n cd b off m cs g) (hs0 : Src w0 g b off m ys) (hT : Top w0 Ad n cd b off m cs g ys d s out a wr) (hs : s < m)
    (hret : step n (ys.drop s) out = none → ∀ a w, RetOne w0 g a w → Q .ret a w)
    (hok : ∀ d' s' out', step n (ys.drop s) out = some (ys.drop s', out') → s < s' → ∀ a w, Top w0 Ad n cd b off m cs g ys d' s' out' a w → Q .normal a w) : Code.wp Tryd.prog dLoop Q a wr := by
  have ht := (ys.getD s 0).toNat_lt
  rw [dLoop_eq]
  refine wp_seq (r2_more Ad n cd b off m cs wr d s _ a hT.fr B.hn B.hm B.hmcs hT.dn hs (fun a1 h1 => ?_))
  refine wp_block (wp_seq (wp_seq (r3_any Ad n cd b off m cs wr d s _ a1 h1 B.hn B.hm B.hmcs hT.dn hs _ ht (hT.src.cell s hs) (fun a2 h2 => ?_))))
  refine wp_block ?_
  refine dB2_any Ad n cd b off m cs g ys w0 wr d s out _ a2 B hs0 hT.olen hT.dn hs hT.dst hT.grown h2 hret ?_ ?_
  · intro d' s' out' hst hlt a' w' hT'
    exact hok d' s' out' hst hlt a' w' hT'
  · intro far len told hit hfar hlen hlen0 htold hsm a' q h'
    refine copy_step Ad n cd b off m cs g ys w0 (wr.drewN q) d s out _ a' B hs0 hT.olen hT.dn (hT.dst.drewN q) (grown_drewN hT.grown q) told far len hfar hlen hlen0 hsm htold h' hit hret ?_
    intro d' s' out' hst hlt a'' w'' hT'
    exact ⟨hok d' s' out' hst hlt a'' w'' hT', hok d' s' out' hst hlt a'' w'' hT'⟩
end

end Snap
end Go.Proofs.YtodbfgomkcmdgaaDoor

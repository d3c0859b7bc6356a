/-
  snappy.decode: one round of the loop is one element, as 'step' says.
-/
import Derived.Test.YtodbfgomkcmdgaaDoorDecode6
namespace Go.Proofs.YtodbfgomkcmdgaaDoor
open Go.RowKit
set_option linter.unusedVariables false
namespace Snap

theorem Dst.drewN {w : World} {g n : Nat} {out : Bs} (h : Dst w g n out) (k : Nat) : Dst (w.drewN k) g n out := h
theorem grown_drewN {w0 w : World} {r : Option Nat} (h : w0.grownBy w r) (k : Nat) : w0.grownBy (w.drewN k) r := ⟨h.os, h.tape, h.output, h.size, h.block⟩

/-- What stands at a round's head. -/
structure Top (w0 : World) (Ad : Option Addr) (n cd b off m cs g : Nat) (ys : Bs) (d s : Nat) (out : Bs) (a : Act) (w : World) : Prop where
  fr : Fr Ad n cd b off m cs d s a
  olen : out.length = d
  dn : d ≤ n
  sm : s ≤ m
  dst : Dst w g n out
  src : Src w g b off m ys
  grown : w0.grownBy w (some g)

/-- What does not turn in the loop. -/
structure Base (Ad : Option Addr) (n cd b off m cs g : Nat) : Prop where
  hn : n ≤ 4294967295
  hm : m ≤ 4294967295
  hncd : n ≤ cd
  hmcs : m ≤ cs
  hAd : 0 < n → Ad = some ⟨g, 0, none⟩

theorem Top.next {Ad : Option Addr} {n cd b off m cs g : Nat} {ys : Bs} {w0 : World} {d' s' : Nat} {out' : Bs} {a' : Act} {w' : World}
    (hsrc : Src w0 g b off m ys) (h : Said w0 g Ad n cd b off m cs d' s' out' a' w') (ho : out'.length = d') (hd : d' ≤ n) (hs : s' ≤ m) : Top w0 Ad n cd b off m cs g ys d' s' out' a' w' :=
  ⟨h.1, ho, hd, hs, h.2.1, hsrc.grown h.2.2, h.2.2⟩

section
variable (Ad : Option Addr) (n cd b off m cs g : Nat) (ys : Bs) (w0 wr : World) (d s : Nat) (out : Bs) (Q : Exit → Act → World → Prop) (a : Act)

/-- A literal's tail is a literal's step. -/
theorem lit_step (B : Base Ad n cd b off m cs g) (hs0 : Src w0 g b off m ys) (ho : out.length = d) (hd : d ≤ n) (hdst : Dst wr g n out) (hgr : w0.grownBy wr (some g)) (told x : Nat) (hx : x < 4294967296) (hsm : s + told ≤ m)
    (hfr : LFr Ad n cd b off m cs d (s + told) x a) (hi : item (ys.drop s) = some ⟨false, x + 1, 0, told⟩)
    (hret : step n (ys.drop s) out = none → ∀ a w, RetOne w0 g a w → Q .ret a w)
    (hok : ∀ d' s' out', step n (ys.drop s) out = some (ys.drop s', out') → s < s' → ∀ a w, Top w0 Ad n cd b off m cs g ys d' s' out' a w → Q (.exit 1) a w) : Code.wp Tryd.prog dLitTail Q a wr := by
  have hl := hs0.len
  refine litTail_any Ad n cd b off m cs g ys w0 wr d (s + told) x out Q a hfr B.hn B.hm B.hncd B.hmcs hd hsm hx ho B.hAd hdst (hs0.grown hgr) hgr ?_ ?_
  · intro hno
    refine hret (step_lit_no hi ?_)
    rw [List.length_drop]
    omega
  · intro h1 h2 a' w' hsaid
    have hst := step_lit_ok (n := n) (out := out) hi (by omega) (by rw [List.length_drop]; omega)
    rw [List.drop_drop, List.drop_drop] at hst
    refine hok _ _ _ (hst.trans (by rw [Nat.add_assoc])) (by omega) a' w' (Top.next hs0 ?_ (by rw [List.length_append, List.length_take, List.length_drop]; omega) (by omega : d + (x + 1) ≤ n) (by omega : s + told + (x + 1) ≤ m))
    exact hsaid

/-- A copy's tail is a copy's step. -/
theorem copy_step (B : Base Ad n cd b off m cs g) (hs0 : Src w0 g b off m ys) (ho : out.length = d) (hd : d ≤ n) (hdst : Dst wr g n out) (hgr : w0.grownBy wr (some g)) (told far len : Nat) (hfar : far < 4294967296) (hlen : len ≤ 64) (hlen0 : 1 ≤ len)
    (hsm : s + told ≤ m) (ht : 1 ≤ told) (hfr : CFr Ad n cd b off m cs d (s + told) far len a) (hi : item (ys.drop s) = some ⟨true, len, far, told⟩)
    (hret : step n (ys.drop s) out = none → ∀ a w, RetOne w0 g a w → Q .ret a w)
    (hok : ∀ d' s' out', step n (ys.drop s) out = some (ys.drop s', out') → s < s' → ∀ a w, Top w0 Ad n cd b off m cs g ys d' s' out' a w → Q .normal a w ∧ Q (.exit 1) a w) : Code.wp Tryd.prog dTail Q a wr := by
  refine copyTail_any Ad n cd b off m cs g w0 wr d (s + told) far len out Q a hfr B.hn B.hm B.hncd hd hfar hlen hlen0 ho B.hAd hdst hgr ?_ ?_
  · intro hno
    exact hret (step_copy_no hi (by omega))
  · intro h1 a' w' hsaid
    have hst := step_copy_ok (n := n) (out := out) hi (by omega)
    rw [List.drop_drop] at hst
    exact hok _ _ _ hst (by omega) a' w' (Top.next hs0 hsaid (by rw [copyOut_length]; omega) (by omega) hsm)
end

end Snap
end Go.Proofs.YtodbfgomkcmdgaaDoor

/-
  snappy.encodeBlock: behind a copy.
-/
import Derived.Test.YtoihiaenlonncaaDoorBlk5
namespace Go.Proofs.YtoihiaenlonncaaDoor
open Go.RowKit
set_option linter.unusedVariables false
namespace Snap

set_option maxRecDepth 100000 in
set_option maxHeartbeats 1000000 in
theorem b30_goto (g o nd cd b off n cl tb d sh ne s : Nat) (w : World) (Q : Exit → Act → World → Prop) (a : Act) (hfr : BkF g o nd cd b off n cl tb d sh ne s a) (hn : n ≤ 65536) (hs : n ≤ s + 15) (hs2 : s ≤ n) (h : ∀ a, BkT g o nd cd b off n cl d s a → Q (.goto 0) a w) : Code.wp Tryd.prog bk30 Q a w := by
  obtain ⟨f, rfl⟩ := hfr.open_
  clear hfr
  conv => arg 2; whnf
  go_wp2_with fail
  exact wp_goto (h _ ⟨rfl, rfl, rfl, rfl, rfl, rfl⟩)

set_option maxRecDepth 100000 in
set_option maxHeartbeats 1000000 in
theorem b30_on (g o nd cd b off n cl tb d sh ne s N : Nat) (xs out : Bs) (w0 w : World) (Q : Exit → Act → World → Prop) (a : Act) (hfr : BkF g o nd cd b off n cl tb d sh ne s a) (hw : BkW w0 w g b off n tb N xs out s) (hn : n ≤ 65536) (hncl : n ≤ cl) (hsh : sh ≤ 24) (hs1 : 1 ≤ s) (hs : s + 15 < n)
    (hgo : ∀ a w' ca, BkM g o nd cd b off n cl tb d sh s s ca a → BkW w0 w' g b off n tb N xs out (s + 1) → ca < s → w4 xs s = w4 xs ca → Q .normal a w')
    (hbr : ∀ a w' nh, BkH g o nd cd b off n cl tb d sh s (s + 1) nh a → BkW w0 w' g b off n tb N xs out (s + 1) → nh < 4294967296 → Q (.exit 6) a w') : Code.wp Tryd.prog bk30 Q a w := by
  obtain ⟨f, rfl⟩ := hfr.open_
  have hL := load64_src (c := cl) hw.src (s - 1) (by omega) hncl (by omega)
  have hmid := w8_mid xs (s - 1)
  rw [show s - 1 + 1 = s from by omega] at hmid
  have hx8 := w8_lt xs (s - 1)
  generalize w8 xs (s - 1) = x at *
  have hu0 : (x : Int) % 4294967296 = ((x % 4294967296 : Nat) : Int) := by omega
  have hu1 : (x : Int) / 256 % 4294967296 = ((w4 xs s : Nat) : Int) := by rw [← hmid]; omega
  have hu2 : (x : Int) / 65536 % 4294967296 = ((x / 65536 % 4294967296 : Nat) : Int) := by omega
  have l0 : x % 4294967296 < 4294967296 := Nat.mod_lt _ (by decide)
  have l1 := w4_lt xs s
  have l2 : x / 65536 % 4294967296 < 4294967296 := Nat.mod_lt _ (by decide)
  generalize x % 4294967296 = u0 at *
  generalize x / 65536 % 4294967296 = u2 at *
  obtain ⟨u1, hu1w⟩ : ∃ u1, u1 = w4 xs s := ⟨_, rfl⟩
  rw [← hu1w] at hu1 l1
  have HH0 := hide (fun w => hash_any u0 sh l0 (by omega) w)
  have HH1 := hide (fun w => hash_any u1 sh l1 (by omega) w)
  have HH2 := hide (fun w => hash_any u2 sh l2 (by omega) w)
  have LT2 := hide (hashV_lt u2 sh)
  obtain ⟨j0, hj0, hb0⟩ := and16383 _ (hashV_lt u0 sh)
  obtain ⟨j1, hj1, hb1⟩ := and16383 _ (hashV_lt u1 sh)
  generalize hashV u0 sh = nh0 at *
  generalize hashV u1 sh = nh1 at *
  generalize hashV u2 sh = nh2 at *
  obtain ⟨v0, hc0, _⟩ := hw.tab.get j0 hj0
  have hf0 := hw.tab.frozen j0
  obtain ⟨q, hq⟩ : ∃ q, q = s - 1 := ⟨_, rfl⟩
  have hq1 : (s : Int) - 1 = (q : Int) := by omega
  rw [← hq] at hL
  have HL := hide hL
  have HW := hide hw
  have HQ := hide hq
  have HU := hide hu1w
  clear hfr hw hq hL hmid hu1w
  conv => arg 2; whnf
  go_wp2_with fail
  refine HL.out.mono ?_
  rintro e w' ⟨rfl, k1, rfl⟩
  have HW1 := hide ((HW.out.drewN k1).set j0 hj0 q (by omega))
  go_wp2_with fail
  refine (HH0.out _).mono ?_
  rintro e w' ⟨rfl, rfl⟩
  go_wp2_with fail
  obtain ⟨w1, hw1⟩ : ∃ w1, w1 = (w.drewN k1).setCell ⟨tb, j0, none⟩ (.int .u16 (q : Int)) := ⟨_, rfl⟩
  rw [← hw1] at HW1 ⊢
  obtain ⟨v, hc1, hv⟩ := HW1.out.tab.get j1 hj1
  have hf1 := HW1.out.tab.frozen j1
  have HW2 := hide ((HW1.out.more (show s ≤ s + 1 by omega)).set j1 hj1 s (by omega))
  have hv4 : v + 4 ≤ n := by omega
  have HL4 := hide (load32_src (c := cl) HW2.out.src v hv4 hncl (by omega))
  clear hw1 hc0 hf0 HW
  refine (HH1.out _).mono ?_
  rintro e w' ⟨rfl, rfl⟩
  by_cases heq : u1 = w4 xs v
  · go_wp2_with fail
    refine HL4.out.mono ?_
    rintro e w' ⟨rfl, k2, rfl⟩
    have HW3 := hide (HW2.out.drewN k2)
    go_wp2
    exact hgo _ _ v ⟨rfl, rfl, rfl, rfl, rfl, rfl, rfl, rfl, rfl, rfl, rfl⟩ HW3.out hv (HU.out.symm.trans heq)
  · go_wp2_with fail
    refine HL4.out.mono ?_
    rintro e w' ⟨rfl, k2, rfl⟩
    have HW3 := hide (HW2.out.drewN k2)
    go_wp2_with fail
    refine (HH2.out _).mono ?_
    rintro e w' ⟨rfl, rfl⟩
    go_wp2
    exact hbr _ _ nh2 ⟨rfl, rfl, rfl, rfl, rfl, rfl, rfl, rfl, rfl, rfl, rfl⟩ HW3.out LT2.out


end Snap
end Go.Proofs.YtoihiaenlonncaaDoor

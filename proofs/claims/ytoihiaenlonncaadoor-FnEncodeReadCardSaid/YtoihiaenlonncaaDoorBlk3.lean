/-
  snappy.encodeBlock: the search for a match.
-/
import Derived.Test.YtoihiaenlonncaaDoorBlk2
namespace Go.Proofs.YtoihiaenlonncaaDoor
open Go.RowKit
set_option linter.unusedVariables false
namespace Snap

/-- The number that the mask leaves. -/
theorem and16383 (x : Nat) (hx : x < 4294967296) : ∃ j : Nat, j < 16384 ∧ bits BinOp.and IntKind.u32 (x : Int) 16383 = (j : Int) := by
  refine ⟨x % 16384, Nat.mod_lt _ (by decide), ?_⟩
  have h := bits_mask .u32 32 (by decide) wraps_u32 14 (by decide) (x : Int) (by omega) (by omega)
  rw [show ((2 : Int) ^ 14 - 1) = 16383 from by decide, show ((2 : Int) ^ 14) = 16384 from by decide] at h
  rw [h]
  rfl

set_option maxRecDepth 100000 in
set_option maxHeartbeats 1000000 in
theorem sr_goto (g o nd cd b off n cl tb d sh ne s nh sk ns N : Nat) (xs out : Bs) (w0 w : World) (Q : Exit → Act → World → Prop) (a : Act) (hfr : BkS g o nd cd b off n cl tb d sh ne s nh sk ns a) (hw : BkW w0 w g b off n tb N xs out ns) (hn : n ≤ 65536) (hncl : n ≤ cl) (hd : d ≤ 4294967295) (hsh : sh ≤ 24) (hne : ne ≤ 65536) (hns : ns + 15 ≤ n) (hns1 : 1 ≤ ns) (hsk : 32 ≤ sk) (hsk2 : sk ≤ 70000) (hgo : n < ns + sk / 32 + 15) (h : ∀ a, BkF g o nd cd b off n cl tb d sh ne ns a → Q (.goto 0) a w) : Code.wp Tryd.prog bkSrB Q a w := by
  obtain ⟨f, rfl⟩ := hfr.open_
  have h1 : (sk : Int) / 32 = ((sk / 32 : Nat) : Int) := by omega
  have h0 : 1 ≤ sk / 32 := by omega
  have h01 : sk / 32 ≤ 3000 := by omega
  generalize sk / 32 = q at *
  clear hfr hw
  conv => arg 2; whnf
  go_wp2_with fail
  exact wp_goto (h _ ⟨rfl, rfl, rfl, rfl, rfl, rfl, rfl, rfl, rfl, rfl⟩)

set_option maxRecDepth 100000 in
set_option maxHeartbeats 1000000 in
theorem sr_hit (g o nd cd b off n cl tb d sh ne s nh sk ns N : Nat) (xs out : Bs) (w0 w : World) (Q : Exit → Act → World → Prop) (a : Act) (hfr : BkS g o nd cd b off n cl tb d sh ne s nh sk ns a) (hw : BkW w0 w g b off n tb N xs out ns) (hn : n ≤ 65536) (hncl : n ≤ cl) (hd : d ≤ 4294967295) (hsh : sh ≤ 24) (hne : ne ≤ 65536) (hns : ns + 15 ≤ n) (hns1 : 1 ≤ ns) (hsk : 32 ≤ sk) (hsk2 : sk ≤ 70000) (hnh : nh < 4294967296) (hgo : ns + sk / 32 + 15 ≤ n) (j v : Nat) (hj : j < 16384) (hbj : bits BinOp.and IntKind.u32 (nh : Int) 16383 = (j : Int)) (hcell : w.cell? ⟨tb, j, none⟩ = some (.int .u16 (v : Int))) (hv : v < ns) (heq : w4 xs ns = w4 xs v)
    (h : ∀ a w', BkM g o nd cd b off n cl tb d sh ne ns v a → BkW w0 w' g b off n tb N xs out (ns + 1) → Q (.exit 4) a w') : Code.wp Tryd.prog bkSrB Q a w := by
  obtain ⟨f, rfl⟩ := hfr.open_
  have h1 : (sk : Int) / 32 = ((sk / 32 : Nat) : Int) := by omega
  have h0 : 1 ≤ sk / 32 := by omega
  have h01 : sk / 32 ≤ 3000 := by omega
  generalize sk / 32 = q at *
  obtain ⟨n2, hn2⟩ : ∃ n2, n2 = ns + q := ⟨_, rfl⟩
  have h2 : (ns : Int) + (q : Int) = (n2 : Int) := by omega
  have h3 : n2 + 15 ≤ n := by omega
  have hfz := hw.tab.frozen j
  have hw2 := (hw.more (show ns ≤ ns + 1 by omega)).set j hj ns (by omega)
  have HW := hide hw2
  have HL := hide (fun (w' : World) (i : Nat) (hs : Src w' g b off n xs) (hi : i + 4 ≤ n) => load32_src (c := cl) hs i hi hncl (by omega))
  have HHA := hide (fun w => hash_any (w4 xs n2) sh (w4_lt _ _) (by omega) w)
  have HLT := hide (hashV_lt (w4 xs n2) sh)
  have HN2 := hide hn2
  generalize hashV (w4 xs n2) sh = nh2 at *
  clear hfr hw hw2 hn2 hgo
  conv => arg 2; whnf
  go_wp2_with fail
  refine (HL.out _ n2 HW.out.src (by omega)).mono ?_
  rintro e w' ⟨rfl, k1, rfl⟩
  have HW1 := hide (HW.out.drewN k1)
  go_wp2_with fail
  refine (HHA.out _).mono ?_
  rintro e w' ⟨rfl, rfl⟩
  go_wp2_with fail
  refine (HL.out _ ns HW1.out.src (by omega)).mono ?_
  rintro e w' ⟨rfl, k2, rfl⟩
  have HW2 := hide (HW.out.drewN (k1 + k2))
  go_wp2_with fail
  refine (HL.out _ v HW2.out.src (by omega)).mono ?_
  rintro e w' ⟨rfl, k3, rfl⟩
  have HW3 := hide (HW.out.drewN (k1 + k2 + k3))
  go_wp2
  exact h _ _ ⟨rfl, rfl, rfl, rfl, rfl, rfl, rfl, rfl, rfl, rfl, rfl⟩ HW3.out

set_option maxRecDepth 100000 in
set_option maxHeartbeats 1000000 in
theorem sr_miss (g o nd cd b off n cl tb d sh ne s nh sk ns N : Nat) (xs out : Bs) (w0 w : World) (Q : Exit → Act → World → Prop) (a : Act) (hfr : BkS g o nd cd b off n cl tb d sh ne s nh sk ns a) (hw : BkW w0 w g b off n tb N xs out ns) (hn : n ≤ 65536) (hncl : n ≤ cl) (hd : d ≤ 4294967295) (hsh : sh ≤ 24) (hne : ne ≤ 65536) (hns : ns + 15 ≤ n) (hns1 : 1 ≤ ns) (hsk : 32 ≤ sk) (hsk2 : sk ≤ 70000) (hnh : nh < 4294967296) (hgo : ns + sk / 32 + 15 ≤ n) (j v : Nat) (hj : j < 16384) (hbj : bits BinOp.and IntKind.u32 (nh : Int) 16383 = (j : Int)) (hcell : w.cell? ⟨tb, j, none⟩ = some (.int .u16 (v : Int))) (hv : v < ns) (heq : w4 xs ns ≠ w4 xs v)
    (h : ∀ a w' nh', BkS g o nd cd b off n cl tb d sh ne ns nh' (sk + sk / 32) (ns + sk / 32) a → BkW w0 w' g b off n tb N xs out (ns + sk / 32) → nh' < 4294967296 → Q .normal a w') : Code.wp Tryd.prog bkSrB Q a w := by
  obtain ⟨f, rfl⟩ := hfr.open_
  have h1 : (sk : Int) / 32 = ((sk / 32 : Nat) : Int) := by omega
  have h0 : 1 ≤ sk / 32 := by omega
  have h01 : sk / 32 ≤ 3000 := by omega
  generalize sk / 32 = q at *
  obtain ⟨n2, hn2⟩ : ∃ n2, n2 = ns + q := ⟨_, rfl⟩
  have h2 : (ns : Int) + (q : Int) = (n2 : Int) := by omega
  have h3 : n2 + 15 ≤ n := by omega
  have hfz := hw.tab.frozen j
  have hw2 := (hw.more (show ns ≤ ns + 1 by omega)).set j hj ns (by omega)
  have HW := hide hw2
  have HL := hide (fun (w' : World) (i : Nat) (hs : Src w' g b off n xs) (hi : i + 4 ≤ n) => load32_src (c := cl) hs i hi hncl (by omega))
  have HHA := hide (fun w => hash_any (w4 xs n2) sh (w4_lt _ _) (by omega) w)
  have HLT := hide (hashV_lt (w4 xs n2) sh)
  have HN2 := hide hn2
  generalize hashV (w4 xs n2) sh = nh2 at *
  clear hfr hw hw2 hn2 hgo
  conv => arg 2; whnf
  go_wp2_with fail
  refine (HL.out _ n2 HW.out.src (by omega)).mono ?_
  rintro e w' ⟨rfl, k1, rfl⟩
  have HW1 := hide (HW.out.drewN k1)
  go_wp2_with fail
  refine (HHA.out _).mono ?_
  rintro e w' ⟨rfl, rfl⟩
  go_wp2_with fail
  refine (HL.out _ ns HW1.out.src (by omega)).mono ?_
  rintro e w' ⟨rfl, k2, rfl⟩
  have HW2 := hide (HW.out.drewN (k1 + k2))
  go_wp2_with fail
  refine (HL.out _ v HW2.out.src (by omega)).mono ?_
  rintro e w' ⟨rfl, k3, rfl⟩
  have HW3 := hide (HW.out.drewN (k1 + k2 + k3))
  go_wp2
  refine h _ _ nh2 ⟨rfl, rfl, rfl, rfl, rfl, rfl, rfl, rfl, rfl, rfl, rfl, congrArg (Value.int .i64) (by omega), ?_⟩ (HW3.out.more (by omega)) HLT.out
  have := HN2.out
  exact congrArg (Value.int .i64) (by omega)

set_option maxRecDepth 100000 in
set_option maxHeartbeats 1000000 in
theorem sr_loop (g o nd cd b off n cl tb d sh ne s nh N : Nat) (xs out : Bs) (w0 w : World) (Q : Exit → Act → World → Prop) (a : Act) (hfr : BkS g o nd cd b off n cl tb d sh ne s nh 32 s a) (hw : BkW w0 w g b off n tb N xs out s) (hn : n ≤ 65536) (hncl : n ≤ cl) (hd : d ≤ 4294967295) (hsh : sh ≤ 24) (hne : ne ≤ 65536) (hs1 : 1 ≤ s) (hs2 : s + 15 ≤ n) (hnh : nh < 4294967296)
    (hg : ∀ a w' s', BkF g o nd cd b off n cl tb d sh ne s' a → BkW w0 w' g b off n tb N xs out n → Q (.goto 0) a w')
    (hh : ∀ a w' s' ca, BkM g o nd cd b off n cl tb d sh ne s' ca a → BkW w0 w' g b off n tb N xs out (s' + 1) → ca < s' → s ≤ s' → s' + 15 ≤ n → w4 xs s' = w4 xs ca → Q (.exit 4) a w') : Code.wp Tryd.prog (.loop bkSrLoop) Q a w := by
  refine wp_loop (fun a w' => ∃ s0 nh sk ns, BkS g o nd cd b off n cl tb d sh ne s0 nh sk ns a ∧ BkW w0 w' g b off n tb N xs out ns ∧ nh < 4294967296 ∧ s ≤ ns ∧ ns + 15 ≤ n ∧ sk + s = 32 + ns) (fun a _ => match a.tmps.getD 13 undef with | .int _ k => n - k.toNat | _ => 0)
    ⟨s, nh, 32, s, hfr, hw, hnh, Nat.le_refl _, hs2, by omega⟩ ?_
  rintro a w' ⟨s0, nh, sk, ns, hf, hw', hnh', hsn, hns, hsk⟩
  have h13 := hf.s13
  rw [bkSrLoop_eq]
  refine wp_block ?_
  by_cases hgo : n < ns + sk / 32 + 15
  · exact sr_goto g o nd cd b off n cl tb d sh ne s0 nh sk ns N xs out w0 w' _ a hf hw' hn hncl hd hsh hne hns (by omega) (by omega) (by omega) hgo (fun a' hf' => hg a' w' ns hf' (hw'.more (by omega)))
  · obtain ⟨j, hj, hbj⟩ := and16383 nh hnh'
    obtain ⟨v, hcell, hv⟩ := hw'.tab.get j hj
    by_cases heq : w4 xs ns = w4 xs v
    · exact sr_hit g o nd cd b off n cl tb d sh ne s0 nh sk ns N xs out w0 w' _ a hf hw' hn hncl hd hsh hne hns (by omega) (by omega) (by omega) hnh' (by omega) j v hj hbj hcell hv heq (fun a' w2 hf' hw2 => hh a' w2 ns v hf' hw2 hv hsn hns heq)
    · refine sr_miss g o nd cd b off n cl tb d sh ne s0 nh sk ns N xs out w0 w' _ a hf hw' hn hncl hd hsh hne hns (by omega) (by omega) (by omega) hnh' (by omega) j v hj hbj hcell hv heq ?_
      intro a' w2 nh2 hf' hw2 hnh2
      refine ⟨⟨_, nh2, _, _, hf', hw2, hnh2, by omega, by omega, by omega⟩, ?_⟩
      rw [hf'.s13, h13]
      show n - (((ns + sk / 32 : Nat) : Int)).toNat < n - ((ns : Nat) : Int).toNat
      omega


end Snap
end Go.Proofs.YtoihiaenlonncaaDoor

/-
  snappy.Encode: frames, parts of its code.
-/
import Derived.Test.YtoihiaenlonncaaDoorBlk8
import Derived.Test.YtoihiaenlonncaaDoorPutUv
import Derived.Test.YtoihiaenlonncaaDoorEncEmpty
namespace Go.Proofs.YtoihiaenlonncaaDoor
open Go.RowKit
set_option linter.unusedVariables false
namespace Snap

theorem list56 (f : Nat → Value) : ((List.range 56).map f).toArray = #[f 0, f 1, f 2, f 3, f 4, f 5, f 6, f 7, f 8, f 9, f 10, f 11, f 12, f 13, f 14, f 15, f 16, f 17, f 18, f 19, f 20, f 21, f 22, f 23, f 24, f 25, f 26, f 27, f 28, f 29, f 30, f 31, f 32, f 33, f 34, f 35, f 36, f 37, f 38, f 39, f 40, f 41, f 42, f 43, f 44, f 45, f 46, f 47, f 48, f 49, f 50, f 51, f 52, f 53, f 54, f 55] := by kernel_rfl

/-- A frame of 56 slots. -/
theorem open56 (a : Act) (hs : a.tmps.size = 56) (hd : a.defers = []) : ∃ f : Nat → Value, (∀ i, f i = a.tmps.getD i undef) ∧ a = ⟨#[f 0, f 1, f 2, f 3, f 4, f 5, f 6, f 7, f 8, f 9, f 10, f 11, f 12, f 13, f 14, f 15, f 16, f 17, f 18, f 19, f 20, f 21, f 22, f 23, f 24, f 25, f 26, f 27, f 28, f 29, f 30, f 31, f 32, f 33, f 34, f 35, f 36, f 37, f 38, f 39, f 40, f 41, f 42, f 43, f 44, f 45, f 46, f 47, f 48, f 49, f 50, f 51, f 52, f 53, f 54, f 55], []⟩ := by
  refine ⟨fun i => a.tmps.getD i undef, fun _ => rfl, ?_⟩
  exact (act_slots a 56 hs hd).trans (congrArg (fun l => (⟨l, []⟩ : Act)) (list56 _))

/-- At the start. -/
structure EnS (Ad : Option Addr) (nd cd b off m c : Nat) (a : Act) : Prop where
  size : a.tmps.size = 56
  defers : a.defers = []
  s0 : a.tmps.getD 0 undef = .slice Ad nd cd
  s1 : a.tmps.getD 1 undef = .slice (some ⟨b, off, none⟩) m c

set_option maxRecDepth 100000 in
theorem EnS.open_ {Ad : Option Addr} {nd cd b off m c : Nat} {a : Act} (h : EnS Ad nd cd b off m c a) : ∃ f : Nat → Value, a = ⟨#[.slice Ad nd cd, .slice (some ⟨b, off, none⟩) m c, f 2, f 3, f 4, f 5, f 6, f 7, f 8, f 9, f 10, f 11, f 12, f 13, f 14, f 15, f 16, f 17, f 18, f 19, f 20, f 21, f 22, f 23, f 24, f 25, f 26, f 27, f 28, f 29, f 30, f 31, f 32, f 33, f 34, f 35, f 36, f 37, f 38, f 39, f 40, f 41, f 42, f 43, f 44, f 45, f 46, f 47, f 48, f 49, f 50, f 51, f 52, f 53, f 54, f 55], []⟩ := by
  obtain ⟨f, hf, ha⟩ := open56 a h.size h.defers
  refine ⟨f, ha.trans ?_⟩
  simp only [(hf 0).trans h.s0, (hf 1).trans h.s1]

/-- In the loop. -/
structure EnD (g nd cd b off m c d : Nat) (a : Act) : Prop where
  size : a.tmps.size = 56
  defers : a.defers = []
  s0 : a.tmps.getD 0 undef = .slice (some ⟨g, 0, none⟩) nd cd
  s1 : a.tmps.getD 1 undef = .slice (some ⟨b, off, none⟩) m c
  s6 : a.tmps.getD 6 undef = .int .i64 (d : Int)

set_option maxRecDepth 100000 in
theorem EnD.open_ {g nd cd b off m c d : Nat} {a : Act} (h : EnD g nd cd b off m c d a) : ∃ f : Nat → Value, a = ⟨#[.slice (some ⟨g, 0, none⟩) nd cd, .slice (some ⟨b, off, none⟩) m c, f 2, f 3, f 4, f 5, .int .i64 (d : Int), f 7, f 8, f 9, f 10, f 11, f 12, f 13, f 14, f 15, f 16, f 17, f 18, f 19, f 20, f 21, f 22, f 23, f 24, f 25, f 26, f 27, f 28, f 29, f 30, f 31, f 32, f 33, f 34, f 35, f 36, f 37, f 38, f 39, f 40, f 41, f 42, f 43, f 44, f 45, f 46, f 47, f 48, f 49, f 50, f 51, f 52, f 53, f 54, f 55], []⟩ := by
  obtain ⟨f, hf, ha⟩ := open56 a h.size h.defers
  refine ⟨f, ha.trans ?_⟩
  simp only [(hf 0).trans h.s0, (hf 1).trans h.s1, (hf 6).trans h.s6]

/-- At the end. -/
structure EnE (g nd cd d : Nat) (a : Act) : Prop where
  size : a.tmps.size = 56
  defers : a.defers = []
  s0 : a.tmps.getD 0 undef = .slice (some ⟨g, 0, none⟩) nd cd
  s1 : a.tmps.getD 1 undef = .slice none 0 0
  s6 : a.tmps.getD 6 undef = .int .i64 (d : Int)

set_option maxRecDepth 100000 in
theorem EnE.open_ {g nd cd d : Nat} {a : Act} (h : EnE g nd cd d a) : ∃ f : Nat → Value, a = ⟨#[.slice (some ⟨g, 0, none⟩) nd cd, .slice none 0 0, f 2, f 3, f 4, f 5, .int .i64 (d : Int), f 7, f 8, f 9, f 10, f 11, f 12, f 13, f 14, f 15, f 16, f 17, f 18, f 19, f 20, f 21, f 22, f 23, f 24, f 25, f 26, f 27, f 28, f 29, f 30, f 31, f 32, f 33, f 34, f 35, f 36, f 37, f 38, f 39, f 40, f 41, f 42, f 43, f 44, f 45, f 46, f 47, f 48, f 49, f 50, f 51, f 52, f 53, f 54, f 55], []⟩ := by
  obtain ⟨f, hf, ha⟩ := open56 a h.size h.defers
  refine ⟨f, ha.trans ?_⟩
  simp only [(hf 0).trans h.s0, (hf 1).trans h.s1, (hf 6).trans h.s6]

/-- With a part of the source. -/
structure EnZ (g nd cd b off m c d : Nat) (v1 : Value) (a : Act) : Prop where
  size : a.tmps.size = 56
  defers : a.defers = []
  s0 : a.tmps.getD 0 undef = .slice (some ⟨g, 0, none⟩) nd cd
  s1 : a.tmps.getD 1 undef = v1
  s6 : a.tmps.getD 6 undef = .int .i64 (d : Int)
  s7 : a.tmps.getD 7 undef = .slice (some ⟨b, off, none⟩) m c

set_option maxRecDepth 100000 in
theorem EnZ.open_ {g nd cd b off m c d : Nat} {v1 : Value} {a : Act} (h : EnZ g nd cd b off m c d v1 a) : ∃ f : Nat → Value, a = ⟨#[.slice (some ⟨g, 0, none⟩) nd cd, v1, f 2, f 3, f 4, f 5, .int .i64 (d : Int), .slice (some ⟨b, off, none⟩) m c, f 8, f 9, f 10, f 11, f 12, f 13, f 14, f 15, f 16, f 17, f 18, f 19, f 20, f 21, f 22, f 23, f 24, f 25, f 26, f 27, f 28, f 29, f 30, f 31, f 32, f 33, f 34, f 35, f 36, f 37, f 38, f 39, f 40, f 41, f 42, f 43, f 44, f 45, f 46, f 47, f 48, f 49, f 50, f 51, f 52, f 53, f 54, f 55], []⟩ := by
  obtain ⟨f, hf, ha⟩ := open56 a h.size h.defers
  refine ⟨f, ha.trans ?_⟩
  simp only [(hf 0).trans h.s0, (hf 1).trans h.s1, (hf 6).trans h.s6, (hf 7).trans h.s7]

noncomputable def enBody : Code := bodyOf Tryd.f17
noncomputable def enR0 : Code := c1 enBody
noncomputable def enX1 : Code := c1 (c2 enBody)
noncomputable def enR6 : Code := c1 (c2 (c2 enBody))
noncomputable def enL : Code := cL (cB (c1 (c2 (c2 (c2 enBody)))))
noncomputable def enT : Code := c2 (c2 (c2 (c2 enBody)))
noncomputable def enH : Code := c1 enL
noncomputable def enB : Code := cB (c2 enL)
noncomputable def enR8 : Code := c1 enB
noncomputable def enR9 : Code := c1 (c2 enB)
noncomputable def enX10 : Code := c1 (c2 (c2 enB))
noncomputable def enX12 : Code := c2 (c2 (c2 enB))
theorem enBody_eq : enBody = .seq enR0 (.seq enX1 (.seq enR6 (.seq (.block 0 (.loop enL)) enT))) := by kernel_rfl
theorem enL_eq : enL = .seq enH (.block 1 (.seq enR8 (.seq enR9 (.seq enX10 enX12)))) := by kernel_rfl

set_option maxRecDepth 100000 in
set_option maxHeartbeats 1000000 in
theorem en_r0 (Ad : Option Addr) (nd cd b off m c : Nat) (w : World) (Q : Exit → Act → World → Prop) (a : Act) (hfr : EnS Ad nd cd b off m c a)  (h : ∀ a, EnS Ad nd cd b off m c a → Q .normal a w) : Code.wp Tryd.prog enR0 Q a w := by
  obtain ⟨f, rfl⟩ := hfr.open_
  clear hfr
  conv => arg 2; whnf
  go_wp2
  exact ⟨rfl, rfl, rfl, rfl⟩

set_option maxRecDepth 100000 in
set_option maxHeartbeats 1000000 in
theorem en_x1_room (Ad : Option Addr) (nd cd b off m c : Nat) (w : World) (Q : Exit → Act → World → Prop) (a : Act) (hfr : EnS Ad nd cd b off m c a) (hm : m ≤ 1073741823) (hnd : 32 + m + m / 6 ≤ nd) (hndb : nd ≤ 4294967295) (h : ∀ a, EnS Ad nd cd b off m c a → Q .normal a w) : Code.wp Tryd.prog enX1 Q a w := by
  obtain ⟨f, rfl⟩ := hfr.open_
  have HM := hide (MaxLen_any m hm w)
  have hq : (32 + (m : Int) + (m : Int) / 6) = ((32 + m + m / 6 : Nat) : Int) := by omega
  obtain ⟨q, hq'⟩ : ∃ q, q = 32 + m + m / 6 := ⟨_, rfl⟩
  rw [← hq'] at hq hnd
  rw [hq] at HM
  clear hfr hq hq'
  conv => arg 2; whnf
  go_wp2_with fail
  refine HM.out.mono ?_
  rintro e w' ⟨rfl, rfl⟩
  go_wp2
  exact ⟨rfl, rfl, rfl, rfl⟩

set_option maxRecDepth 100000 in
set_option maxHeartbeats 1000000 in
theorem en_x1_make (Ad : Option Addr) (nd cd b off m c : Nat) (w : World) (Q : Exit → Act → World → Prop) (a : Act) (hfr : EnS Ad nd cd b off m c a) (hm : m ≤ 1073741823) (hnd : nd < 32 + m + m / 6)
    (h : ∀ a, EnS (some ⟨w.heap.size, 0, none⟩) (32 + m + m / 6) (32 + m + m / 6) b off m c a → Q .normal a (w.alloc (.cells (madeCells #[.int .u8 0] (32 + m + m / 6)) 5))) : Code.wp Tryd.prog enX1 Q a w := by
  obtain ⟨f, rfl⟩ := hfr.open_
  have HM := hide (MaxLen_any m hm w)
  have hq : (32 + (m : Int) + (m : Int) / 6) = ((32 + m + m / 6 : Nat) : Int) := by omega
  obtain ⟨q, hq'⟩ : ∃ q, q = 32 + m + m / 6 := ⟨_, rfl⟩
  have hqb : q ≤ 4294967295 := by omega
  rw [← hq'] at hq hnd
  rw [← hq'] at h
  rw [hq] at HM
  have hmk : ∀ w : World, (Instr.makeSlice 22 (.int .i64 (q : Int)) (.int .i64 (q : Int))).run Tryd.prog w = .ok (.slice (some ⟨w.heap.size, 0, none⟩) q q) (w.alloc (.cells (madeCells #[.int .u8 0] q) 5)) := run_make_row' (P := Tryd.prog) 22 5 (.int .u8 0) 1 Tryd.underlying22 info_u8 rfl .i64 .i64 q (by omega) (by omega)
  clear hfr hq hq'
  generalize hmade : madeCells #[Value.int .u8 0] q = mc at *
  clear hmade
  conv => arg 2; whnf
  go_wp2_with fail
  refine HM.out.mono ?_
  rintro e w' ⟨rfl, rfl⟩
  go_wp2
  exact ⟨rfl, rfl, rfl, rfl⟩

set_option maxRecDepth 100000 in
set_option maxHeartbeats 1000000 in
theorem en_r6 (g nd cd b off m c : Nat) (w : World) (Q : Exit → Act → World → Prop) (a : Act) (hfr : EnS (some ⟨g, 0, none⟩) nd cd b off m c a) (hm : m ≤ 4294967295) (hd : Dst w g nd []) (hnd : (varL m).length ≤ nd) (hndb : nd ≤ 4294967295)
    (h : ∀ a w', EnD g nd cd b off m c (varL m).length a → Dst w' g nd (varL m) → w.grownBy w' (some g) → Q .normal a w') : Code.wp Tryd.prog enR6 Q a w := by
  obtain ⟨f, rfl⟩ := hfr.open_
  have HP := hide (PutUvarint_any g nd cd m hm w hd hnd hndb)
  generalize varL m = e at *
  clear hfr hd
  conv => arg 2; whnf
  go_wp2_with fail
  refine HP.out.mono ?_
  rintro e' w' ⟨rfl, hd2, hg2⟩
  have HD := hide hd2
  have HG := hide hg2
  clear hd2 hg2
  go_wp2
  exact h _ _ ⟨rfl, rfl, rfl, rfl, rfl⟩ HD.out HG.out

set_option maxRecDepth 100000 in
set_option maxHeartbeats 1000000 in
theorem en_h_go (g nd cd b off m c d : Nat) (w : World) (Q : Exit → Act → World → Prop) (a : Act) (hfr : EnD g nd cd b off m c d a) (hm : 1 ≤ m) (hm2 : m ≤ 4294967295) (h : ∀ a, EnD g nd cd b off m c d a → Q .normal a w) : Code.wp Tryd.prog enH Q a w := by
  obtain ⟨f, rfl⟩ := hfr.open_
  clear hfr
  conv => arg 2; whnf
  go_wp2
  exact ⟨rfl, rfl, rfl, rfl, rfl⟩

set_option maxRecDepth 100000 in
set_option maxHeartbeats 1000000 in
theorem en_h_end (g nd cd d : Nat) (w : World) (Q : Exit → Act → World → Prop) (a : Act) (hfr : EnE g nd cd d a)  (h : ∀ a, EnE g nd cd d a → Q (.exit 0) a w) : Code.wp Tryd.prog enH Q a w := by
  obtain ⟨f, rfl⟩ := hfr.open_
  clear hfr
  conv => arg 2; whnf
  go_wp2
  exact ⟨rfl, rfl, rfl, rfl, rfl⟩

set_option maxRecDepth 100000 in
set_option maxHeartbeats 1000000 in
theorem en_r8 (g nd cd b off m c d : Nat) (w : World) (Q : Exit → Act → World → Prop) (a : Act) (hfr : EnD g nd cd b off m c d a)  (h : ∀ a, EnZ g nd cd b off m c d (.slice (some ⟨b, off, none⟩) m c) a → Q .normal a w) : Code.wp Tryd.prog enR8 Q a w := by
  obtain ⟨f, rfl⟩ := hfr.open_
  clear hfr
  conv => arg 2; whnf
  go_wp2
  exact ⟨rfl, rfl, rfl, rfl, rfl, rfl⟩

set_option maxRecDepth 100000 in
set_option maxHeartbeats 1000000 in
theorem en_r9 (g nd cd b off m c d : Nat) (v1 : Value) (w : World) (Q : Exit → Act → World → Prop) (a : Act) (hfr : EnZ g nd cd b off m c d v1 a)  (h : ∀ a, EnZ g nd cd b off m c d (.slice none 0 0) a → Q .normal a w) : Code.wp Tryd.prog enR9 Q a w := by
  obtain ⟨f, rfl⟩ := hfr.open_
  clear hfr
  conv => arg 2; whnf
  go_wp2
  exact ⟨rfl, rfl, rfl, rfl, rfl, rfl⟩

set_option maxRecDepth 100000 in
set_option maxHeartbeats 1000000 in
theorem en_x10_no (g nd cd b off m c d : Nat) (v1 : Value) (w : World) (Q : Exit → Act → World → Prop) (a : Act) (hfr : EnZ g nd cd b off m c d v1 a) (hm : m ≤ 65536) (h : ∀ a, EnZ g nd cd b off m c d v1 a → Q .normal a w) : Code.wp Tryd.prog enX10 Q a w := by
  obtain ⟨f, rfl⟩ := hfr.open_
  clear hfr
  conv => arg 2; whnf
  go_wp2
  exact ⟨rfl, rfl, rfl, rfl, rfl, rfl⟩

set_option maxRecDepth 100000 in
set_option maxHeartbeats 1000000 in
theorem en_x10_yes (g nd cd b off m c d : Nat) (v1 : Value) (w : World) (Q : Exit → Act → World → Prop) (a : Act) (hfr : EnZ g nd cd b off m c d v1 a) (hm : 65536 < m) (hm2 : m ≤ 4294967295) (hmc : m ≤ c)
    (h : ∀ a k, EnZ g nd cd b off 65536 c d (.slice (some ⟨b, off + 65536, none⟩) (m - 65536) (c - 65536)) a → Q .normal a (w.drewN k)) : Code.wp Tryd.prog enX10 Q a w := by
  obtain ⟨f, rfl⟩ := hfr.open_
  have hsl1 := run_cut_h b off m c 65536 65536 (by omega) (by omega) (by omega)
  have hsl2 := run_cut_l (some ⟨b, off, none⟩) m c 65536 65536 (by omega) (by omega) (by omega)
  rw [cutA_some b off c 65536 (by omega)] at hsl2
  clear hfr
  refine wp_noPanic ?_
  conv => arg 2; whnf
  go_wp2
  go_quiet (fail)
  go_wp2
  exact h _ _ ⟨rfl, rfl, rfl, rfl, rfl, rfl⟩

set_option maxRecDepth 100000 in
set_option maxHeartbeats 1000000 in
theorem en_x12_lit (g nd cd b off m c d : Nat) (v1 : Value) (xs out : Bs) (w : World) (Q : Exit → Act → World → Prop) (a : Act) (hfr : EnZ g nd cd b off m c d v1 a) (hs : Src w g b off m xs) (hd : Dst w g nd out) (hm1 : 1 ≤ m) (hm : m < 17) (hmc : m ≤ c) (hndcd : nd ≤ cd) (hndb : nd ≤ 4294967295) (hout : out.length = d) (hroom : d + m + 3 ≤ nd)
    (h : ∀ a w', EnZ g nd cd b off m c (d + (litL xs 0).length) v1 a → Dst w' g nd (out ++ litL xs 0) → w.grownBy w' (some g) → Q .normal a w') : Code.wp Tryd.prog enX12 Q a w := by
  obtain ⟨f, rfl⟩ := hfr.open_
  have hsl1 := run_cut_l (some ⟨g, 0, none⟩) nd cd (d : Int) d (by omega) (by omega) (by omega)
  rw [cutA_some g 0 cd d (by omega), Nat.zero_add] at hsl1
  have hh : litHead m ≤ 3 := by unfold litHead; repeat' split
                                all_goals omega
  have hll := litL_len xs (by rw [hs.len]; omega) (by rw [hs.len]; omega)
  rw [hs.len] at hll
  have hle : (litL xs 0).length ≤ m + 3 := by omega
  clear hll
  have HC := hide (emitLiteral_any g d (nd - d) (cd - d) nd b off m c xs out w hs hm1 (by omega) hout (by omega) (by omega) (by omega) hmc hndb hd)
  generalize litL xs 0 = e at *
  clear hfr hs hd
  conv => arg 2; whnf
  go_wp2_with fail
  refine HC.out.mono ?_
  rintro e' w' ⟨rfl, hd2, hg2⟩
  have HD := hide hd2
  have HG := hide hg2
  clear hd2 hg2
  go_wp2
  exact h _ _ ⟨rfl, rfl, rfl, rfl, rfl, rfl⟩ HD.out HG.out

set_option maxRecDepth 100000 in
set_option maxHeartbeats 1000000 in
theorem en_x12_blk (g nd cd b off m c d : Nat) (v1 : Value) (xs out T0 : Bs) (w : World) (Q : Exit → Act → World → Prop) (a : Act) (hfr : EnZ g nd cd b off m c d v1 a) (hs : Src w g b off m xs) (hd : Dst w g nd out) (hg0 : g < w.heap.size) (hm1 : 17 ≤ m) (hm : m ≤ 65536) (hmc : m ≤ c) (hndcd : nd ≤ cd) (hndb : nd ≤ 4294967295) (hout : out.length = d) (hroom : 60 * d + 61 * m + 300 ≤ 60 * nd)
    (h : ∀ a w' bs, EnZ g nd cd b off m c (d + bs.length) v1 a → Dst w' g nd (out ++ bs) → w.grownBy w' (some g) → Chain T0 bs (T0 ++ xs) → 60 * bs.length ≤ 61 * m + 60 → Q .normal a w') : Code.wp Tryd.prog enX12 Q a w := by
  obtain ⟨f, rfl⟩ := hfr.open_
  have hsl1 := run_cut_l (some ⟨g, 0, none⟩) nd cd (d : Int) d (by omega) (by omega) (by omega)
  rw [cutA_some g 0 cd d (by omega), Nat.zero_add] at hsl1
  have HC := hide (encodeBlock_any g d (nd - d) (cd - d) nd b off m c xs out T0 w hs hm1 hm hmc hout (by omega) hndb (by omega) (by omega) hd hg0)
  clear hfr hs hd
  conv => arg 2; whnf
  go_wp2_with fail
  refine HC.out.mono ?_
  rintro e' w' ⟨bs, rfl, hd2, hg2, hc2, hl2⟩
  have HD := hide hd2
  have HG := hide hg2
  have HCH := hide hc2
  have HL := hide hl2
  have hlb : bs.length ≤ 100000 := by omega
  clear hd2 hg2 hc2 hl2
  go_wp2
  exact h _ _ bs ⟨rfl, rfl, rfl, rfl, rfl, rfl⟩ HD.out HG.out HCH.out HL.out

/-- That slice is returned. -/
def RetEn (g d cd : Nat) (a : Act) : Prop := a.defers = [] ∧ a.tmps.getD 4 undef = .slice (some ⟨g, 0, none⟩) d cd

set_option maxRecDepth 100000 in
set_option maxHeartbeats 1000000 in
theorem en_t (g nd cd d : Nat) (w : World) (Q : Exit → Act → World → Prop) (a : Act) (hfr : EnE g nd cd d a) (hd : d ≤ cd) (hdb : d ≤ 4294967295) (h : ∀ a, RetEn g d cd a → Q .ret a w) : Code.wp Tryd.prog enT Q a w := by
  obtain ⟨f, rfl⟩ := hfr.open_
  have hsl := run_cut_h g 0 nd cd (d : Int) d (by omega) (by omega) (by omega)
  clear hfr
  conv => arg 2; whnf
  go_wp2
  exact ⟨rfl, rfl⟩


end Snap
end Go.Proofs.YtoihiaenlonncaaDoor

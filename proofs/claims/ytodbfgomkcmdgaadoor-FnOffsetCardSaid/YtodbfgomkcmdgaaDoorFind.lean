/-
  spec.find: a copy that can stand at a place, or none.
-/
import Derived.Test.YtodbfgomkcmdgaaDoorMatch
namespace Go.Proofs.YtodbfgomkcmdgaaDoor
open Go.RowKit
set_option linter.unusedVariables false
namespace Snap

theorem list61 (f : Nat → Value) : ((List.range 61).map f).toArray = #[f 0, f 1, f 2, f 3, f 4, f 5, f 6, f 7, f 8, f 9, f 10, f 11, f 12, f 13, f 14, f 15, f 16, f 17, f 18, f 19, f 20, f 21, f 22, f 23, f 24, f 25, f 26, f 27, f 28, f 29, f 30, f 31, f 32, f 33, f 34, f 35, f 36, f 37, f 38, f 39, f 40, f 41, f 42, f 43, f 44, f 45, f 46, f 47, f 48, f 49, f 50, f 51, f 52, f 53, f 54, f 55, f 56, f 57, f 58, f 59, f 60] := by kernel_rfl

/-- A frame of 61 slots. -/
theorem open61 (a : Act) (hs : a.tmps.size = 61) (hd : a.defers = []) : ∃ f : Nat → Value, (∀ i, f i = a.tmps.getD i undef) ∧ a = ⟨#[f 0, f 1, f 2, f 3, f 4, f 5, f 6, f 7, f 8, f 9, f 10, f 11, f 12, f 13, f 14, f 15, f 16, f 17, f 18, f 19, f 20, f 21, f 22, f 23, f 24, f 25, f 26, f 27, f 28, f 29, f 30, f 31, f 32, f 33, f 34, f 35, f 36, f 37, f 38, f 39, f 40, f 41, f 42, f 43, f 44, f 45, f 46, f 47, f 48, f 49, f 50, f 51, f 52, f 53, f 54, f 55, f 56, f 57, f 58, f 59, f 60], []⟩ := by
  refine ⟨fun i => a.tmps.getD i undef, fun _ => rfl, ?_⟩
  exact (act_slots a 61 hs hd).trans (congrArg (fun l => (⟨l, []⟩ : Act)) (list61 _))

/-- The frame at the start. -/
structure FdS (A : Option Addr) (n c at_ fm rest : Nat) (a : Act) : Prop where
  size : a.tmps.size = 61
  defers : a.defers = []
  s0 : a.tmps.getD 0 undef = .slice A n c
  s1 : a.tmps.getD 1 undef = .int .i64 (at_ : Int)
  s2 : a.tmps.getD 2 undef = .int .i64 (fm : Int)
  s3 : a.tmps.getD 3 undef = .int .i64 (rest : Int)

set_option maxRecDepth 100000 in
theorem FdS.open_ {A : Option Addr} {n c at_ fm rest : Nat} {a : Act} (h : FdS A n c at_ fm rest a) : ∃ f : Nat → Value, a = ⟨#[.slice A n c, .int .i64 (at_ : Int), .int .i64 (fm : Int), .int .i64 (rest : Int), f 4, f 5, f 6, f 7, f 8, f 9, f 10, f 11, f 12, f 13, f 14, f 15, f 16, f 17, f 18, f 19, f 20, f 21, f 22, f 23, f 24, f 25, f 26, f 27, f 28, f 29, f 30, f 31, f 32, f 33, f 34, f 35, f 36, f 37, f 38, f 39, f 40, f 41, f 42, f 43, f 44, f 45, f 46, f 47, f 48, f 49, f 50, f 51, f 52, f 53, f 54, f 55, f 56, f 57, f 58, f 59, f 60], []⟩ := by
  obtain ⟨f, hf, ha⟩ := open61 a h.size h.defers
  refine ⟨f, ha.trans ?_⟩
  simp only [(hf 0).trans h.s0, (hf 1).trans h.s1, (hf 2).trans h.s2, (hf 3).trans h.s3]

/-- The frame behind the greatest length. -/
structure FdM (A : Option Addr) (n c at_ fm rest most : Nat) (a : Act) : Prop where
  size : a.tmps.size = 61
  defers : a.defers = []
  s0 : a.tmps.getD 0 undef = .slice A n c
  s1 : a.tmps.getD 1 undef = .int .i64 (at_ : Int)
  s2 : a.tmps.getD 2 undef = .int .i64 (fm : Int)
  s3 : a.tmps.getD 3 undef = .int .i64 (rest : Int)
  s10 : a.tmps.getD 10 undef = .int .i64 (most : Int)

set_option maxRecDepth 100000 in
theorem FdM.open_ {A : Option Addr} {n c at_ fm rest most : Nat} {a : Act} (h : FdM A n c at_ fm rest most a) : ∃ f : Nat → Value, a = ⟨#[.slice A n c, .int .i64 (at_ : Int), .int .i64 (fm : Int), .int .i64 (rest : Int), f 4, f 5, f 6, f 7, f 8, f 9, .int .i64 (most : Int), f 11, f 12, f 13, f 14, f 15, f 16, f 17, f 18, f 19, f 20, f 21, f 22, f 23, f 24, f 25, f 26, f 27, f 28, f 29, f 30, f 31, f 32, f 33, f 34, f 35, f 36, f 37, f 38, f 39, f 40, f 41, f 42, f 43, f 44, f 45, f 46, f 47, f 48, f 49, f 50, f 51, f 52, f 53, f 54, f 55, f 56, f 57, f 58, f 59, f 60], []⟩ := by
  obtain ⟨f, hf, ha⟩ := open61 a h.size h.defers
  refine ⟨f, ha.trans ?_⟩
  simp only [(hf 0).trans h.s0, (hf 1).trans h.s1, (hf 2).trans h.s2, (hf 3).trans h.s3, (hf 10).trans h.s10]

/-- The frame at the loop's head. -/
structure FdL (A : Option Addr) (n c at_ fm rest most t : Nat) (a : Act) : Prop where
  size : a.tmps.size = 61
  defers : a.defers = []
  s0 : a.tmps.getD 0 undef = .slice A n c
  s1 : a.tmps.getD 1 undef = .int .i64 (at_ : Int)
  s2 : a.tmps.getD 2 undef = .int .i64 (fm : Int)
  s3 : a.tmps.getD 3 undef = .int .i64 (rest : Int)
  s10 : a.tmps.getD 10 undef = .int .i64 (most : Int)
  s11 : a.tmps.getD 11 undef = .int .i64 (t : Int)

set_option maxRecDepth 100000 in
theorem FdL.open_ {A : Option Addr} {n c at_ fm rest most t : Nat} {a : Act} (h : FdL A n c at_ fm rest most t a) : ∃ f : Nat → Value, a = ⟨#[.slice A n c, .int .i64 (at_ : Int), .int .i64 (fm : Int), .int .i64 (rest : Int), f 4, f 5, f 6, f 7, f 8, f 9, .int .i64 (most : Int), .int .i64 (t : Int), f 12, f 13, f 14, f 15, f 16, f 17, f 18, f 19, f 20, f 21, f 22, f 23, f 24, f 25, f 26, f 27, f 28, f 29, f 30, f 31, f 32, f 33, f 34, f 35, f 36, f 37, f 38, f 39, f 40, f 41, f 42, f 43, f 44, f 45, f 46, f 47, f 48, f 49, f 50, f 51, f 52, f 53, f 54, f 55, f 56, f 57, f 58, f 59, f 60], []⟩ := by
  obtain ⟨f, hf, ha⟩ := open61 a h.size h.defers
  refine ⟨f, ha.trans ?_⟩
  simp only [(hf 0).trans h.s0, (hf 1).trans h.s1, (hf 2).trans h.s2, (hf 3).trans h.s3, (hf 10).trans h.s10, (hf 11).trans h.s11]

/-- The frame behind the offset. -/
structure FdF (A : Option Addr) (n c at_ fm rest most t far : Nat) (a : Act) : Prop where
  size : a.tmps.size = 61
  defers : a.defers = []
  s0 : a.tmps.getD 0 undef = .slice A n c
  s1 : a.tmps.getD 1 undef = .int .i64 (at_ : Int)
  s2 : a.tmps.getD 2 undef = .int .i64 (fm : Int)
  s3 : a.tmps.getD 3 undef = .int .i64 (rest : Int)
  s10 : a.tmps.getD 10 undef = .int .i64 (most : Int)
  s11 : a.tmps.getD 11 undef = .int .i64 (t : Int)
  s12 : a.tmps.getD 12 undef = .int .i64 (far : Int)

set_option maxRecDepth 100000 in
theorem FdF.open_ {A : Option Addr} {n c at_ fm rest most t far : Nat} {a : Act} (h : FdF A n c at_ fm rest most t far a) : ∃ f : Nat → Value, a = ⟨#[.slice A n c, .int .i64 (at_ : Int), .int .i64 (fm : Int), .int .i64 (rest : Int), f 4, f 5, f 6, f 7, f 8, f 9, .int .i64 (most : Int), .int .i64 (t : Int), .int .i64 (far : Int), f 13, f 14, f 15, f 16, f 17, f 18, f 19, f 20, f 21, f 22, f 23, f 24, f 25, f 26, f 27, f 28, f 29, f 30, f 31, f 32, f 33, f 34, f 35, f 36, f 37, f 38, f 39, f 40, f 41, f 42, f 43, f 44, f 45, f 46, f 47, f 48, f 49, f 50, f 51, f 52, f 53, f 54, f 55, f 56, f 57, f 58, f 59, f 60], []⟩ := by
  obtain ⟨f, hf, ha⟩ := open61 a h.size h.defers
  refine ⟨f, ha.trans ?_⟩
  simp only [(hf 0).trans h.s0, (hf 1).trans h.s1, (hf 2).trans h.s2, (hf 3).trans h.s3, (hf 10).trans h.s10, (hf 11).trans h.s11, (hf 12).trans h.s12]

noncomputable def fdBody : Code := bodyOf Tryd.f37
noncomputable def fd0 : Code := c1 fdBody
noncomputable def fd1 : Code := c1 (c2 fdBody)
noncomputable def fd2 : Code := c1 (c2 (c2 fdBody))
noncomputable def fd4 : Code := c1 (c2 (c2 (c2 fdBody)))
noncomputable def fdRest : Code := c2 (c2 (c2 (c2 fdBody)))
noncomputable def fd6 : Code := c1 (c1 fdRest)
noncomputable def fdLoop : Code := cL (cB (c2 (c1 fdRest)))
noncomputable def fd7 : Code := c1 fdLoop
noncomputable def fdB : Code := cB (c1 (c2 fdLoop))
noncomputable def fd8 : Code := c2 (c2 fdLoop)
noncomputable def fd9 : Code := c1 fdB
noncomputable def fd10 : Code := c1 (c2 fdB)
noncomputable def fd12 : Code := c2 (c2 fdB)
noncomputable def fd16 : Code := c2 fdRest
theorem fdBody_eq : fdBody = .seq fd0 (.seq fd1 (.seq fd2 (.seq fd4 (.seq (.seq fd6 (.block 0 (.loop fdLoop))) fd16)))) := by kernel_rfl
theorem fdLoop_eq : fdLoop = .seq fd7 (.seq (.block 1 (.seq fd9 (.seq fd10 fd12))) fd8) := by kernel_rfl

set_option maxRecDepth 100000 in
set_option maxHeartbeats 1000000 in
theorem fd0_any (A : Option Addr) (n c at_ fm rest : Nat) (w : World) (Q : Exit → Act → World → Prop) (a : Act)  (hfr : FdS A n c at_ fm rest a) (hn : n ≤ 4294967295) (hat : at_ < n) (hat1 : 1 ≤ at_) (hf1 : 1 ≤ fm) (hf3 : fm ≤ 3) (hr : rest ≤ 268435455) 
    (h : ∀ a, FdS A n c at_ fm rest a → Q .normal a w) : Code.wp Tryd.prog fd0 Q a w := by
  obtain ⟨f, rfl⟩ := hfr.open_
  clear hfr
  conv => arg 2; whnf
  go_wp2
  exact ⟨rfl, rfl, rfl, rfl, rfl, rfl⟩

set_option maxRecDepth 100000 in
set_option maxHeartbeats 1000000 in
theorem fd1_any (A : Option Addr) (n c at_ fm rest : Nat) (w : World) (Q : Exit → Act → World → Prop) (a : Act)  (hfr : FdS A n c at_ fm rest a) (hn : n ≤ 4294967295) (hat : at_ < n) (hat1 : 1 ≤ at_) (hf1 : 1 ≤ fm) (hf3 : fm ≤ 3) (hr : rest ≤ 268435455) 
    (h : ∀ a, FdM A n c at_ fm rest 64 a → Q .normal a w) : Code.wp Tryd.prog fd1 Q a w := by
  obtain ⟨f, rfl⟩ := hfr.open_
  clear hfr
  conv => arg 2; whnf
  go_wp2
  exact ⟨rfl, rfl, rfl, rfl, rfl, rfl, rfl⟩

set_option maxRecDepth 100000 in
set_option maxHeartbeats 1000000 in
theorem fd2_any (A : Option Addr) (n c at_ fm rest : Nat) (w : World) (Q : Exit → Act → World → Prop) (a : Act)  (hfr : FdM A n c at_ fm rest 64 a) (hn : n ≤ 4294967295) (hat : at_ < n) (hat1 : 1 ≤ at_) (hf1 : 1 ≤ fm) (hf3 : fm ≤ 3) (hr : rest ≤ 268435455) 
    (h : ∀ a m, 1 ≤ m → m ≤ 64 → FdM A n c at_ fm rest m a → Q .normal a w) : Code.wp Tryd.prog fd2 Q a w := by
  obtain ⟨f, rfl⟩ := hfr.open_
  clear hfr
  by_cases h1 : fm = 1
  · subst h1
    conv => arg 2; whnf
    go_wp2
    exact h _ 11 (by omega) (by omega) ⟨rfl, rfl, rfl, rfl, rfl, rfl, rfl⟩
  · have e1 : ((fm : Int) == 1) = false := by rw [beq_eq_false_iff_ne]; omega
    conv => arg 2; whnf
    go_wp2
    exact h _ 64 (by omega) (by omega) ⟨rfl, rfl, rfl, rfl, rfl, rfl, rfl⟩

set_option maxRecDepth 100000 in
set_option maxHeartbeats 1000000 in
theorem fd4_any (A : Option Addr) (n c at_ fm rest : Nat) (w : World) (Q : Exit → Act → World → Prop) (a : Act) (m : Nat) (hfr : FdM A n c at_ fm rest m a) (hn : n ≤ 4294967295) (hat : at_ < n) (hat1 : 1 ≤ at_) (hf1 : 1 ≤ fm) (hf3 : fm ≤ 3) (hr : rest ≤ 268435455) (hm1 : 1 ≤ m) (hm2 : m ≤ 64)
    (h : ∀ a m, 1 ≤ m → m ≤ 64 → FdM A n c at_ fm rest m a → Q .normal a w) : Code.wp Tryd.prog fd4 Q a w := by
  obtain ⟨f, rfl⟩ := hfr.open_
  clear hfr
  have c1 : (rest : Int) % 3 = ((rest % 3 : Nat) : Int) := by omega
  by_cases h1 : rest % 3 = 1
  · have e1 : ((rest : Int) % 3 == 1) = true := by rw [beq_iff_eq]; omega
    clear c1
    conv => arg 2; whnf
    go_wp2
    exact h _ (4 + rest / 3 % 8) (by omega) (by omega) ⟨rfl, rfl, rfl, rfl, rfl, rfl, congrArg (Value.int .i64) (by omega)⟩
  · have e1 : ((rest : Int) % 3 == 1) = false := by rw [beq_eq_false_iff_ne]; omega
    clear c1
    conv => arg 2; whnf
    go_wp2
    exact h _ m hm1 hm2 ⟨rfl, rfl, rfl, rfl, rfl, rfl, rfl⟩

set_option maxRecDepth 100000 in
set_option maxHeartbeats 1000000 in
theorem fd6_any (A : Option Addr) (n c at_ fm rest : Nat) (w : World) (Q : Exit → Act → World → Prop) (a : Act) (m : Nat) (hfr : FdM A n c at_ fm rest m a) (hn : n ≤ 4294967295) (hat : at_ < n) (hat1 : 1 ≤ at_) (hf1 : 1 ≤ fm) (hf3 : fm ≤ 3) (hr : rest ≤ 268435455) 
    (h : ∀ a, FdL A n c at_ fm rest m 0 a → Q .normal a w) : Code.wp Tryd.prog fd6 Q a w := by
  obtain ⟨f, rfl⟩ := hfr.open_
  clear hfr
  conv => arg 2; whnf
  go_wp2
  exact ⟨rfl, rfl, rfl, rfl, rfl, rfl, rfl, rfl⟩

set_option maxRecDepth 100000 in
set_option maxHeartbeats 1000000 in
theorem fd7_more (A : Option Addr) (n c at_ fm rest : Nat) (w : World) (Q : Exit → Act → World → Prop) (a : Act) (m t : Nat) (hfr : FdL A n c at_ fm rest m t a) (hn : n ≤ 4294967295) (hat : at_ < n) (hat1 : 1 ≤ at_) (hf1 : 1 ≤ fm) (hf3 : fm ≤ 3) (hr : rest ≤ 268435455) (ht : t < 40)
    (h : ∀ a, FdL A n c at_ fm rest m t a → Q .normal a w) : Code.wp Tryd.prog fd7 Q a w := by
  obtain ⟨f, rfl⟩ := hfr.open_
  clear hfr
  conv => arg 2; whnf
  go_wp2
  exact ⟨rfl, rfl, rfl, rfl, rfl, rfl, rfl, rfl⟩

set_option maxRecDepth 100000 in
set_option maxHeartbeats 1000000 in
theorem fd7_end (A : Option Addr) (n c at_ fm rest : Nat) (w : World) (Q : Exit → Act → World → Prop) (a : Act) (m : Nat) (hfr : FdL A n c at_ fm rest m 40 a) (hn : n ≤ 4294967295) (hat : at_ < n) (hat1 : 1 ≤ at_) (hf1 : 1 ≤ fm) (hf3 : fm ≤ 3) (hr : rest ≤ 268435455) 
    (h : ∀ a, FdL A n c at_ fm rest m 40 a → Q (.exit 0) a w) : Code.wp Tryd.prog fd7 Q a w := by
  obtain ⟨f, rfl⟩ := hfr.open_
  clear hfr
  conv => arg 2; whnf
  go_wp2
  exact ⟨rfl, rfl, rfl, rfl, rfl, rfl, rfl, rfl⟩

set_option maxRecDepth 100000 in
set_option maxHeartbeats 1000000 in
theorem fd8_any (A : Option Addr) (n c at_ fm rest : Nat) (w : World) (Q : Exit → Act → World → Prop) (a : Act) (m t : Nat) (hfr : FdL A n c at_ fm rest m t a) (hn : n ≤ 4294967295) (hat : at_ < n) (hat1 : 1 ≤ at_) (hf1 : 1 ≤ fm) (hf3 : fm ≤ 3) (hr : rest ≤ 268435455) (ht : t < 40)
    (h : ∀ a, FdL A n c at_ fm rest m (t + 1) a → Q .normal a w) : Code.wp Tryd.prog fd8 Q a w := by
  obtain ⟨f, rfl⟩ := hfr.open_
  clear hfr
  conv => arg 2; whnf
  go_wp2
  exact ⟨rfl, rfl, rfl, rfl, rfl, rfl, rfl, rfl⟩

set_option maxRecDepth 100000 in
set_option maxHeartbeats 1000000 in
theorem fd9_any (A : Option Addr) (n c at_ fm rest : Nat) (w : World) (Q : Exit → Act → World → Prop) (a : Act) (m t : Nat) (hfr : FdL A n c at_ fm rest m t a) (hn : n ≤ 4294967295) (hat : at_ < n) (hat1 : 1 ≤ at_) (hf1 : 1 ≤ fm) (hf3 : fm ≤ 3) (hr : rest ≤ 268435455) (ht : t < 40)
    (h : ∀ a far, 1 ≤ far → far ≤ 4294967295 → FdF A n c at_ fm rest m t far a → Q .normal a w) : Code.wp Tryd.prog fd9 Q a w := by
  obtain ⟨f, rfl⟩ := hfr.open_
  clear hfr
  obtain ⟨sq, hsq, hsl⟩ : ∃ sq : Nat, (t : Int) * (t : Int) = (sq : Int) ∧ sq ≤ 1600 := ⟨t * t, by simp, Nat.le_trans (Nat.mul_le_mul (show t ≤ 40 by omega) (show t ≤ 40 by omega)) (by omega)⟩
  obtain ⟨j, hj⟩ : ∃ j, j = (rest + sq) % at_ := ⟨_, rfl⟩
  have hjn : j < at_ := by rw [hj]; exact Nat.mod_lt _ (by omega)
  have r1 : ((rest : Int) + (sq : Int)) % (at_ : Int) = (j : Int) := by rw [hj]; rfl
  have r2 : ((rest : Int) + (sq : Int)).tmod (at_ : Int) = (j : Int) := by rw [Int.tmod_eq_emod_of_nonneg (by omega)]; exact r1
  have hne : ((at_ : Int) == 0) = false := by rw [beq_eq_false_iff_ne]; omega
  clear hj
  conv => arg 2; whnf
  go_wp2
  exact h _ (1 + j) (by omega) (by omega) ⟨rfl, rfl, rfl, rfl, rfl, rfl, rfl, rfl, congrArg (Value.int .i64) (by omega)⟩

set_option maxRecDepth 100000 in
set_option maxHeartbeats 1000000 in
theorem fd10_any (A : Option Addr) (n c at_ fm rest : Nat) (w : World) (Q : Exit → Act → World → Prop) (a : Act) (m t far : Nat) (hfr : FdF A n c at_ fm rest m t far a) (hn : n ≤ 4294967295) (hat : at_ < n) (hat1 : 1 ≤ at_) (hf1 : 1 ≤ fm) (hf3 : fm ≤ 3) (hr : rest ≤ 268435455) (ht : t < 40) (hfa : 1 ≤ far) (hfb : far ≤ 4294967295)
    (h : ∀ a far, 1 ≤ far → far ≤ 4294967295 → FdF A n c at_ fm rest m t far a → Q .normal a w) : Code.wp Tryd.prog fd10 Q a w := by
  obtain ⟨f, rfl⟩ := hfr.open_
  clear hfr
  by_cases h1 : t < 20
  · have c1 : ((rest : Int) / 16 + (t : Int)) % 64 = (((rest / 16 + t) % 64 : Nat) : Int) := by omega
    obtain ⟨j, hj⟩ : ∃ j, j = (rest / 16 + t) % 64 := ⟨_, rfl⟩
    rw [← hj] at c1
    have hj64 : j < 64 := by omega
    clear hj
    conv => arg 2; whnf
    go_wp2
    exact h _ (1 + j) (by omega) (by omega) ⟨rfl, rfl, rfl, rfl, rfl, rfl, rfl, rfl, congrArg (Value.int .i64) (by omega)⟩
  · have e1 : decide ((t : Int) < 20) = false := decide_eq_false (by omega)
    conv => arg 2; whnf
    go_wp2
    exact h _ far hfa hfb ⟨rfl, rfl, rfl, rfl, rfl, rfl, rfl, rfl, rfl⟩

theorem results_tmp2' {fn : Func} {t u : Tmp} (h : fn.results = #[.tmp t, .tmp u]) (tmps : Array Value) (P : Program) (w : World) {v v' : Value} (hv : tmps.getD t undef = v) (hv' : tmps.getD u undef = v') :
    (results fn tmps).run P w = .ok (.tuple #[v, v']) w := by
  subst hv
  subst hv'
  simp [results, h]

/-- What find gives back: none, or a copy that fits. -/
def Found (xs : Bs) (n at_ fm i far : Nat) : Prop := i = 0 ∨ (1 ≤ i ∧ i ≤ 64 ∧ at_ + i ≤ n ∧ 1 ≤ far ∧ far ≤ at_ ∧ fitsL fm i far = true ∧ Matches xs at_ far i)

/-- It returns these. -/
def RetFd (xs : Bs) (n at_ fm : Nat) (a : Act) : Prop := a.defers = [] ∧ ∃ i far : Nat, a.tmps.getD 8 undef = .int .i64 (i : Int) ∧ a.tmps.getD 9 undef = .int .i64 (far : Int) ∧ Found xs n at_ fm i far ∧ far ≤ 4294967295

set_option maxRecDepth 100000 in
set_option maxHeartbeats 1000000 in
theorem fd12_any (A : Option Addr) (n c at_ fm rest : Nat) (w : World) (Q : Exit → Act → World → Prop) (a : Act) (m t far B : Nat) (xs : Bs) (hfr : FdF A n c at_ fm rest m t far a) (hn : n ≤ 4294967295) (hat : at_ < n) (hat1 : 1 ≤ at_) (hf1 : 1 ≤ fm) (hf3 : fm ≤ 3) (hr : rest ≤ 268435455) (hm : m ≤ 64) (hfa : 1 ≤ far) (hfb : far ≤ 4294967295) (hx : Rd w B A n xs)
    (hret : ∀ a k, RetFd xs n at_ fm a → Q .ret a (w.drewN k)) (h : ∀ a k, FdL A n c at_ fm rest m t a → Q .normal a (w.drewN k)) : Code.wp Tryd.prog fd12 Q a w := by
  obtain ⟨f, rfl⟩ := hfr.open_
  clear hfr
  by_cases hle : far ≤ at_
  · have HC := hide (match_any A n c at_ far m B xs w hx hn hat hfa hle (by omega))
    clear hx
    conv => arg 2; whnf
    go_wp2_with fail
    refine HC.out.mono ?_
    rintro e w' ⟨i, k, rfl, rfl, him, hin, hmt⟩
    by_cases hi0 : i = 0
    · subst hi0
      clear hmt
      go_wp2
      first | exact ⟨rfl, rfl, rfl, rfl, rfl, rfl, rfl, rfl⟩ | exact h _ k ⟨rfl, rfl, rfl, rfl, rfl, rfl, rfl, rfl⟩
    · have hi1 : 1 ≤ i := by omega
      have e1 : decide ((0 : Int) < (i : Int)) = true := decide_eq_true (by omega)
      have HM := hide hmt
      have HF := Fits_any fm i far (w.drewN k) hf1 hf3 (by omega) (by omega)
      clear hmt hi0
      cases hfit : fitsL fm i far with
      | true =>
        rw [hfit] at HF
        replace HF := hide HF
        replace hfit := hide hfit
        go_wp2_with fail
        refine HF.out.mono ?_
        rintro e w' ⟨rfl, rfl⟩
        go_wp2
        exact hret _ k ⟨rfl, i, far, rfl, rfl, .inr ⟨hi1, by omega, hin, hfa, hle, hfit.out, HM.out⟩, hfb⟩
      | false =>
        rw [hfit] at HF
        replace HF := hide HF
        replace hfit := hide hfit
        go_wp2_with fail
        refine HF.out.mono ?_
        rintro e w' ⟨rfl, rfl⟩
        go_wp2
        first | exact ⟨rfl, rfl, rfl, rfl, rfl, rfl, rfl, rfl⟩ | exact h _ k ⟨rfl, rfl, rfl, rfl, rfl, rfl, rfl, rfl⟩
  · have e1 : decide ((far : Int) ≤ (at_ : Int)) = false := decide_eq_false (by omega)
    have hlt : at_ < far := by omega
    clear hx hle
    conv => arg 2; whnf
    go_wp2
    first | exact ⟨rfl, rfl, rfl, rfl, rfl, rfl, rfl, rfl⟩ | exact h _ 0 ⟨rfl, rfl, rfl, rfl, rfl, rfl, rfl, rfl⟩

set_option maxRecDepth 100000 in
set_option maxHeartbeats 1000000 in
theorem fd16_any (A : Option Addr) (n c at_ fm rest : Nat) (w : World) (Q : Exit → Act → World → Prop) (a : Act) (m t : Nat) (xs : Bs) (hfr : FdL A n c at_ fm rest m t a) (hn : n ≤ 4294967295) (hat : at_ < n) (hat1 : 1 ≤ at_) (hf1 : 1 ≤ fm) (hf3 : fm ≤ 3) (hr : rest ≤ 268435455) 
    (h : ∀ a, RetFd xs n at_ fm a → Q .ret a w) : Code.wp Tryd.prog fd16 Q a w := by
  obtain ⟨f, rfl⟩ := hfr.open_
  clear hfr
  conv => arg 2; whnf
  go_wp2
  first | exact ⟨rfl, 0, 0, rfl, rfl, .inl rfl, by omega⟩ | exact h _ ⟨rfl, 0, 0, rfl, rfl, .inl rfl, by omega⟩

theorem fd_loop (A : Option Addr) (n c at_ fm rest m B : Nat) (xs : Bs) (w0 : World) (k0 : Nat) (Q : Exit → Act → World → Prop) (a : Act) (hfr : FdL A n c at_ fm rest m 0 a) (hn : n ≤ 4294967295) (hat : at_ < n) (hat1 : 1 ≤ at_) (hf1 : 1 ≤ fm) (hf3 : fm ≤ 3) (hr : rest ≤ 268435455) (hm : m ≤ 64) (hx : Rd w0 B A n xs)
    (hret : ∀ a k, RetFd xs n at_ fm a → Q .ret a (w0.drewN k)) (h : ∀ a k, FdL A n c at_ fm rest m 40 a → Q (.exit 0) a (w0.drewN k)) : Code.wp Tryd.prog (.loop fdLoop) Q a w0 := by
  refine wp_loop (fun a w => ∃ t k, t ≤ 40 ∧ FdL A n c at_ fm rest m t a ∧ w = w0.drewN k) (fun a _ => match a.tmps.getD 11 undef with | .int _ k => 40 - k.toNat | _ => 0) ⟨0, 0, by omega, hfr, rfl⟩ ?_
  rintro a w ⟨t, k, ht, hf, rfl⟩
  have h11 := hf.s11
  rw [fdLoop_eq]
  by_cases ht40 : t = 40
  · subst ht40
    exact wp_seq (fd7_end A n c at_ fm rest _ _ a m hf hn hat hat1 hf1 hf3 hr (fun a' h' => h a' k h'))
  · refine wp_seq (fd7_more A n c at_ fm rest _ _ a m t hf hn hat hat1 hf1 hf3 hr (by omega) (fun a1 h1 => wp_seq (wp_block ?_)))
    refine wp_seq (fd9_any A n c at_ fm rest _ _ a1 m t h1 hn hat hat1 hf1 hf3 hr (by omega) (fun a2 far2 f1 f2 h2 => wp_seq (fd10_any A n c at_ fm rest _ _ a2 m t far2 h2 hn hat hat1 hf1 hf3 hr (by omega) f1 f2 (fun a3 far3 f3 f4 h3 => ?_))))
    refine fd12_any A n c at_ fm rest _ _ a3 m t far3 B xs h3 hn hat hat1 hf1 hf3 hr hm f3 f4 (hx.drewN k) ?_ ?_
    · intro a' q h'
      rw [drewN_add]
      exact hret a' _ h'
    · intro a' q h'
      refine fd8_any A n c at_ fm rest _ _ a' m t h' hn hat hat1 hf1 hf3 hr (by omega) (fun a4 h4 => ⟨⟨t + 1, k + q, by omega, h4, drewN_add _ _ _⟩, ?_⟩)
      rw [h4.s11, h11]
      show 40 - (((t + 1 : Nat) : Int)).toNat < 40 - ((t : Nat) : Int).toNat
      omega

set_option maxRecDepth 100000 in
set_option maxHeartbeats 1000000 in
theorem find_any (A : Option Addr) (n c at_ fm rest B : Nat) (xs : Bs) (w : World) (hx : Rd w B A n xs) (hn : n ≤ 4294967295) (hat : at_ < n) (hat1 : 1 ≤ at_) (hf1 : 1 ≤ fm) (hf3 : fm ≤ 3) (hr : rest ≤ 268435455) :
    Calls Tryd.prog 37 #[.slice A n c, .int .i64 (at_ : Int), .int .i64 (fm : Int), .int .i64 (rest : Int)] w fun e w' => ∃ (i far k : Nat), e = .returned (.tuple #[.int .i64 (i : Int), .int .i64 (far : Int)]) ∧ w' = w.drewN k ∧ Found xs n at_ fm i far ∧ far ≤ 4294967295 := by
  have fin : ∀ a k, RetFd xs n at_ fm a → bodyPost Tryd.prog Tryd.f37 (fun e w' => ∃ (i far k : Nat), e = .returned (.tuple #[.int .i64 (i : Int), .int .i64 (far : Int)]) ∧ w' = w.drewN k ∧ Found xs n at_ fm i far ∧ far ≤ 4294967295) .ret a (w.drewN k) := by
    rintro a k ⟨hd, i, far, h8, h9, hf, hfar⟩
    exact bodyPost_ret (results_tmp2' rfl _ _ _ h8 h9) hd ⟨i, far, k, rfl, rfl, hf, hfar⟩
  go_enter Tryd.func37, Tryd.ntmps37
  refine wp_seq (fd0_any A n c at_ fm rest w _ _ ⟨rfl, rfl, rfl, rfl, rfl, rfl⟩ hn hat hat1 hf1 hf3 hr (fun a1 h1 => wp_seq (fd1_any A n c at_ fm rest w _ a1 h1 hn hat hat1 hf1 hf3 hr (fun a2 h2 => wp_seq (fd2_any A n c at_ fm rest w _ a2 h2 hn hat hat1 hf1 hf3 hr (fun a3 m hm1 hm2 h3 => wp_seq (fd4_any A n c at_ fm rest w _ a3 m h3 hn hat hat1 hf1 hf3 hr hm1 hm2 (fun a4 m4 hm3 hm4 h4 => ?_))))))))
  refine wp_seq (wp_seq (fd6_any A n c at_ fm rest w _ a4 m4 h4 hn hat hat1 hf1 hf3 hr (fun a5 h5 => wp_block (fd_loop A n c at_ fm rest m4 B xs w 0 _ a5 h5 hn hat hat1 hf1 hf3 hr hm4 hx ?_ ?_))))
  · intro a' k h'
    exact fin a' k h'
  · intro a' k h'
    exact fd16_any A n c at_ fm rest _ _ a' m4 40 xs h' hn hat hat1 hf1 hf3 hr (fun a'' h'' => fin a'' k h'')


end Snap
end Go.Proofs.YtodbfgomkcmdgaaDoor

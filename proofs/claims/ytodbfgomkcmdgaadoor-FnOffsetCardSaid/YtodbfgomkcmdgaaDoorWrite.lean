/-
  spec.Write: it gives the length and a row of elements that say the text.
-/
import Derived.Test.YtodbfgomkcmdgaaDoorFind
import Derived.Test.YtodbfgomkcmdgaaDoorVarint
namespace Go.Proofs.YtodbfgomkcmdgaaDoor
open Go.RowKit
set_option linter.unusedVariables false
namespace Snap

theorem list105 (f : Nat → Value) : ((List.range 105).map f).toArray = #[f 0, f 1, f 2, f 3, f 4, f 5, f 6, f 7, f 8, f 9, f 10, f 11, f 12, f 13, f 14, f 15, f 16, f 17, f 18, f 19, f 20, f 21, f 22, f 23, f 24, f 25, f 26, f 27, f 28, f 29, f 30, f 31, f 32, f 33, f 34, f 35, f 36, f 37, f 38, f 39, f 40, f 41, f 42, f 43, f 44, f 45, f 46, f 47, f 48, f 49, f 50, f 51, f 52, f 53, f 54, f 55, f 56, f 57, f 58, f 59, f 60, f 61, f 62, f 63, f 64, f 65, f 66, f 67, f 68, f 69, f 70, f 71, f 72, f 73, f 74, f 75, f 76, f 77, f 78, f 79, f 80, f 81, f 82, f 83, f 84, f 85, f 86, f 87, f 88, f 89, f 90, f 91, f 92, f 93, f 94, f 95, f 96, f 97, f 98, f 99, f 100, f 101, f 102, f 103, f 104] := by kernel_rfl

/-- A frame of 105 slots. -/
theorem open105 (a : Act) (hs : a.tmps.size = 105) (hd : a.defers = []) : ∃ f : Nat → Value, (∀ i, f i = a.tmps.getD i undef) ∧ a = ⟨#[f 0, f 1, f 2, f 3, f 4, f 5, f 6, f 7, f 8, f 9, f 10, f 11, f 12, f 13, f 14, f 15, f 16, f 17, f 18, f 19, f 20, f 21, f 22, f 23, f 24, f 25, f 26, f 27, f 28, f 29, f 30, f 31, f 32, f 33, f 34, f 35, f 36, f 37, f 38, f 39, f 40, f 41, f 42, f 43, f 44, f 45, f 46, f 47, f 48, f 49, f 50, f 51, f 52, f 53, f 54, f 55, f 56, f 57, f 58, f 59, f 60, f 61, f 62, f 63, f 64, f 65, f 66, f 67, f 68, f 69, f 70, f 71, f 72, f 73, f 74, f 75, f 76, f 77, f 78, f 79, f 80, f 81, f 82, f 83, f 84, f 85, f 86, f 87, f 88, f 89, f 90, f 91, f 92, f 93, f 94, f 95, f 96, f 97, f 98, f 99, f 100, f 101, f 102, f 103, f 104], []⟩ := by
  refine ⟨fun i => a.tmps.getD i undef, fun _ => rfl, ?_⟩
  exact (act_slots a 105 hs hd).trans (congrArg (fun l => (⟨l, []⟩ : Act)) (list105 _))

/-- The frame at a round's head. -/
structure WrL (A H : Option Addr) (n c hn hc : Nat) (Ao : Option Addr) (ko co at_ k : Nat) (a : Act) : Prop where
  size : a.tmps.size = 105
  defers : a.defers = []
  s0 : a.tmps.getD 0 undef = .slice A n c
  s1 : a.tmps.getD 1 undef = .slice H hn hc
  s5 : a.tmps.getD 5 undef = .slice Ao ko co
  s6 : a.tmps.getD 6 undef = .int .i64 (at_ : Int)
  s7 : a.tmps.getD 7 undef = .int .i64 (k : Int)

set_option maxRecDepth 100000 in
theorem WrL.open_ {A H : Option Addr} {n c hn hc : Nat} {Ao : Option Addr} {ko co at_ k : Nat} {a : Act} (h : WrL A H n c hn hc Ao ko co at_ k a) : ∃ f : Nat → Value, a = ⟨#[.slice A n c, .slice H hn hc, f 2, f 3, f 4, .slice Ao ko co, .int .i64 (at_ : Int), .int .i64 (k : Int), f 8, f 9, f 10, f 11, f 12, f 13, f 14, f 15, f 16, f 17, f 18, f 19, f 20, f 21, f 22, f 23, f 24, f 25, f 26, f 27, f 28, f 29, f 30, f 31, f 32, f 33, f 34, f 35, f 36, f 37, f 38, f 39, f 40, f 41, f 42, f 43, f 44, f 45, f 46, f 47, f 48, f 49, f 50, f 51, f 52, f 53, f 54, f 55, f 56, f 57, f 58, f 59, f 60, f 61, f 62, f 63, f 64, f 65, f 66, f 67, f 68, f 69, f 70, f 71, f 72, f 73, f 74, f 75, f 76, f 77, f 78, f 79, f 80, f 81, f 82, f 83, f 84, f 85, f 86, f 87, f 88, f 89, f 90, f 91, f 92, f 93, f 94, f 95, f 96, f 97, f 98, f 99, f 100, f 101, f 102, f 103, f 104], []⟩ := by
  obtain ⟨f, hf, ha⟩ := open105 a h.size h.defers
  refine ⟨f, ha.trans ?_⟩
  simp only [(hf 0).trans h.s0, (hf 1).trans h.s1, (hf 5).trans h.s5, (hf 6).trans h.s6, (hf 7).trans h.s7]

/-- The frame behind the choice. -/
structure WrC (A H : Option Addr) (n c hn hc : Nat) (Ao : Option Addr) (ko co at_ k : Nat) (ch : Nat) (a : Act) : Prop where
  size : a.tmps.size = 105
  defers : a.defers = []
  s0 : a.tmps.getD 0 undef = .slice A n c
  s1 : a.tmps.getD 1 undef = .slice H hn hc
  s5 : a.tmps.getD 5 undef = .slice Ao ko co
  s6 : a.tmps.getD 6 undef = .int .i64 (at_ : Int)
  s7 : a.tmps.getD 7 undef = .int .i64 (k : Int)
  s8 : a.tmps.getD 8 undef = .int .i64 (ch : Int)

set_option maxRecDepth 100000 in
theorem WrC.open_ {A H : Option Addr} {n c hn hc : Nat} {Ao : Option Addr} {ko co at_ k : Nat} {ch : Nat} {a : Act} (h : WrC A H n c hn hc Ao ko co at_ k ch a) : ∃ f : Nat → Value, a = ⟨#[.slice A n c, .slice H hn hc, f 2, f 3, f 4, .slice Ao ko co, .int .i64 (at_ : Int), .int .i64 (k : Int), .int .i64 (ch : Int), f 9, f 10, f 11, f 12, f 13, f 14, f 15, f 16, f 17, f 18, f 19, f 20, f 21, f 22, f 23, f 24, f 25, f 26, f 27, f 28, f 29, f 30, f 31, f 32, f 33, f 34, f 35, f 36, f 37, f 38, f 39, f 40, f 41, f 42, f 43, f 44, f 45, f 46, f 47, f 48, f 49, f 50, f 51, f 52, f 53, f 54, f 55, f 56, f 57, f 58, f 59, f 60, f 61, f 62, f 63, f 64, f 65, f 66, f 67, f 68, f 69, f 70, f 71, f 72, f 73, f 74, f 75, f 76, f 77, f 78, f 79, f 80, f 81, f 82, f 83, f 84, f 85, f 86, f 87, f 88, f 89, f 90, f 91, f 92, f 93, f 94, f 95, f 96, f 97, f 98, f 99, f 100, f 101, f 102, f 103, f 104], []⟩ := by
  obtain ⟨f, hf, ha⟩ := open105 a h.size h.defers
  refine ⟨f, ha.trans ?_⟩
  simp only [(hf 0).trans h.s0, (hf 1).trans h.s1, (hf 5).trans h.s5, (hf 6).trans h.s6, (hf 7).trans h.s7, (hf 8).trans h.s8]

/-- The frame behind form and rest. -/
structure WrF (A H : Option Addr) (n c hn hc : Nat) (Ao : Option Addr) (ko co at_ k : Nat) (fm rest : Nat) (a : Act) : Prop where
  size : a.tmps.size = 105
  defers : a.defers = []
  s0 : a.tmps.getD 0 undef = .slice A n c
  s1 : a.tmps.getD 1 undef = .slice H hn hc
  s5 : a.tmps.getD 5 undef = .slice Ao ko co
  s6 : a.tmps.getD 6 undef = .int .i64 (at_ : Int)
  s7 : a.tmps.getD 7 undef = .int .i64 (k : Int)
  s9 : a.tmps.getD 9 undef = .int .i64 (fm : Int)
  s10 : a.tmps.getD 10 undef = .int .i64 (rest : Int)

set_option maxRecDepth 100000 in
theorem WrF.open_ {A H : Option Addr} {n c hn hc : Nat} {Ao : Option Addr} {ko co at_ k : Nat} {fm rest : Nat} {a : Act} (h : WrF A H n c hn hc Ao ko co at_ k fm rest a) : ∃ f : Nat → Value, a = ⟨#[.slice A n c, .slice H hn hc, f 2, f 3, f 4, .slice Ao ko co, .int .i64 (at_ : Int), .int .i64 (k : Int), f 8, .int .i64 (fm : Int), .int .i64 (rest : Int), f 11, f 12, f 13, f 14, f 15, f 16, f 17, f 18, f 19, f 20, f 21, f 22, f 23, f 24, f 25, f 26, f 27, f 28, f 29, f 30, f 31, f 32, f 33, f 34, f 35, f 36, f 37, f 38, f 39, f 40, f 41, f 42, f 43, f 44, f 45, f 46, f 47, f 48, f 49, f 50, f 51, f 52, f 53, f 54, f 55, f 56, f 57, f 58, f 59, f 60, f 61, f 62, f 63, f 64, f 65, f 66, f 67, f 68, f 69, f 70, f 71, f 72, f 73, f 74, f 75, f 76, f 77, f 78, f 79, f 80, f 81, f 82, f 83, f 84, f 85, f 86, f 87, f 88, f 89, f 90, f 91, f 92, f 93, f 94, f 95, f 96, f 97, f 98, f 99, f 100, f 101, f 102, f 103, f 104], []⟩ := by
  obtain ⟨f, hf, ha⟩ := open105 a h.size h.defers
  refine ⟨f, ha.trans ?_⟩
  simp only [(hf 0).trans h.s0, (hf 1).trans h.s1, (hf 5).trans h.s5, (hf 6).trans h.s6, (hf 7).trans h.s7, (hf 9).trans h.s9, (hf 10).trans h.s10]

/-- The frame behind the literal's length. -/
structure WrN (A H : Option Addr) (n c hn hc : Nat) (Ao : Option Addr) (ko co at_ k : Nat) (fm rest nn : Nat) (a : Act) : Prop where
  size : a.tmps.size = 105
  defers : a.defers = []
  s0 : a.tmps.getD 0 undef = .slice A n c
  s1 : a.tmps.getD 1 undef = .slice H hn hc
  s5 : a.tmps.getD 5 undef = .slice Ao ko co
  s6 : a.tmps.getD 6 undef = .int .i64 (at_ : Int)
  s7 : a.tmps.getD 7 undef = .int .i64 (k : Int)
  s9 : a.tmps.getD 9 undef = .int .i64 (fm : Int)
  s10 : a.tmps.getD 10 undef = .int .i64 (rest : Int)
  s13 : a.tmps.getD 13 undef = .int .i64 (nn : Int)

set_option maxRecDepth 100000 in
theorem WrN.open_ {A H : Option Addr} {n c hn hc : Nat} {Ao : Option Addr} {ko co at_ k : Nat} {fm rest nn : Nat} {a : Act} (h : WrN A H n c hn hc Ao ko co at_ k fm rest nn a) : ∃ f : Nat → Value, a = ⟨#[.slice A n c, .slice H hn hc, f 2, f 3, f 4, .slice Ao ko co, .int .i64 (at_ : Int), .int .i64 (k : Int), f 8, .int .i64 (fm : Int), .int .i64 (rest : Int), f 11, f 12, .int .i64 (nn : Int), f 14, f 15, f 16, f 17, f 18, f 19, f 20, f 21, f 22, f 23, f 24, f 25, f 26, f 27, f 28, f 29, f 30, f 31, f 32, f 33, f 34, f 35, f 36, f 37, f 38, f 39, f 40, f 41, f 42, f 43, f 44, f 45, f 46, f 47, f 48, f 49, f 50, f 51, f 52, f 53, f 54, f 55, f 56, f 57, f 58, f 59, f 60, f 61, f 62, f 63, f 64, f 65, f 66, f 67, f 68, f 69, f 70, f 71, f 72, f 73, f 74, f 75, f 76, f 77, f 78, f 79, f 80, f 81, f 82, f 83, f 84, f 85, f 86, f 87, f 88, f 89, f 90, f 91, f 92, f 93, f 94, f 95, f 96, f 97, f 98, f 99, f 100, f 101, f 102, f 103, f 104], []⟩ := by
  obtain ⟨f, hf, ha⟩ := open105 a h.size h.defers
  refine ⟨f, ha.trans ?_⟩
  simp only [(hf 0).trans h.s0, (hf 1).trans h.s1, (hf 5).trans h.s5, (hf 6).trans h.s6, (hf 7).trans h.s7, (hf 9).trans h.s9, (hf 10).trans h.s10, (hf 13).trans h.s13]

noncomputable def wrBody : Code := bodyOf Tryd.f19
noncomputable def wrLoop : Code := cL (cB (c1 (c2 (c2 (c2 wrBody)))))
noncomputable def wrB : Code := cB (c2 wrLoop)
noncomputable def wr3 : Code := c1 wrLoop
noncomputable def wr4 : Code := c1 wrB
noncomputable def wr5 : Code := c1 (c2 wrB)
noncomputable def wr7 : Code := c1 (c2 (c2 wrB))
noncomputable def wr8 : Code := c1 (c2 (c2 (c2 wrB)))
noncomputable def wr9 : Code := c1 (c2 (c2 (c2 (c2 wrB))))
noncomputable def wr14 : Code := c1 (c2 (c2 (c2 (c2 (c2 wrB)))))
noncomputable def wr15 : Code := c1 (c2 (c2 (c2 (c2 (c2 (c2 wrB))))))
noncomputable def wr17 : Code := c1 (c2 (c2 (c2 (c2 (c2 (c2 (c2 wrB)))))))
noncomputable def wr19 : Code := c2 (c2 (c2 (c2 (c2 (c2 (c2 (c2 wrB)))))))
noncomputable def wrRest : Code := c2 (c2 (c2 (c2 wrBody)))
theorem wrLoop_eq : wrLoop = .seq wr3 (.block 1 (.seq wr4 (.seq wr5 (.seq wr7 (.seq wr8 (.seq wr9 (.seq wr14 (.seq wr15 (.seq wr17 wr19))))))))) := by kernel_rfl

theorem mask28 (n : Int) : ∃ m : Nat, bits .and .i64 n 268435455 = (m : Int) ∧ m ≤ 268435455 := by
  have h1 : ((BitVec.ofInt 64 n) &&& (BitVec.ofInt 64 268435455)).toNat ≤ 268435455 := by
    rw [BitVec.toNat_and]
    have h2 : (BitVec.ofInt 64 268435455).toNat = 268435455 := by decide
    rw [h2]
    exact Nat.and_le_right
  refine ⟨((BitVec.ofInt 64 n) &&& (BitVec.ofInt 64 268435455)).toNat, ?_, h1⟩
  show IntKind.i64.wrap (((BitVec.ofInt 64 n) &&& (BitVec.ofInt 64 268435455)).toNat : Int) = _
  rw [IntKind.wrap_i64]
  omega

theorem litL_length_le (text : Bs) (bt : Nat) (hb : bt ≤ 4) : (litL text bt).length ≤ text.length + 5 := by
  unfold litL
  dsimp only
  have h := litM_le (n := text.length - 1) hb
  split
  · simp
  · simp [leB_length]
    omega

theorem copyL_length_le (fm n far : Nat) (h : fitsL fm n far = true) : (copyL fm n far).length ≤ 5 := by
  have hf : fm ≤ 3 := by
    unfold fitsL at h
    repeat' split at h
    all_goals simp at h
    all_goals omega
  unfold copyL
  split
  · simp
  · simp [leB_length]
    omega

set_option maxRecDepth 100000 in
set_option maxHeartbeats 1000000 in
theorem wr3_more (A H : Option Addr) (n c hn hc : Nat) (Ao : Option Addr) (ko co at_ k : Nat) (w : World) (Q : Exit → Act → World → Prop) (a : Act)  (hfr : WrL A H n c hn hc Ao ko co at_ k a) (hN : n ≤ 1000000) (hat : at_ ≤ n) (hk : k ≤ 1000000) (hhn : hn ≤ 2147483647) (hlt : at_ < n)
    (h : ∀ a, WrL A H n c hn hc Ao ko co at_ k a → Q .normal a w) : Code.wp Tryd.prog wr3 Q a w := by
  obtain ⟨f, rfl⟩ := hfr.open_
  clear hfr
  conv => arg 2; whnf
  go_wp2
  exact ⟨rfl, rfl, rfl, rfl, rfl, rfl, rfl⟩

set_option maxRecDepth 100000 in
set_option maxHeartbeats 1000000 in
theorem wr3_end (A H : Option Addr) (n c hn hc : Nat) (Ao : Option Addr) (ko co at_ k : Nat) (w : World) (Q : Exit → Act → World → Prop) (a : Act)  (hfr : WrL A H n c hn hc Ao ko co at_ k a) (hN : n ≤ 1000000) (hat : at_ ≤ n) (hk : k ≤ 1000000) (hhn : hn ≤ 2147483647) (hlt : at_ = n)
    (h : ∀ a, WrL A H n c hn hc Ao ko co at_ k a → Q (.exit 0) a w) : Code.wp Tryd.prog wr3 Q a w := by
  obtain ⟨f, rfl⟩ := hfr.open_
  clear hfr
  subst hlt
  conv => arg 2; whnf
  go_wp2
  exact ⟨rfl, rfl, rfl, rfl, rfl, rfl, rfl⟩

set_option maxRecDepth 100000 in
set_option maxHeartbeats 1000000 in
theorem wr4_any (A H : Option Addr) (n c hn hc : Nat) (Ao : Option Addr) (ko co at_ k : Nat) (w : World) (Q : Exit → Act → World → Prop) (a : Act)  (hfr : WrL A H n c hn hc Ao ko co at_ k a) (hN : n ≤ 1000000) (hat : at_ ≤ n) (hk : k ≤ 1000000) (hhn : hn ≤ 2147483647) 
    (h : ∀ a, WrC A H n c hn hc Ao ko co at_ k 0 a → Q .normal a w) : Code.wp Tryd.prog wr4 Q a w := by
  obtain ⟨f, rfl⟩ := hfr.open_
  clear hfr
  conv => arg 2; whnf
  go_wp2
  exact ⟨rfl, rfl, rfl, rfl, rfl, rfl, rfl, rfl⟩

set_option maxRecDepth 100000 in
set_option maxHeartbeats 1000000 in
theorem wr5_any (A H : Option Addr) (n c hn hc : Nat) (Ao : Option Addr) (ko co at_ k : Nat) (w : World) (Q : Exit → Act → World → Prop) (a : Act) (B : Nat) (zs : List Int) (hfr : WrC A H n c hn hc Ao ko co at_ k 0 a) (hN : n ≤ 1000000) (hat : at_ ≤ n) (hk : k ≤ 1000000) (hhn : hn ≤ 2147483647) (hz : RdI w B H hn zs)
    (h : ∀ a ch, ch ≤ 268435455 → WrC A H n c hn hc Ao ko co at_ k ch a → Q .normal a w) : Code.wp Tryd.prog wr5 Q a w := by
  obtain ⟨f, rfl⟩ := hfr.open_
  clear hfr
  by_cases h0 : hn = 0
  · subst h0
    clear hz
    conv => arg 2; whnf
    go_wp2
    exact h _ 0 (by omega) ⟨rfl, rfl, rfl, rfl, rfl, rfl, rfl, rfl⟩
  · obtain ⟨b, off, rfl, _, hc'⟩ := hz.at_ (by omega)
    obtain ⟨j, hj⟩ : ∃ j, j = k % hn := ⟨_, rfl⟩
    have hjn : j < hn := by rw [hj]; exact Nat.mod_lt _ (by omega)
    have g1 := hc' j hjn
    have r1 : (k : Int) % (hn : Int) = (j : Int) := by rw [hj]; rfl
    have r2 : (k : Int).tmod (hn : Int) = (j : Int) := by rw [Int.tmod_eq_emod_of_nonneg (by omega)]; exact r1
    have hne : ((hn : Int) == 0) = false := by rw [beq_eq_false_iff_ne]; omega
    have hp : 1 ≤ hn := by omega
    obtain ⟨m, hm, hm2⟩ := mask28 (zs.getD j 0)
    clear hz hc' hj h0
    generalize zs.getD j 0 = z at *
    conv => arg 2; whnf
    go_wp2
    exact h _ m hm2 ⟨rfl, rfl, rfl, rfl, rfl, rfl, rfl, rfl⟩

set_option maxRecDepth 100000 in
set_option maxHeartbeats 1000000 in
theorem wr7_any (A H : Option Addr) (n c hn hc : Nat) (Ao : Option Addr) (ko co at_ k : Nat) (w : World) (Q : Exit → Act → World → Prop) (a : Act) (ch : Nat) (hfr : WrC A H n c hn hc Ao ko co at_ k ch a) (hN : n ≤ 1000000) (hat : at_ ≤ n) (hk : k ≤ 1000000) (hhn : hn ≤ 2147483647) 
    (h : ∀ a, WrC A H n c hn hc Ao ko co at_ (k + 1) ch a → Q .normal a w) : Code.wp Tryd.prog wr7 Q a w := by
  obtain ⟨f, rfl⟩ := hfr.open_
  clear hfr
  conv => arg 2; whnf
  go_wp2
  exact ⟨rfl, rfl, rfl, rfl, rfl, rfl, rfl, rfl⟩

set_option maxRecDepth 100000 in
set_option maxHeartbeats 1000000 in
theorem wr8_any (A H : Option Addr) (n c hn hc : Nat) (Ao : Option Addr) (ko co at_ k : Nat) (w : World) (Q : Exit → Act → World → Prop) (a : Act) (ch : Nat) (hfr : WrC A H n c hn hc Ao ko co at_ k ch a) (hN : n ≤ 1000000) (hat : at_ ≤ n) (hk : k ≤ 1000000) (hhn : hn ≤ 2147483647) (hch : ch ≤ 268435455)
    (h : ∀ a, WrF A H n c hn hc Ao ko co at_ k (ch % 8) (ch / 8) a → Q .normal a w) : Code.wp Tryd.prog wr8 Q a w := by
  obtain ⟨f, rfl⟩ := hfr.open_
  clear hfr
  conv => arg 2; whnf
  go_wp2
  exact ⟨rfl, rfl, rfl, rfl, rfl, rfl, rfl, rfl, rfl⟩

set_option maxRecDepth 100000 in
set_option maxHeartbeats 1000000 in
theorem wr14_any (A H : Option Addr) (n c hn hc : Nat) (Ao : Option Addr) (ko co at_ k : Nat) (w : World) (Q : Exit → Act → World → Prop) (a : Act) (fm rest : Nat) (hfr : WrF A H n c hn hc Ao ko co at_ k fm rest a) (hN : n ≤ 1000000) (hat : at_ ≤ n) (hk : k ≤ 1000000) (hhn : hn ≤ 2147483647) (hr : rest ≤ 268435455)
    (h : ∀ a, WrN A H n c hn hc Ao ko co at_ k fm rest (1 + rest % 400) a → Q .normal a w) : Code.wp Tryd.prog wr14 Q a w := by
  obtain ⟨f, rfl⟩ := hfr.open_
  clear hfr
  conv => arg 2; whnf
  go_wp2
  exact ⟨rfl, rfl, rfl, rfl, rfl, rfl, rfl, rfl, rfl, rfl⟩

set_option maxRecDepth 100000 in
set_option maxHeartbeats 1000000 in
theorem wr15_any (A H : Option Addr) (n c hn hc : Nat) (Ao : Option Addr) (ko co at_ k : Nat) (w : World) (Q : Exit → Act → World → Prop) (a : Act) (fm rest nn : Nat) (hfr : WrN A H n c hn hc Ao ko co at_ k fm rest nn a) (hN : n ≤ 1000000) (hat : at_ ≤ n) (hk : k ≤ 1000000) (hhn : hn ≤ 2147483647) (hr : rest ≤ 268435455) (hlt : at_ < n) (hnn : 1 ≤ nn) (hnn2 : nn ≤ 400)
    (h : ∀ a nn, 1 ≤ nn → at_ + nn ≤ n → WrN A H n c hn hc Ao ko co at_ k fm rest nn a → Q .normal a w) : Code.wp Tryd.prog wr15 Q a w := by
  obtain ⟨f, rfl⟩ := hfr.open_
  clear hfr
  by_cases h1 : rest % 5 = 0
  · have e1 : ((rest : Int) % 5 == 0) = true := by rw [beq_iff_eq]; omega
    conv => arg 2; whnf
    go_wp2
    exact h _ (n - at_) (by omega) (by omega) ⟨rfl, rfl, rfl, rfl, rfl, rfl, rfl, rfl, rfl, congrArg (Value.int .i64) (by omega)⟩
  · have e1 : ((rest : Int) % 5 == 0) = false := by rw [beq_eq_false_iff_ne]; omega
    by_cases h2 : n - at_ < nn
    · have e2 : decide ((n : Int) - (at_ : Int) < (nn : Int)) = true := decide_eq_true (by omega)
      clear h1
      conv => arg 2; whnf
      go_wp2
      exact h _ (n - at_) (by omega) (by omega) ⟨rfl, rfl, rfl, rfl, rfl, rfl, rfl, rfl, rfl, congrArg (Value.int .i64) (by omega)⟩
    · have e2 : decide ((n : Int) - (at_ : Int) < (nn : Int)) = false := decide_eq_false (by omega)
      clear h1
      conv => arg 2; whnf
      go_wp2
      exact h _ nn hnn (by omega) ⟨rfl, rfl, rfl, rfl, rfl, rfl, rfl, rfl, rfl, rfl⟩

set_option maxRecDepth 100000 in
set_option maxHeartbeats 1000000 in
theorem wr17_any (A H : Option Addr) (n c hn hc : Nat) (Ao : Option Addr) (ko co at_ k : Nat) (w : World) (Q : Exit → Act → World → Prop) (a : Act) (fm rest nn : Nat) (hfr : WrN A H n c hn hc Ao ko co at_ k fm rest nn a) (hN : n ≤ 1000000) (hat : at_ ≤ n) (hk : k ≤ 1000000) (hhn : hn ≤ 2147483647) (hr : rest ≤ 268435455) (hnn : 1 ≤ nn) (hnn2 : at_ + nn ≤ n)
    (h : ∀ a nn, 1 ≤ nn → at_ + nn ≤ n → WrN A H n c hn hc Ao ko co at_ k fm rest nn a → Q .normal a w) : Code.wp Tryd.prog wr17 Q a w := by
  obtain ⟨f, rfl⟩ := hfr.open_
  clear hfr
  by_cases h1 : rest % 7 = 3
  · have e1 : ((rest : Int) % 7 == 3) = true := by rw [beq_iff_eq]; omega
    by_cases h2 : 60 < nn
    · have e2 : decide ((60 : Int) < (nn : Int)) = true := decide_eq_true (by omega)
      clear h1
      conv => arg 2; whnf
      go_wp2
      exact h _ 60 (by omega) (by omega) ⟨rfl, rfl, rfl, rfl, rfl, rfl, rfl, rfl, rfl, rfl⟩
    · have e2 : decide ((60 : Int) < (nn : Int)) = false := decide_eq_false (by omega)
      clear h1
      conv => arg 2; whnf
      go_wp2
      exact h _ nn hnn hnn2 ⟨rfl, rfl, rfl, rfl, rfl, rfl, rfl, rfl, rfl, rfl⟩
  · have e1 : ((rest : Int) % 7 == 3) = false := by rw [beq_eq_false_iff_ne]; omega
    clear h1
    conv => arg 2; whnf
    go_wp2
    exact h _ nn hnn hnn2 ⟨rfl, rfl, rfl, rfl, rfl, rfl, rfl, rfl, rfl, rfl⟩

set_option maxRecDepth 100000 in
set_option maxHeartbeats 1000000 in
theorem wr19_any (A H : Option Addr) (n c hn hc : Nat) (Ao : Option Addr) (ko co at_ k : Nat) (w : World) (Q : Exit → Act → World → Prop) (a : Act) (fm rest nn : Nat) (base B : Nat) (w0 : World) (xs out : Bs) (hko : out.length = ko) (hkb : ko ≤ 7000000) (hx : Rd w B A n xs) (hB : B ≤ base) (hbw : base ≤ w0.heap.size) (hown : Own w base (.slice Ao ko co) out) (hbel : Below base w0 w) (hnc : n ≤ c) (hfr : WrN A H n c hn hc Ao ko co at_ k fm rest nn a) (hN : n ≤ 1000000) (hat : at_ ≤ n) (hk : k ≤ 1000000) (hhn : hn ≤ 2147483647) (hfm : fm < 8) (hnn : 1 ≤ nn) (hnn2 : at_ + nn ≤ n)
    (h : ∀ a w Ao ko co, WrL A H n c hn hc Ao ko co (at_ + nn) k a → Own w base (.slice Ao ko co) (out ++ litL ((xs.drop at_).take nn) (fm % 5)) → ko = (out ++ litL ((xs.drop at_).take nn) (fm % 5)).length → Below base w0 w → Q .normal a w) : Code.wp Tryd.prog wr19 Q a w := by
  obtain ⟨f, rfl⟩ := hfr.open_
  clear hfr
  obtain ⟨j, rfl⟩ : ∃ j, nn = j + 1 := ⟨nn - 1, by omega⟩
  have hsz := hbel.size
  have hsl := run_cut_lh A n c (at_ : Int) ((at_ : Int) + ((j : Int) + 1)) at_ (at_ + (j + 1)) (by omega) (by omega) (by omega) (by omega) (by omega)
  rw [show at_ + (j + 1) - at_ = j + 1 from by omega] at hsl
  have hcut := (hx.cut (k := at_) (cap := c) (by omega) hnc).take (k := j + 1) (by omega)
  have c5 : (fm : Int) % 5 = ((fm % 5 : Nat) : Int) := by omega
  obtain ⟨bt, hbt⟩ : ∃ bt, bt = fm % 5 := ⟨_, rfl⟩
  rw [← hbt] at c5
  have hbt4 : bt ≤ 4 := by omega
  have hlit := Literal_any (cutA A c at_) j (c - at_) bt B ((xs.drop at_).take (j + 1)) w hcut (by omega) (by omega) hbt4
  have hll := litL_length_le ((xs.drop at_).take (j + 1)) bt hbt4
  have hcl := hcut.len
  rw [hcl] at hll
  rw [← hbt] at h
  have HC := hide hlit
  have HK := hide hko
  have HO := hide hown
  have HB := hide hbel
  have HL := hide hll
  have H1 := hide h
  clear hlit hko hown hbel hx hcut hbt hll hcl h
  generalize litL ((xs.drop at_).take (j + 1)) bt = el at *
  conv => arg 2; whnf
  go_wp2_with fail
  refine HC.out.mono ?_
  rintro e w1 ⟨v1, rfl, ho1, hb1⟩
  have hz1 := hb1.size
  obtain ⟨A1, c1, rfl, _, _, hr1, _⟩ := ho1.form
  have HR := hide hr1
  have HO1 := hide (HO.out.kept hb1)
  have HB1 := hide (HB.out.trans (hb1.mono (by omega)))
  clear ho1 hb1 hr1
  go_wp2_with (at_builtin; refine append_own rfl (.tmp 90) (.tmp 99) rfl base w0 (.slice Ao ko co) out rfl HO1.out HB1.out w1.heap.size A1 el.length c1 el rfl HR.out (by rw [HK.out]; have := HL.out; omega) (by omega) ?_; intro v' w2 hown2 hgrow2 hbel2)
  obtain ⟨A2, c2, rfl, _, _, _, _⟩ := hown2.form
  have HO2 := hide hown2
  have HB2 := hide hbel2
  clear hown2 hgrow2 hbel2
  have HLEN := hide (show (out ++ el).length = (out ++ el).length from rfl)
  generalize hg : (out ++ el).length = kk at *
  clear hg
  go_wp2
  exact H1.out _ _ _ _ _ ⟨rfl, rfl, rfl, rfl, rfl, rfl, rfl⟩ HO2.out rfl HB2.out

set_option maxRecDepth 100000 in
set_option maxHeartbeats 1000000 in
theorem wr9_no (A H : Option Addr) (n c hn hc : Nat) (Ao : Option Addr) (ko co at_ k : Nat) (w : World) (Q : Exit → Act → World → Prop) (a : Act) (fm rest : Nat) (hfr : WrF A H n c hn hc Ao ko co at_ k fm rest a) (hN : n ≤ 1000000) (hat : at_ ≤ n) (hk : k ≤ 1000000) (hhn : hn ≤ 2147483647) (hno : fm ≤ 4 ∨ at_ = 0) (hfm : fm < 8) (h : ∀ a, WrF A H n c hn hc Ao ko co at_ k fm rest a → Q .normal a w) : Code.wp Tryd.prog wr9 Q a w := by
  obtain ⟨f, rfl⟩ := hfr.open_
  clear hfr
  by_cases h1 : 4 < fm
  · obtain rfl : at_ = 0 := by omega
    have e1 : decide ((4 : Int) < (fm : Int)) = true := decide_eq_true (by omega)
    clear hno
    conv => arg 2; whnf
    go_wp2
    exact ⟨rfl, rfl, rfl, rfl, rfl, rfl, rfl, rfl, rfl⟩
  · have e1 : decide ((4 : Int) < (fm : Int)) = false := decide_eq_false (by omega)
    clear hno h1
    conv => arg 2; whnf
    go_wp2
    exact ⟨rfl, rfl, rfl, rfl, rfl, rfl, rfl, rfl, rfl⟩

set_option maxRecDepth 100000 in
set_option maxHeartbeats 1000000 in
theorem wr9_try (A H : Option Addr) (n c hn hc : Nat) (Ao : Option Addr) (ko co at_ k : Nat) (w : World) (Q : Exit → Act → World → Prop) (a : Act) (fm rest : Nat) (base B : Nat) (w0 : World) (xs out : Bs) (hko : out.length = ko) (hkb : ko ≤ 7000000) (hx : Rd w B A n xs) (hB : B ≤ base) (hbw : base ≤ w0.heap.size) (hown : Own w base (.slice Ao ko co) out) (hbel : Below base w0 w) (hnc : n ≤ c) (hfr : WrF A H n c hn hc Ao ko co at_ k fm rest a) (hN : n ≤ 1000000) (hat : at_ ≤ n) (hk : k ≤ 1000000) (hhn : hn ≤ 2147483647) (hfm : fm < 8) (hfm4 : 4 < fm) (hat1 : 1 ≤ at_) (hlt : at_ < n) (hr : rest ≤ 268435455)
    (hno : ∀ a q, WrF A H n c hn hc Ao ko co at_ k fm rest a → Q .normal a (w.drewN q))
    (hok : ∀ a w' Ao ko co i far, 1 ≤ i → at_ + i ≤ n → 1 ≤ far → far ≤ at_ → fitsL (fm - 4) i far = true → Matches xs at_ far i → WrL A H n c hn hc Ao ko co (at_ + i) k a → Own w' base (.slice Ao ko co) (out ++ copyL (fm - 4) i far) → ko = (out ++ copyL (fm - 4) i far).length → Below base w0 w' → Q (.exit 1) a w') : Code.wp Tryd.prog wr9 Q a w := by
  obtain ⟨f, rfl⟩ := hfr.open_
  clear hfr
  obtain ⟨m, rfl⟩ : ∃ m, fm = m + 4 := ⟨fm - 4, by omega⟩
  have hm1 : 1 ≤ m := by omega
  have hm3 : m ≤ 3 := by omega
  have hsz := hbel.size
  have HC := hide (find_any A n c at_ m rest B xs w hx (by omega) hlt hat1 hm1 hm3 hr)
  have e1 : decide ((4 : Int) < ((m + 4 : Nat) : Int)) = true := decide_eq_true (by omega)
  have e1' : decide ((4 : Int) < (m : Int) + 4) = true := decide_eq_true (by omega)
  have e2 : decide ((0 : Int) < (at_ : Int)) = true := decide_eq_true (by omega)
  have HK := hide hko
  have HO := hide hown
  have HB := hide hbel
  rw [show m + 4 - 4 = m from by omega] at hok
  have H1 := hide hok
  clear hko hown hbel hx hok hfm hfm4
  conv => arg 2; whnf
  go_wp2_with fail
  refine HC.out.mono ?_
  rintro e w1 ⟨i, far, q, rfl, rfl, hfound, hfl⟩
  by_cases hi0 : i = 0
  · subst hi0
    clear hfound
    go_wp2
    first | exact hno _ q ⟨rfl, rfl, rfl, rfl, rfl, rfl, rfl, rfl, rfl⟩ | exact ⟨rfl, rfl, rfl, rfl, rfl, rfl, rfl, rfl, rfl⟩
  · rcases hfound with h | ⟨hi1, hi64, hin, hf1, hf2, hfit, hmt⟩
    · exact absurd h hi0
    · have e3 : decide ((0 : Int) < (i : Int)) = true := decide_eq_true (by omega)
      have HC2 := hide (Copy_any m i far (w.drewN q) hfit)
      have hcl := copyL_length_le m i far hfit
      have HL := hide hcl
      have H2 := hide (H1.out · · · · · i far hi1 hin hf1 hf2 hfit hmt)
      have HOq := hide (show Own (w.drewN q) base (.slice Ao ko co) out from HO.out)
      have HBq := hide (Below.drewN HB.out q)
      clear hfit hmt hcl hi0 H1 HO HB
      generalize copyL m i far = el at *
      go_wp2_with fail
      refine HC2.out.mono ?_
      rintro e w1 ⟨v1, rfl, ho1, hb1⟩
      have hz1 := hb1.size
      have hz0 : (w.drewN q).heap.size = w.heap.size := rfl
      obtain ⟨A1, c1, rfl, _, _, hr1, _⟩ := ho1.form
      have HR := hide hr1
      have HO1 := hide (HOq.out.kept hb1)
      have HB1 := hide (HBq.out.trans (hb1.mono (by omega)))
      clear ho1 hb1 hr1
      go_wp2_with (at_builtin; refine append_own rfl (.tmp 55) (.tmp 60) rfl base w0 (.slice Ao ko co) out rfl HO1.out HB1.out w1.heap.size A1 el.length c1 el rfl HR.out (by rw [HK.out]; have := HL.out; omega) (by omega) ?_; intro v' w2 hown2 hgrow2 hbel2)
      obtain ⟨A2, c2, rfl, _, _, _, _⟩ := hown2.form
      have HO2 := hide hown2
      have HB2 := hide hbel2
      clear hown2 hgrow2 hbel2
      generalize hg : (out ++ el).length = kk at *
      clear hg
      go_wp2
      exact H2.out _ _ _ _ _ ⟨rfl, rfl, rfl, rfl, rfl, rfl, rfl⟩ HO2.out rfl HB2.out

/-- What is known of the block so far. -/
def Written (xs : Bs) (at_ : Nat) (out : Bs) : Prop := ∃ body, out = varL xs.length ++ body ∧ Chain [] body (xs.take at_) ∧ body.length ≤ 6 * at_

theorem Written.lit {xs out : Bs} {at_ nn bt : Nat} (h : Written xs at_ out) (hnn : 1 ≤ nn) (hl : at_ + nn ≤ xs.length) (hb : bt ≤ 4) (hx : xs.length ≤ 1000000) : Written xs (at_ + nn) (out ++ litL ((xs.drop at_).take nn) bt) := by
  obtain ⟨body, rfl, hc, hlen⟩ := h
  have htl : ((xs.drop at_).take nn).length = nn := by rw [List.length_take, List.length_drop]; omega
  have he := elem_lit (xs.take at_) ((xs.drop at_).take nn) bt (by omega) (by omega) hb
  rw [← List.take_add] at he
  have hll := litL_length_le ((xs.drop at_).take nn) bt hb
  exact ⟨body ++ litL ((xs.drop at_).take nn) bt, List.append_assoc _ _ _, hc.snoc he, by rw [List.length_append]; omega⟩

theorem Written.copy {xs out : Bs} {at_ i fm far : Nat} (h : Written xs at_ out) (hi : 1 ≤ i) (hl : at_ + i ≤ xs.length) (h1 : 1 ≤ far) (h2 : far ≤ at_) (hfit : fitsL fm i far = true) (hm : Matches xs at_ far i) : Written xs (at_ + i) (out ++ copyL fm i far) := by
  obtain ⟨body, rfl, hc, hlen⟩ := h
  have he := elem_copy (out := xs.take at_) hfit h1 (by rw [List.length_take]; omega)
  rw [copyOut_take xs far h1 i at_ h2 hl hm] at he
  have hll := copyL_length_le fm i far hfit
  exact ⟨body ++ copyL fm i far, List.append_assoc _ _ _, hc.snoc he, by rw [List.length_append]; omega⟩

theorem Written.length {xs out : Bs} {at_ : Nat} (h : Written xs at_ out) (hx : xs.length ≤ 1000000) (hat : at_ ≤ 1000000) : out.length ≤ 6000005 := by
  obtain ⟨body, rfl, _, hl⟩ := h
  have := varL_length_le xs.length (by omega)
  rw [List.length_append]
  omega

theorem wr_round (A H : Option Addr) (n c hn hc : Nat) (Ao : Option Addr) (ko co at_ k : Nat) (w : World) (Q : Exit → Act → World → Prop) (a : Act) (base B Bz : Nat) (w0 : World) (xs out : Bs) (zs : List Int) (hfr : WrL A H n c hn hc Ao ko co at_ k a) (hN : n ≤ 1000000) (hat : at_ ≤ n) (hk : k ≤ 1000000) (hhn : hn ≤ 2147483647) (hko : out.length = ko) (hx : Rd w0 B A n xs) (hz : RdI w0 Bz H hn zs) (hB : B ≤ base) (hBz : Bz ≤ base) (hbw : base ≤ w0.heap.size) (hown : Own w base (.slice Ao ko co) out) (hbel : Below base w0 w) (hnc : n ≤ c)
    (hlt : at_ < n) (hka : k ≤ at_) (hw : Written xs at_ out)
    (hok : ∀ a w' Ao ko co at' out', at_ < at' → at' ≤ n → WrL A H n c hn hc Ao ko co at' (k + 1) a → Own w' base (.slice Ao ko co) out' → out'.length = ko → Written xs at' out' → Below base w0 w' → Q .normal a w') : Code.wp Tryd.prog wrLoop Q a w := by
  have hl := hx.len
  have hkb := hw.length (by omega) (by omega)
  have hxw : Rd w B A n xs := hx.keep (fun b hb => hbel.block b (by omega))
  have hzw : RdI w Bz H hn zs := hz.keep (fun b hb => hbel.block b (by omega))
  rw [wrLoop_eq]
  refine wp_seq (wr3_more A H n c hn hc Ao ko co at_ k w _ a hfr hN hat hk hhn hlt (fun a1 h1 => wp_block ?_))
  refine wp_seq (wr4_any A H n c hn hc Ao ko co at_ k w _ a1 h1 hN hat hk hhn (fun a2 h2 => ?_))
  refine wp_seq (wr5_any A H n c hn hc Ao ko co at_ k w _ a2 Bz zs h2 hN hat hk hhn hzw (fun a3 ch hch h3 => ?_))
  refine wp_seq (wr7_any A H n c hn hc Ao ko co at_ k w _ a3 ch h3 hN hat hk hhn (fun a4 h4 => ?_))
  refine wp_seq (wr8_any A H n c hn hc Ao ko co at_ (k + 1) w _ a4 ch h4 hN hat (by omega) hhn hch (fun a5 h5 => ?_))
  have lit : ∀ a w', WrF A H n c hn hc Ao ko co at_ (k + 1) (ch % 8) (ch / 8) a → Rd w' B A n xs → Own w' base (.slice Ao ko co) out → Below base w0 w' → Code.wp Tryd.prog (.seq wr14 (.seq wr15 (.seq wr17 wr19))) (Exit.inBlock 1 Q) a w' := by
    intro a w' hf hx' ho' hb'
    refine wp_seq (wr14_any A H n c hn hc Ao ko co at_ (k + 1) w' _ a (ch % 8) (ch / 8) hf hN hat (by omega) hhn (by omega) (fun b1 g1 => ?_))
    refine wp_seq (wr15_any A H n c hn hc Ao ko co at_ (k + 1) w' _ b1 (ch % 8) (ch / 8) _ g1 hN hat (by omega) hhn (by omega) hlt (by omega) (by omega) (fun b2 n2 hn1 hn2 g2 => ?_))
    refine wp_seq (wr17_any A H n c hn hc Ao ko co at_ (k + 1) w' _ b2 (ch % 8) (ch / 8) n2 g2 hN hat (by omega) hhn (by omega) hn1 hn2 (fun b3 n3 hn3 hn4 g3 => ?_))
    refine wr19_any A H n c hn hc Ao ko co at_ (k + 1) w' _ b3 (ch % 8) (ch / 8) n3 base B w0 xs out hko (by omega) hx' hB hbw ho' hb' hnc g3 hN hat (by omega) hhn (by omega) hn3 hn4 ?_
    intro a' w2 Ao2 ko2 co2 hf2 ho2 hk2 hb2
    exact hok a' w2 Ao2 ko2 co2 _ _ (by omega) hn4 hf2 ho2 hk2.symm (hw.lit hn3 (by omega) (by omega) (by omega)) hb2
  by_cases hc9 : ch % 8 ≤ 4 ∨ at_ = 0
  · exact wp_seq (wr9_no A H n c hn hc Ao ko co at_ (k + 1) w _ a5 _ _ h5 hN hat (by omega) hhn hc9 (by omega) (fun a6 h6 => lit a6 w h6 hxw hown hbel))
  · refine wp_seq (wr9_try A H n c hn hc Ao ko co at_ (k + 1) w _ a5 _ _ base B w0 xs out hko (by omega) hxw hB hbw hown hbel hnc h5 hN hat (by omega) hhn (by omega) (by omega) (by omega) hlt (by omega) ?_ ?_)
    · intro a6 q h6
      exact lit a6 (w.drewN q) h6 (hxw.drewN q) hown (Below.drewN hbel q)
    · intro a6 w2 Ao2 ko2 co2 i far hi1 hin hf1 hf2 hfit hmt h6 ho2 hk2 hb2
      exact hok a6 w2 Ao2 ko2 co2 _ _ (by omega) hin h6 ho2 hk2.symm (hw.copy hi1 (by omega) hf1 hf2 hfit hmt) hb2

/-- What spec.Write gives back. -/
def GivesBlock (w : World) (xs : Bs) (e : Ending) (w' : World) : Prop := ∃ v out, e = .returned v ∧ Own w' w.heap.size v out ∧ Written xs xs.length out ∧ Below w.heap.size w w'

set_option maxRecDepth 100000 in
set_option maxHeartbeats 1000000 in
theorem Write_any (A H : Option Addr) (n c hn hc B Bz : Nat) (xs : Bs) (zs : List Int) (w : World) (hx : Rd w B A n xs) (hz : RdI w Bz H hn zs) (hB : B ≤ w.heap.size) (hBz : Bz ≤ w.heap.size) (hN : n ≤ 1000000) (hnc : n ≤ c) (hhn : hn ≤ 2147483647) :
    Calls Tryd.prog 19 #[.slice A n c, .slice H hn hc] w (GivesBlock w xs) := by
  have hl := hx.len
  have HX := hide hx
  have HZ := hide hz
  have HL := hide hl
  have HV := hide (Varint_any n (by omega) w)
  have HVL := hide (show (varL n).length = (varL n).length from rfl)
  clear hx hz hl HVL
  generalize hvl : (varL n).length = vl at *
  have HVL := hide hvl
  clear hvl
  go_enter Tryd.func19, Tryd.ntmps19
  go_wp2_with fail
  refine HV.out.mono ?_
  rintro e w1 ⟨v1, rfl, ho1, hb1⟩
  obtain ⟨A1, c1, rfl, _, _, _, _⟩ := ho1.form
  rw [HVL.out] at ho1 ⊢
  have HO1 := hide ho1
  have HB1 := hide hb1
  clear ho1 hb1
  go_wp2_with fail
  rename_i K hK
  refine wp_loop (fun a w' => ∃ at_ k Ao ko co out, at_ ≤ n ∧ k ≤ at_ ∧ WrL A H n c hn hc Ao ko co at_ k a ∧ Own w' w.heap.size (.slice Ao ko co) out ∧ out.length = ko ∧ Written xs at_ out ∧ Below w.heap.size w w') (fun a _ => match a.tmps.getD 6 undef with | .int _ k => n - k.toNat | _ => 0)
    ⟨0, 0, A1, vl, c1, varL n, Nat.zero_le _, Nat.le_refl _, ⟨rfl, rfl, rfl, rfl, rfl, rfl, rfl⟩, HO1.out, HVL.out, ⟨[], by rw [HL.out]; simp, by simpa using Chain.nil [], by simp⟩, HB1.out⟩ ?_
  rintro a w' ⟨at_, k, Ao, ko, co, out, hat, hk, hf, ho, hko, hw, hb⟩
  have h6 := hf.s6
  by_cases hlt : at_ = n
  · show Code.wp _ wrLoop _ _ _
    rw [wrLoop_eq]
    refine wp_seq (wr3_end A H n c hn hc Ao ko co at_ k w' _ a hf hN hat (by omega) hhn hlt (fun a1 h1 => ?_))
    obtain ⟨f1, rfl⟩ := h1.open_
    refine hK _ _ ?_
    have hw' : Written xs xs.length out := by rw [HL.out, ← hlt]; exact hw
    have HO := hide ho
    have HB := hide hb
    have HW := hide hw'
    clear ho hb hw hw' h1 h6 hf hko
    go_wp2
    go_ret
    exact ⟨_, out, rfl, HO.out, HW.out, HB.out⟩
  · refine wr_round A H n c hn hc Ao ko co at_ k w' _ a w.heap.size B Bz w xs out zs hf hN hat (by omega) hhn hko HX.out HZ.out hB hBz (Nat.le_refl _) ho hb hnc (by omega) hk hw ?_
    intro a1 w2 Ao2 ko2 co2 at2 out2 hlt2 hat2 hf2 ho2 hk2 hw2 hb2
    refine ⟨⟨at2, k + 1, Ao2, ko2, co2, out2, hat2, by omega, hf2, ho2, hk2, hw2, hb2⟩, ?_⟩
    rw [hf2.s6, h6]
    show n - ((at2 : Nat) : Int).toNat < n - ((at_ : Nat) : Int).toNat
    omega

end Snap
end Go.Proofs.YtodbfgomkcmdgaaDoor

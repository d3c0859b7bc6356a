/-
  spec.Literal: it gives the bytes 'litL'.
-/
import Derived.Test.YtodbfgomkcmdgaaDoorFrame
import Derived.Test.YtodbfgomkcmdgaaDoorSteps
namespace Go.Proofs.YtodbfgomkcmdgaaDoor
open Go.RowKit
set_option linter.unusedVariables false
namespace Snap

theorem list68 (f : Nat → Value) : ((List.range 68).map f).toArray = #[f 0, f 1, f 2, f 3, f 4, f 5, f 6, f 7, f 8, f 9, f 10, f 11, f 12, f 13, f 14, f 15, f 16, f 17, f 18, f 19, f 20, f 21, f 22, f 23, f 24, f 25, f 26, f 27, f 28, f 29, f 30, f 31, f 32, f 33, f 34, f 35, f 36, f 37, f 38, f 39, f 40, f 41, f 42, f 43, f 44, f 45, f 46, f 47, f 48, f 49, f 50, f 51, f 52, f 53, f 54, f 55, f 56, f 57, f 58, f 59, f 60, f 61, f 62, f 63, f 64, f 65, f 66, f 67] := by kernel_rfl

/-- A frame of 68 slots. -/
theorem open68 (a : Act) (hs : a.tmps.size = 68) (hd : a.defers = []) : ∃ f : Nat → Value, (∀ i, f i = a.tmps.getD i undef) ∧ a = ⟨#[f 0, f 1, f 2, f 3, f 4, f 5, f 6, f 7, f 8, f 9, f 10, f 11, f 12, f 13, f 14, f 15, f 16, f 17, f 18, f 19, f 20, f 21, f 22, f 23, f 24, f 25, f 26, f 27, f 28, f 29, f 30, f 31, f 32, f 33, f 34, f 35, f 36, f 37, f 38, f 39, f 40, f 41, f 42, f 43, f 44, f 45, f 46, f 47, f 48, f 49, f 50, f 51, f 52, f 53, f 54, f 55, f 56, f 57, f 58, f 59, f 60, f 61, f 62, f 63, f 64, f 65, f 66, f 67], []⟩ := by
  refine ⟨fun i => a.tmps.getD i undef, fun _ => rfl, ?_⟩
  exact (act_slots a 68 hs hd).trans (congrArg (fun l => (⟨l, []⟩ : Act)) (list68 _))

/-- The frame at the start. -/
structure LsFr (A : Option Addr) (k c bt : Nat) (a : Act) : Prop where
  size : a.tmps.size = 68
  defers : a.defers = []
  s0 : a.tmps.getD 0 undef = .slice A (k + 1) c
  s1 : a.tmps.getD 1 undef = .int .i64 (bt : Int)

set_option maxRecDepth 100000 in
theorem LsFr.open_ {A : Option Addr} {k c bt : Nat} {a : Act} (h : LsFr A k c bt a) : ∃ f : Nat → Value, a = ⟨#[.slice A (k + 1) c, .int .i64 (bt : Int), f 2, f 3, f 4, f 5, f 6, f 7, f 8, f 9, f 10, f 11, f 12, f 13, f 14, f 15, f 16, f 17, f 18, f 19, f 20, f 21, f 22, f 23, f 24, f 25, f 26, f 27, f 28, f 29, f 30, f 31, f 32, f 33, f 34, f 35, f 36, f 37, f 38, f 39, f 40, f 41, f 42, f 43, f 44, f 45, f 46, f 47, f 48, f 49, f 50, f 51, f 52, f 53, f 54, f 55, f 56, f 57, f 58, f 59, f 60, f 61, f 62, f 63, f 64, f 65, f 66, f 67], []⟩ := by
  obtain ⟨f, hf, ha⟩ := open68 a h.size h.defers
  refine ⟨f, ha.trans ?_⟩
  simp only [(hf 0).trans h.s0, (hf 1).trans h.s1]

/-- The frame ahead of the number of bytes. -/
structure LtFr (A : Option Addr) (k c bt : Nat) (a : Act) : Prop where
  size : a.tmps.size = 68
  defers : a.defers = []
  s0 : a.tmps.getD 0 undef = .slice A (k + 1) c
  s1 : a.tmps.getD 1 undef = .int .i64 (bt : Int)
  s5 : a.tmps.getD 5 undef = .int .i64 (k : Int)

set_option maxRecDepth 100000 in
theorem LtFr.open_ {A : Option Addr} {k c bt : Nat} {a : Act} (h : LtFr A k c bt a) : ∃ f : Nat → Value, a = ⟨#[.slice A (k + 1) c, .int .i64 (bt : Int), f 2, f 3, f 4, .int .i64 (k : Int), f 6, f 7, f 8, f 9, f 10, f 11, f 12, f 13, f 14, f 15, f 16, f 17, f 18, f 19, f 20, f 21, f 22, f 23, f 24, f 25, f 26, f 27, f 28, f 29, f 30, f 31, f 32, f 33, f 34, f 35, f 36, f 37, f 38, f 39, f 40, f 41, f 42, f 43, f 44, f 45, f 46, f 47, f 48, f 49, f 50, f 51, f 52, f 53, f 54, f 55, f 56, f 57, f 58, f 59, f 60, f 61, f 62, f 63, f 64, f 65, f 66, f 67], []⟩ := by
  obtain ⟨f, hf, ha⟩ := open68 a h.size h.defers
  refine ⟨f, ha.trans ?_⟩
  simp only [(hf 0).trans h.s0, (hf 1).trans h.s1, (hf 5).trans h.s5]

/-- The frame at the loop's head. -/
structure LlFr (A : Option Addr) (k c m q : Nat) (Ao : Option Addr) (ko co i : Nat) (a : Act) : Prop where
  size : a.tmps.size = 68
  defers : a.defers = []
  s0 : a.tmps.getD 0 undef = .slice A (k + 1) c
  s1 : a.tmps.getD 1 undef = .int .i64 (m : Int)
  s5 : a.tmps.getD 5 undef = .int .i64 (q : Int)
  s6 : a.tmps.getD 6 undef = .slice Ao ko co
  s7 : a.tmps.getD 7 undef = .int .i64 (i : Int)

set_option maxRecDepth 100000 in
theorem LlFr.open_ {A : Option Addr} {k c m q : Nat} {Ao : Option Addr} {ko co i : Nat} {a : Act} (h : LlFr A k c m q Ao ko co i a) : ∃ f : Nat → Value, a = ⟨#[.slice A (k + 1) c, .int .i64 (m : Int), f 2, f 3, f 4, .int .i64 (q : Int), .slice Ao ko co, .int .i64 (i : Int), f 8, f 9, f 10, f 11, f 12, f 13, f 14, f 15, f 16, f 17, f 18, f 19, f 20, f 21, f 22, f 23, f 24, f 25, f 26, f 27, f 28, f 29, f 30, f 31, f 32, f 33, f 34, f 35, f 36, f 37, f 38, f 39, f 40, f 41, f 42, f 43, f 44, f 45, f 46, f 47, f 48, f 49, f 50, f 51, f 52, f 53, f 54, f 55, f 56, f 57, f 58, f 59, f 60, f 61, f 62, f 63, f 64, f 65, f 66, f 67], []⟩ := by
  obtain ⟨f, hf, ha⟩ := open68 a h.size h.defers
  refine ⟨f, ha.trans ?_⟩
  simp only [(hf 0).trans h.s0, (hf 1).trans h.s1, (hf 5).trans h.s5, (hf 6).trans h.s6, (hf 7).trans h.s7]

noncomputable def ltBody : Code := bodyOf Tryd.f28
noncomputable def ltR0 : Code := c1 ltBody
noncomputable def ltR1 : Code := c1 (c2 ltBody)
noncomputable def ltX2 : Code := c1 (c2 (c2 ltBody))
noncomputable def lt2 : Code := c2 (c2 (c2 ltBody))
noncomputable def ltX4 : Code := c1 lt2
noncomputable def ltX8 : Code := c1 (c2 lt2)
noncomputable def ltX10 : Code := c1 (c2 (c2 lt2))
noncomputable def lt12 : Code := c2 (c2 (c2 lt2))
noncomputable def ltLoop : Code := cL (cB (c2 (c1 (c2 lt12))))
noncomputable def lt18 : Code := c2 (c2 lt12)
theorem lt2_eq : lt2 = .seq ltX4 (.seq ltX8 (.seq ltX10 lt12)) := by kernel_rfl

theorem results_tmp1' {fn : Func} {t : Tmp} (h : fn.results = #[.tmp t]) (tmps : Array Value) (P : Program) (w : World) {v : Value} (hv : tmps.getD t undef = v) :
    (results fn tmps).run P w = .ok v w := by
  subst hv
  simp [results, h]

theorem own_one (w : World) (x : Int) (b : UInt8) (hx : x = (b.toNat : Int)) : Own (w.alloc (.cells #[.int .u8 x] 5)) w.heap.size (.slice (some ⟨w.heap.size, 0, none⟩) 1 1) [b] := by
  subst hx
  exact World.ownsRow_lit w #[.int .u8 (b.toNat : Int)] 1 (Nat.le_refl _) (by simp [maxLen]) rfl

set_option maxRecDepth 100000 in
set_option maxHeartbeats 1000000 in
theorem lt_r0 (A : Option Addr) (k c bt : Nat) (w : World) (Q : Exit → Act → World → Prop) (a : Act) (hfr : LsFr A k c bt a) (h : ∀ a, LsFr A k c bt a → Q .normal a w) : Code.wp Tryd.prog ltR0 Q a w := by
  obtain ⟨f, rfl⟩ := hfr.open_
  clear hfr
  conv => arg 2; whnf
  go_wp2
  exact ⟨rfl, rfl, rfl, rfl⟩

set_option maxRecDepth 100000 in
set_option maxHeartbeats 1000000 in
theorem lt_r1 (A : Option Addr) (k c bt : Nat) (w : World) (Q : Exit → Act → World → Prop) (a : Act) (hfr : LsFr A k c bt a) (hk : k ≤ 2147483647) (h : ∀ a, LtFr A k c bt a → Q .normal a w) : Code.wp Tryd.prog ltR1 Q a w := by
  obtain ⟨f, rfl⟩ := hfr.open_
  clear hfr
  conv => arg 2; whnf
  go_wp2
  exact ⟨rfl, rfl, rfl, rfl, rfl⟩

set_option maxRecDepth 100000 in
set_option maxHeartbeats 1000000 in
theorem lt_x2 (A : Option Addr) (k c bt : Nat) (w : World) (Q : Exit → Act → World → Prop) (a : Act) (hfr : LtFr A k c bt a) (hk : k ≤ 2147483647) (hb : bt ≤ 4) (hs : ¬ (bt < 1 ∧ k < 60)) (h : ∀ a, LtFr A k c bt a → Q .normal a w) : Code.wp Tryd.prog ltX2 Q a w := by
  obtain ⟨f, rfl⟩ := hfr.open_
  clear hfr
  by_cases hb1 : bt < 1
  · have e1 : decide ((bt : Int) < 1) = true := decide_eq_true (by omega)
    have e2 : decide ((k : Int) < 60) = false := decide_eq_false (by omega)
    clear hb1 hs
    conv => arg 2; whnf
    go_wp2
    exact ⟨rfl, rfl, rfl, rfl, rfl⟩
  · have e1 : decide ((bt : Int) < 1) = false := decide_eq_false (by omega)
    clear hb1 hs
    conv => arg 2; whnf
    go_wp2
    exact ⟨rfl, rfl, rfl, rfl, rfl⟩

set_option maxRecDepth 100000 in
set_option maxHeartbeats 1000000 in
theorem lt_x4 (A : Option Addr) (k c bt : Nat) (w : World) (Q : Exit → Act → World → Prop) (a : Act) (hfr : LtFr A k c bt a) (hk : k ≤ 2147483647) (hb : bt ≤ 4) (m : Nat) (hm : m = if bt < 1 ∨ (256 ≤ k ∧ bt < 2) then (if 256 ≤ k then 2 else 1) else bt) (h : ∀ a, LtFr A k c m a → Q .normal a w) : Code.wp Tryd.prog ltX4 Q a w := by
  obtain ⟨f, rfl⟩ := hfr.open_
  clear hfr
  by_cases h1 : 256 ≤ k
  · have e1 : decide ((256 : Int) ≤ (k : Int)) = true := decide_eq_true (by omega)
    by_cases h2 : bt < 1
    · have e2 : decide ((bt : Int) < 1) = true := decide_eq_true (by omega)
      rw [if_pos (by omega), if_pos h1] at hm
      subst hm
      clear h2
      conv => arg 2; whnf
      go_wp2
      exact ⟨rfl, rfl, rfl, rfl, rfl⟩
    · have e2 : decide ((bt : Int) < 1) = false := decide_eq_false (by omega)
      by_cases h3 : bt < 2
      · have e3 : decide ((bt : Int) < 2) = true := decide_eq_true (by omega)
        rw [if_pos (by omega), if_pos h1] at hm
        subst hm
        clear h2 h3
        conv => arg 2; whnf
        go_wp2
        exact ⟨rfl, rfl, rfl, rfl, rfl⟩
      · have e3 : decide ((bt : Int) < 2) = false := decide_eq_false (by omega)
        rw [if_neg (by omega)] at hm
        subst hm
        clear h2 h3
        conv => arg 2; whnf
        go_wp2
        exact ⟨rfl, rfl, rfl, rfl, rfl⟩
  · have e1 : decide ((256 : Int) ≤ (k : Int)) = false := decide_eq_false (by omega)
    by_cases h2 : bt < 1
    · have e2 : decide ((bt : Int) < 1) = true := decide_eq_true (by omega)
      rw [if_pos (by omega), if_neg h1] at hm
      subst hm
      have h1' : k < 256 := by omega
      clear h2 h1
      conv => arg 2; whnf
      go_wp2
      exact ⟨rfl, rfl, rfl, rfl, rfl⟩
    · have e2 : decide ((bt : Int) < 1) = false := decide_eq_false (by omega)
      rw [if_neg (by omega)] at hm
      subst hm
      have h1' : k < 256 := by omega
      clear h2 h1
      conv => arg 2; whnf
      go_wp2
      exact ⟨rfl, rfl, rfl, rfl, rfl⟩

set_option maxRecDepth 100000 in
set_option maxHeartbeats 1000000 in
theorem lt_x8 (A : Option Addr) (k c bt : Nat) (w : World) (Q : Exit → Act → World → Prop) (a : Act) (hfr : LtFr A k c bt a) (hk : k ≤ 2147483647) (hb : bt ≤ 4) (m : Nat) (hm : m = if 65536 ≤ k ∧ bt < 3 then 3 else bt) (h : ∀ a, LtFr A k c m a → Q .normal a w) : Code.wp Tryd.prog ltX8 Q a w := by
  obtain ⟨f, rfl⟩ := hfr.open_
  clear hfr
  by_cases h1 : 65536 ≤ k
  · have e1 : decide ((65536 : Int) ≤ (k : Int)) = true := decide_eq_true (by omega)
    by_cases h3 : bt < 3
    · have e3 : decide ((bt : Int) < 3) = true := decide_eq_true (by omega)
      rw [if_pos (by omega)] at hm
      subst hm
      clear h3
      conv => arg 2; whnf
      go_wp2
      exact ⟨rfl, rfl, rfl, rfl, rfl⟩
    · have e3 : decide ((bt : Int) < 3) = false := decide_eq_false (by omega)
      rw [if_neg (by omega)] at hm
      subst hm
      clear h3
      conv => arg 2; whnf
      go_wp2
      exact ⟨rfl, rfl, rfl, rfl, rfl⟩
  · have e1 : decide ((65536 : Int) ≤ (k : Int)) = false := decide_eq_false (by omega)
    rw [if_neg (by omega)] at hm
    subst hm
    have h1' : k < 65536 := by omega
    clear h1
    conv => arg 2; whnf
    go_wp2
    exact ⟨rfl, rfl, rfl, rfl, rfl⟩

set_option maxRecDepth 100000 in
set_option maxHeartbeats 1000000 in
theorem lt_x10 (A : Option Addr) (k c bt : Nat) (w : World) (Q : Exit → Act → World → Prop) (a : Act) (hfr : LtFr A k c bt a) (hk : k ≤ 2147483647) (hb : bt ≤ 4) (m : Nat) (hm : m = if 16777216 ≤ k ∧ bt < 4 then 4 else bt) (h : ∀ a, LtFr A k c m a → Q .normal a w) : Code.wp Tryd.prog ltX10 Q a w := by
  obtain ⟨f, rfl⟩ := hfr.open_
  clear hfr
  by_cases h1 : 16777216 ≤ k
  · have e1 : decide ((16777216 : Int) ≤ (k : Int)) = true := decide_eq_true (by omega)
    by_cases h3 : bt < 4
    · have e3 : decide ((bt : Int) < 4) = true := decide_eq_true (by omega)
      rw [if_pos (by omega)] at hm
      subst hm
      clear h3
      conv => arg 2; whnf
      go_wp2
      exact ⟨rfl, rfl, rfl, rfl, rfl⟩
    · have e3 : decide ((bt : Int) < 4) = false := decide_eq_false (by omega)
      rw [if_neg (by omega)] at hm
      subst hm
      clear h3
      conv => arg 2; whnf
      go_wp2
      exact ⟨rfl, rfl, rfl, rfl, rfl⟩
  · have e1 : decide ((16777216 : Int) ≤ (k : Int)) = false := decide_eq_false (by omega)
    rw [if_neg (by omega)] at hm
    subst hm
    have h1' : k < 16777216 := by omega
    clear h1
    conv => arg 2; whnf
    go_wp2
    exact ⟨rfl, rfl, rfl, rfl, rfl⟩

set_option maxRecDepth 100000 in
set_option maxHeartbeats 1000000 in
theorem ll_end (A : Option Addr) (k c m q : Nat) (Ao : Option Addr) (ko co i base : Nat) (w0 wr : World) (out : Bs) (Q : Exit → Act → World → Prop) (a : Act) (hfr : LlFr A k c m q Ao ko co i a) (hko : out.length = ko) (hko5 : ko ≤ 5) (hq : q ≤ 2147483647) (hm : m ≤ 4) (hB : base ≤ wr.heap.size) (hown : Own wr base (.slice Ao ko co) out) (hbel : Below base w0 wr) (hi : i = m) (h : ∀ a, LlFr A k c m q Ao ko co m a → Q (.exit 0) a wr) : Code.wp Tryd.prog ltLoop Q a wr := by
  subst hi
  obtain ⟨f, rfl⟩ := hfr.open_
  clear hfr hown hbel hko
  conv => arg 2; whnf
  go_wp2
  exact ⟨rfl, rfl, rfl, rfl, rfl, rfl, rfl⟩

set_option maxRecDepth 100000 in
set_option maxHeartbeats 1000000 in
theorem ll_step (A : Option Addr) (k c m q : Nat) (Ao : Option Addr) (ko co i base : Nat) (w0 wr : World) (out : Bs) (Q : Exit → Act → World → Prop) (a : Act) (hfr : LlFr A k c m q Ao ko co i a) (hko : out.length = ko) (hko5 : ko ≤ 5) (hq : q ≤ 2147483647) (hm : m ≤ 4) (hB : base ≤ wr.heap.size) (hown : Own wr base (.slice Ao ko co) out) (hbel : Below base w0 wr) (hi : i < m)
    (h : ∀ a w Ao co, LlFr A k c m (q / 256) Ao (ko + 1) co (i + 1) a → Own w base (.slice Ao (ko + 1) co) (out ++ [UInt8.ofNat (q % 256)]) → Below base w0 w → Q .normal a w) : Code.wp Tryd.prog ltLoop Q a wr := by
  obtain ⟨f, rfl⟩ := hfr.open_
  have hb : (((UInt8.ofNat (q % 256)).toNat : Nat) : Int) = (q : Int) % 256 := by rw [toNat_ofNat (Nat.mod_lt _ (by decide))]; omega
  have HY := hide hb
  have HK := hide hko
  have HO := hide hown
  have HB := hide hbel
  clear hko hown hbel hfr hb
  generalize UInt8.ofNat (q % 256) = y at *
  conv => arg 2; whnf
  go_wp2_with (at_builtin; refine append_own rfl (.tmp 57) (.tmp 61) rfl base w0 (.slice Ao ko co) out rfl (HO.out.alloc _) (HB.out.alloc hB _) (wr.heap.size + 1) (some ⟨wr.heap.size, 0, none⟩) 1 1 [y] rfl (Rd.one _ _ _ HY.out.symm) (by rw [HK.out]; simp; omega) (by simp; omega) ?_; intro v' w1 hown1 hgrow1 hbel1)
  have hlen1 : (out ++ [y]).length = ko + 1 := by rw [List.length_append, HK.out]; rfl
  obtain ⟨A1, c1, rfl, _, _, _, _⟩ := hown1.form
  rw [hlen1] at hown1 ⊢
  have HO1 := hide hown1
  have HB1 := hide hbel1
  clear hown1 hbel1 hgrow1 hlen1
  go_wp2
  exact h _ _ _ _ ⟨rfl, rfl, rfl, rfl, rfl, rfl, rfl⟩ HO1.out HB1.out

theorem ll_loop (A : Option Addr) (k c m q : Nat) (Ao : Option Addr) (co base : Nat) (w0 wr : World) (out : Bs) (Q : Exit → Act → World → Prop) (a : Act) (hfr : LlFr A k c m q Ao 1 co 0 a) (hko : out.length = 1) (hq : q ≤ 2147483647) (hm : m ≤ 4) (hB0 : base ≤ w0.heap.size)
    (hown : Own wr base (.slice Ao 1 co) out) (hbel : Below base w0 wr)
    (h : ∀ a w q' Ao co, LlFr A k c m q' Ao (m + 1) co m a → Own w base (.slice Ao (m + 1) co) (out ++ leB m q) → Below base w0 w → Q (.exit 0) a w) : Code.wp Tryd.prog (.loop ltLoop) Q a wr := by
  refine wp_loop (fun a w => ∃ i q1 Ao co outi, i ≤ m ∧ q1 ≤ 2147483647 ∧ LlFr A k c m q1 Ao (1 + i) co i a ∧ Own w base (.slice Ao (1 + i) co) outi ∧ outi.length = 1 + i ∧ Below base w0 w ∧ outi ++ leB (m - i) q1 = out ++ leB m q)
    (fun a _ => match a.tmps.getD 7 undef with | .int _ k => m - k.toNat | _ => 0) ⟨0, q, Ao, co, out, Nat.zero_le _, hq, hfr, hown, hko, hbel, rfl⟩ ?_
  rintro a w ⟨i, q1, Ao, co, outi, hi, hq1, hf, ho, hlen, hb, he⟩
  have h7 := hf.s7
  have hsz := hb.size
  by_cases him : i = m
  · subst him
    refine ll_end A k c i q1 Ao (1 + i) co i base w0 w outi _ a hf hlen (by omega) hq1 hm (by omega) ho hb rfl ?_
    intro a' hf'
    rw [Nat.sub_self] at he
    simp only [leB, List.append_nil] at he
    rw [he] at ho
    rw [Nat.add_comm] at hf' ho
    exact h a' w q1 Ao co hf' ho hb
  · refine ll_step A k c m q1 Ao (1 + i) co i base w0 w outi _ a hf hlen (by omega) hq1 hm (by omega) ho hb (by omega) ?_
    intro a' w' Ao' co' hf' ho' hb'
    rw [Nat.add_assoc] at hf' ho'
    refine ⟨⟨i + 1, q1 / 256, Ao', co', _, by omega, by omega, hf', ho', by rw [List.length_append, hlen]; rfl, hb', ?_⟩, ?_⟩
    · rw [← he, show m - i = (m - (i + 1)) + 1 from by omega]
      simp [leB]
    · rw [hf'.s7, h7]
      show m - (((i + 1 : Nat) : Int)).toNat < m - ((i : Nat) : Int).toNat
      omega

set_option maxRecDepth 100000 in
set_option maxHeartbeats 1000000 in
theorem lt_rest (A : Option Addr) (k c m : Nat) (B : Nat) (w0 : World) (xs : Bs) (Q : Exit → Act → World → Prop) (a : Act) (hfr : LtFr A k c m a) (hk : k ≤ 2147483647) (hm : m ≤ 4) (hm1 : 1 ≤ m) (hx : Rd w0 B A (k + 1) xs) (hB : B ≤ w0.heap.size)
    (h : ∀ a w v, a.defers = [] → a.tmps.getD 4 undef = v → Own w w0.heap.size v (UInt8.ofNat ((59 + m) * 4) :: (leB m k ++ xs)) → Below w0.heap.size w0 w → Q .ret a w) : Code.wp Tryd.prog lt12 Q a w0 := by
  obtain ⟨f, rfl⟩ := hfr.open_
  have hy : (((UInt8.ofNat ((59 + m) * 4)).toNat : Nat) : Int) = (59 + (m : Int)) * 4 := by rw [toNat_ofNat (by omega)]; omega
  have HY := hide hy
  have HX := hide hx
  clear hy hx hfr
  generalize UInt8.ofNat ((59 + m) * 4) = y at *
  conv => arg 2; whnf
  go_wp2_with fail
  refine ll_loop A k c m k (some ⟨w0.heap.size, 0, none⟩) 1 w0.heap.size w0 _ [y] _ _ ⟨rfl, rfl, rfl, rfl, rfl, rfl, rfl⟩ rfl hk hm (Nat.le_refl _) (own_one w0 _ y HY.out.symm) ((Below.refl _ _).alloc (Nat.le_refl _) _) ?_
  intro a1 w1 q1 A1 c1 hf1 ho1 hb1
  have hX1 := hide (HX.out.keep (w' := w1) (fun j hj => hb1.block j (by omega)))
  have hsz := hb1.size
  have HO1 := hide ho1
  have HB1 := hide hb1
  obtain ⟨f1, rfl⟩ := hf1.open_
  clear ho1 hb1 hf1
  go_wp2_with (at_builtin; refine append_own rfl (.tmp 65) (.tmp 66) rfl w0.heap.size w0 (.slice A1 (m + 1) c1) ([y] ++ leB m k) rfl HO1.out HB1.out B A (k + 1) c xs rfl hX1.out (by rw [hX1.out.len]; simp [leB_length]; omega) hsz ?_; intro v' w2 hown2 hgrow2 hbel2)
  have HO2 := hide hown2
  have HB2 := hide hbel2
  clear hown2 hgrow2 hbel2
  go_wp2
  exact h _ _ _ rfl rfl (by simpa using HO2.out) HB2.out

set_option maxRecDepth 100000 in
set_option maxHeartbeats 1000000 in
theorem Literal_any (A : Option Addr) (k c bt B : Nat) (xs : Bs) (w : World) (hx : Rd w B A (k + 1) xs) (hB : B ≤ w.heap.size) (hk : k ≤ 2147483647) (hb : bt ≤ 4) :
    Calls Tryd.prog 28 #[.slice A (k + 1) c, .int .i64 (bt : Int)] w (Gives w (litL xs bt)) := by
  have hlen := hx.len
  by_cases hs : bt < 1 ∧ k < 60
  · have hL : litL xs bt = UInt8.ofNat (k * 4) :: xs := by
      unfold litL
      dsimp only
      rw [hlen, show k + 1 - 1 = k from rfl, if_pos (litM_zero.2 hs)]
    have HL := hide hL
    have e1 : decide ((bt : Int) < 1) = true := decide_eq_true (by omega)
    have e2 : decide ((k : Int) < 60) = true := decide_eq_true (by omega)
    have hk60 : k < 60 := hs.2
    have hy : (((UInt8.ofNat (k * 4)).toNat : Nat) : Int) = (k : Int) * 4 := by rw [toNat_ofNat (by omega)]; omega
    have HY := hide hy
    have HX := hide hx
    clear hs hy hL hx hlen
    generalize UInt8.ofNat (k * 4) = y at *
    go_enter Tryd.func28, Tryd.ntmps28
    go_wp2_with (at_builtin; refine append_own rfl (.tmp 20) (.tmp 21) rfl w.heap.size w (.slice (some ⟨w.heap.size, 0, none⟩) 1 1) [y] rfl (own_one w _ y HY.out.symm) ((Below.refl _ _).alloc (Nat.le_refl _) _) B A (k + 1) c xs rfl (HX.out.alloc hB _) (by rw [HX.out.len]; simp; omega) (by simp) ?_; intro v' w2 hown2 hgrow2 hbel2)
    go_ret
    exact ⟨_, rfl, by rw [HL.out]; exact hown2, hbel2⟩
  · have hM : litM k bt ≠ 0 := fun h => hs (litM_zero.1 h)
    have hM4 := litM_le (n := k) hb
    have hL : litL xs bt = UInt8.ofNat ((59 + litM k bt) * 4) :: (leB (litM k bt) k ++ xs) := by
      unfold litL
      dsimp only
      rw [hlen, show k + 1 - 1 = k from rfl, if_neg hM]
    have hdef : litM k bt = (if 16777216 ≤ k ∧ (if 65536 ≤ k ∧ (if bt < 1 ∨ (256 ≤ k ∧ bt < 2) then (if 256 ≤ k then 2 else 1) else bt) < 3 then 3 else (if bt < 1 ∨ (256 ≤ k ∧ bt < 2) then (if 256 ≤ k then 2 else 1) else bt)) < 4 then 4 else (if 65536 ≤ k ∧ (if bt < 1 ∨ (256 ≤ k ∧ bt < 2) then (if 256 ≤ k then 2 else 1) else bt) < 3 then 3 else (if bt < 1 ∨ (256 ≤ k ∧ bt < 2) then (if 256 ≤ k then 2 else 1) else bt))) := by
      unfold litM
      rw [if_neg hs]
    have HD := hide hdef
    have HL := hide hL
    have HX := hide hx
    have HM := hide hM
    have HM4 := hide hM4
    clear hdef hL hx hM hM4 hlen
    have main : ∀ (Q : Exit → Act → World → Prop) (a : Act), LtFr A k c bt a → (∀ a w' v, a.defers = [] → a.tmps.getD 4 undef = v → Own w' w.heap.size v (UInt8.ofNat ((59 + litM k bt) * 4) :: (leB (litM k bt) k ++ xs)) → Below w.heap.size w w' → Q .ret a w') → Code.wp Tryd.prog lt2 Q a w := by
      intro Q a hfr hQ
      rw [lt2_eq]
      refine wp_seq (lt_x4 A k c bt w _ a hfr hk hb _ rfl (fun a1 h1 => ?_))
      refine wp_seq (lt_x8 A k c _ w _ a1 h1 hk (by (repeat' split) <;> omega) _ rfl (fun a2 h2 => ?_))
      refine wp_seq (lt_x10 A k c _ w _ a2 h2 hk (by (repeat' split) <;> omega) _ rfl (fun a3 h3 => ?_))
      rw [← HD.out] at h3
      exact lt_rest A k c (litM k bt) B w xs Q a3 h3 hk HM4.out (by have := HM.out; omega) HX.out hB hQ
    have fin : ∀ Q a, LtFr A k c bt a → (∀ a w' v, a.defers = [] → a.tmps.getD 4 undef = v → Own w' w.heap.size v (litL xs bt) → Below w.heap.size w w' → Q .ret a w') → Code.wp Tryd.prog lt2 Q a w := by
      rw [HL.out]
      exact main
    have HF := hide fin
    clear main fin HD HL HM HM4
    go_enter Tryd.func28, Tryd.ntmps28
    refine wp_seq (lt_r0 A k c bt w _ _ ⟨rfl, rfl, rfl, rfl⟩ (fun a1 h1 => wp_seq (lt_r1 A k c bt w _ a1 h1 hk (fun a2 h2 => wp_seq (lt_x2 A k c bt w _ a2 h2 hk hb hs (fun a3 h3 => HF.out _ _ h3 ?_))))))
    intro a w' v hd hv ho hb
    exact bodyPost_ret (results_tmp1' rfl _ _ _ hv) hd ⟨v, rfl, ho, hb⟩


end Snap
end Go.Proofs.YtodbfgomkcmdgaaDoor

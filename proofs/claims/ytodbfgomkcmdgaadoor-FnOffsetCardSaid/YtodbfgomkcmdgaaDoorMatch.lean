/-
  spec.match: so many bytes are those that stand so far ahead of them. spec.Again: a text over and over. spec.Body.
-/
import Derived.Test.YtodbfgomkcmdgaaDoorCopy
import Derived.Test.YtodbfgomkcmdgaaDoorRead3
namespace Go.Proofs.YtodbfgomkcmdgaaDoor
open Go.RowKit
set_option linter.unusedVariables false
namespace Snap

theorem list41 (f : Nat → Value) : ((List.range 41).map f).toArray = #[f 0, f 1, f 2, f 3, f 4, f 5, f 6, f 7, f 8, f 9, f 10, f 11, f 12, f 13, f 14, f 15, f 16, f 17, f 18, f 19, f 20, f 21, f 22, f 23, f 24, f 25, f 26, f 27, f 28, f 29, f 30, f 31, f 32, f 33, f 34, f 35, f 36, f 37, f 38, f 39, f 40] := by kernel_rfl

/-- A frame of 41 slots. -/
theorem open41 (a : Act) (hs : a.tmps.size = 41) (hd : a.defers = []) : ∃ f : Nat → Value, (∀ i, f i = a.tmps.getD i undef) ∧ a = ⟨#[f 0, f 1, f 2, f 3, f 4, f 5, f 6, f 7, f 8, f 9, f 10, f 11, f 12, f 13, f 14, f 15, f 16, f 17, f 18, f 19, f 20, f 21, f 22, f 23, f 24, f 25, f 26, f 27, f 28, f 29, f 30, f 31, f 32, f 33, f 34, f 35, f 36, f 37, f 38, f 39, f 40], []⟩ := by
  refine ⟨fun i => a.tmps.getD i undef, fun _ => rfl, ?_⟩
  exact (act_slots a 41 hs hd).trans (congrArg (fun l => (⟨l, []⟩ : Act)) (list41 _))

/-- The frame at the loop's head. -/
structure MtFr (A : Option Addr) (n c at_ far most i : Nat) (a : Act) : Prop where
  size : a.tmps.size = 41
  defers : a.defers = []
  s0 : a.tmps.getD 0 undef = .slice A n c
  s1 : a.tmps.getD 1 undef = .int .i64 (at_ : Int)
  s2 : a.tmps.getD 2 undef = .int .i64 (far : Int)
  s3 : a.tmps.getD 3 undef = .int .i64 (most : Int)
  s9 : a.tmps.getD 9 undef = .int .i64 (i : Int)

set_option maxRecDepth 100000 in
theorem MtFr.open_ {A : Option Addr} {n c at_ far most i : Nat} {a : Act} (h : MtFr A n c at_ far most i a) : ∃ f : Nat → Value, a = ⟨#[.slice A n c, .int .i64 (at_ : Int), .int .i64 (far : Int), .int .i64 (most : Int), f 4, f 5, f 6, f 7, f 8, .int .i64 (i : Int), f 10, f 11, f 12, f 13, f 14, f 15, f 16, f 17, f 18, f 19, f 20, f 21, f 22, f 23, f 24, f 25, f 26, f 27, f 28, f 29, f 30, f 31, f 32, f 33, f 34, f 35, f 36, f 37, f 38, f 39, f 40], []⟩ := by
  obtain ⟨f, hf, ha⟩ := open41 a h.size h.defers
  refine ⟨f, ha.trans ?_⟩
  simp only [(hf 0).trans h.s0, (hf 1).trans h.s1, (hf 2).trans h.s2, (hf 3).trans h.s3, (hf 9).trans h.s9]

noncomputable def mtLoop : Code := cL (cB (c1 (c2 (c2 (bodyOf Tryd.f44)))))

set_option maxRecDepth 100000 in
set_option maxHeartbeats 1000000 in
theorem mt_most (b off n c at_ far most i : Nat) (xs : Bs) (wr : World) (Q : Exit → Act → World → Prop) (a : Act) (hfr : MtFr (some ⟨b, off, none⟩) n c at_ far most i a) (hn : n ≤ 4294967295) (hat : at_ ≤ n) (h1 : 1 ≤ far) (h2 : far ≤ at_) (hm : most ≤ 4294967295) (hi : most ≤ i) (hi2 : i ≤ 4294967295) (h : ∀ a k, MtFr (some ⟨b, off, none⟩) n c at_ far most i a → Q (.exit 0) a (wr.drewN k)) : Code.wp Tryd.prog mtLoop Q a wr := by
  obtain ⟨f, rfl⟩ := hfr.open_
  have e1 : decide ((i : Int) < (most : Int)) = false := decide_eq_false (by omega)
  have e1' : decide (i < most) = false := decide_eq_false (by omega)
  clear hfr
  conv => arg 2; whnf
  go_wp2_with fail
  go_quiet (fail)
  go_wp2
  exact ⟨rfl, rfl, rfl, rfl, rfl, rfl, rfl⟩

set_option maxRecDepth 100000 in
set_option maxHeartbeats 1000000 in
theorem mt_len (b off n c at_ far most i : Nat) (xs : Bs) (wr : World) (Q : Exit → Act → World → Prop) (a : Act) (hfr : MtFr (some ⟨b, off, none⟩) n c at_ far most i a) (hn : n ≤ 4294967295) (hat : at_ ≤ n) (h1 : 1 ≤ far) (h2 : far ≤ at_) (hm : most ≤ 4294967295) (hi : i < most) (hl : n ≤ at_ + i) (hl2 : at_ + i ≤ n) (h : ∀ a k, MtFr (some ⟨b, off, none⟩) n c at_ far most i a → Q (.exit 0) a (wr.drewN k)) : Code.wp Tryd.prog mtLoop Q a wr := by
  obtain ⟨f, rfl⟩ := hfr.open_
  have e1 : decide ((i : Int) < (most : Int)) = true := decide_eq_true (by omega)
  have ew : IntKind.i64.wrap ((at_ : Int) + (i : Int)) = (at_ : Int) + (i : Int) := IntWalk.i64_in _ (by omega)
  have e2 : decide ((at_ : Int) + (i : Int) < (n : Int)) = false := decide_eq_false (by omega)
  clear hfr
  conv => arg 2; whnf
  go_wp2_with fail
  go_quiet (fail)
  go_wp2
  exact ⟨rfl, rfl, rfl, rfl, rfl, rfl, rfl⟩

set_option maxRecDepth 100000 in
set_option maxHeartbeats 1000000 in
theorem mt_same (b off n c at_ far most i : Nat) (xs : Bs) (wr : World) (Q : Exit → Act → World → Prop) (a : Act) (hfr : MtFr (some ⟨b, off, none⟩) n c at_ far most i a) (hn : n ≤ 4294967295) (hat : at_ ≤ n) (h1 : 1 ≤ far) (h2 : far ≤ at_) (hm : most ≤ 4294967295) (x y : Nat) (hi : i < most) (hl : at_ + i < n) (g1 : wr.cell? ⟨b, off + (at_ + i), none⟩ = some (.int .u8 (x : Int))) (g2 : wr.cell? ⟨b, off + (at_ + i - far), none⟩ = some (.int .u8 (y : Int))) (he : x = y)
    (h : ∀ a k, MtFr (some ⟨b, off, none⟩) n c at_ far most (i + 1) a → Q .normal a (wr.drewN k)) : Code.wp Tryd.prog mtLoop Q a wr := by
  obtain ⟨f, rfl⟩ := hfr.open_
  obtain ⟨j, hj⟩ : ∃ j, j = at_ + i - far := ⟨_, rfl⟩
  rw [← hj] at g2
  have e1 : decide ((i : Int) < (most : Int)) = true := decide_eq_true (by omega)
  have ew : IntKind.i64.wrap ((at_ : Int) + (i : Int)) = (at_ : Int) + (i : Int) := IntWalk.i64_in _ (by omega)
  have ew2 : IntKind.i64.wrap ((at_ : Int) + (i : Int) - (far : Int)) = (j : Int) := by rw [IntWalk.i64_in _ (by omega)]; omega
  have e2 : decide ((at_ : Int) + (i : Int) < (n : Int)) = true := decide_eq_true (by omega)
  have e3 : ((x : Int) == (y : Int)) = true := by rw [he]; simp
  have b1 : (0 : Int) ≤ (at_ : Int) + (i : Int) := by omega
  have b2 : (at_ : Int) + (i : Int) < (n : Int) := by omega
  have b3 : (j : Int) < (n : Int) := by omega
  clear hfr hj he
  conv => arg 2; whnf
  go_wp2_with fail
  go_quiet (fail)
  go_wp2
  exact ⟨rfl, rfl, rfl, rfl, rfl, rfl, rfl⟩

set_option maxRecDepth 100000 in
set_option maxHeartbeats 1000000 in
theorem mt_other (b off n c at_ far most i : Nat) (xs : Bs) (wr : World) (Q : Exit → Act → World → Prop) (a : Act) (hfr : MtFr (some ⟨b, off, none⟩) n c at_ far most i a) (hn : n ≤ 4294967295) (hat : at_ ≤ n) (h1 : 1 ≤ far) (h2 : far ≤ at_) (hm : most ≤ 4294967295) (x y : Nat) (hi : i < most) (hl : at_ + i < n) (g1 : wr.cell? ⟨b, off + (at_ + i), none⟩ = some (.int .u8 (x : Int))) (g2 : wr.cell? ⟨b, off + (at_ + i - far), none⟩ = some (.int .u8 (y : Int))) (he : x ≠ y)
    (h : ∀ a k, MtFr (some ⟨b, off, none⟩) n c at_ far most i a → Q (.exit 0) a (wr.drewN k)) : Code.wp Tryd.prog mtLoop Q a wr := by
  obtain ⟨f, rfl⟩ := hfr.open_
  obtain ⟨j, hj⟩ : ∃ j, j = at_ + i - far := ⟨_, rfl⟩
  rw [← hj] at g2
  have e1 : decide ((i : Int) < (most : Int)) = true := decide_eq_true (by omega)
  have ew : IntKind.i64.wrap ((at_ : Int) + (i : Int)) = (at_ : Int) + (i : Int) := IntWalk.i64_in _ (by omega)
  have ew2 : IntKind.i64.wrap ((at_ : Int) + (i : Int) - (far : Int)) = (j : Int) := by rw [IntWalk.i64_in _ (by omega)]; omega
  have e2 : decide ((at_ : Int) + (i : Int) < (n : Int)) = true := decide_eq_true (by omega)
  have e3 : ((x : Int) == (y : Int)) = false := by rw [beq_eq_false_iff_ne]; omega
  have b1 : (0 : Int) ≤ (at_ : Int) + (i : Int) := by omega
  have b2 : (at_ : Int) + (i : Int) < (n : Int) := by omega
  have b3 : (j : Int) < (n : Int) := by omega
  clear hfr hj he
  conv => arg 2; whnf
  go_wp2_with fail
  go_quiet (fail)
  go_wp2
  exact ⟨rfl, rfl, rfl, rfl, rfl, rfl, rfl⟩

theorem drewN_add (w : World) (a b : Nat) : (w.drewN a).drewN b = w.drewN (a + b) := World.drewN_drewN ..

/-- So many bytes of a text stand so far ahead, too. -/
def Matches (xs : Bs) (at_ far n : Nat) : Prop := ∀ k, k < n → xs.getD (at_ + k) 0 = xs.getD (at_ + k - far) 0

theorem mt_loop (b off n c at_ far most B : Nat) (xs : Bs) (w0 : World) (Q : Exit → Act → World → Prop) (a : Act) (hfr : MtFr (some ⟨b, off, none⟩) n c at_ far most 0 a) (hn : n ≤ 4294967295) (hat : at_ ≤ n) (h1 : 1 ≤ far) (h2 : far ≤ at_) (hm : most ≤ 4294967295)
    (hx : Rd w0 B (some ⟨b, off, none⟩) n xs)
    (h : ∀ a i k, i ≤ most → at_ + i ≤ n → Matches xs at_ far i → MtFr (some ⟨b, off, none⟩) n c at_ far most i a → Q (.exit 0) a (w0.drewN k)) : Code.wp Tryd.prog (.loop mtLoop) Q a w0 := by
  refine wp_loop (fun a w => ∃ i k, i ≤ most ∧ at_ + i ≤ n ∧ Matches xs at_ far i ∧ MtFr (some ⟨b, off, none⟩) n c at_ far most i a ∧ w = w0.drewN k) (fun a _ => match a.tmps.getD 9 undef with | .int _ k => most - k.toNat | _ => 0)
    ⟨0, 0, Nat.zero_le _, hat, fun k hk => absurd hk (by omega), hfr, rfl⟩ ?_
  rintro a w ⟨i, k, hi, hl, hmt, hf, rfl⟩
  have h9 := hf.s9
  by_cases c1 : most ≤ i
  · exact mt_most b off n c at_ far most i xs _ _ a hf hn hat h1 h2 hm c1 (by omega) (fun a' q hf' => by rw [drewN_add]; exact h a' i _ hi hl hmt hf')
  · by_cases c2 : n ≤ at_ + i
    · exact mt_len b off n c at_ far most i xs _ _ a hf hn hat h1 h2 hm (by omega) c2 hl (fun a' q hf' => by rw [drewN_add]; exact h a' i _ hi hl hmt hf')
    · have g1 := (hx.drewN k).cellAt rfl (k := at_ + i) (by omega)
      have g2 := (hx.drewN k).cellAt rfl (k := at_ + i - far) (by omega)
      by_cases he : (xs.getD (at_ + i) 0).toNat = (xs.getD (at_ + i - far) 0).toNat
      · refine mt_same b off n c at_ far most i xs _ _ a hf hn hat h1 h2 hm _ _ (by omega) (by omega) g1 g2 he (fun a' q hf' => ⟨⟨i + 1, k + q, by omega, by omega, ?_, hf', by rw [drewN_add]⟩, ?_⟩)
        · intro j hj
          by_cases hji : j = i
          · subst hji
            exact UInt8.toNat_inj.1 he
          · exact hmt j (by omega)
        · rw [hf'.s9, h9]
          show most - (((i + 1 : Nat) : Int)).toNat < most - ((i : Nat) : Int).toNat
          omega
      · exact mt_other b off n c at_ far most i xs _ _ a hf hn hat h1 h2 hm _ _ (by omega) (by omega) g1 g2 he (fun a' q hf' => by rw [drewN_add]; exact h a' i _ hi hl hmt hf')

set_option maxRecDepth 100000 in
set_option maxHeartbeats 1000000 in
theorem match_any (A : Option Addr) (n c at_ far most B : Nat) (xs : Bs) (w : World) (hx : Rd w B A n xs) (hn : n ≤ 4294967295) (hat : at_ < n) (h1 : 1 ≤ far) (h2 : far ≤ at_) (hm : most ≤ 4294967295) :
    Calls Tryd.prog 44 #[.slice A n c, .int .i64 (at_ : Int), .int .i64 (far : Int), .int .i64 (most : Int)] w fun e w' => ∃ (i k : Nat), e = .returned (.int .i64 (i : Int)) ∧ w' = w.drewN k ∧ i ≤ most ∧ at_ + i ≤ n ∧ Matches xs at_ far i := by
  obtain ⟨b, off, rfl, _, _⟩ := hx.at_ (by omega)
  have HX := hide hx
  clear hx
  go_enter Tryd.func44, Tryd.ntmps44
  go_wp2_with fail
  refine mt_loop b off n c at_ far most B xs w _ _ ⟨rfl, rfl, rfl, rfl, rfl, rfl, rfl⟩ hn (by omega) h1 h2 hm HX.out ?_
  intro a1 i k hi hl hmt hf
  obtain ⟨f1, rfl⟩ := hf.open_
  have HM := hide hmt
  clear hmt hf
  go_wp2
  go_ret
  exact ⟨i, k, rfl, rfl, hi, hl, HM.out⟩

theorem list23 (f : Nat → Value) : ((List.range 23).map f).toArray = #[f 0, f 1, f 2, f 3, f 4, f 5, f 6, f 7, f 8, f 9, f 10, f 11, f 12, f 13, f 14, f 15, f 16, f 17, f 18, f 19, f 20, f 21, f 22] := by kernel_rfl

/-- A frame of 23 slots. -/
theorem open23 (a : Act) (hs : a.tmps.size = 23) (hd : a.defers = []) : ∃ f : Nat → Value, (∀ i, f i = a.tmps.getD i undef) ∧ a = ⟨#[f 0, f 1, f 2, f 3, f 4, f 5, f 6, f 7, f 8, f 9, f 10, f 11, f 12, f 13, f 14, f 15, f 16, f 17, f 18, f 19, f 20, f 21, f 22], []⟩ := by
  refine ⟨fun i => a.tmps.getD i undef, fun _ => rfl, ?_⟩
  exact (act_slots a 23 hs hd).trans (congrArg (fun l => (⟨l, []⟩ : Act)) (list23 _))

/-- The frame at the loop's head. -/
structure AgFr (A : Option Addr) (n c long : Nat) (Ao : Option Addr) (co i : Nat) (a : Act) : Prop where
  size : a.tmps.size = 23
  defers : a.defers = []
  s0 : a.tmps.getD 0 undef = .slice A n c
  s1 : a.tmps.getD 1 undef = .int .i64 (long : Int)
  s5 : a.tmps.getD 5 undef = .slice Ao i co
  s6 : a.tmps.getD 6 undef = .int .i64 (i : Int)

set_option maxRecDepth 100000 in
theorem AgFr.open_ {A : Option Addr} {n c long : Nat} {Ao : Option Addr} {co i : Nat} {a : Act} (h : AgFr A n c long Ao co i a) : ∃ f : Nat → Value, a = ⟨#[.slice A n c, .int .i64 (long : Int), f 2, f 3, f 4, .slice Ao i co, .int .i64 (i : Int), f 7, f 8, f 9, f 10, f 11, f 12, f 13, f 14, f 15, f 16, f 17, f 18, f 19, f 20, f 21, f 22], []⟩ := by
  obtain ⟨f, hf, ha⟩ := open23 a h.size h.defers
  refine ⟨f, ha.trans ?_⟩
  simp only [(hf 0).trans h.s0, (hf 1).trans h.s1, (hf 5).trans h.s5, (hf 6).trans h.s6]

noncomputable def agLoop : Code := cL (cB (c2 (c1 (c2 (c2 (bodyOf Tryd.f30))))))

set_option maxRecDepth 100000 in
set_option maxHeartbeats 1000000 in
theorem ag_end (b off n c long : Nat) (Ao : Option Addr) (co i base B : Nat) (w0 wr : World) (xs : Bs) (Q : Exit → Act → World → Prop) (a : Act) (hfr : AgFr (some ⟨b, off, none⟩) n c long Ao co i a) (hn : n ≤ 4294967295) (hn0 : 1 ≤ n) (hlong : long ≤ 4294967295) (hx : Rd wr B (some ⟨b, off, none⟩) n xs) (hBw : B ≤ wr.heap.size) (hB : base ≤ wr.heap.size) (hown : Own wr base (.slice Ao i co) (again xs i)) (hbel : Below base w0 wr) (hi : i = long) (h : ∀ a, AgFr (some ⟨b, off, none⟩) n c long Ao co i a → Q (.exit 0) a wr) : Code.wp Tryd.prog agLoop Q a wr := by
  subst hi
  obtain ⟨f, rfl⟩ := hfr.open_
  clear hfr hown hbel hx
  conv => arg 2; whnf
  go_wp2
  exact ⟨rfl, rfl, rfl, rfl, rfl, rfl⟩

theorem again_succ (xs : Bs) (i : Nat) : again xs (i + 1) = again xs i ++ [xs.getD (i % xs.length) 0] := by
  unfold again
  rw [List.range_succ, List.map_append]
  rfl

set_option maxRecDepth 100000 in
set_option maxHeartbeats 1000000 in
theorem ag_step (b off n c long : Nat) (Ao : Option Addr) (co i base B : Nat) (w0 wr : World) (xs : Bs) (Q : Exit → Act → World → Prop) (a : Act) (hfr : AgFr (some ⟨b, off, none⟩) n c long Ao co i a) (hn : n ≤ 4294967295) (hn0 : 1 ≤ n) (hlong : long ≤ 4294967295) (hx : Rd wr B (some ⟨b, off, none⟩) n xs) (hBw : B ≤ wr.heap.size) (hB : base ≤ wr.heap.size) (hown : Own wr base (.slice Ao i co) (again xs i)) (hbel : Below base w0 wr) (hi : i < long)
    (h : ∀ a w Ao co, AgFr (some ⟨b, off, none⟩) n c long Ao co (i + 1) a → Own w base (.slice Ao (i + 1) co) (again xs (i + 1)) → Below base w0 w → Q .normal a w) : Code.wp Tryd.prog agLoop Q a wr := by
  obtain ⟨f, rfl⟩ := hfr.open_
  have hl := hx.len
  obtain ⟨j, hj⟩ : ∃ j, j = i % n := ⟨_, rfl⟩
  have hjn : j < n := by rw [hj]; exact Nat.mod_lt _ (by omega)
  have g1 := hx.cellAt rfl (k := j) hjn
  have hA : again xs (i + 1) = again xs i ++ [xs.getD j 0] := by rw [again_succ, hl, hj]
  have r1 : (i : Int) % (n : Int) = (j : Int) := by rw [hj]; rfl
  have r2 : (i : Int).tmod (n : Int) = (j : Int) := by rw [Int.tmod_eq_emod_of_nonneg (by omega)]; exact r1
  have hne : ((n : Int) == 0) = false := by rw [beq_eq_false_iff_ne]; omega
  have HX := hide hx
  have HO := hide hown
  have HB := hide hbel
  have HA := hide hA
  clear hown hbel hfr hA hj hl hx
  generalize xs.getD j 0 = y at *
  conv => arg 2; whnf
  go_wp2_with (at_builtin; refine append_own rfl (.tmp 12) (.tmp 20) rfl base w0 (.slice Ao i co) (again xs i) rfl (HO.out.alloc _) (HB.out.alloc hB _) (wr.heap.size + 1) (some ⟨wr.heap.size, 0, none⟩) 1 1 [y] rfl (Rd.one _ _ _ rfl) (by rw [again_length]; simp; omega) (by simp; omega) ?_; intro v' w1 hown1 hgrow1 hbel1)
  rw [← HA.out] at hown1
  have hlen1 := again_length xs (i + 1)
  obtain ⟨A1, c1, rfl, _, _, _, _⟩ := hown1.form
  rw [hlen1] at hown1 ⊢
  have HO1 := hide hown1
  have HB1 := hide hbel1
  clear hown1 hbel1 hgrow1 hlen1
  go_wp2
  exact h _ _ _ _ ⟨rfl, rfl, rfl, rfl, rfl, rfl⟩ HO1.out HB1.out

set_option maxRecDepth 100000 in
set_option maxHeartbeats 1000000 in
theorem Again_any (A : Option Addr) (n c long B : Nat) (xs : Bs) (w : World) (hx : Rd w B A n xs) (hB : B ≤ w.heap.size) (hn : n ≤ 4294967295) (hn0 : 1 ≤ n) (hlong : long ≤ 4294967295) :
    Calls Tryd.prog 30 #[.slice A n c, .int .i64 (long : Int)] w (Gives w (again xs long)) := by
  obtain ⟨b, off, rfl, _, _⟩ := hx.at_ (by omega)
  have HX := hide hx
  clear hx
  go_enter Tryd.func30, Tryd.ntmps30
  go_wp2_with fail
  refine wp_loop (fun a w1 => ∃ i Ao co, i ≤ long ∧ AgFr (some ⟨b, off, none⟩) n c long Ao co i a ∧ Own w1 w.heap.size (.slice Ao i co) (again xs i) ∧ Below w.heap.size w w1) (fun a _ => match a.tmps.getD 6 undef with | .int _ k => long - k.toNat | _ => 0)
    ⟨0, none, 0, Nat.zero_le _, ⟨rfl, rfl, rfl, rfl, rfl, rfl⟩, Own.nil _ _, Below.refl _ _⟩ ?_
  rintro a w1 ⟨i, Ao, co, hi, hf, ho, hb⟩
  have h6 := hf.s6
  have hsz := hb.size
  have hx1 := HX.out.keep (w' := w1) (fun k hk => hb.block k (by omega))
  by_cases hil : i = long
  · refine ag_end b off n c long Ao co i w.heap.size B w w1 xs _ a hf hn hn0 hlong hx1 (by omega) hsz ho hb hil ?_
    intro a1 hf1
    rw [hil] at ho hf1
    have HO := hide ho
    have HB := hide hb
    obtain ⟨f1, rfl⟩ := hf1.open_
    clear ho hb hf1 h6 hf hx1
    go_wp2
    go_ret
    exact ⟨_, rfl, HO.out, HB.out⟩
  · refine ag_step b off n c long Ao co i w.heap.size B w w1 xs _ a hf hn hn0 hlong hx1 (by omega) hsz ho hb (by omega) ?_
    intro a1 w2 A1 c1 hf1 ho1 hb1
    refine ⟨⟨i + 1, A1, c1, by omega, hf1, ho1, hb1⟩, ?_⟩
    rw [hf1.s6, h6]
    show long - (((i + 1 : Nat) : Int)).toNat < long - ((i : Nat) : Int).toNat
    omega

set_option maxRecDepth 100000 in
set_option maxHeartbeats 1000000 in
theorem Body_any (A : Option Addr) (n c B l at_ : Nat) (xs : Bs) (w : World) (hx : Rd w B A n xs) (hn : n ≤ 4294967295) (hnc : n ≤ c) (hh : head xs = some (l, at_)) (hat : at_ ≤ n) :
    Calls Tryd.prog 26 #[.slice A n c] w fun e w' => e = .returned (.slice (cutA A c at_) (n - at_) (c - at_)) ∧ w = w' := by
  have hcall : Calls Tryd.prog 33 #[.slice A n c] w fun e w' => w = w' ∧ e = .returned (.tuple #[.int .i64 (l : Int), .int .i64 (at_ : Int), .bool true]) := by
    refine (Head_any A n c B xs w hx hn).mono ?_
    rintro e w' ⟨rfl, ⟨l', a', h, rfl⟩ | ⟨h, _⟩⟩
    · rw [hh] at h
      cases h
      exact ⟨rfl, rfl⟩
    · rw [hh] at h; cases h
  have hsl := run_cut_l A n c (at_ : Int) at_ (by omega) (by omega) (by omega)
  have HC := hide hcall
  clear hcall hh hx
  go_enter Tryd.func26, Tryd.ntmps26
  go_wp2_with fail
  refine HC.out.mono ?_
  rintro e w' ⟨rfl, rfl⟩
  go_wp2
  go_ret
  exact ⟨rfl, rfl⟩


end Snap
end Go.Proofs.YtodbfgomkcmdgaaDoor

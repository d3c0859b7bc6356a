/-
  snappy.emitCopy: it lays copies that say so many bytes.
-/
import Derived.Test.YtoihiaenlonncaaDoorEmitLit2
namespace Go.Proofs.YtoihiaenlonncaaDoor
open Go.RowKit
set_option linter.unusedVariables false
namespace Snap

theorem list106 (f : Nat → Value) : ((List.range 106).map f).toArray = #[f 0, f 1, f 2, f 3, f 4, f 5, f 6, f 7, f 8, f 9, f 10, f 11, f 12, f 13, f 14, f 15, f 16, f 17, f 18, f 19, f 20, f 21, f 22, f 23, f 24, f 25, f 26, f 27, f 28, f 29, f 30, f 31, f 32, f 33, f 34, f 35, f 36, f 37, f 38, f 39, f 40, f 41, f 42, f 43, f 44, f 45, f 46, f 47, f 48, f 49, f 50, f 51, f 52, f 53, f 54, f 55, f 56, f 57, f 58, f 59, f 60, f 61, f 62, f 63, f 64, f 65, f 66, f 67, f 68, f 69, f 70, f 71, f 72, f 73, f 74, f 75, f 76, f 77, f 78, f 79, f 80, f 81, f 82, f 83, f 84, f 85, f 86, f 87, f 88, f 89, f 90, f 91, f 92, f 93, f 94, f 95, f 96, f 97, f 98, f 99, f 100, f 101, f 102, f 103, f 104, f 105] := by kernel_rfl

/-- A frame of 106 slots. -/
theorem open106 (a : Act) (hs : a.tmps.size = 106) (hd : a.defers = []) : ∃ f : Nat → Value, (∀ i, f i = a.tmps.getD i undef) ∧ a = ⟨#[f 0, f 1, f 2, f 3, f 4, f 5, f 6, f 7, f 8, f 9, f 10, f 11, f 12, f 13, f 14, f 15, f 16, f 17, f 18, f 19, f 20, f 21, f 22, f 23, f 24, f 25, f 26, f 27, f 28, f 29, f 30, f 31, f 32, f 33, f 34, f 35, f 36, f 37, f 38, f 39, f 40, f 41, f 42, f 43, f 44, f 45, f 46, f 47, f 48, f 49, f 50, f 51, f 52, f 53, f 54, f 55, f 56, f 57, f 58, f 59, f 60, f 61, f 62, f 63, f 64, f 65, f 66, f 67, f 68, f 69, f 70, f 71, f 72, f 73, f 74, f 75, f 76, f 77, f 78, f 79, f 80, f 81, f 82, f 83, f 84, f 85, f 86, f 87, f 88, f 89, f 90, f 91, f 92, f 93, f 94, f 95, f 96, f 97, f 98, f 99, f 100, f 101, f 102, f 103, f 104, f 105], []⟩ := by
  refine ⟨fun i => a.tmps.getD i undef, fun _ => rfl, ?_⟩
  exact (act_slots a 106 hs hd).trans (congrArg (fun l => (⟨l, []⟩ : Act)) (list106 _))

/-- The frame. -/
structure EcFr (g o n c off len i : Nat) (a : Act) : Prop where
  size : a.tmps.size = 106
  defers : a.defers = []
  s0 : a.tmps.getD 0 undef = .slice (some ⟨g, o, none⟩) n c
  s1 : a.tmps.getD 1 undef = .int .i64 (off : Int)
  s2 : a.tmps.getD 2 undef = .int .i64 (len : Int)
  s7 : a.tmps.getD 7 undef = .int .i64 (i : Int)

set_option maxRecDepth 100000 in
theorem EcFr.open_ {g o n c off len i : Nat} {a : Act} (h : EcFr g o n c off len i a) : ∃ f : Nat → Value, a = ⟨#[.slice (some ⟨g, o, none⟩) n c, .int .i64 (off : Int), .int .i64 (len : Int), f 3, f 4, f 5, f 6, .int .i64 (i : Int), f 8, f 9, f 10, f 11, f 12, f 13, f 14, f 15, f 16, f 17, f 18, f 19, f 20, f 21, f 22, f 23, f 24, f 25, f 26, f 27, f 28, f 29, f 30, f 31, f 32, f 33, f 34, f 35, f 36, f 37, f 38, f 39, f 40, f 41, f 42, f 43, f 44, f 45, f 46, f 47, f 48, f 49, f 50, f 51, f 52, f 53, f 54, f 55, f 56, f 57, f 58, f 59, f 60, f 61, f 62, f 63, f 64, f 65, f 66, f 67, f 68, f 69, f 70, f 71, f 72, f 73, f 74, f 75, f 76, f 77, f 78, f 79, f 80, f 81, f 82, f 83, f 84, f 85, f 86, f 87, f 88, f 89, f 90, f 91, f 92, f 93, f 94, f 95, f 96, f 97, f 98, f 99, f 100, f 101, f 102, f 103, f 104, f 105], []⟩ := by
  obtain ⟨f, hf, ha⟩ := open106 a h.size h.defers
  refine ⟨f, ha.trans ?_⟩
  simp only [(hf 0).trans h.s0, (hf 1).trans h.s1, (hf 2).trans h.s2, (hf 7).trans h.s7]

/-- The frame at the start. -/
structure EcS (g o n c off len : Nat) (a : Act) : Prop where
  size : a.tmps.size = 106
  defers : a.defers = []
  s0 : a.tmps.getD 0 undef = .slice (some ⟨g, o, none⟩) n c
  s1 : a.tmps.getD 1 undef = .int .i64 (off : Int)
  s2 : a.tmps.getD 2 undef = .int .i64 (len : Int)

set_option maxRecDepth 100000 in
theorem EcS.open_ {g o n c off len : Nat} {a : Act} (h : EcS g o n c off len a) : ∃ f : Nat → Value, a = ⟨#[.slice (some ⟨g, o, none⟩) n c, .int .i64 (off : Int), .int .i64 (len : Int), f 3, f 4, f 5, f 6, f 7, f 8, f 9, f 10, f 11, f 12, f 13, f 14, f 15, f 16, f 17, f 18, f 19, f 20, f 21, f 22, f 23, f 24, f 25, f 26, f 27, f 28, f 29, f 30, f 31, f 32, f 33, f 34, f 35, f 36, f 37, f 38, f 39, f 40, f 41, f 42, f 43, f 44, f 45, f 46, f 47, f 48, f 49, f 50, f 51, f 52, f 53, f 54, f 55, f 56, f 57, f 58, f 59, f 60, f 61, f 62, f 63, f 64, f 65, f 66, f 67, f 68, f 69, f 70, f 71, f 72, f 73, f 74, f 75, f 76, f 77, f 78, f 79, f 80, f 81, f 82, f 83, f 84, f 85, f 86, f 87, f 88, f 89, f 90, f 91, f 92, f 93, f 94, f 95, f 96, f 97, f 98, f 99, f 100, f 101, f 102, f 103, f 104, f 105], []⟩ := by
  obtain ⟨f, hf, ha⟩ := open106 a h.size h.defers
  refine ⟨f, ha.trans ?_⟩
  simp only [(hf 0).trans h.s0, (hf 1).trans h.s1, (hf 2).trans h.s2]

theorem results_one {fn : Func} {t : Tmp} (h : fn.results = #[.tmp t]) (tmps : Array Value) (P : Program) (w : World) {v : Value} (hv : tmps.getD t undef = v) :
    (results fn tmps).run P w = .ok v w := by
  subst hv
  simp [results, h]

noncomputable def ecBody : Code := bodyOf Tryd.f28
noncomputable def ecR0 : Code := c1 ecBody
noncomputable def ecR1 : Code := c1 (c2 ecBody)
noncomputable def ec2 : Code := c2 (c2 ecBody)
noncomputable def ecLoop : Code := cL (cB (c1 ec2))
noncomputable def ec8 : Code := c1 (c2 ec2)
noncomputable def ec14 : Code := c1 (c2 (c2 ec2))
noncomputable def ec19 : Code := c2 (c2 (c2 ec2))
theorem ec2_eq : ec2 = .seq (.block 0 (.loop ecLoop)) (.seq ec8 (.seq ec14 ec19)) := by kernel_rfl

theorem put3 {w : World} {g N : Nat} {out : Bs} (hd : Dst w g N out) (p q r : Nat) (hp : p = out.length) (hq : q = p + 1) (hr : r = p + 2) (hN : p + 3 ≤ N) (ln off : Nat) (h1 : 1 ≤ ln) (h2 : ln ≤ 64) (ho : off ≤ 65535) (x : Int) (hx : x = ((2 + (ln - 1) * 4 : Nat) : Int)) :
    Dst (((w.setCell ⟨g, p, none⟩ (.int .u8 x)).setCell ⟨g, q, none⟩ (.int .u8 ((off : Int) % 256))).setCell ⟨g, r, none⟩ (.int .u8 ((off : Int) / 256))) g N (out ++ copyL 2 ln off) := by
  have e : copyL 2 ln off = [UInt8.ofNat (2 + (ln - 1) * 4), UInt8.ofNat (off % 256), UInt8.ofNat (off / 256 % 256)] := by
    unfold copyL
    rw [if_neg (by decide)]
    rfl
  have d1 := Dst.put hd (by omega) (UInt8.ofNat (2 + (ln - 1) * 4)) x (by rw [hx, toNat_ofNat (by omega)]) p hp
  have d2 := Dst.put d1 (by simp; omega) (UInt8.ofNat (off % 256)) ((off : Int) % 256) (by rw [toNat_ofNat (Nat.mod_lt _ (by decide))]; rfl) q (by simp; omega)
  have d3 := Dst.put d2 (by simp; omega) (UInt8.ofNat (off / 256 % 256)) ((off : Int) / 256) (by rw [toNat_ofNat (Nat.mod_lt _ (by decide))]; omega) r (by simp; omega)
  rw [e]
  simpa using d3

set_option maxRecDepth 100000 in
set_option maxHeartbeats 1000000 in
theorem ec_loop_step (g o n c N off len i : Nat) (w0 w : World) (out : Bs) (Q : Exit → Act → World → Prop) (a : Act) (hfr : EcFr g o n c off len i a) (hol : out.length = o + i) (hN : o + n ≤ N) (hNb : N ≤ 4294967295) (ho1 : 1 ≤ off) (ho2 : off ≤ 65535) (hl2 : len ≤ 65536) (hi : i + 3 ≤ n) (hd : Dst w g N out) (hgr : w0.grownBy w (some g)) (hl : 68 ≤ len)
    (h : ∀ a w, EcFr g o n c off (len - 64) (i + 3) a → Dst w g N (out ++ copyL 2 64 off) → w0.grownBy w (some g) → Q .normal a w) : Code.wp Tryd.prog ecLoop Q a w := by
  obtain ⟨f, rfl⟩ := hfr.open_
  obtain ⟨⟨v0, g0⟩, f0⟩ := hd.room (o + i) (by omega)
  obtain ⟨⟨v1, g1⟩, f1⟩ := hd.room (o + (i + 1)) (by omega)
  obtain ⟨⟨v2, g2⟩, f2⟩ := hd.room (o + (i + 2)) (by omega)
  have hput := put3 hd (o + i) (o + (i + 1)) (o + (i + 2)) hol.symm (by omega) (by omega) (by omega) 64 off (by omega) (by omega) ho2 254 (by omega)
  have hgg := ((hgr.trans (grownBy_put w g (o + i) (.int .u8 (254)))).trans (grownBy_put _ g (o + (i + 1)) (.int .u8 ((off : Int) % 256)))).trans (grownBy_put _ g (o + (i + 2)) (.int .u8 ((off : Int) / 256)))
  have HP := hide hput
  have HG := hide hgg
  clear hput hgg hd hgr hol hfr
  conv => arg 2; whnf
  go_wp2
  exact h _ _ ⟨rfl, rfl, rfl, rfl, congrArg (Value.int .i64) (by omega), rfl⟩ HP.out HG.out

set_option maxRecDepth 100000 in
set_option maxHeartbeats 1000000 in
theorem ec_loop_end (g o n c off len i : Nat) (w : World) (Q : Exit → Act → World → Prop) (a : Act) (hfr : EcFr g o n c off len i a) (ho2 : off ≤ 65535) (hl2 : len ≤ 65536) (hi : i ≤ 4294967295) (hl : len < 68) (h : ∀ a, EcFr g o n c off len i a → Q (.exit 0) a w) : Code.wp Tryd.prog ecLoop Q a w := by
  obtain ⟨f, rfl⟩ := hfr.open_
  clear hfr
  conv => arg 2; whnf
  go_wp2
  exact ⟨rfl, rfl, rfl, rfl, rfl, rfl⟩

set_option maxRecDepth 100000 in
set_option maxHeartbeats 1000000 in
theorem ec8_no (g o n c off len i : Nat) (w : World) (Q : Exit → Act → World → Prop) (a : Act) (hfr : EcFr g o n c off len i a) (ho2 : off ≤ 65535) (hl2 : len ≤ 65536) (hi : i ≤ 4294967295) (hl : len ≤ 64) (h : ∀ a, EcFr g o n c off len i a → Q .normal a w) : Code.wp Tryd.prog ec8 Q a w := by
  obtain ⟨f, rfl⟩ := hfr.open_
  clear hfr
  conv => arg 2; whnf
  go_wp2
  exact ⟨rfl, rfl, rfl, rfl, rfl, rfl⟩

set_option maxRecDepth 100000 in
set_option maxHeartbeats 1000000 in
theorem ec14_no (g o n c off len i : Nat) (w : World) (Q : Exit → Act → World → Prop) (a : Act) (hfr : EcFr g o n c off len i a) (ho2 : off ≤ 65535) (hl2 : len ≤ 65536) (hi : i ≤ 4294967295) (hl : len < 12) (hof : off < 2048) (h : ∀ a, EcFr g o n c off len i a → Q .normal a w) : Code.wp Tryd.prog ec14 Q a w := by
  obtain ⟨f, rfl⟩ := hfr.open_
  clear hfr
  conv => arg 2; whnf
  go_wp2
  exact ⟨rfl, rfl, rfl, rfl, rfl, rfl⟩

set_option maxRecDepth 100000 in
set_option maxHeartbeats 1000000 in
theorem ec8_yes (g o n c N off len i : Nat) (w0 w : World) (out : Bs) (Q : Exit → Act → World → Prop) (a : Act) (hfr : EcFr g o n c off len i a) (hol : out.length = o + i) (hN : o + n ≤ N) (hNb : N ≤ 4294967295) (ho1 : 1 ≤ off) (ho2 : off ≤ 65535) (hl2 : len ≤ 65536) (hi : i + 3 ≤ n) (hd : Dst w g N out) (hgr : w0.grownBy w (some g)) (hl : 64 < len) (hl3 : len < 68)
    (h : ∀ a w, EcFr g o n c off (len - 60) (i + 3) a → Dst w g N (out ++ copyL 2 60 off) → w0.grownBy w (some g) → Q .normal a w) : Code.wp Tryd.prog ec8 Q a w := by
  obtain ⟨f, rfl⟩ := hfr.open_
  obtain ⟨⟨v0, g0⟩, f0⟩ := hd.room (o + i) (by omega)
  obtain ⟨⟨v1, g1⟩, f1⟩ := hd.room (o + (i + 1)) (by omega)
  obtain ⟨⟨v2, g2⟩, f2⟩ := hd.room (o + (i + 2)) (by omega)
  have hput := put3 hd (o + i) (o + (i + 1)) (o + (i + 2)) hol.symm (by omega) (by omega) (by omega) 60 off (by omega) (by omega) ho2 238 (by omega)
  have hgg := ((hgr.trans (grownBy_put w g (o + i) (.int .u8 (238)))).trans (grownBy_put _ g (o + (i + 1)) (.int .u8 ((off : Int) % 256)))).trans (grownBy_put _ g (o + (i + 2)) (.int .u8 ((off : Int) / 256)))
  have HP := hide hput
  have HG := hide hgg
  clear hput hgg hd hgr hol hfr
  conv => arg 2; whnf
  go_wp2
  exact h _ _ ⟨rfl, rfl, rfl, rfl, congrArg (Value.int .i64) (by omega), rfl⟩ HP.out HG.out

theorem or2_fin : ∀ k : Fin 64, bits BinOp.or IntKind.u8 ((k.val : Int) * 4) 2 = ((2 + k.val * 4 : Nat) : Int) := by decide +kernel
theorem or2u8 (k : Nat) (h : k < 64) : bits BinOp.or IntKind.u8 ((k : Int) * 4) 2 = ((2 + k * 4 : Nat) : Int) := or2_fin ⟨k, h⟩

/-- So many is returned. -/
def RetEc (i : Nat) (a : Act) : Prop := a.defers = [] ∧ a.tmps.getD 6 undef = .int .i64 ((i : Nat) : Int)

set_option maxRecDepth 100000 in
set_option maxHeartbeats 1000000 in
theorem ec14_yes (g o n c N off len i : Nat) (w0 w : World) (out : Bs) (Q : Exit → Act → World → Prop) (a : Act) (hfr : EcFr g o n c off len i a) (hol : out.length = o + i) (hN : o + n ≤ N) (hNb : N ≤ 4294967295) (ho1 : 1 ≤ off) (ho2 : off ≤ 65535) (hl2 : len ≤ 65536) (hi : i + 3 ≤ n) (hd : Dst w g N out) (hgr : w0.grownBy w (some g)) (hl : 1 ≤ len) (hl3 : len ≤ 64) (hc : 12 ≤ len ∨ 2048 ≤ off)
    (h : ∀ a w, RetEc (i + 3) a → Dst w g N (out ++ copyL 2 len off) → w0.grownBy w (some g) → Q .ret a w) : Code.wp Tryd.prog ec14 Q a w := by
  obtain ⟨f, rfl⟩ := hfr.open_
  obtain ⟨⟨v0, g0⟩, f0⟩ := hd.room (o + i) (by omega)
  obtain ⟨⟨v1, g1⟩, f1⟩ := hd.room (o + (i + 1)) (by omega)
  obtain ⟨⟨v2, g2⟩, f2⟩ := hd.room (o + (i + 2)) (by omega)
  have ho := or2u8 (len - 1) (by omega)
  rw [show ((len - 1 : Nat) : Int) = (len : Int) - 1 from by omega] at ho
  have hput := put3 hd (o + i) (o + (i + 1)) (o + (i + 2)) hol.symm (by omega) (by omega) (by omega) len off (by omega) (by omega) ho2 ((2 + (len - 1) * 4 : Nat) : Int) rfl
  have hgg := ((hgr.trans (grownBy_put w g (o + i) (.int .u8 ((2 + (len - 1) * 4 : Nat) : Int)))).trans (grownBy_put _ g (o + (i + 1)) (.int .u8 ((off : Int) % 256)))).trans (grownBy_put _ g (o + (i + 2)) (.int .u8 ((off : Int) / 256)))
  obtain ⟨y, hy⟩ : ∃ y, y = 2 + (len - 1) * 4 := ⟨_, rfl⟩
  rw [← hy] at ho hput hgg
  have HP := hide hput
  have HG := hide hgg
  clear hput hgg hd hgr hol hfr hy
  by_cases h12 : 12 ≤ len
  · have e1 : decide ((12 : Int) ≤ (len : Int)) = true := decide_eq_true (by omega)
    clear hc
    conv => arg 2; whnf
    go_wp2
    first | exact h _ _ ⟨rfl, rfl⟩ HP.out HG.out | (trace_state; exact h _ _ ⟨rfl, rfl⟩ HP.out HG.out)
  · have e1 : decide ((12 : Int) ≤ (len : Int)) = false := decide_eq_false (by omega)
    have e2 : 2048 ≤ off := by omega
    clear hc
    conv => arg 2; whnf
    go_wp2
    exact h _ _ ⟨rfl, rfl⟩ HP.out HG.out

theorem or1_fin : ∀ (q : Fin 8) (k : Fin 8), bits BinOp.or IntKind.u8 (bits BinOp.or IntKind.u8 ((q.val : Int) * 32) ((k.val : Int) * 4)) 1 = ((1 + k.val * 4 + q.val * 32 : Nat) : Int) := by decide +kernel
theorem or1u8 (q k : Nat) (hq : q < 8) (hk : k < 8) : bits BinOp.or IntKind.u8 (bits BinOp.or IntKind.u8 ((q : Int) * 32) ((k : Int) * 4)) 1 = ((1 + k * 4 + q * 32 : Nat) : Int) := or1_fin ⟨q, hq⟩ ⟨k, hk⟩

set_option maxRecDepth 100000 in
set_option maxHeartbeats 1000000 in
theorem ec19_any (g o n c N off len i : Nat) (w0 w : World) (out : Bs) (Q : Exit → Act → World → Prop) (a : Act) (hfr : EcFr g o n c off len i a) (hol : out.length = o + i) (hN : o + n ≤ N) (hNb : N ≤ 4294967295) (ho1 : 1 ≤ off) (ho2 : off ≤ 65535) (hl2 : len ≤ 65536) (hi : i + 3 ≤ n) (hd : Dst w g N out) (hgr : w0.grownBy w (some g)) (hl : 4 ≤ len) (hl3 : len < 12) (hc : off < 2048)
    (h : ∀ a w, RetEc (i + 2) a → Dst w g N (out ++ copyL 1 len off) → w0.grownBy w (some g) → Q .ret a w) : Code.wp Tryd.prog ec19 Q a w := by
  obtain ⟨f, rfl⟩ := hfr.open_
  obtain ⟨⟨v0, g0⟩, f0⟩ := hd.room (o + i) (by omega)
  obtain ⟨⟨v1, g1⟩, f1⟩ := hd.room (o + (i + 1)) (by omega)
  obtain ⟨⟨v2, g2⟩, f2⟩ := hd.room (o + (i + 2)) (by omega)
  have ho := or1u8 (off / 256) (len - 4) (by omega) (by omega)
  rw [show ((len - 4 : Nat) : Int) = (len : Int) - 4 from by omega, show ((off / 256 : Nat) : Int) = (off : Int) / 256 from by omega] at ho
  have e : copyL 1 len off = [UInt8.ofNat (1 + (len - 4) * 4 + off / 256 * 32), UInt8.ofNat (off % 256)] := by
    unfold copyL
    rw [if_pos rfl]
  have d1 := Dst.put hd (by omega) (UInt8.ofNat (1 + (len - 4) * 4 + off / 256 * 32)) ((1 + (len - 4) * 4 + off / 256 * 32 : Nat) : Int) (by rw [toNat_ofNat (by omega)]) (o + i) hol.symm
  have d2 := Dst.put d1 (by simp; omega) (UInt8.ofNat (off % 256)) ((off : Int) % 256) (by rw [toNat_ofNat (Nat.mod_lt _ (by decide))]; rfl) (o + (i + 1)) (by simp; omega)
  have hgg := (hgr.trans (grownBy_put w g (o + i) (.int .u8 ((1 + (len - 4) * 4 + off / 256 * 32 : Nat) : Int)))).trans (grownBy_put _ g (o + (i + 1)) (.int .u8 ((off : Int) % 256)))
  have d3 := d2
  rw [List.append_assoc] at d3
  have HE := hide e
  obtain ⟨y, hy⟩ : ∃ y, y = 1 + (len - 4) * 4 + off / 256 * 32 := ⟨_, rfl⟩
  rw [← hy] at ho hgg d3
  have HP := hide d3
  have HG := hide hgg
  have HY := hide hy
  clear d1 d2 d3 hgg hd hgr hol hfr e hy
  conv => arg 2; whnf
  go_wp2
  refine h _ _ ⟨rfl, rfl⟩ ?_ HG.out
  rw [HE.out, ← HY.out]
  exact HP.out

set_option maxRecDepth 100000 in
set_option maxHeartbeats 1000000 in
theorem ec_r0 (g o n c off len : Nat) (w : World) (Q : Exit → Act → World → Prop) (a : Act) (hfr : EcS g o n c off len a) (h : ∀ a, EcS g o n c off len a → Q .normal a w) : Code.wp Tryd.prog ecR0 Q a w := by
  obtain ⟨f, rfl⟩ := hfr.open_
  clear hfr
  conv => arg 2; whnf
  go_wp2
  exact ⟨rfl, rfl, rfl, rfl, rfl⟩

set_option maxRecDepth 100000 in
set_option maxHeartbeats 1000000 in
theorem ec_r1 (g o n c off len : Nat) (w : World) (Q : Exit → Act → World → Prop) (a : Act) (hfr : EcS g o n c off len a) (h : ∀ a, EcFr g o n c off len 0 a → Q .normal a w) : Code.wp Tryd.prog ecR1 Q a w := by
  obtain ⟨f, rfl⟩ := hfr.open_
  clear hfr
  conv => arg 2; whnf
  go_wp2
  exact ⟨rfl, rfl, rfl, rfl, rfl, rfl⟩


end Snap
end Go.Proofs.YtoihiaenlonncaaDoor

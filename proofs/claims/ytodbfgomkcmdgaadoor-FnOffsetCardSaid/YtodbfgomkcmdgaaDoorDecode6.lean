/-
  snappy.decode: the bytes that tell an element's numbers.
-/
import Derived.Test.YtodbfgomkcmdgaaDoorDecode5
import Derived.Lib.EndianBits
namespace Go.Proofs.YtodbfgomkcmdgaaDoor
open Go.RowKit
set_option linter.unusedVariables false
namespace Snap

set_option maxRecDepth 100000 in
set_option maxHeartbeats 1000000 in
theorem mid_short (Ad : Option Addr) (n cd b off m cs g : Nat) (w0 wr : World) (d s : Nat) (Q : Exit → Act → World → Prop) (a : Act) (x : Nat) (hfr : LFr Ad n cd b off m cs d s x a) (hn : n ≤ 4294967295) (hm : m ≤ 4294967295) (hmcs : m ≤ cs) (hdn : d ≤ n) (hs : s < m) (hx : x < 60) (h : ∀ a, LFr Ad n cd b off m cs d (s + 1) x a → Q .normal a wr) : Code.wp Tryd.prog dMid Q a wr := by
  obtain ⟨f, rfl⟩ := hfr.open_
  conv => arg 2; whnf
  go_wp2
  exact ⟨rfl, rfl, rfl, rfl, rfl, rfl, rfl⟩

set_option maxRecDepth 100000 in
set_option maxHeartbeats 1000000 in
theorem mid1_no (Ad : Option Addr) (n cd b off m cs g : Nat) (w0 wr : World) (d s : Nat) (Q : Exit → Act → World → Prop) (a : Act) (hfr : LFr Ad n cd b off m cs d s 60 a) (hn : n ≤ 4294967295) (hm : m ≤ 4294967295) (hmcs : m ≤ cs) (hdn : d ≤ n) (hs : s < m) (hno : m < s + 2) (hgr : w0.grownBy wr (some g)) (h : ∀ a w, RetOne w0 g a w → Q .ret a w) : Code.wp Tryd.prog dMid Q a wr := by
  obtain ⟨f, rfl⟩ := hfr.open_
  have HG := hide hgr
  clear hgr
  conv => arg 2; whnf
  go_wp2
  exact ⟨rfl, rfl, HG.out⟩

set_option maxRecDepth 100000 in
set_option maxHeartbeats 1000000 in
theorem mid2_no (Ad : Option Addr) (n cd b off m cs g : Nat) (w0 wr : World) (d s : Nat) (Q : Exit → Act → World → Prop) (a : Act) (hfr : LFr Ad n cd b off m cs d s 61 a) (hn : n ≤ 4294967295) (hm : m ≤ 4294967295) (hmcs : m ≤ cs) (hdn : d ≤ n) (hs : s < m) (hno : m < s + 3) (hgr : w0.grownBy wr (some g)) (h : ∀ a w, RetOne w0 g a w → Q .ret a w) : Code.wp Tryd.prog dMid Q a wr := by
  obtain ⟨f, rfl⟩ := hfr.open_
  have HG := hide hgr
  clear hgr
  conv => arg 2; whnf
  go_wp2
  exact ⟨rfl, rfl, HG.out⟩

set_option maxRecDepth 100000 in
set_option maxHeartbeats 1000000 in
theorem mid3_no (Ad : Option Addr) (n cd b off m cs g : Nat) (w0 wr : World) (d s : Nat) (Q : Exit → Act → World → Prop) (a : Act) (hfr : LFr Ad n cd b off m cs d s 62 a) (hn : n ≤ 4294967295) (hm : m ≤ 4294967295) (hmcs : m ≤ cs) (hdn : d ≤ n) (hs : s < m) (hno : m < s + 4) (hgr : w0.grownBy wr (some g)) (h : ∀ a w, RetOne w0 g a w → Q .ret a w) : Code.wp Tryd.prog dMid Q a wr := by
  obtain ⟨f, rfl⟩ := hfr.open_
  have HG := hide hgr
  clear hgr
  conv => arg 2; whnf
  go_wp2
  exact ⟨rfl, rfl, HG.out⟩

set_option maxRecDepth 100000 in
set_option maxHeartbeats 1000000 in
theorem mid4_no (Ad : Option Addr) (n cd b off m cs g : Nat) (w0 wr : World) (d s : Nat) (Q : Exit → Act → World → Prop) (a : Act) (hfr : LFr Ad n cd b off m cs d s 63 a) (hn : n ≤ 4294967295) (hm : m ≤ 4294967295) (hmcs : m ≤ cs) (hdn : d ≤ n) (hs : s < m) (hno : m < s + 5) (hgr : w0.grownBy wr (some g)) (h : ∀ a w, RetOne w0 g a w → Q .ret a w) : Code.wp Tryd.prog dMid Q a wr := by
  obtain ⟨f, rfl⟩ := hfr.open_
  have HG := hide hgr
  clear hgr
  conv => arg 2; whnf
  go_wp2
  exact ⟨rfl, rfl, HG.out⟩

theorem or2 (t1 t2 : Nat) (h1 : t1 < 256) (h2 : t2 < 256) : bits BinOp.or IntKind.u32 (t1 : Int) ((t2 : Int) * 256) = ((t1 + 256 * t2 : Nat) : Int) := by
  rw [u32_or8 _ _ (by omega) (by omega) (by omega) (by omega) (by omega)]
  omega
theorem or3 (x t3 : Nat) (h1 : x < 65536) (h3 : t3 < 256) : bits BinOp.or IntKind.u32 (x : Int) ((t3 : Int) * 65536) = ((x + 65536 * t3 : Nat) : Int) := by
  rw [u32_or16 _ _ (by omega) (by omega) (by omega) (by omega) (by omega)]
  omega
theorem or4 (x t4 : Nat) (h1 : x < 16777216) (h4 : t4 < 256) : bits BinOp.or IntKind.u32 (x : Int) ((t4 : Int) * 16777216) = ((x + 16777216 * t4 : Nat) : Int) := by
  rw [u32_or24 _ _ (by omega) (by omega) (by omega) (by omega) (by omega)]
  omega
theorem and7_fin : ∀ n : Fin 64, bits BinOp.and IntKind.i64 (n.val : Int) 7 = ((n.val % 8 : Nat) : Int) := by decide +kernel
theorem and7 (n : Nat) (h : n < 64) : bits BinOp.and IntKind.i64 (n : Int) 7 = ((n % 8 : Nat) : Int) := and7_fin ⟨n, h⟩
theorem and224_fin : ∀ n : Fin 256, bits BinOp.and IntKind.u32 (n.val : Int) 224 = ((n.val / 32 * 32 : Nat) : Int) := by decide +kernel
theorem and224 (n : Nat) (h : n < 256) : bits BinOp.and IntKind.u32 (n : Int) 224 = ((n / 32 * 32 : Nat) : Int) := and224_fin ⟨n, h⟩
theorem or1 (q t1 : Nat) (h1 : q < 8) (h2 : t1 < 256) : bits BinOp.or IntKind.u32 ((q * 256 : Nat) : Int) (t1 : Int) = ((q * 256 + t1 : Nat) : Int) := by
  have h := bits_join .u32 32 (by decide) wraps_u32 8 ((q * 256 : Nat) : Int) (t1 : Int) (by omega) (by omega) (by omega) (by omega) (by omega) (by omega)
  rw [h]
  omega
theorem w64 (x : Int) (n : Nat) (hx : x = (n : Int)) (h : n < 9223372036854775808) : wrap64 x = (n : Int) := by
  subst hx
  unfold wrap64
  omega
theorem far1 (t t1 : Nat) (ht : t < 256) (h2 : t1 < 256) : wrap64 (bits BinOp.or IntKind.u32 (bits BinOp.and IntKind.u32 (t : Int) 224 * 8 % 4294967296) (t1 : Int)) = ((t / 4 / 8 * 256 + t1 : Nat) : Int) := by
  refine w64 _ _ ?_ (by omega)
  rw [and224 t ht, ← or1 _ t1 (by omega) h2]
  congr 1
  omega
theorem len1 (t : Nat) (ht : t < 256) : wrap64 (4 + bits BinOp.and IntKind.i64 ((t : Int) / 4) 7) = ((t / 4 % 8 + 4 : Nat) : Int) := by
  refine w64 _ _ ?_ (by omega)
  have h := and7 (t / 4) (by omega)
  rw [show (t : Int) / 4 = ((t / 4 : Nat) : Int) from by omega, h]
  omega
theorem len2 (t : Nat) : (1 + (t : Int) / 4) = ((t / 4 + 1 : Nat) : Int) := by omega

set_option maxRecDepth 100000 in
set_option maxHeartbeats 1000000 in
theorem mid1_ok (Ad : Option Addr) (n cd b off m cs g : Nat) (w0 wr : World) (d s : Nat) (Q : Exit → Act → World → Prop) (a : Act) (hfr : LFr Ad n cd b off m cs d s 60 a) (hn : n ≤ 4294967295) (hm : m ≤ 4294967295) (hmcs : m ≤ cs) (hdn : d ≤ n) (hs : s < m) (hok : s + 2 ≤ m) (t1 : Nat) (ht1 : t1 < 256) (g1 : wr.cell? ⟨b, off + (s + 1), none⟩ = some (.int .u8 (t1 : Int)))
    (h : ∀ a k, LFr Ad n cd b off m cs d (s + 2) (t1) a → Q .normal a (wr.drewN k)) : Code.wp Tryd.prog dMid Q a wr := by
  obtain ⟨f, rfl⟩ := hfr.open_
  have e1 : IntKind.i64.wrap ((s : Int) + 2 - 1) = (s : Int) + 1 := by rw [IntWalk.i64_in _ (by omega)]; omega
  conv => arg 2; whnf
  go_wp2
  exact h _ 0 ⟨rfl, rfl, rfl, rfl, rfl, rfl, rfl⟩

set_option maxRecDepth 100000 in
set_option maxHeartbeats 1000000 in
theorem mid2_ok (Ad : Option Addr) (n cd b off m cs g : Nat) (w0 wr : World) (d s : Nat) (Q : Exit → Act → World → Prop) (a : Act) (hfr : LFr Ad n cd b off m cs d s 61 a) (hn : n ≤ 4294967295) (hm : m ≤ 4294967295) (hmcs : m ≤ cs) (hdn : d ≤ n) (hs : s < m) (hok : s + 3 ≤ m) (t1 t2 : Nat) (ht1 : t1 < 256) (ht2 : t2 < 256) (g1 : wr.cell? ⟨b, off + (s + 1), none⟩ = some (.int .u8 (t1 : Int))) (g2 : wr.cell? ⟨b, off + (s + 2), none⟩ = some (.int .u8 (t2 : Int)))
    (h : ∀ a k, LFr Ad n cd b off m cs d (s + 3) (t1 + 256 * t2) a → Q .normal a (wr.drewN k)) : Code.wp Tryd.prog dMid Q a wr := by
  obtain ⟨f, rfl⟩ := hfr.open_
  have e1 : IntKind.i64.wrap ((s : Int) + 3 - 1) = (s : Int) + 2 := by rw [IntWalk.i64_in _ (by omega)]; omega
  have e2 : IntKind.i64.wrap ((s : Int) + 3 - 2) = (s : Int) + 1 := by rw [IntWalk.i64_in _ (by omega)]; omega
  conv => arg 2; whnf
  go_wp2
  go_quiet (fail)
  go_wp2
  exact ⟨rfl, rfl, rfl, rfl, rfl, rfl, by rw [← or2 t1 t2 ht1 ht2]; rfl⟩

set_option maxRecDepth 100000 in
set_option maxHeartbeats 1000000 in
theorem mid3_ok (Ad : Option Addr) (n cd b off m cs g : Nat) (w0 wr : World) (d s : Nat) (Q : Exit → Act → World → Prop) (a : Act) (hfr : LFr Ad n cd b off m cs d s 62 a) (hn : n ≤ 4294967295) (hm : m ≤ 4294967295) (hmcs : m ≤ cs) (hdn : d ≤ n) (hs : s < m) (hok : s + 4 ≤ m) (t1 t2 t3 : Nat) (ht1 : t1 < 256) (ht2 : t2 < 256) (ht3 : t3 < 256) (g1 : wr.cell? ⟨b, off + (s + 1), none⟩ = some (.int .u8 (t1 : Int))) (g2 : wr.cell? ⟨b, off + (s + 2), none⟩ = some (.int .u8 (t2 : Int))) (g3 : wr.cell? ⟨b, off + (s + 3), none⟩ = some (.int .u8 (t3 : Int)))
    (h : ∀ a k, LFr Ad n cd b off m cs d (s + 4) (t1 + 256 * t2 + 65536 * t3) a → Q .normal a (wr.drewN k)) : Code.wp Tryd.prog dMid Q a wr := by
  obtain ⟨f, rfl⟩ := hfr.open_
  have e1 : IntKind.i64.wrap ((s : Int) + 4 - 1) = (s : Int) + 3 := by rw [IntWalk.i64_in _ (by omega)]; omega
  have e2 : IntKind.i64.wrap ((s : Int) + 4 - 2) = (s : Int) + 2 := by rw [IntWalk.i64_in _ (by omega)]; omega
  have e3 : IntKind.i64.wrap ((s : Int) + 4 - 3) = (s : Int) + 1 := by rw [IntWalk.i64_in _ (by omega)]; omega
  conv => arg 2; whnf
  go_wp2
  go_quiet (fail)
  go_wp2
  exact ⟨rfl, rfl, rfl, rfl, rfl, rfl, by rw [← or3 _ t3 (by omega) ht3, ← or2 t1 t2 ht1 ht2]; rfl⟩

set_option maxRecDepth 100000 in
set_option maxHeartbeats 1000000 in
theorem mid4_ok (Ad : Option Addr) (n cd b off m cs g : Nat) (w0 wr : World) (d s : Nat) (Q : Exit → Act → World → Prop) (a : Act) (hfr : LFr Ad n cd b off m cs d s 63 a) (hn : n ≤ 4294967295) (hm : m ≤ 4294967295) (hmcs : m ≤ cs) (hdn : d ≤ n) (hs : s < m) (hok : s + 5 ≤ m) (t1 t2 t3 t4 : Nat) (ht1 : t1 < 256) (ht2 : t2 < 256) (ht3 : t3 < 256) (ht4 : t4 < 256) (g1 : wr.cell? ⟨b, off + (s + 1), none⟩ = some (.int .u8 (t1 : Int))) (g2 : wr.cell? ⟨b, off + (s + 2), none⟩ = some (.int .u8 (t2 : Int))) (g3 : wr.cell? ⟨b, off + (s + 3), none⟩ = some (.int .u8 (t3 : Int))) (g4 : wr.cell? ⟨b, off + (s + 4), none⟩ = some (.int .u8 (t4 : Int)))
    (h : ∀ a k, LFr Ad n cd b off m cs d (s + 5) (t1 + 256 * t2 + 65536 * t3 + 16777216 * t4) a → Q .normal a (wr.drewN k)) : Code.wp Tryd.prog dMid Q a wr := by
  obtain ⟨f, rfl⟩ := hfr.open_
  have e1 : IntKind.i64.wrap ((s : Int) + 5 - 1) = (s : Int) + 4 := by rw [IntWalk.i64_in _ (by omega)]; omega
  have e2 : IntKind.i64.wrap ((s : Int) + 5 - 2) = (s : Int) + 3 := by rw [IntWalk.i64_in _ (by omega)]; omega
  have e3 : IntKind.i64.wrap ((s : Int) + 5 - 3) = (s : Int) + 2 := by rw [IntWalk.i64_in _ (by omega)]; omega
  have e4 : IntKind.i64.wrap ((s : Int) + 5 - 4) = (s : Int) + 1 := by rw [IntWalk.i64_in _ (by omega)]; omega
  conv => arg 2; whnf
  go_wp2
  go_quiet (fail)
  go_wp2
  exact ⟨rfl, rfl, rfl, rfl, rfl, rfl, by rw [← or4 _ t4 (by omega) ht4, ← or3 _ t3 (by omega) ht3, ← or2 t1 t2 ht1 ht2]; rfl⟩

set_option maxRecDepth 100000 in
set_option maxHeartbeats 1000000 in
theorem c1_no (Ad : Option Addr) (n cd b off m cs g : Nat) (w0 wr : World) (d s : Nat) (Q : Exit → Act → World → Prop) (a : Act) (hfr : Fr Ad n cd b off m cs d s a) (hn : n ≤ 4294967295) (hm : m ≤ 4294967295) (hmcs : m ≤ cs) (hdn : d ≤ n) (hs : s < m) (hno : m < s + 2) (hgr : w0.grownBy wr (some g)) (h : ∀ a w, RetOne w0 g a w → Q .ret a w) : Code.wp Tryd.prog dC1 Q a wr := by
  obtain ⟨f, rfl⟩ := hfr.open_
  have HG := hide hgr
  clear hgr
  conv => arg 2; whnf
  go_wp2
  exact ⟨rfl, rfl, HG.out⟩

set_option maxRecDepth 100000 in
set_option maxHeartbeats 1000000 in
theorem c1_ok (Ad : Option Addr) (n cd b off m cs g : Nat) (w0 wr : World) (d s : Nat) (Q : Exit → Act → World → Prop) (a : Act) (hfr : Fr Ad n cd b off m cs d s a) (hn : n ≤ 4294967295) (hm : m ≤ 4294967295) (hmcs : m ≤ cs) (hdn : d ≤ n) (hs : s < m) (hok : s + 2 ≤ m) (t : Nat) (ht : t < 256) (g0 : wr.cell? ⟨b, off + s, none⟩ = some (.int .u8 (t : Int))) (t1 : Nat) (ht1 : t1 < 256) (g1 : wr.cell? ⟨b, off + (s + 1), none⟩ = some (.int .u8 (t1 : Int)))
    (h : ∀ a k, CFr Ad n cd b off m cs d (s + 2) (t / 4 / 8 * 256 + t1) (t / 4 % 8 + 4) a → Q .normal a (wr.drewN k)) : Code.wp Tryd.prog dC1 Q a wr := by
  obtain ⟨f, rfl⟩ := hfr.open_
  have e1 : IntKind.i64.wrap ((s : Int) + 2 - 1) = (s : Int) + 1 := by rw [IntWalk.i64_in _ (by omega)]; omega
  have e2 : IntKind.i64.wrap ((s : Int) + 2 - 2) = (s : Int) := by rw [IntWalk.i64_in _ (by omega)]; omega
  conv => arg 2; whnf
  go_wp2
  go_quiet (fail)
  go_wp2
  exact ⟨rfl, rfl, rfl, rfl, rfl, rfl, congrArg (Value.int .i64) (far1 t t1 ht ht1), congrArg (Value.int .i64) (len1 t ht)⟩

set_option maxRecDepth 100000 in
set_option maxHeartbeats 1000000 in
theorem c2_no (Ad : Option Addr) (n cd b off m cs g : Nat) (w0 wr : World) (d s : Nat) (Q : Exit → Act → World → Prop) (a : Act) (hfr : Fr Ad n cd b off m cs d s a) (hn : n ≤ 4294967295) (hm : m ≤ 4294967295) (hmcs : m ≤ cs) (hdn : d ≤ n) (hs : s < m) (hno : m < s + 3) (hgr : w0.grownBy wr (some g)) (h : ∀ a w, RetOne w0 g a w → Q .ret a w) : Code.wp Tryd.prog dC2 Q a wr := by
  obtain ⟨f, rfl⟩ := hfr.open_
  have HG := hide hgr
  clear hgr
  conv => arg 2; whnf
  go_wp2
  exact ⟨rfl, rfl, HG.out⟩

set_option maxRecDepth 100000 in
set_option maxHeartbeats 1000000 in
theorem c2_ok (Ad : Option Addr) (n cd b off m cs g : Nat) (w0 wr : World) (d s : Nat) (Q : Exit → Act → World → Prop) (a : Act) (hfr : Fr Ad n cd b off m cs d s a) (hn : n ≤ 4294967295) (hm : m ≤ 4294967295) (hmcs : m ≤ cs) (hdn : d ≤ n) (hs : s < m) (hok : s + 3 ≤ m) (t : Nat) (ht : t < 256) (g0 : wr.cell? ⟨b, off + s, none⟩ = some (.int .u8 (t : Int))) (t1 t2 : Nat) (ht1 : t1 < 256) (ht2 : t2 < 256) (g1 : wr.cell? ⟨b, off + (s + 1), none⟩ = some (.int .u8 (t1 : Int))) (g2 : wr.cell? ⟨b, off + (s + 2), none⟩ = some (.int .u8 (t2 : Int)))
    (h : ∀ a k, CFr Ad n cd b off m cs d (s + 3) (t1 + 256 * t2) (t / 4 + 1) a → Q .normal a (wr.drewN k)) : Code.wp Tryd.prog dC2 Q a wr := by
  obtain ⟨f, rfl⟩ := hfr.open_
  have e1 : IntKind.i64.wrap ((s : Int) + 3 - 1) = (s : Int) + 2 := by rw [IntWalk.i64_in _ (by omega)]; omega
  have e2 : IntKind.i64.wrap ((s : Int) + 3 - 2) = (s : Int) + 1 := by rw [IntWalk.i64_in _ (by omega)]; omega
  have e3 : IntKind.i64.wrap ((s : Int) + 3 - 3) = (s : Int) := by rw [IntWalk.i64_in _ (by omega)]; omega
  conv => arg 2; whnf
  go_wp2
  go_quiet (fail)
  go_wp2
  exact ⟨rfl, rfl, rfl, rfl, rfl, rfl, congrArg (Value.int .i64) (w64 _ _ (or2 t1 t2 ht1 ht2) (by omega)), congrArg (Value.int .i64) (len2 t)⟩

set_option maxRecDepth 100000 in
set_option maxHeartbeats 1000000 in
theorem c4_no (Ad : Option Addr) (n cd b off m cs g : Nat) (w0 wr : World) (d s : Nat) (Q : Exit → Act → World → Prop) (a : Act) (hfr : Fr Ad n cd b off m cs d s a) (hn : n ≤ 4294967295) (hm : m ≤ 4294967295) (hmcs : m ≤ cs) (hdn : d ≤ n) (hs : s < m) (hno : m < s + 5) (hgr : w0.grownBy wr (some g)) (h : ∀ a w, RetOne w0 g a w → Q .ret a w) : Code.wp Tryd.prog dC4 Q a wr := by
  obtain ⟨f, rfl⟩ := hfr.open_
  have HG := hide hgr
  clear hgr
  conv => arg 2; whnf
  go_wp2
  exact ⟨rfl, rfl, HG.out⟩

set_option maxRecDepth 100000 in
set_option maxHeartbeats 1000000 in
theorem c4_ok (Ad : Option Addr) (n cd b off m cs g : Nat) (w0 wr : World) (d s : Nat) (Q : Exit → Act → World → Prop) (a : Act) (hfr : Fr Ad n cd b off m cs d s a) (hn : n ≤ 4294967295) (hm : m ≤ 4294967295) (hmcs : m ≤ cs) (hdn : d ≤ n) (hs : s < m) (hok : s + 5 ≤ m) (t : Nat) (ht : t < 256) (g0 : wr.cell? ⟨b, off + s, none⟩ = some (.int .u8 (t : Int))) (t1 t2 t3 t4 : Nat) (ht1 : t1 < 256) (ht2 : t2 < 256) (ht3 : t3 < 256) (ht4 : t4 < 256) (g1 : wr.cell? ⟨b, off + (s + 1), none⟩ = some (.int .u8 (t1 : Int))) (g2 : wr.cell? ⟨b, off + (s + 2), none⟩ = some (.int .u8 (t2 : Int))) (g3 : wr.cell? ⟨b, off + (s + 3), none⟩ = some (.int .u8 (t3 : Int))) (g4 : wr.cell? ⟨b, off + (s + 4), none⟩ = some (.int .u8 (t4 : Int)))
    (h : ∀ a k, CFr Ad n cd b off m cs d (s + 5) (t1 + 256 * t2 + 65536 * t3 + 16777216 * t4) (t / 4 + 1) a → Q .normal a (wr.drewN k)) : Code.wp Tryd.prog dC4 Q a wr := by
  obtain ⟨f, rfl⟩ := hfr.open_
  have e1 : IntKind.i64.wrap ((s : Int) + 5 - 1) = (s : Int) + 4 := by rw [IntWalk.i64_in _ (by omega)]; omega
  have e2 : IntKind.i64.wrap ((s : Int) + 5 - 2) = (s : Int) + 3 := by rw [IntWalk.i64_in _ (by omega)]; omega
  have e3 : IntKind.i64.wrap ((s : Int) + 5 - 3) = (s : Int) + 2 := by rw [IntWalk.i64_in _ (by omega)]; omega
  have e4 : IntKind.i64.wrap ((s : Int) + 5 - 4) = (s : Int) + 1 := by rw [IntWalk.i64_in _ (by omega)]; omega
  have e5 : IntKind.i64.wrap ((s : Int) + 5 - 5) = (s : Int) := by rw [IntWalk.i64_in _ (by omega)]; omega
  conv => arg 2; whnf
  go_wp2
  go_quiet (fail)
  go_wp2
  exact ⟨rfl, rfl, rfl, rfl, rfl, rfl, congrArg (Value.int .i64) (w64 _ _ (by rw [← or4 _ t4 (by omega) ht4, ← or3 _ t3 (by omega) ht3, ← or2 t1 t2 ht1 ht2]) (by omega)), congrArg (Value.int .i64) (len2 t)⟩


end Snap
end Go.Proofs.YtodbfgomkcmdgaaDoor

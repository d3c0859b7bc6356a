/-
  snappy.decode: the regions at an element's head.
-/
import Derived.Test.YtodbfgomkcmdgaaDoorDecode4
import Derived.Test.YtodbfgomkcmdgaaDoorSteps
namespace Go.Proofs.YtodbfgomkcmdgaaDoor
open Go.RowKit
set_option linter.unusedVariables false
namespace Snap

/-- The frame behind the tag's two low bits. -/
structure TFr (Ad : Option Addr) (n cd b off m cs : Nat) (d s k : Nat) (a : Act) : Prop where
  size : a.tmps.size = 371
  defers : a.defers = []
  s0 : a.tmps.getD 0 undef = .slice Ad n cd
  s1 : a.tmps.getD 1 undef = .slice (some ⟨b, off, none⟩) m cs
  s5 : a.tmps.getD 5 undef = .int .i64 (d : Int)
  s6 : a.tmps.getD 6 undef = .int .i64 (s : Int)
  s21 : a.tmps.getD 21 undef = .int .u8 (k : Int)

set_option maxRecDepth 100000 in
theorem TFr.open_ {Ad : Option Addr} {n cd b off m cs : Nat} {d s k : Nat} {a : Act} (h : TFr Ad n cd b off m cs d s k a) : ∃ f : Nat → Value, a = ⟨#[.slice Ad n cd, .slice (some ⟨b, off, none⟩) m cs, f 2, f 3, f 4, .int .i64 (d : Int), .int .i64 (s : Int), f 7, f 8, f 9, f 10, f 11, f 12, f 13, f 14, f 15, f 16, f 17, f 18, f 19, f 20, .int .u8 (k : Int), f 22, f 23, f 24, f 25, f 26, f 27, f 28, f 29, f 30, f 31, f 32, f 33, f 34, f 35, f 36, f 37, f 38, f 39, f 40, f 41, f 42, f 43, f 44, f 45, f 46, f 47, f 48, f 49, f 50, f 51, f 52, f 53, f 54, f 55, f 56, f 57, f 58, f 59, f 60, f 61, f 62, f 63, f 64, f 65, f 66, f 67, f 68, f 69, f 70, f 71, f 72, f 73, f 74, f 75, f 76, f 77, f 78, f 79, f 80, f 81, f 82, f 83, f 84, f 85, f 86, f 87, f 88, f 89, f 90, f 91, f 92, f 93, f 94, f 95, f 96, f 97, f 98, f 99, f 100, f 101, f 102, f 103, f 104, f 105, f 106, f 107, f 108, f 109, f 110, f 111, f 112, f 113, f 114, f 115, f 116, f 117, f 118, f 119, f 120, f 121, f 122, f 123, f 124, f 125, f 126, f 127, f 128, f 129, f 130, f 131, f 132, f 133, f 134, f 135, f 136, f 137, f 138, f 139, f 140, f 141, f 142, f 143, f 144, f 145, f 146, f 147, f 148, f 149, f 150, f 151, f 152, f 153, f 154, f 155, f 156, f 157, f 158, f 159, f 160, f 161, f 162, f 163, f 164, f 165, f 166, f 167, f 168, f 169, f 170, f 171, f 172, f 173, f 174, f 175, f 176, f 177, f 178, f 179, f 180, f 181, f 182, f 183, f 184, f 185, f 186, f 187, f 188, f 189, f 190, f 191, f 192, f 193, f 194, f 195, f 196, f 197, f 198, f 199, f 200, f 201, f 202, f 203, f 204, f 205, f 206, f 207, f 208, f 209, f 210, f 211, f 212, f 213, f 214, f 215, f 216, f 217, f 218, f 219, f 220, f 221, f 222, f 223, f 224, f 225, f 226, f 227, f 228, f 229, f 230, f 231, f 232, f 233, f 234, f 235, f 236, f 237, f 238, f 239, f 240, f 241, f 242, f 243, f 244, f 245, f 246, f 247, f 248, f 249, f 250, f 251, f 252, f 253, f 254, f 255, f 256, f 257, f 258, f 259, f 260, f 261, f 262, f 263, f 264, f 265, f 266, f 267, f 268, f 269, f 270, f 271, f 272, f 273, f 274, f 275, f 276, f 277, f 278, f 279, f 280, f 281, f 282, f 283, f 284, f 285, f 286, f 287, f 288, f 289, f 290, f 291, f 292, f 293, f 294, f 295, f 296, f 297, f 298, f 299, f 300, f 301, f 302, f 303, f 304, f 305, f 306, f 307, f 308, f 309, f 310, f 311, f 312, f 313, f 314, f 315, f 316, f 317, f 318, f 319, f 320, f 321, f 322, f 323, f 324, f 325, f 326, f 327, f 328, f 329, f 330, f 331, f 332, f 333, f 334, f 335, f 336, f 337, f 338, f 339, f 340, f 341, f 342, f 343, f 344, f 345, f 346, f 347, f 348, f 349, f 350, f 351, f 352, f 353, f 354, f 355, f 356, f 357, f 358, f 359, f 360, f 361, f 362, f 363, f 364, f 365, f 366, f 367, f 368, f 369, f 370], []⟩ := by
  obtain ⟨f, hf, ha⟩ := open371 a h.size h.defers
  refine ⟨f, ha.trans ?_⟩
  simp only [(hf 0).trans h.s0, (hf 1).trans h.s1, (hf 5).trans h.s5, (hf 6).trans h.s6, (hf 21).trans h.s21]

noncomputable def dR2 : Code := c1 dLoop
noncomputable def dR3 : Code := c1 (c1 dB1)
noncomputable def dR4 : Code := c1 dB2
noncomputable def dE1 : Code := cE (c2 dB2)
noncomputable def dR36 : Code := c1 dE1
noncomputable def dC1 : Code := cT (c2 dE1)
noncomputable def dE2 : Code := cE (c2 dE1)
noncomputable def dR42 : Code := c1 dE2
noncomputable def dC2 : Code := cT (c2 dE2)
noncomputable def dE3 : Code := cE (c2 dE2)
noncomputable def dR48 : Code := c1 dE3
noncomputable def dC4 : Code := cT (c2 dE3)
noncomputable def dR5 : Code := c1 dLit
noncomputable def dMid : Code := c1 (c2 dLit)
theorem dLoop_eq : dLoop = .seq dR2 (.block 1 (.seq (.seq dR3 (.block 2 dB2)) dTail)) := by kernel_rfl
theorem dB2_eq : dB2 = .seq dR4 (.cond (.tmp 22) dLit dE1) := by kernel_rfl
theorem dE1_eq : dE1 = .seq dR36 (.cond (.tmp 186) dC1 dE2) := by kernel_rfl
theorem dE2_eq : dE2 = .seq dR42 (.cond (.tmp 221) dC2 dE3) := by kernel_rfl
theorem dE3_eq : dE3 = .seq dR48 (.cond (.tmp 254) dC4 .skip) := by kernel_rfl
theorem dLit_eq : dLit = .seq dR5 (.seq dMid dLitTail) := by kernel_rfl

theorem and3_fin : ∀ n : Fin 256, bits BinOp.and IntKind.u8 (n.val : Int) 3 = ((n.val % 4 : Nat) : Int) := by decide +kernel
theorem and3_u8 (n : Nat) (h : n < 256) : bits BinOp.and IntKind.u8 (n : Int) 3 = ((n % 4 : Nat) : Int) := and3_fin ⟨n, h⟩

set_option maxRecDepth 100000 in
set_option maxHeartbeats 1000000 in
theorem r2_more (Ad : Option Addr) (n cd b off m cs : Nat) (wr : World) (d s : Nat) (Q : Exit → Act → World → Prop) (a : Act) (hfr : Fr Ad n cd b off m cs d s a) (hn : n ≤ 4294967295) (hm : m ≤ 4294967295) (hmcs : m ≤ cs) (hdn : d ≤ n) (hs : s < m) (h : ∀ a, Fr Ad n cd b off m cs d s a → Q .normal a wr) : Code.wp Tryd.prog dR2 Q a wr := by
  obtain ⟨f, rfl⟩ := hfr.open_
  conv => arg 2; whnf
  go_wp2
  exact ⟨rfl, rfl, rfl, rfl, rfl, rfl⟩

set_option maxRecDepth 100000 in
set_option maxHeartbeats 1000000 in
theorem r2_end (Ad : Option Addr) (n cd b off m cs : Nat) (wr : World) (d s : Nat) (Q : Exit → Act → World → Prop) (a : Act) (hfr : Fr Ad n cd b off m cs d s a) (hn : n ≤ 4294967295) (hm : m ≤ 4294967295) (hmcs : m ≤ cs) (hdn : d ≤ n) (hs : s = m) (h : ∀ a, Fr Ad n cd b off m cs d s a → Q (.exit 0) a wr) : Code.wp Tryd.prog dR2 Q a wr := by
  subst hs
  obtain ⟨f, rfl⟩ := hfr.open_
  conv => arg 2; whnf
  go_wp2
  exact ⟨rfl, rfl, rfl, rfl, rfl, rfl⟩

set_option maxRecDepth 100000 in
set_option maxHeartbeats 1000000 in
theorem r3_any (Ad : Option Addr) (n cd b off m cs : Nat) (wr : World) (d s : Nat) (Q : Exit → Act → World → Prop) (a : Act) (hfr : Fr Ad n cd b off m cs d s a) (hn : n ≤ 4294967295) (hm : m ≤ 4294967295) (hmcs : m ≤ cs) (hdn : d ≤ n) (hs : s < m) (t : Nat) (ht : t < 256) (g1 : wr.cell? ⟨b, off + s, none⟩ = some (.int .u8 (t : Int))) (h : ∀ a, TFr Ad n cd b off m cs d s (t % 4) a → Q .normal a wr) : Code.wp Tryd.prog dR3 Q a wr := by
  obtain ⟨f, rfl⟩ := hfr.open_
  have h3 := and3_u8 t ht
  conv => arg 2; whnf
  go_wp2
  exact ⟨rfl, rfl, rfl, rfl, rfl, rfl, rfl⟩

set_option maxRecDepth 100000 in
set_option maxHeartbeats 1000000 in
theorem r4_any (Ad : Option Addr) (n cd b off m cs : Nat) (wr : World) (d s : Nat) (Q : Exit → Act → World → Prop) (a : Act) (k : Nat) (hfr : TFr Ad n cd b off m cs d s k a) (hn : n ≤ 4294967295) (hm : m ≤ 4294967295) (hmcs : m ≤ cs) (hdn : d ≤ n) (hk : k < 4) (h : ∀ a, TFr Ad n cd b off m cs d s k a → a.eval (.tmp 22) = .bool (decide (k = 0)) → Q .normal a wr) : Code.wp Tryd.prog dR4 Q a wr := by
  obtain ⟨f, rfl⟩ := hfr.open_
  conv => arg 2; whnf
  go_wp2
  refine h _ ⟨rfl, rfl, rfl, rfl, rfl, rfl, rfl⟩ ?_
  exact congrArg Value.bool (nat_beq k 0)

set_option maxRecDepth 100000 in
set_option maxHeartbeats 1000000 in
theorem r36_any (Ad : Option Addr) (n cd b off m cs : Nat) (wr : World) (d s : Nat) (Q : Exit → Act → World → Prop) (a : Act) (k : Nat) (hfr : TFr Ad n cd b off m cs d s k a) (hn : n ≤ 4294967295) (hm : m ≤ 4294967295) (hmcs : m ≤ cs) (hdn : d ≤ n) (hk : k < 4) (h : ∀ a, TFr Ad n cd b off m cs d s k a → a.eval (.tmp 186) = .bool (decide (k = 1)) → Q .normal a wr) : Code.wp Tryd.prog dR36 Q a wr := by
  obtain ⟨f, rfl⟩ := hfr.open_
  conv => arg 2; whnf
  go_wp2
  refine h _ ⟨rfl, rfl, rfl, rfl, rfl, rfl, rfl⟩ ?_
  exact congrArg Value.bool (nat_beq k 1)

set_option maxRecDepth 100000 in
set_option maxHeartbeats 1000000 in
theorem r42_any (Ad : Option Addr) (n cd b off m cs : Nat) (wr : World) (d s : Nat) (Q : Exit → Act → World → Prop) (a : Act) (k : Nat) (hfr : TFr Ad n cd b off m cs d s k a) (hn : n ≤ 4294967295) (hm : m ≤ 4294967295) (hmcs : m ≤ cs) (hdn : d ≤ n) (hk : k < 4) (h : ∀ a, TFr Ad n cd b off m cs d s k a → a.eval (.tmp 221) = .bool (decide (k = 2)) → Q .normal a wr) : Code.wp Tryd.prog dR42 Q a wr := by
  obtain ⟨f, rfl⟩ := hfr.open_
  conv => arg 2; whnf
  go_wp2
  refine h _ ⟨rfl, rfl, rfl, rfl, rfl, rfl, rfl⟩ ?_
  exact congrArg Value.bool (nat_beq k 2)

set_option maxRecDepth 100000 in
set_option maxHeartbeats 1000000 in
theorem r48_any (Ad : Option Addr) (n cd b off m cs : Nat) (wr : World) (d s : Nat) (Q : Exit → Act → World → Prop) (a : Act) (k : Nat) (hfr : TFr Ad n cd b off m cs d s k a) (hn : n ≤ 4294967295) (hm : m ≤ 4294967295) (hmcs : m ≤ cs) (hdn : d ≤ n) (hk : k < 4) (h : ∀ a, TFr Ad n cd b off m cs d s k a → a.eval (.tmp 254) = .bool (decide (k = 3)) → Q .normal a wr) : Code.wp Tryd.prog dR48 Q a wr := by
  obtain ⟨f, rfl⟩ := hfr.open_
  conv => arg 2; whnf
  go_wp2
  refine h _ ⟨rfl, rfl, rfl, rfl, rfl, rfl, rfl⟩ ?_
  exact congrArg Value.bool (nat_beq k 3)

set_option maxRecDepth 100000 in
set_option maxHeartbeats 1000000 in
theorem r5_any (Ad : Option Addr) (n cd b off m cs : Nat) (wr : World) (d s : Nat) (Q : Exit → Act → World → Prop) (a : Act) (hfr : TFr Ad n cd b off m cs d s 0 a) (hn : n ≤ 4294967295) (hm : m ≤ 4294967295) (hmcs : m ≤ cs) (hdn : d ≤ n) (hs : s < m) (t : Nat) (ht : t < 256) (g1 : wr.cell? ⟨b, off + s, none⟩ = some (.int .u8 (t : Int))) (h : ∀ a, LFr Ad n cd b off m cs d s (t / 4) a → Q .normal a wr) : Code.wp Tryd.prog dR5 Q a wr := by
  obtain ⟨f, rfl⟩ := hfr.open_
  conv => arg 2; whnf
  go_wp2
  exact ⟨rfl, rfl, rfl, rfl, rfl, rfl, rfl⟩


end Snap
end Go.Proofs.YtodbfgomkcmdgaaDoor

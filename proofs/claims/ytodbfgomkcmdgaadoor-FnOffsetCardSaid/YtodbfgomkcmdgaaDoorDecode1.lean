/-
  snappy.decode, walked in parts.
-/
import Derived.Test.YtodbfgomkcmdgaaDoorFrame
import Derived.BigQuiet
namespace Go.Proofs.YtodbfgomkcmdgaaDoor
open Go.RowKit
set_option linter.unusedVariables false
namespace Snap

/-- The row in which the text is laid: its first cells are 'out'. -/
def Dst (w : World) (g n : Nat) (out : Bs) : Prop :=
  0 < n → ∃ cur : List Value, w.heap[g]? = some (.cells cur.toArray 5 (0, 0)) ∧ n ≤ cur.length ∧ ∀ j, j < out.length → cur[j]? = some (bv (out.getD j 0))

/-- The source's bytes lie in another block than the row. -/
structure Src (w : World) (g b off m : Nat) (ys : Bs) : Prop where
  len : ys.length = m
  ne : b ≠ g
  lt : b < w.heap.size
  cell : ∀ j, j < m → w.cell? ⟨b, off + j, none⟩ = some (.int .u8 ((ys.getD j 0).toNat : Int))

theorem Src.grown {w w' : World} {g b off m : Nat} {ys : Bs} (h : Src w g b off m ys) (hg : w.grownBy w' (some g)) : Src w' g b off m ys :=
  ⟨h.len, h.ne, Nat.lt_of_lt_of_le h.lt hg.size, fun j hj => (hg.cell_far ⟨b, off + j, none⟩ h.lt (by simp; exact h.ne)).trans (h.cell j hj)⟩

theorem Src.drewN {w : World} {g b off m : Nat} {ys : Bs} (h : Src w g b off m ys) (k : Nat) : Src (w.drewN k) g b off m ys := ⟨h.len, h.ne, h.lt, h.cell⟩

/-- The frame at a round's head. -/
structure Fr (Ad : Option Addr) (n cd b off m cs : Nat) (d s : Nat) (a : Act) : Prop where
  size : a.tmps.size = 371
  defers : a.defers = []
  s0 : a.tmps.getD 0 undef = .slice Ad n cd
  s1 : a.tmps.getD 1 undef = .slice (some ⟨b, off, none⟩) m cs
  s5 : a.tmps.getD 5 undef = .int .i64 (d : Int)
  s6 : a.tmps.getD 6 undef = .int .i64 (s : Int)

/-- The end of a refused block: 1 is returned. -/
def RetOne (w0 : World) (g : Nat) (a : Act) (w : World) : Prop := a.defers = [] ∧ a.tmps.getD 4 undef = .int .i64 1 ∧ w0.grownBy w (some g)

/-- The end of a round: so much more has been said. -/
def Said (w0 : World) (g : Nat) (Ad : Option Addr) (n cd b off m cs : Nat) (d s : Nat) (out : Bs) (a : Act) (w : World) : Prop :=
  Fr Ad n cd b off m cs d s a ∧ Dst w g n out ∧ w0.grownBy w (some g)

noncomputable def dBody : Code := bodyOf Tryd.f43
noncomputable def dLoop : Code := cL (cB (c1 (c2 (c2 dBody))))
noncomputable def dB1 : Code := cB (c2 dLoop)
noncomputable def dB2 : Code := cB (c2 (c1 dB1))
noncomputable def dTail : Code := c2 dB1
noncomputable def dLit : Code := cT (c2 dB2)
noncomputable def dLitTail : Code := c2 (c2 dLit)

set_option maxRecDepth 100000 in
set_option maxHeartbeats 1000000 in
theorem litTail_no (f : Nat → Value) (Ad : Option Addr) (n cd b off m cs g : Nat) (ys : Bs) (w0 wr : World) (d s x : Nat) (out : Bs) (Q : Exit → Act → World → Prop) (hn : n ≤ 4294967295) (hm : m ≤ 4294967295) (hncd : n ≤ cd) (hmcs : m ≤ cs) (hdn : d ≤ n) (hsm : s ≤ m) (hx : x < 4294967296) (hno : n < d + (x + 1) ∨ m < s + (x + 1)) (hgr : w0.grownBy wr (some g))
    (hret : ∀ a w, RetOne w0 g a w → Q .ret a w) : Code.wp Tryd.prog dLitTail Q ⟨#[.slice Ad n cd, .slice (some ⟨b, off, none⟩) m cs, f 2, f 3, f 4, .int .i64 (d : Int), .int .i64 (s : Int), f 7, f 8, .int .u32 (x : Int), f 10, f 11, f 12, f 13, f 14, f 15, f 16, f 17, f 18, f 19, f 20, f 21, f 22, f 23, f 24, f 25, f 26, f 27, f 28, f 29, f 30, f 31, f 32, f 33, f 34, f 35, f 36, f 37, f 38, f 39, f 40, f 41, f 42, f 43, f 44, f 45, f 46, f 47, f 48, f 49, f 50, f 51, f 52, f 53, f 54, f 55, f 56, f 57, f 58, f 59, f 60, f 61, f 62, f 63, f 64, f 65, f 66, f 67, f 68, f 69, f 70, f 71, f 72, f 73, f 74, f 75, f 76, f 77, f 78, f 79, f 80, f 81, f 82, f 83, f 84, f 85, f 86, f 87, f 88, f 89, f 90, f 91, f 92, f 93, f 94, f 95, f 96, f 97, f 98, f 99, f 100, f 101, f 102, f 103, f 104, f 105, f 106, f 107, f 108, f 109, f 110, f 111, f 112, f 113, f 114, f 115, f 116, f 117, f 118, f 119, f 120, f 121, f 122, f 123, f 124, f 125, f 126, f 127, f 128, f 129, f 130, f 131, f 132, f 133, f 134, f 135, f 136, f 137, f 138, f 139, f 140, f 141, f 142, f 143, f 144, f 145, f 146, f 147, f 148, f 149, f 150, f 151, f 152, f 153, f 154, f 155, f 156, f 157, f 158, f 159, f 160, f 161, f 162, f 163, f 164, f 165, f 166, f 167, f 168, f 169, f 170, f 171, f 172, f 173, f 174, f 175, f 176, f 177, f 178, f 179, f 180, f 181, f 182, f 183, f 184, f 185, f 186, f 187, f 188, f 189, f 190, f 191, f 192, f 193, f 194, f 195, f 196, f 197, f 198, f 199, f 200, f 201, f 202, f 203, f 204, f 205, f 206, f 207, f 208, f 209, f 210, f 211, f 212, f 213, f 214, f 215, f 216, f 217, f 218, f 219, f 220, f 221, f 222, f 223, f 224, f 225, f 226, f 227, f 228, f 229, f 230, f 231, f 232, f 233, f 234, f 235, f 236, f 237, f 238, f 239, f 240, f 241, f 242, f 243, f 244, f 245, f 246, f 247, f 248, f 249, f 250, f 251, f 252, f 253, f 254, f 255, f 256, f 257, f 258, f 259, f 260, f 261, f 262, f 263, f 264, f 265, f 266, f 267, f 268, f 269, f 270, f 271, f 272, f 273, f 274, f 275, f 276, f 277, f 278, f 279, f 280, f 281, f 282, f 283, f 284, f 285, f 286, f 287, f 288, f 289, f 290, f 291, f 292, f 293, f 294, f 295, f 296, f 297, f 298, f 299, f 300, f 301, f 302, f 303, f 304, f 305, f 306, f 307, f 308, f 309, f 310, f 311, f 312, f 313, f 314, f 315, f 316, f 317, f 318, f 319, f 320, f 321, f 322, f 323, f 324, f 325, f 326, f 327, f 328, f 329, f 330, f 331, f 332, f 333, f 334, f 335, f 336, f 337, f 338, f 339, f 340, f 341, f 342, f 343, f 344, f 345, f 346, f 347, f 348, f 349, f 350, f 351, f 352, f 353, f 354, f 355, f 356, f 357, f 358, f 359, f 360, f 361, f 362, f 363, f 364, f 365, f 366, f 367, f 368, f 369, f 370], []⟩ wr := by
  have HG := hide hgr
  clear hgr
  conv => arg 2; whnf
  by_cases h1 : n < d + (x + 1)
  · clear hno
    go_wp2
    exact ⟨rfl, rfl, HG.out⟩
  · have h2 : m < s + (x + 1) := by omega
    have h1' : d + (x + 1) ≤ n := by omega
    clear hno h1
    go_wp2
    exact ⟨rfl, rfl, HG.out⟩


theorem cutA_at {Ad : Option Addr} {g cd n d : Nat} (hd : 0 < n → Ad = some ⟨g, 0, none⟩) (hdn : d < n) (hncd : n ≤ cd) : cutA Ad cd d = some ⟨g, d, none⟩ := by
  rw [hd (by omega)]
  unfold cutA
  rw [if_neg (by omega)]
  simp [Addr.add]
  intro h
  exact h.symm

theorem cutA_src {b off cs s : Nat} (h : s < cs) : cutA (some ⟨b, off, none⟩) cs s = some ⟨b, off + s, none⟩ := by
  unfold cutA
  rw [if_neg (by omega)]
  simp only [Option.map_some, Addr.add]
  split
  · rename_i h0; subst h0; simp
  · rfl

/-- The row behind a copy of more bytes to its text's end. -/
theorem Dst.more {w' : World} {g n : Nat} {out zs : Bs} {cur : List Value} (hc : n ≤ cur.length) (hl : out.length + zs.length ≤ n) (ho : ∀ j, j < out.length → cur[j]? = some (bv (out.getD j 0)))
    (hg : w'.heap[g]? = some (.cells (splice cur out.length (zs.map bv)).toArray 5 (0, 0))) : Dst w' g n (out ++ zs) := by
  intro _
  refine ⟨_, hg, by rw [length_splice _ _ _ (by simp; omega)]; exact hc, fun j hj => ?_⟩
  rw [splice_at _ _ _ _ (by simp; omega)]
  rw [List.length_append] at hj
  by_cases h1 : j < out.length
  · rw [if_pos h1, ho j h1]
    simp [List.getD_eq_getElem?_getD, List.getElem?_append_left h1]
  · rw [if_neg h1, if_pos (by simp; omega)]
    simp only [List.getElem?_map, List.getD_eq_getElem?_getD]
    rw [List.getElem?_append_right (by omega), List.getElem?_eq_getElem (by omega)]
    rfl

set_option maxRecDepth 100000 in
set_option maxHeartbeats 1000000 in
theorem litTail_ok (f : Nat → Value) (Ad : Option Addr) (n cd b off m cs g : Nat) (ys : Bs) (w0 wr : World) (d s x : Nat) (out : Bs) (Q : Exit → Act → World → Prop) (hn : n ≤ 4294967295) (hm : m ≤ 4294967295) (hncd : n ≤ cd) (hmcs : m ≤ cs) (hdn : d ≤ n) (hsm : s ≤ m) (hx : x < 4294967296) (h1 : d + (x + 1) ≤ n) (h2 : s + (x + 1) ≤ m) (hout : out.length = d) (hAd : 0 < n → Ad = some ⟨g, 0, none⟩) (hdst : Dst wr g n out) (hsrc : Src wr g b off m ys) (hgr : w0.grownBy wr (some g))
    (hexit : ∀ a w, Said w0 g Ad n cd b off m cs (d + (x + 1)) (s + (x + 1)) (out ++ (ys.drop s).take (x + 1)) a w → Q (.exit 1) a w) : Code.wp Tryd.prog dLitTail Q ⟨#[.slice Ad n cd, .slice (some ⟨b, off, none⟩) m cs, f 2, f 3, f 4, .int .i64 (d : Int), .int .i64 (s : Int), f 7, f 8, .int .u32 (x : Int), f 10, f 11, f 12, f 13, f 14, f 15, f 16, f 17, f 18, f 19, f 20, f 21, f 22, f 23, f 24, f 25, f 26, f 27, f 28, f 29, f 30, f 31, f 32, f 33, f 34, f 35, f 36, f 37, f 38, f 39, f 40, f 41, f 42, f 43, f 44, f 45, f 46, f 47, f 48, f 49, f 50, f 51, f 52, f 53, f 54, f 55, f 56, f 57, f 58, f 59, f 60, f 61, f 62, f 63, f 64, f 65, f 66, f 67, f 68, f 69, f 70, f 71, f 72, f 73, f 74, f 75, f 76, f 77, f 78, f 79, f 80, f 81, f 82, f 83, f 84, f 85, f 86, f 87, f 88, f 89, f 90, f 91, f 92, f 93, f 94, f 95, f 96, f 97, f 98, f 99, f 100, f 101, f 102, f 103, f 104, f 105, f 106, f 107, f 108, f 109, f 110, f 111, f 112, f 113, f 114, f 115, f 116, f 117, f 118, f 119, f 120, f 121, f 122, f 123, f 124, f 125, f 126, f 127, f 128, f 129, f 130, f 131, f 132, f 133, f 134, f 135, f 136, f 137, f 138, f 139, f 140, f 141, f 142, f 143, f 144, f 145, f 146, f 147, f 148, f 149, f 150, f 151, f 152, f 153, f 154, f 155, f 156, f 157, f 158, f 159, f 160, f 161, f 162, f 163, f 164, f 165, f 166, f 167, f 168, f 169, f 170, f 171, f 172, f 173, f 174, f 175, f 176, f 177, f 178, f 179, f 180, f 181, f 182, f 183, f 184, f 185, f 186, f 187, f 188, f 189, f 190, f 191, f 192, f 193, f 194, f 195, f 196, f 197, f 198, f 199, f 200, f 201, f 202, f 203, f 204, f 205, f 206, f 207, f 208, f 209, f 210, f 211, f 212, f 213, f 214, f 215, f 216, f 217, f 218, f 219, f 220, f 221, f 222, f 223, f 224, f 225, f 226, f 227, f 228, f 229, f 230, f 231, f 232, f 233, f 234, f 235, f 236, f 237, f 238, f 239, f 240, f 241, f 242, f 243, f 244, f 245, f 246, f 247, f 248, f 249, f 250, f 251, f 252, f 253, f 254, f 255, f 256, f 257, f 258, f 259, f 260, f 261, f 262, f 263, f 264, f 265, f 266, f 267, f 268, f 269, f 270, f 271, f 272, f 273, f 274, f 275, f 276, f 277, f 278, f 279, f 280, f 281, f 282, f 283, f 284, f 285, f 286, f 287, f 288, f 289, f 290, f 291, f 292, f 293, f 294, f 295, f 296, f 297, f 298, f 299, f 300, f 301, f 302, f 303, f 304, f 305, f 306, f 307, f 308, f 309, f 310, f 311, f 312, f 313, f 314, f 315, f 316, f 317, f 318, f 319, f 320, f 321, f 322, f 323, f 324, f 325, f 326, f 327, f 328, f 329, f 330, f 331, f 332, f 333, f 334, f 335, f 336, f 337, f 338, f 339, f 340, f 341, f 342, f 343, f 344, f 345, f 346, f 347, f 348, f 349, f 350, f 351, f 352, f 353, f 354, f 355, f 356, f 357, f 358, f 359, f 360, f 361, f 362, f 363, f 364, f 365, f 366, f 367, f 368, f 369, f 370], []⟩ wr := by
  obtain ⟨cur, hcur, hclen, hco⟩ := hdst (by omega)
  have hcutd := cutA_at hAd (show d < n by omega) hncd
  have hcuts := cutA_src (b := b) (off := off) (show s < cs by omega)
  have HG := hide hgr
  have HS := hide hsrc
  have HO := hide hout
  have HCO := hide hco
  have HCU := hide hcur
  have HD := hide hcutd
  have HC := hide hcuts
  have HA := hide hAd
  clear hgr hsrc hout hco hcur hcutd hcuts hAd hdst
  have hsl1 := run_cut_l Ad n cd (d : Int) d (by omega) (by omega) (by omega)
  have hsl2 := run_cut_lh (some ⟨b, off, none⟩) m cs (s : Int) ((s : Int) + ((x : Int) + 1)) s (s + (x + 1)) (by omega) (by omega) (by omega) (by omega) (by omega)
  rw [show s + (x + 1) - s = x + 1 from by omega] at hsl2
  conv => arg 2; whnf
  go_wp2
  have hwr : IntKind.i64.wrap ((s : Int) + ((x : Int) + 1)) = (s : Int) + ((x : Int) + 1) := IntWalk.i64_in _ (by omega)
  go_still_tail 9, (by kernel_rfl)
  clear hsl1 hsl2 hwr
  change wpList _ _ _ _ _ wr.drew
  refine copy_own rfl (.tmp 172) (.tmp 178) rfl (cutA Ad cd d) (cutA (some ⟨b, off, none⟩) cs s) (n - d) (cd - d) (x + 1) (cs - s) rfl rfl g d cur HCU.out (((ys.drop s).take (x + 1)).map bv) ?_ ?_ ?_ (bytes_oneCell _) ?_
  · have := HS.out.len
    rw [List.length_map, List.length_take, List.length_drop]
    show _ = min _ _
    omega
  · intro _
    refine ⟨HD.out, _, HC.out, fun j v hj => ?_⟩
    have hjl : j < x + 1 := by
      have := (List.getElem?_eq_some_iff.1 hj).1
      rw [List.length_map, List.length_take] at this
      omega
    have hl := HS.out.len
    rw [Addr.add_lit, Nat.add_assoc]
    refine (HS.out.cell (s + j) (by omega)).trans ?_
    rw [← hj, List.getElem?_map, List.getElem?_take_of_lt hjl, List.getElem?_drop, List.getElem?_eq_getElem (by omega), List.getD_eq_getElem?_getD, List.getElem?_eq_getElem (by omega)]
    rfl
  · have := HS.out.len
    rw [List.length_map, List.length_take, List.length_drop]
    omega
  · intro w1 hg1 hgr1
    have hlen : (((ys.drop s).take (x + 1)).map bv).length = x + 1 := by
      have := HS.out.len
      rw [List.length_map, List.length_take, List.length_drop]
      omega
    rw [hlen]
    have hfin : Dst w1 g n (out ++ (ys.drop s).take (x + 1)) := by
      have hl := HS.out.len
      refine Dst.more hclen ?_ HCO.out ?_
      · rw [HO.out, List.length_take, List.length_drop]; omega
      · rw [HO.out]; exact hg1
    have HF := hide hfin
    have HG2 := hide (World.grownBy.trans HG.out ⟨hgr1.os, hgr1.tape, hgr1.output, hgr1.size, hgr1.block⟩)
    clear hg1 hgr1 hfin hlen HCU HCO HS HD HC HO HG HA
    go_wp2
    exact ⟨⟨rfl, rfl, rfl, rfl, rfl, rfl⟩, HF.out, HG2.out⟩


end Snap
end Go.Proofs.YtodbfgomkcmdgaaDoor

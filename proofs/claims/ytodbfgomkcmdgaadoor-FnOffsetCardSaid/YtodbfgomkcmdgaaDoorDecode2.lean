/-
  snappy.decode: a copy's tail.
-/
import Derived.Test.YtodbfgomkcmdgaaDoorDecode1
namespace Go.Proofs.YtodbfgomkcmdgaaDoor
open Go.RowKit
set_option linter.unusedVariables false
namespace Snap

set_option maxRecDepth 100000 in
set_option maxHeartbeats 1000000 in
theorem copyTail_no (f : Nat → Value) (Ad : Option Addr) (n cd b off m cs g : Nat) (w0 wr : World) (d s far len : Nat) (out : Bs) (Q : Exit → Act → World → Prop) (hn : n ≤ 4294967295) (hm : m ≤ 4294967295) (hncd : n ≤ cd) (hdn : d ≤ n) (hfar : far < 4294967296) (hlen : len ≤ 64) (hlen0 : 1 ≤ len) (hno : far = 0 ∨ d < far ∨ n < d + len) (hgr : w0.grownBy wr (some g))
    (hret : ∀ a w, RetOne w0 g a w → Q .ret a w) : Code.wp Tryd.prog dTail Q ⟨#[.slice Ad n cd, .slice (some ⟨b, off, none⟩) m cs, f 2, f 3, f 4, .int .i64 (d : Int), .int .i64 (s : Int), .int .i64 (far : Int), .int .i64 (len : Int), f 9, f 10, f 11, f 12, f 13, f 14, f 15, f 16, f 17, f 18, f 19, f 20, f 21, f 22, f 23, f 24, f 25, f 26, f 27, f 28, f 29, f 30, f 31, f 32, f 33, f 34, f 35, f 36, f 37, f 38, f 39, f 40, f 41, f 42, f 43, f 44, f 45, f 46, f 47, f 48, f 49, f 50, f 51, f 52, f 53, f 54, f 55, f 56, f 57, f 58, f 59, f 60, f 61, f 62, f 63, f 64, f 65, f 66, f 67, f 68, f 69, f 70, f 71, f 72, f 73, f 74, f 75, f 76, f 77, f 78, f 79, f 80, f 81, f 82, f 83, f 84, f 85, f 86, f 87, f 88, f 89, f 90, f 91, f 92, f 93, f 94, f 95, f 96, f 97, f 98, f 99, f 100, f 101, f 102, f 103, f 104, f 105, f 106, f 107, f 108, f 109, f 110, f 111, f 112, f 113, f 114, f 115, f 116, f 117, f 118, f 119, f 120, f 121, f 122, f 123, f 124, f 125, f 126, f 127, f 128, f 129, f 130, f 131, f 132, f 133, f 134, f 135, f 136, f 137, f 138, f 139, f 140, f 141, f 142, f 143, f 144, f 145, f 146, f 147, f 148, f 149, f 150, f 151, f 152, f 153, f 154, f 155, f 156, f 157, f 158, f 159, f 160, f 161, f 162, f 163, f 164, f 165, f 166, f 167, f 168, f 169, f 170, f 171, f 172, f 173, f 174, f 175, f 176, f 177, f 178, f 179, f 180, f 181, f 182, f 183, f 184, f 185, f 186, f 187, f 188, f 189, f 190, f 191, f 192, f 193, f 194, f 195, f 196, f 197, f 198, f 199, f 200, f 201, f 202, f 203, f 204, f 205, f 206, f 207, f 208, f 209, f 210, f 211, f 212, f 213, f 214, f 215, f 216, f 217, f 218, f 219, f 220, f 221, f 222, f 223, f 224, f 225, f 226, f 227, f 228, f 229, f 230, f 231, f 232, f 233, f 234, f 235, f 236, f 237, f 238, f 239, f 240, f 241, f 242, f 243, f 244, f 245, f 246, f 247, f 248, f 249, f 250, f 251, f 252, f 253, f 254, f 255, f 256, f 257, f 258, f 259, f 260, f 261, f 262, f 263, f 264, f 265, f 266, f 267, f 268, f 269, f 270, f 271, f 272, f 273, f 274, f 275, f 276, f 277, f 278, f 279, f 280, f 281, f 282, f 283, f 284, f 285, f 286, f 287, f 288, f 289, f 290, f 291, f 292, f 293, f 294, f 295, f 296, f 297, f 298, f 299, f 300, f 301, f 302, f 303, f 304, f 305, f 306, f 307, f 308, f 309, f 310, f 311, f 312, f 313, f 314, f 315, f 316, f 317, f 318, f 319, f 320, f 321, f 322, f 323, f 324, f 325, f 326, f 327, f 328, f 329, f 330, f 331, f 332, f 333, f 334, f 335, f 336, f 337, f 338, f 339, f 340, f 341, f 342, f 343, f 344, f 345, f 346, f 347, f 348, f 349, f 350, f 351, f 352, f 353, f 354, f 355, f 356, f 357, f 358, f 359, f 360, f 361, f 362, f 363, f 364, f 365, f 366, f 367, f 368, f 369, f 370], []⟩ wr := by
  have HG := hide hgr
  clear hgr
  conv => arg 2; whnf
  by_cases h1 : far = 0
  · subst h1
    clear hno
    go_wp2
    exact ⟨rfl, rfl, HG.out⟩
  · by_cases h2 : d < far
    · have h1' : 0 < far := by omega
      clear hno h1
      go_wp2
      exact ⟨rfl, rfl, HG.out⟩
    · have h1' : 0 < far := by omega
      have h2' : far ≤ d := by omega
      have h3 : n < d + len := by omega
      clear hno h1 h2
      go_wp2
      exact ⟨rfl, rfl, HG.out⟩

set_option maxRecDepth 100000 in
set_option maxHeartbeats 1000000 in
theorem copyTail_far (f : Nat → Value) (Ad : Option Addr) (n cd b off m cs g : Nat) (w0 wr : World) (d s far len : Nat) (out : Bs) (Q : Exit → Act → World → Prop) (hn : n ≤ 4294967295) (hm : m ≤ 4294967295) (hncd : n ≤ cd) (hdn : d ≤ n) (hfar : far < 4294967296) (hlen : len ≤ 64) (hlen0 : 1 ≤ len) (h0 : 1 ≤ far) (h1 : far ≤ d) (h2 : d + len ≤ n) (h3 : len ≤ far) (hout : out.length = d) (hAd : 0 < n → Ad = some ⟨g, 0, none⟩) (hdst : Dst wr g n out) (hgr : w0.grownBy wr (some g))
    (hexit : ∀ a w, Said w0 g Ad n cd b off m cs (d + len) s (out ++ (out.drop (d - far)).take len) a w → Q (.exit 1) a w) : Code.wp Tryd.prog dTail Q ⟨#[.slice Ad n cd, .slice (some ⟨b, off, none⟩) m cs, f 2, f 3, f 4, .int .i64 (d : Int), .int .i64 (s : Int), .int .i64 (far : Int), .int .i64 (len : Int), f 9, f 10, f 11, f 12, f 13, f 14, f 15, f 16, f 17, f 18, f 19, f 20, f 21, f 22, f 23, f 24, f 25, f 26, f 27, f 28, f 29, f 30, f 31, f 32, f 33, f 34, f 35, f 36, f 37, f 38, f 39, f 40, f 41, f 42, f 43, f 44, f 45, f 46, f 47, f 48, f 49, f 50, f 51, f 52, f 53, f 54, f 55, f 56, f 57, f 58, f 59, f 60, f 61, f 62, f 63, f 64, f 65, f 66, f 67, f 68, f 69, f 70, f 71, f 72, f 73, f 74, f 75, f 76, f 77, f 78, f 79, f 80, f 81, f 82, f 83, f 84, f 85, f 86, f 87, f 88, f 89, f 90, f 91, f 92, f 93, f 94, f 95, f 96, f 97, f 98, f 99, f 100, f 101, f 102, f 103, f 104, f 105, f 106, f 107, f 108, f 109, f 110, f 111, f 112, f 113, f 114, f 115, f 116, f 117, f 118, f 119, f 120, f 121, f 122, f 123, f 124, f 125, f 126, f 127, f 128, f 129, f 130, f 131, f 132, f 133, f 134, f 135, f 136, f 137, f 138, f 139, f 140, f 141, f 142, f 143, f 144, f 145, f 146, f 147, f 148, f 149, f 150, f 151, f 152, f 153, f 154, f 155, f 156, f 157, f 158, f 159, f 160, f 161, f 162, f 163, f 164, f 165, f 166, f 167, f 168, f 169, f 170, f 171, f 172, f 173, f 174, f 175, f 176, f 177, f 178, f 179, f 180, f 181, f 182, f 183, f 184, f 185, f 186, f 187, f 188, f 189, f 190, f 191, f 192, f 193, f 194, f 195, f 196, f 197, f 198, f 199, f 200, f 201, f 202, f 203, f 204, f 205, f 206, f 207, f 208, f 209, f 210, f 211, f 212, f 213, f 214, f 215, f 216, f 217, f 218, f 219, f 220, f 221, f 222, f 223, f 224, f 225, f 226, f 227, f 228, f 229, f 230, f 231, f 232, f 233, f 234, f 235, f 236, f 237, f 238, f 239, f 240, f 241, f 242, f 243, f 244, f 245, f 246, f 247, f 248, f 249, f 250, f 251, f 252, f 253, f 254, f 255, f 256, f 257, f 258, f 259, f 260, f 261, f 262, f 263, f 264, f 265, f 266, f 267, f 268, f 269, f 270, f 271, f 272, f 273, f 274, f 275, f 276, f 277, f 278, f 279, f 280, f 281, f 282, f 283, f 284, f 285, f 286, f 287, f 288, f 289, f 290, f 291, f 292, f 293, f 294, f 295, f 296, f 297, f 298, f 299, f 300, f 301, f 302, f 303, f 304, f 305, f 306, f 307, f 308, f 309, f 310, f 311, f 312, f 313, f 314, f 315, f 316, f 317, f 318, f 319, f 320, f 321, f 322, f 323, f 324, f 325, f 326, f 327, f 328, f 329, f 330, f 331, f 332, f 333, f 334, f 335, f 336, f 337, f 338, f 339, f 340, f 341, f 342, f 343, f 344, f 345, f 346, f 347, f 348, f 349, f 350, f 351, f 352, f 353, f 354, f 355, f 356, f 357, f 358, f 359, f 360, f 361, f 362, f 363, f 364, f 365, f 366, f 367, f 368, f 369, f 370], []⟩ wr := by
  obtain ⟨cur, hcur, hclen, hco⟩ := hdst (by omega)
  have hcutd := cutA_at hAd (show d < n by omega) hncd
  have hcuts := cutA_at hAd (show d - far < n by omega) hncd
  have HG := hide hgr
  have HO := hide hout
  have HCO := hide hco
  have HCU := hide hcur
  have HD := hide hcutd
  have HC := hide hcuts
  have HA := hide hAd
  clear hgr hout hco hcur hcutd hcuts hAd hdst
  have hsl1 := run_cut_lh Ad n cd (d : Int) ((d : Int) + (len : Int)) d (d + len) (by omega) (by omega) (by omega) (by omega) (by omega)
  have hsl2 := run_cut_l Ad n cd ((d : Int) - (far : Int)) (d - far) (by omega) (by omega) (by omega)
  rw [show d + len - d = len from by omega] at hsl1
  conv => arg 2; whnf
  go_wp2
  have hwr : IntKind.i64.wrap ((d : Int) + (len : Int)) = (d : Int) + (len : Int) := IntWalk.i64_in _ (by omega)
  have hwr2 : IntKind.i64.wrap ((d : Int) - (far : Int)) = (d : Int) - (far : Int) := IntWalk.i64_in _ (by omega)
  go_still_tail 11, (by kernel_rfl)
  clear hsl1 hsl2 hwr hwr2
  change wpList _ _ _ _ _ wr.drew
  refine copy_own rfl (.tmp 326) (.tmp 331) rfl (cutA Ad cd d) (cutA Ad cd (d - far)) len (cd - d) (n - (d - far)) (cd - (d - far)) rfl rfl g d cur HCU.out (((out.drop (d - far)).take len).map bv) ?_ ?_ ?_ (bytes_oneCell _) ?_
  · have := HO.out
    rw [List.length_map, List.length_take, List.length_drop]
    show _ = min _ _
    omega
  · intro _
    refine ⟨HD.out, _, HC.out, fun j v hj => ?_⟩
    have hjl : j < len := by
      have := (List.getElem?_eq_some_iff.1 hj).1
      rw [List.length_map, List.length_take] at this
      omega
    have hl := HO.out
    rw [Addr.add_lit, cell_of_row wr.drew g _ cur.toArray _ _ HCU.out]
    have hx := HCO.out (d - far + j) (by omega)
    rw [← hj, List.getElem?_map, List.getElem?_take_of_lt hjl, List.getElem?_drop, List.getElem?_eq_getElem (by omega)]
    simp only [List.getElem?_toArray]
    rw [hx, List.getD_eq_getElem?_getD, List.getElem?_eq_getElem (by omega)]
    rfl
  · have := HO.out
    rw [List.length_map, List.length_take, List.length_drop]
    omega
  · intro w1 hg1 hgr1
    have hlen' : (((out.drop (d - far)).take len).map bv).length = len := by
      have := HO.out
      rw [List.length_map, List.length_take, List.length_drop]
      omega
    rw [hlen']
    have hfin : Dst w1 g n (out ++ (out.drop (d - far)).take len) := by
      have hl := HO.out
      refine Dst.more hclen ?_ HCO.out ?_
      · rw [HO.out, List.length_take, List.length_drop]; omega
      · rw [HO.out]; exact hg1
    have HF := hide hfin
    have HG2 := hide (World.grownBy.trans HG.out ⟨hgr1.os, hgr1.tape, hgr1.output, hgr1.size, hgr1.block⟩)
    clear hg1 hgr1 hfin hlen' HCU HCO HD HC HO HG HA
    go_wp2
    exact ⟨⟨rfl, rfl, rfl, rfl, rfl, rfl⟩, HF.out, HG2.out⟩


end Snap
end Go.Proofs.YtodbfgomkcmdgaaDoor

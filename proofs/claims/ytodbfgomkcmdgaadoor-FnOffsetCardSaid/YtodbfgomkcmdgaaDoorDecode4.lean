/-
  snappy.decode: the tails over any frame.
-/
import Derived.Test.YtodbfgomkcmdgaaDoorDecode3
namespace Go.Proofs.YtodbfgomkcmdgaaDoor
open Go.RowKit
set_option linter.unusedVariables false
namespace Snap

/-- The frame ahead of a literal's tail. -/
structure LFr (Ad : Option Addr) (n cd b off m cs : Nat) (d s x : Nat) (a : Act) : Prop where
  size : a.tmps.size = 371
  defers : a.defers = []
  s0 : a.tmps.getD 0 undef = .slice Ad n cd
  s1 : a.tmps.getD 1 undef = .slice (some ⟨b, off, none⟩) m cs
  s5 : a.tmps.getD 5 undef = .int .i64 (d : Int)
  s6 : a.tmps.getD 6 undef = .int .i64 (s : Int)
  s9 : a.tmps.getD 9 undef = .int .u32 (x : Int)

set_option maxRecDepth 100000 in
theorem LFr.open_ {Ad : Option Addr} {n cd b off m cs : Nat} {d s x : Nat} {a : Act} (h : LFr Ad n cd b off m cs d s x a) : ∃ f : Nat → Value, a = ⟨#[.slice Ad n cd, .slice (some ⟨b, off, none⟩) m cs, f 2, f 3, f 4, .int .i64 (d : Int), .int .i64 (s : Int), f 7, f 8, .int .u32 (x : Int), f 10, f 11, f 12, f 13, f 14, f 15, f 16, f 17, f 18, f 19, f 20, f 21, f 22, f 23, f 24, f 25, f 26, f 27, f 28, f 29, f 30, f 31, f 32, f 33, f 34, f 35, f 36, f 37, f 38, f 39, f 40, f 41, f 42, f 43, f 44, f 45, f 46, f 47, f 48, f 49, f 50, f 51, f 52, f 53, f 54, f 55, f 56, f 57, f 58, f 59, f 60, f 61, f 62, f 63, f 64, f 65, f 66, f 67, f 68, f 69, f 70, f 71, f 72, f 73, f 74, f 75, f 76, f 77, f 78, f 79, f 80, f 81, f 82, f 83, f 84, f 85, f 86, f 87, f 88, f 89, f 90, f 91, f 92, f 93, f 94, f 95, f 96, f 97, f 98, f 99, f 100, f 101, f 102, f 103, f 104, f 105, f 106, f 107, f 108, f 109, f 110, f 111, f 112, f 113, f 114, f 115, f 116, f 117, f 118, f 119, f 120, f 121, f 122, f 123, f 124, f 125, f 126, f 127, f 128, f 129, f 130, f 131, f 132, f 133, f 134, f 135, f 136, f 137, f 138, f 139, f 140, f 141, f 142, f 143, f 144, f 145, f 146, f 147, f 148, f 149, f 150, f 151, f 152, f 153, f 154, f 155, f 156, f 157, f 158, f 159, f 160, f 161, f 162, f 163, f 164, f 165, f 166, f 167, f 168, f 169, f 170, f 171, f 172, f 173, f 174, f 175, f 176, f 177, f 178, f 179, f 180, f 181, f 182, f 183, f 184, f 185, f 186, f 187, f 188, f 189, f 190, f 191, f 192, f 193, f 194, f 195, f 196, f 197, f 198, f 199, f 200, f 201, f 202, f 203, f 204, f 205, f 206, f 207, f 208, f 209, f 210, f 211, f 212, f 213, f 214, f 215, f 216, f 217, f 218, f 219, f 220, f 221, f 222, f 223, f 224, f 225, f 226, f 227, f 228, f 229, f 230, f 231, f 232, f 233, f 234, f 235, f 236, f 237, f 238, f 239, f 240, f 241, f 242, f 243, f 244, f 245, f 246, f 247, f 248, f 249, f 250, f 251, f 252, f 253, f 254, f 255, f 256, f 257, f 258, f 259, f 260, f 261, f 262, f 263, f 264, f 265, f 266, f 267, f 268, f 269, f 270, f 271, f 272, f 273, f 274, f 275, f 276, f 277, f 278, f 279, f 280, f 281, f 282, f 283, f 284, f 285, f 286, f 287, f 288, f 289, f 290, f 291, f 292, f 293, f 294, f 295, f 296, f 297, f 298, f 299, f 300, f 301, f 302, f 303, f 304, f 305, f 306, f 307, f 308, f 309, f 310, f 311, f 312, f 313, f 314, f 315, f 316, f 317, f 318, f 319, f 320, f 321, f 322, f 323, f 324, f 325, f 326, f 327, f 328, f 329, f 330, f 331, f 332, f 333, f 334, f 335, f 336, f 337, f 338, f 339, f 340, f 341, f 342, f 343, f 344, f 345, f 346, f 347, f 348, f 349, f 350, f 351, f 352, f 353, f 354, f 355, f 356, f 357, f 358, f 359, f 360, f 361, f 362, f 363, f 364, f 365, f 366, f 367, f 368, f 369, f 370], []⟩ := by
  obtain ⟨f, hf, ha⟩ := open371 a h.size h.defers
  refine ⟨f, ha.trans ?_⟩
  simp only [(hf 0).trans h.s0, (hf 1).trans h.s1, (hf 5).trans h.s5, (hf 6).trans h.s6, (hf 9).trans h.s9]

/-- The frame ahead of a copy's tail. -/
structure CFr (Ad : Option Addr) (n cd b off m cs : Nat) (d s far len : Nat) (a : Act) : Prop where
  size : a.tmps.size = 371
  defers : a.defers = []
  s0 : a.tmps.getD 0 undef = .slice Ad n cd
  s1 : a.tmps.getD 1 undef = .slice (some ⟨b, off, none⟩) m cs
  s5 : a.tmps.getD 5 undef = .int .i64 (d : Int)
  s6 : a.tmps.getD 6 undef = .int .i64 (s : Int)
  s7 : a.tmps.getD 7 undef = .int .i64 (far : Int)
  s8 : a.tmps.getD 8 undef = .int .i64 (len : Int)

set_option maxRecDepth 100000 in
theorem CFr.open_ {Ad : Option Addr} {n cd b off m cs : Nat} {d s far len : Nat} {a : Act} (h : CFr Ad n cd b off m cs d s far len a) : ∃ f : Nat → Value, a = ⟨#[.slice Ad n cd, .slice (some ⟨b, off, none⟩) m cs, f 2, f 3, f 4, .int .i64 (d : Int), .int .i64 (s : Int), .int .i64 (far : Int), .int .i64 (len : Int), f 9, f 10, f 11, f 12, f 13, f 14, f 15, f 16, f 17, f 18, f 19, f 20, f 21, f 22, f 23, f 24, f 25, f 26, f 27, f 28, f 29, f 30, f 31, f 32, f 33, f 34, f 35, f 36, f 37, f 38, f 39, f 40, f 41, f 42, f 43, f 44, f 45, f 46, f 47, f 48, f 49, f 50, f 51, f 52, f 53, f 54, f 55, f 56, f 57, f 58, f 59, f 60, f 61, f 62, f 63, f 64, f 65, f 66, f 67, f 68, f 69, f 70, f 71, f 72, f 73, f 74, f 75, f 76, f 77, f 78, f 79, f 80, f 81, f 82, f 83, f 84, f 85, f 86, f 87, f 88, f 89, f 90, f 91, f 92, f 93, f 94, f 95, f 96, f 97, f 98, f 99, f 100, f 101, f 102, f 103, f 104, f 105, f 106, f 107, f 108, f 109, f 110, f 111, f 112, f 113, f 114, f 115, f 116, f 117, f 118, f 119, f 120, f 121, f 122, f 123, f 124, f 125, f 126, f 127, f 128, f 129, f 130, f 131, f 132, f 133, f 134, f 135, f 136, f 137, f 138, f 139, f 140, f 141, f 142, f 143, f 144, f 145, f 146, f 147, f 148, f 149, f 150, f 151, f 152, f 153, f 154, f 155, f 156, f 157, f 158, f 159, f 160, f 161, f 162, f 163, f 164, f 165, f 166, f 167, f 168, f 169, f 170, f 171, f 172, f 173, f 174, f 175, f 176, f 177, f 178, f 179, f 180, f 181, f 182, f 183, f 184, f 185, f 186, f 187, f 188, f 189, f 190, f 191, f 192, f 193, f 194, f 195, f 196, f 197, f 198, f 199, f 200, f 201, f 202, f 203, f 204, f 205, f 206, f 207, f 208, f 209, f 210, f 211, f 212, f 213, f 214, f 215, f 216, f 217, f 218, f 219, f 220, f 221, f 222, f 223, f 224, f 225, f 226, f 227, f 228, f 229, f 230, f 231, f 232, f 233, f 234, f 235, f 236, f 237, f 238, f 239, f 240, f 241, f 242, f 243, f 244, f 245, f 246, f 247, f 248, f 249, f 250, f 251, f 252, f 253, f 254, f 255, f 256, f 257, f 258, f 259, f 260, f 261, f 262, f 263, f 264, f 265, f 266, f 267, f 268, f 269, f 270, f 271, f 272, f 273, f 274, f 275, f 276, f 277, f 278, f 279, f 280, f 281, f 282, f 283, f 284, f 285, f 286, f 287, f 288, f 289, f 290, f 291, f 292, f 293, f 294, f 295, f 296, f 297, f 298, f 299, f 300, f 301, f 302, f 303, f 304, f 305, f 306, f 307, f 308, f 309, f 310, f 311, f 312, f 313, f 314, f 315, f 316, f 317, f 318, f 319, f 320, f 321, f 322, f 323, f 324, f 325, f 326, f 327, f 328, f 329, f 330, f 331, f 332, f 333, f 334, f 335, f 336, f 337, f 338, f 339, f 340, f 341, f 342, f 343, f 344, f 345, f 346, f 347, f 348, f 349, f 350, f 351, f 352, f 353, f 354, f 355, f 356, f 357, f 358, f 359, f 360, f 361, f 362, f 363, f 364, f 365, f 366, f 367, f 368, f 369, f 370], []⟩ := by
  obtain ⟨f, hf, ha⟩ := open371 a h.size h.defers
  refine ⟨f, ha.trans ?_⟩
  simp only [(hf 0).trans h.s0, (hf 1).trans h.s1, (hf 5).trans h.s5, (hf 6).trans h.s6, (hf 7).trans h.s7, (hf 8).trans h.s8]

theorem litTail_any (Ad : Option Addr) (n cd b off m cs g : Nat) (ys : Bs) (w0 wr : World) (d s x : Nat) (out : Bs) (Q : Exit → Act → World → Prop) (a : Act) (hfr : LFr Ad n cd b off m cs d s x a)
    (hn : n ≤ 4294967295) (hm : m ≤ 4294967295) (hncd : n ≤ cd) (hmcs : m ≤ cs) (hdn : d ≤ n) (hsm : s ≤ m) (hx : x < 4294967296) (hout : out.length = d) (hAd : 0 < n → Ad = some ⟨g, 0, none⟩) (hdst : Dst wr g n out) (hsrc : Src wr g b off m ys) (hgr : w0.grownBy wr (some g))
    (hret : n < d + (x + 1) ∨ m < s + (x + 1) → ∀ a w, RetOne w0 g a w → Q .ret a w)
    (hexit : d + (x + 1) ≤ n → s + (x + 1) ≤ m → ∀ a w, Said w0 g Ad n cd b off m cs (d + (x + 1)) (s + (x + 1)) (out ++ (ys.drop s).take (x + 1)) a w → Q (.exit 1) a w) : Code.wp Tryd.prog dLitTail Q a wr := by
  obtain ⟨f, rfl⟩ := hfr.open_
  by_cases h : n < d + (x + 1) ∨ m < s + (x + 1)
  · exact litTail_no f Ad n cd b off m cs g ys w0 wr d s x out Q hn hm hncd hmcs hdn hsm hx h hgr (hret h)
  · exact litTail_ok f Ad n cd b off m cs g ys w0 wr d s x out Q hn hm hncd hmcs hdn hsm hx (by omega) (by omega) hout hAd hdst hsrc hgr (hexit (by omega) (by omega))

theorem copyTail_any (Ad : Option Addr) (n cd b off m cs g : Nat) (w0 wr : World) (d s far len : Nat) (out : Bs) (Q : Exit → Act → World → Prop) (a : Act) (hfr : CFr Ad n cd b off m cs d s far len a)
    (hn : n ≤ 4294967295) (hm : m ≤ 4294967295) (hncd : n ≤ cd) (hdn : d ≤ n) (hfar : far < 4294967296) (hlen : len ≤ 64) (hlen0 : 1 ≤ len) (hout : out.length = d) (hAd : 0 < n → Ad = some ⟨g, 0, none⟩) (hdst : Dst wr g n out) (hgr : w0.grownBy wr (some g))
    (hret : far = 0 ∨ d < far ∨ n < d + len → ∀ a w, RetOne w0 g a w → Q .ret a w)
    (hok : ¬ (far = 0 ∨ d < far ∨ n < d + len) → ∀ a w, Said w0 g Ad n cd b off m cs (d + len) s (copyOut out far len) a w → Q .normal a w ∧ Q (.exit 1) a w) : Code.wp Tryd.prog dTail Q a wr := by
  obtain ⟨f, rfl⟩ := hfr.open_
  by_cases h : far = 0 ∨ d < far ∨ n < d + len
  · exact copyTail_no f Ad n cd b off m cs g w0 wr d s far len out Q hn hm hncd hdn hfar hlen hlen0 h hgr (hret h)
  · by_cases h3 : len ≤ far
    · refine copyTail_far f Ad n cd b off m cs g w0 wr d s far len out Q hn hm hncd hdn hfar hlen hlen0 (by omega) (by omega) (by omega) h3 hout hAd hdst hgr (fun a w hs => (hok h a w ?_).2)
      rw [copyOut_far out far len (by omega) h3, hout]
      exact hs
    · exact copyTail_near f Ad n cd b off m cs g w0 wr d s far len out Q hn hm hncd hdn hfar hlen hlen0 (by omega) (by omega) (by omega) (by omega) hout hAd hdst hgr (fun a w hs => (hok h a w hs).1)


end Snap
end Go.Proofs.YtodbfgomkcmdgaaDoor

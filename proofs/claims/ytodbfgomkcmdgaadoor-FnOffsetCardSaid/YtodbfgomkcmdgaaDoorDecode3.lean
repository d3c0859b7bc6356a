/-
  snappy.decode: a copy that reaches into what it says itself, byte by byte.
-/
import Derived.Test.YtodbfgomkcmdgaaDoorDecode2
namespace Go.Proofs.YtodbfgomkcmdgaaDoor
open Go.RowKit
set_option linter.unusedVariables false
namespace Snap

theorem list371 (f : Nat → Value) : ((List.range 371).map f).toArray = #[f 0, f 1, f 2, f 3, f 4, f 5, f 6, f 7, f 8, f 9, f 10, f 11, f 12, f 13, f 14, f 15, f 16, f 17, f 18, f 19, f 20, f 21, f 22, f 23, f 24, f 25, f 26, f 27, f 28, f 29, f 30, f 31, f 32, f 33, f 34, f 35, f 36, f 37, f 38, f 39, f 40, f 41, f 42, f 43, f 44, f 45, f 46, f 47, f 48, f 49, f 50, f 51, f 52, f 53, f 54, f 55, f 56, f 57, f 58, f 59, f 60, f 61, f 62, f 63, f 64, f 65, f 66, f 67, f 68, f 69, f 70, f 71, f 72, f 73, f 74, f 75, f 76, f 77, f 78, f 79, f 80, f 81, f 82, f 83, f 84, f 85, f 86, f 87, f 88, f 89, f 90, f 91, f 92, f 93, f 94, f 95, f 96, f 97, f 98, f 99, f 100, f 101, f 102, f 103, f 104, f 105, f 106, f 107, f 108, f 109, f 110, f 111, f 112, f 113, f 114, f 115, f 116, f 117, f 118, f 119, f 120, f 121, f 122, f 123, f 124, f 125, f 126, f 127, f 128, f 129, f 130, f 131, f 132, f 133, f 134, f 135, f 136, f 137, f 138, f 139, f 140, f 141, f 142, f 143, f 144, f 145, f 146, f 147, f 148, f 149, f 150, f 151, f 152, f 153, f 154, f 155, f 156, f 157, f 158, f 159, f 160, f 161, f 162, f 163, f 164, f 165, f 166, f 167, f 168, f 169, f 170, f 171, f 172, f 173, f 174, f 175, f 176, f 177, f 178, f 179, f 180, f 181, f 182, f 183, f 184, f 185, f 186, f 187, f 188, f 189, f 190, f 191, f 192, f 193, f 194, f 195, f 196, f 197, f 198, f 199, f 200, f 201, f 202, f 203, f 204, f 205, f 206, f 207, f 208, f 209, f 210, f 211, f 212, f 213, f 214, f 215, f 216, f 217, f 218, f 219, f 220, f 221, f 222, f 223, f 224, f 225, f 226, f 227, f 228, f 229, f 230, f 231, f 232, f 233, f 234, f 235, f 236, f 237, f 238, f 239, f 240, f 241, f 242, f 243, f 244, f 245, f 246, f 247, f 248, f 249, f 250, f 251, f 252, f 253, f 254, f 255, f 256, f 257, f 258, f 259, f 260, f 261, f 262, f 263, f 264, f 265, f 266, f 267, f 268, f 269, f 270, f 271, f 272, f 273, f 274, f 275, f 276, f 277, f 278, f 279, f 280, f 281, f 282, f 283, f 284, f 285, f 286, f 287, f 288, f 289, f 290, f 291, f 292, f 293, f 294, f 295, f 296, f 297, f 298, f 299, f 300, f 301, f 302, f 303, f 304, f 305, f 306, f 307, f 308, f 309, f 310, f 311, f 312, f 313, f 314, f 315, f 316, f 317, f 318, f 319, f 320, f 321, f 322, f 323, f 324, f 325, f 326, f 327, f 328, f 329, f 330, f 331, f 332, f 333, f 334, f 335, f 336, f 337, f 338, f 339, f 340, f 341, f 342, f 343, f 344, f 345, f 346, f 347, f 348, f 349, f 350, f 351, f 352, f 353, f 354, f 355, f 356, f 357, f 358, f 359, f 360, f 361, f 362, f 363, f 364, f 365, f 366, f 367, f 368, f 369, f 370] := by kernel_rfl

/-- A frame of 371 slots. -/
theorem open371 (a : Act) (hs : a.tmps.size = 371) (hd : a.defers = []) : ∃ f : Nat → Value, (∀ i, f i = a.tmps.getD i undef) ∧ a = ⟨#[f 0, f 1, f 2, f 3, f 4, f 5, f 6, f 7, f 8, f 9, f 10, f 11, f 12, f 13, f 14, f 15, f 16, f 17, f 18, f 19, f 20, f 21, f 22, f 23, f 24, f 25, f 26, f 27, f 28, f 29, f 30, f 31, f 32, f 33, f 34, f 35, f 36, f 37, f 38, f 39, f 40, f 41, f 42, f 43, f 44, f 45, f 46, f 47, f 48, f 49, f 50, f 51, f 52, f 53, f 54, f 55, f 56, f 57, f 58, f 59, f 60, f 61, f 62, f 63, f 64, f 65, f 66, f 67, f 68, f 69, f 70, f 71, f 72, f 73, f 74, f 75, f 76, f 77, f 78, f 79, f 80, f 81, f 82, f 83, f 84, f 85, f 86, f 87, f 88, f 89, f 90, f 91, f 92, f 93, f 94, f 95, f 96, f 97, f 98, f 99, f 100, f 101, f 102, f 103, f 104, f 105, f 106, f 107, f 108, f 109, f 110, f 111, f 112, f 113, f 114, f 115, f 116, f 117, f 118, f 119, f 120, f 121, f 122, f 123, f 124, f 125, f 126, f 127, f 128, f 129, f 130, f 131, f 132, f 133, f 134, f 135, f 136, f 137, f 138, f 139, f 140, f 141, f 142, f 143, f 144, f 145, f 146, f 147, f 148, f 149, f 150, f 151, f 152, f 153, f 154, f 155, f 156, f 157, f 158, f 159, f 160, f 161, f 162, f 163, f 164, f 165, f 166, f 167, f 168, f 169, f 170, f 171, f 172, f 173, f 174, f 175, f 176, f 177, f 178, f 179, f 180, f 181, f 182, f 183, f 184, f 185, f 186, f 187, f 188, f 189, f 190, f 191, f 192, f 193, f 194, f 195, f 196, f 197, f 198, f 199, f 200, f 201, f 202, f 203, f 204, f 205, f 206, f 207, f 208, f 209, f 210, f 211, f 212, f 213, f 214, f 215, f 216, f 217, f 218, f 219, f 220, f 221, f 222, f 223, f 224, f 225, f 226, f 227, f 228, f 229, f 230, f 231, f 232, f 233, f 234, f 235, f 236, f 237, f 238, f 239, f 240, f 241, f 242, f 243, f 244, f 245, f 246, f 247, f 248, f 249, f 250, f 251, f 252, f 253, f 254, f 255, f 256, f 257, f 258, f 259, f 260, f 261, f 262, f 263, f 264, f 265, f 266, f 267, f 268, f 269, f 270, f 271, f 272, f 273, f 274, f 275, f 276, f 277, f 278, f 279, f 280, f 281, f 282, f 283, f 284, f 285, f 286, f 287, f 288, f 289, f 290, f 291, f 292, f 293, f 294, f 295, f 296, f 297, f 298, f 299, f 300, f 301, f 302, f 303, f 304, f 305, f 306, f 307, f 308, f 309, f 310, f 311, f 312, f 313, f 314, f 315, f 316, f 317, f 318, f 319, f 320, f 321, f 322, f 323, f 324, f 325, f 326, f 327, f 328, f 329, f 330, f 331, f 332, f 333, f 334, f 335, f 336, f 337, f 338, f 339, f 340, f 341, f 342, f 343, f 344, f 345, f 346, f 347, f 348, f 349, f 350, f 351, f 352, f 353, f 354, f 355, f 356, f 357, f 358, f 359, f 360, f 361, f 362, f 363, f 364, f 365, f 366, f 367, f 368, f 369, f 370], []⟩ := by
  refine ⟨fun i => a.tmps.getD i undef, fun _ => rfl, ?_⟩
  exact (act_slots a 371 hs hd).trans (congrArg (fun l => (⟨l, []⟩ : Act)) (list371 _))

set_option maxRecDepth 100000 in
theorem Fr.open_ {Ad : Option Addr} {n cd b off m cs d s : Nat} {a : Act} (h : Fr Ad n cd b off m cs d s a) : ∃ f : Nat → Value, a = ⟨#[.slice Ad n cd, .slice (some ⟨b, off, none⟩) m cs, f 2, f 3, f 4, .int .i64 (d : Int), .int .i64 (s : Int), f 7, f 8, f 9, f 10, f 11, f 12, f 13, f 14, f 15, f 16, f 17, f 18, f 19, f 20, f 21, f 22, f 23, f 24, f 25, f 26, f 27, f 28, f 29, f 30, f 31, f 32, f 33, f 34, f 35, f 36, f 37, f 38, f 39, f 40, f 41, f 42, f 43, f 44, f 45, f 46, f 47, f 48, f 49, f 50, f 51, f 52, f 53, f 54, f 55, f 56, f 57, f 58, f 59, f 60, f 61, f 62, f 63, f 64, f 65, f 66, f 67, f 68, f 69, f 70, f 71, f 72, f 73, f 74, f 75, f 76, f 77, f 78, f 79, f 80, f 81, f 82, f 83, f 84, f 85, f 86, f 87, f 88, f 89, f 90, f 91, f 92, f 93, f 94, f 95, f 96, f 97, f 98, f 99, f 100, f 101, f 102, f 103, f 104, f 105, f 106, f 107, f 108, f 109, f 110, f 111, f 112, f 113, f 114, f 115, f 116, f 117, f 118, f 119, f 120, f 121, f 122, f 123, f 124, f 125, f 126, f 127, f 128, f 129, f 130, f 131, f 132, f 133, f 134, f 135, f 136, f 137, f 138, f 139, f 140, f 141, f 142, f 143, f 144, f 145, f 146, f 147, f 148, f 149, f 150, f 151, f 152, f 153, f 154, f 155, f 156, f 157, f 158, f 159, f 160, f 161, f 162, f 163, f 164, f 165, f 166, f 167, f 168, f 169, f 170, f 171, f 172, f 173, f 174, f 175, f 176, f 177, f 178, f 179, f 180, f 181, f 182, f 183, f 184, f 185, f 186, f 187, f 188, f 189, f 190, f 191, f 192, f 193, f 194, f 195, f 196, f 197, f 198, f 199, f 200, f 201, f 202, f 203, f 204, f 205, f 206, f 207, f 208, f 209, f 210, f 211, f 212, f 213, f 214, f 215, f 216, f 217, f 218, f 219, f 220, f 221, f 222, f 223, f 224, f 225, f 226, f 227, f 228, f 229, f 230, f 231, f 232, f 233, f 234, f 235, f 236, f 237, f 238, f 239, f 240, f 241, f 242, f 243, f 244, f 245, f 246, f 247, f 248, f 249, f 250, f 251, f 252, f 253, f 254, f 255, f 256, f 257, f 258, f 259, f 260, f 261, f 262, f 263, f 264, f 265, f 266, f 267, f 268, f 269, f 270, f 271, f 272, f 273, f 274, f 275, f 276, f 277, f 278, f 279, f 280, f 281, f 282, f 283, f 284, f 285, f 286, f 287, f 288, f 289, f 290, f 291, f 292, f 293, f 294, f 295, f 296, f 297, f 298, f 299, f 300, f 301, f 302, f 303, f 304, f 305, f 306, f 307, f 308, f 309, f 310, f 311, f 312, f 313, f 314, f 315, f 316, f 317, f 318, f 319, f 320, f 321, f 322, f 323, f 324, f 325, f 326, f 327, f 328, f 329, f 330, f 331, f 332, f 333, f 334, f 335, f 336, f 337, f 338, f 339, f 340, f 341, f 342, f 343, f 344, f 345, f 346, f 347, f 348, f 349, f 350, f 351, f 352, f 353, f 354, f 355, f 356, f 357, f 358, f 359, f 360, f 361, f 362, f 363, f 364, f 365, f 366, f 367, f 368, f 369, f 370], []⟩ := by
  obtain ⟨f, hf, ha⟩ := open371 a h.size h.defers
  refine ⟨f, ha.trans ?_⟩
  simp only [(hf 0).trans h.s0, (hf 1).trans h.s1, (hf 5).trans h.s5, (hf 6).trans h.s6]

/-- The frame at the inner loop's head. -/
structure NFr (Ad : Option Addr) (n cd b off m cs : Nat) (d s len i g e ca cb : Nat) (a : Act) : Prop where
  size : a.tmps.size = 371
  defers : a.defers = []
  s0 : a.tmps.getD 0 undef = .slice Ad n cd
  s1 : a.tmps.getD 1 undef = .slice (some ⟨b, off, none⟩) m cs
  s5 : a.tmps.getD 5 undef = .int .i64 (d : Int)
  s6 : a.tmps.getD 6 undef = .int .i64 (s : Int)
  s8 : a.tmps.getD 8 undef = .int .i64 (len : Int)
  s10 : a.tmps.getD 10 undef = .slice (some ⟨g, d, none⟩) len ca
  s11 : a.tmps.getD 11 undef = .slice (some ⟨g, e, none⟩) len cb
  s352 : a.tmps.getD 352 undef = .int .i64 (len : Int)
  s353 : a.tmps.getD 353 undef = .int .i64 (i : Int)

set_option maxRecDepth 100000 in
theorem NFr.open_ {Ad : Option Addr} {n cd b off m cs d s len i g e ca cb : Nat} {a : Act} (h : NFr Ad n cd b off m cs d s len i g e ca cb a) : ∃ f : Nat → Value, a = ⟨#[.slice Ad n cd, .slice (some ⟨b, off, none⟩) m cs, f 2, f 3, f 4, .int .i64 (d : Int), .int .i64 (s : Int), f 7, .int .i64 (len : Int), f 9, .slice (some ⟨g, d, none⟩) len ca, .slice (some ⟨g, e, none⟩) len cb, f 12, f 13, f 14, f 15, f 16, f 17, f 18, f 19, f 20, f 21, f 22, f 23, f 24, f 25, f 26, f 27, f 28, f 29, f 30, f 31, f 32, f 33, f 34, f 35, f 36, f 37, f 38, f 39, f 40, f 41, f 42, f 43, f 44, f 45, f 46, f 47, f 48, f 49, f 50, f 51, f 52, f 53, f 54, f 55, f 56, f 57, f 58, f 59, f 60, f 61, f 62, f 63, f 64, f 65, f 66, f 67, f 68, f 69, f 70, f 71, f 72, f 73, f 74, f 75, f 76, f 77, f 78, f 79, f 80, f 81, f 82, f 83, f 84, f 85, f 86, f 87, f 88, f 89, f 90, f 91, f 92, f 93, f 94, f 95, f 96, f 97, f 98, f 99, f 100, f 101, f 102, f 103, f 104, f 105, f 106, f 107, f 108, f 109, f 110, f 111, f 112, f 113, f 114, f 115, f 116, f 117, f 118, f 119, f 120, f 121, f 122, f 123, f 124, f 125, f 126, f 127, f 128, f 129, f 130, f 131, f 132, f 133, f 134, f 135, f 136, f 137, f 138, f 139, f 140, f 141, f 142, f 143, f 144, f 145, f 146, f 147, f 148, f 149, f 150, f 151, f 152, f 153, f 154, f 155, f 156, f 157, f 158, f 159, f 160, f 161, f 162, f 163, f 164, f 165, f 166, f 167, f 168, f 169, f 170, f 171, f 172, f 173, f 174, f 175, f 176, f 177, f 178, f 179, f 180, f 181, f 182, f 183, f 184, f 185, f 186, f 187, f 188, f 189, f 190, f 191, f 192, f 193, f 194, f 195, f 196, f 197, f 198, f 199, f 200, f 201, f 202, f 203, f 204, f 205, f 206, f 207, f 208, f 209, f 210, f 211, f 212, f 213, f 214, f 215, f 216, f 217, f 218, f 219, f 220, f 221, f 222, f 223, f 224, f 225, f 226, f 227, f 228, f 229, f 230, f 231, f 232, f 233, f 234, f 235, f 236, f 237, f 238, f 239, f 240, f 241, f 242, f 243, f 244, f 245, f 246, f 247, f 248, f 249, f 250, f 251, f 252, f 253, f 254, f 255, f 256, f 257, f 258, f 259, f 260, f 261, f 262, f 263, f 264, f 265, f 266, f 267, f 268, f 269, f 270, f 271, f 272, f 273, f 274, f 275, f 276, f 277, f 278, f 279, f 280, f 281, f 282, f 283, f 284, f 285, f 286, f 287, f 288, f 289, f 290, f 291, f 292, f 293, f 294, f 295, f 296, f 297, f 298, f 299, f 300, f 301, f 302, f 303, f 304, f 305, f 306, f 307, f 308, f 309, f 310, f 311, f 312, f 313, f 314, f 315, f 316, f 317, f 318, f 319, f 320, f 321, f 322, f 323, f 324, f 325, f 326, f 327, f 328, f 329, f 330, f 331, f 332, f 333, f 334, f 335, f 336, f 337, f 338, f 339, f 340, f 341, f 342, f 343, f 344, f 345, f 346, f 347, f 348, f 349, f 350, f 351, .int .i64 (len : Int), .int .i64 (i : Int), f 354, f 355, f 356, f 357, f 358, f 359, f 360, f 361, f 362, f 363, f 364, f 365, f 366, f 367, f 368, f 369, f 370], []⟩ := by
  obtain ⟨f, hf, ha⟩ := open371 a h.size h.defers
  refine ⟨f, ha.trans ?_⟩
  simp only [(hf 0).trans h.s0, (hf 1).trans h.s1, (hf 5).trans h.s5, (hf 6).trans h.s6, (hf 8).trans h.s8, (hf 10).trans h.s10, (hf 11).trans h.s11, (hf 352).trans h.s352, (hf 353).trans h.s353]

noncomputable def dNear : Code := cL (cB (c2 (c1 (c2 (c2 (c2 (c2 (c2 dTail))))))))

set_option maxRecDepth 100000 in
set_option maxHeartbeats 1000000 in
theorem near_end (f : Nat → Value) (Ad : Option Addr) (n cd b off m cs g e ca cb : Nat) (wr : World) (d s len i : Nat) (Q : Exit → Act → World → Prop) (hd : d ≤ 4294967295) (hi : i = len) (hlen : len ≤ 64)
    (hexit : ∀ a, NFr Ad n cd b off m cs d s len len g e ca cb a → Q (.exit 4) a wr) : Code.wp Tryd.prog dNear Q ⟨#[.slice Ad n cd, .slice (some ⟨b, off, none⟩) m cs, f 2, f 3, f 4, .int .i64 (d : Int), .int .i64 (s : Int), f 7, .int .i64 (len : Int), f 9, .slice (some ⟨g, d, none⟩) len ca, .slice (some ⟨g, e, none⟩) len cb, f 12, f 13, f 14, f 15, f 16, f 17, f 18, f 19, f 20, f 21, f 22, f 23, f 24, f 25, f 26, f 27, f 28, f 29, f 30, f 31, f 32, f 33, f 34, f 35, f 36, f 37, f 38, f 39, f 40, f 41, f 42, f 43, f 44, f 45, f 46, f 47, f 48, f 49, f 50, f 51, f 52, f 53, f 54, f 55, f 56, f 57, f 58, f 59, f 60, f 61, f 62, f 63, f 64, f 65, f 66, f 67, f 68, f 69, f 70, f 71, f 72, f 73, f 74, f 75, f 76, f 77, f 78, f 79, f 80, f 81, f 82, f 83, f 84, f 85, f 86, f 87, f 88, f 89, f 90, f 91, f 92, f 93, f 94, f 95, f 96, f 97, f 98, f 99, f 100, f 101, f 102, f 103, f 104, f 105, f 106, f 107, f 108, f 109, f 110, f 111, f 112, f 113, f 114, f 115, f 116, f 117, f 118, f 119, f 120, f 121, f 122, f 123, f 124, f 125, f 126, f 127, f 128, f 129, f 130, f 131, f 132, f 133, f 134, f 135, f 136, f 137, f 138, f 139, f 140, f 141, f 142, f 143, f 144, f 145, f 146, f 147, f 148, f 149, f 150, f 151, f 152, f 153, f 154, f 155, f 156, f 157, f 158, f 159, f 160, f 161, f 162, f 163, f 164, f 165, f 166, f 167, f 168, f 169, f 170, f 171, f 172, f 173, f 174, f 175, f 176, f 177, f 178, f 179, f 180, f 181, f 182, f 183, f 184, f 185, f 186, f 187, f 188, f 189, f 190, f 191, f 192, f 193, f 194, f 195, f 196, f 197, f 198, f 199, f 200, f 201, f 202, f 203, f 204, f 205, f 206, f 207, f 208, f 209, f 210, f 211, f 212, f 213, f 214, f 215, f 216, f 217, f 218, f 219, f 220, f 221, f 222, f 223, f 224, f 225, f 226, f 227, f 228, f 229, f 230, f 231, f 232, f 233, f 234, f 235, f 236, f 237, f 238, f 239, f 240, f 241, f 242, f 243, f 244, f 245, f 246, f 247, f 248, f 249, f 250, f 251, f 252, f 253, f 254, f 255, f 256, f 257, f 258, f 259, f 260, f 261, f 262, f 263, f 264, f 265, f 266, f 267, f 268, f 269, f 270, f 271, f 272, f 273, f 274, f 275, f 276, f 277, f 278, f 279, f 280, f 281, f 282, f 283, f 284, f 285, f 286, f 287, f 288, f 289, f 290, f 291, f 292, f 293, f 294, f 295, f 296, f 297, f 298, f 299, f 300, f 301, f 302, f 303, f 304, f 305, f 306, f 307, f 308, f 309, f 310, f 311, f 312, f 313, f 314, f 315, f 316, f 317, f 318, f 319, f 320, f 321, f 322, f 323, f 324, f 325, f 326, f 327, f 328, f 329, f 330, f 331, f 332, f 333, f 334, f 335, f 336, f 337, f 338, f 339, f 340, f 341, f 342, f 343, f 344, f 345, f 346, f 347, f 348, f 349, f 350, f 351, .int .i64 (len : Int), .int .i64 (i : Int), f 354, f 355, f 356, f 357, f 358, f 359, f 360, f 361, f 362, f 363, f 364, f 365, f 366, f 367, f 368, f 369, f 370], []⟩ wr := by
  subst hi
  conv => arg 2; whnf
  go_wp2
  exact ⟨rfl, rfl, rfl, rfl, rfl, rfl, rfl, rfl, rfl, rfl, rfl⟩

set_option maxRecDepth 100000 in
set_option maxHeartbeats 1000000 in
theorem near_step (f : Nat → Value) (Ad : Option Addr) (n cd b off m cs g e ca cb : Nat) (wr : World) (d s len i : Nat) (Q : Exit → Act → World → Prop) (x : Nat) (v2 : Value) (hd : d ≤ 4294967295) (he : e ≤ 4294967295) (hi : i < len) (hlen : len ≤ 64) (g1 : wr.cell? ⟨g, e + i, none⟩ = some (.int .u8 (x : Int))) (g2 : wr.cell? ⟨g, d + i, none⟩ = some v2) (g3 : wr.frozen? ⟨g, d + i, none⟩ = false)
    (hnorm : ∀ a w, NFr Ad n cd b off m cs d s len (i + 1) g e ca cb a → w = wr.setCell ⟨g, d + i, none⟩ (.int .u8 (x : Int)) → Q .normal a w) : Code.wp Tryd.prog dNear Q ⟨#[.slice Ad n cd, .slice (some ⟨b, off, none⟩) m cs, f 2, f 3, f 4, .int .i64 (d : Int), .int .i64 (s : Int), f 7, .int .i64 (len : Int), f 9, .slice (some ⟨g, d, none⟩) len ca, .slice (some ⟨g, e, none⟩) len cb, f 12, f 13, f 14, f 15, f 16, f 17, f 18, f 19, f 20, f 21, f 22, f 23, f 24, f 25, f 26, f 27, f 28, f 29, f 30, f 31, f 32, f 33, f 34, f 35, f 36, f 37, f 38, f 39, f 40, f 41, f 42, f 43, f 44, f 45, f 46, f 47, f 48, f 49, f 50, f 51, f 52, f 53, f 54, f 55, f 56, f 57, f 58, f 59, f 60, f 61, f 62, f 63, f 64, f 65, f 66, f 67, f 68, f 69, f 70, f 71, f 72, f 73, f 74, f 75, f 76, f 77, f 78, f 79, f 80, f 81, f 82, f 83, f 84, f 85, f 86, f 87, f 88, f 89, f 90, f 91, f 92, f 93, f 94, f 95, f 96, f 97, f 98, f 99, f 100, f 101, f 102, f 103, f 104, f 105, f 106, f 107, f 108, f 109, f 110, f 111, f 112, f 113, f 114, f 115, f 116, f 117, f 118, f 119, f 120, f 121, f 122, f 123, f 124, f 125, f 126, f 127, f 128, f 129, f 130, f 131, f 132, f 133, f 134, f 135, f 136, f 137, f 138, f 139, f 140, f 141, f 142, f 143, f 144, f 145, f 146, f 147, f 148, f 149, f 150, f 151, f 152, f 153, f 154, f 155, f 156, f 157, f 158, f 159, f 160, f 161, f 162, f 163, f 164, f 165, f 166, f 167, f 168, f 169, f 170, f 171, f 172, f 173, f 174, f 175, f 176, f 177, f 178, f 179, f 180, f 181, f 182, f 183, f 184, f 185, f 186, f 187, f 188, f 189, f 190, f 191, f 192, f 193, f 194, f 195, f 196, f 197, f 198, f 199, f 200, f 201, f 202, f 203, f 204, f 205, f 206, f 207, f 208, f 209, f 210, f 211, f 212, f 213, f 214, f 215, f 216, f 217, f 218, f 219, f 220, f 221, f 222, f 223, f 224, f 225, f 226, f 227, f 228, f 229, f 230, f 231, f 232, f 233, f 234, f 235, f 236, f 237, f 238, f 239, f 240, f 241, f 242, f 243, f 244, f 245, f 246, f 247, f 248, f 249, f 250, f 251, f 252, f 253, f 254, f 255, f 256, f 257, f 258, f 259, f 260, f 261, f 262, f 263, f 264, f 265, f 266, f 267, f 268, f 269, f 270, f 271, f 272, f 273, f 274, f 275, f 276, f 277, f 278, f 279, f 280, f 281, f 282, f 283, f 284, f 285, f 286, f 287, f 288, f 289, f 290, f 291, f 292, f 293, f 294, f 295, f 296, f 297, f 298, f 299, f 300, f 301, f 302, f 303, f 304, f 305, f 306, f 307, f 308, f 309, f 310, f 311, f 312, f 313, f 314, f 315, f 316, f 317, f 318, f 319, f 320, f 321, f 322, f 323, f 324, f 325, f 326, f 327, f 328, f 329, f 330, f 331, f 332, f 333, f 334, f 335, f 336, f 337, f 338, f 339, f 340, f 341, f 342, f 343, f 344, f 345, f 346, f 347, f 348, f 349, f 350, f 351, .int .i64 (len : Int), .int .i64 (i : Int), f 354, f 355, f 356, f 357, f 358, f 359, f 360, f 361, f 362, f 363, f 364, f 365, f 366, f 367, f 368, f 369, f 370], []⟩ wr := by
  conv => arg 2; whnf
  go_wp2
  exact hnorm _ _ ⟨rfl, rfl, rfl, rfl, rfl, rfl, rfl, rfl, rfl, rfl, rfl⟩ rfl

theorem copyOut_succ (out : Bs) (far i : Nat) : copyOut out far (i + 1) = copyOut out far i ++ [(copyOut out far i).getD (out.length + i - far) 0] := by
  rw [← copyOut_add far i 1]
  simp [copyOut, copyOut_length]

theorem Dst.put {w : World} {g n : Nat} {out : Bs} (h : Dst w g n out) (hl : out.length < n) (v : UInt8) (x : Int) (hx : x = (v.toNat : Int)) : Dst (w.setCell ⟨g, out.length, none⟩ (.int .u8 x)) g n (out ++ [v]) := by
  intro h0
  obtain ⟨cur, hg, hn, hc⟩ := h h0
  subst hx
  refine ⟨cur.set out.length (bv v), ?_, by simpa using hn, fun j hj => ?_⟩
  · rw [heap_setCell_same w g out.length cur.toArray _ _ hg]
    simp [bv]
  · rw [List.length_append] at hj
    simp only [List.length_cons, List.length_nil] at hj
    by_cases h1 : j = out.length
    · subst h1
      rw [List.getElem?_set_self (by omega)]
      simp [List.getD_eq_getElem?_getD]
    · rw [List.getElem?_set_ne (by omega), hc j (by omega)]
      simp only [List.getD_eq_getElem?_getD]
      rw [List.getElem?_append_left (by omega)]

theorem Dst.cellAt {w : World} {g n : Nat} {out : Bs} (h : Dst w g n out) (j : Nat) (hj : j < out.length) (hn : out.length ≤ n) : w.cell? ⟨g, j, none⟩ = some (.int .u8 ((out.getD j 0).toNat : Int)) := by
  obtain ⟨cur, hg, hn, hc⟩ := h (by omega)
  rw [cell_of_row w g j cur.toArray _ _ hg]
  have := hc j hj
  simpa [bv] using this

theorem Dst.room {w : World} {g n : Nat} {out : Bs} (h : Dst w g n out) (j : Nat) (hj : j < n) : (∃ v, w.cell? ⟨g, j, none⟩ = some v) ∧ w.frozen? ⟨g, j, none⟩ = false := by
  obtain ⟨cur, hg, hn, hc⟩ := h (by omega)
  refine ⟨⟨cur[j], ?_⟩, frozen_of_row w g j cur.toArray _ hg⟩
  rw [cell_of_row w g j cur.toArray _ _ hg]
  simp [List.getElem?_eq_getElem (show j < cur.length by omega)]

theorem grownBy_put (w : World) (g i : Nat) (v : Value) : w.grownBy (w.setCell ⟨g, i, none⟩ v) (some g) :=
  ⟨rfl, rfl, rfl, by simp [World.setCell], fun k _ hk => heap_setCell_other w ⟨g, i, none⟩ k v (fun e => hk (by rw [e]))⟩

set_option maxRecDepth 100000 in
theorem near_loop (Ad : Option Addr) (n cd b off m cs g e ca cb : Nat) (w0 wr : World) (d s far len : Nat) (out : Bs) (Q : Exit → Act → World → Prop) (a : Act) (hfr : NFr Ad n cd b off m cs d s len 0 g e ca cb a) (hn : n ≤ 4294967295) (hlen : len ≤ 64) (h0 : 1 ≤ far) (h1 : far ≤ d) (h2 : d + len ≤ n) (he : e = d - far) (hout : out.length = d) (hdst : Dst wr g n out) (hgr : w0.grownBy wr (some g))
    (hexit : ∀ a w, NFr Ad n cd b off m cs d s len len g e ca cb a → Dst w g n (copyOut out far len) → w0.grownBy w (some g) → Q (.exit 4) a w) : Code.wp Tryd.prog (.loop dNear) Q a wr := by
  refine wp_loop (fun a w => ∃ i, i ≤ len ∧ NFr Ad n cd b off m cs d s len i g e ca cb a ∧ Dst w g n (copyOut out far i) ∧ w0.grownBy w (some g)) (fun a _ => match a.tmps.getD 353 undef with | .int _ k => len - k.toNat | _ => 0)
    ⟨0, Nat.zero_le _, hfr, hdst, hgr⟩ ?_
  rintro a w ⟨i, hi, hf, hd, hg⟩
  have hs353 := hf.s353
  obtain ⟨f, rfl⟩ := hf.open_
  by_cases hil : i = len
  · subst hil
    exact near_end f Ad n cd b off m cs g e ca cb w d s i i _ (by omega) rfl hlen (fun a ha => hexit a w ha hd hg)
  · have hcl : (copyOut out far i).length = d + i := by rw [copyOut_length]; omega
    obtain ⟨⟨v2, g2⟩, g3⟩ := hd.room (d + i) (by omega)
    have g1 := hd.cellAt (e + i) (by omega) (by omega)
    refine near_step f Ad n cd b off m cs g e ca cb w d s len i _ _ v2 (by omega) (by omega) (by omega) hlen g1 g2 g3 ?_
    rintro a' w' ha' rfl
    refine ⟨⟨i + 1, by omega, ha', ?_, hg.trans (grownBy_put w g (d + i) _)⟩, ?_⟩
    · have := hd.put (by omega) ((copyOut out far i).getD (e + i) 0) _ rfl
      rw [copyOut_succ, show out.length + i - far = e + i from by omega]
      rw [hcl] at this
      exact this
    · rw [ha'.s353, hs353]
      show len - (((i + 1 : Nat) : Int)).toNat < len - ((i : Nat) : Int).toNat
      omega


/-- 's[:h]'. -/
theorem run_cut_h (g off n c : Nat) (h : Int) (m : Nat) (hm : h.toNat = m) (h0 : 0 ≤ h) (h2 : h ≤ (c : Int)) (w : World) :
    (Instr.sliceAt 22 (.slice (some ⟨g, off, none⟩) n c) none (some (.int .i64 h)) none).run Tryd.prog w = .ok (.slice (some ⟨g, off, none⟩) m c) w := by
  have ht : Tryd.prog.underlying 22 = some (.slice (Tryd.prog.elem 22)) := by rw [elem_bytes]; exact Tryd.underlying22
  rw [run_sliceAt_slice w _ _ _ _ _ ht, run_slice_h w _ _ n c ht _ h h0 h2, elem_bytes, run_sizeOf_u8, hm]
  simp [Result.andThen, sliced, Addr.add]

set_option maxRecDepth 100000 in
set_option maxHeartbeats 1000000 in
theorem copyTail_near (f : Nat → Value) (Ad : Option Addr) (n cd b off m cs g : Nat) (w0 wr : World) (d s far len : Nat) (out : Bs) (Q : Exit → Act → World → Prop) (hn : n ≤ 4294967295) (hm : m ≤ 4294967295) (hncd : n ≤ cd) (hdn : d ≤ n) (hfar : far < 4294967296) (hlen : len ≤ 64) (hlen0 : 1 ≤ len) (h0 : 1 ≤ far) (h1 : far ≤ d) (h2 : d + len ≤ n) (h3 : far < len) (hout : out.length = d) (hAd : 0 < n → Ad = some ⟨g, 0, none⟩) (hdst : Dst wr g n out) (hgr : w0.grownBy wr (some g))
    (hexit : ∀ a w, Said w0 g Ad n cd b off m cs (d + len) s (copyOut out far len) a w → Q .normal a w) : Code.wp Tryd.prog dTail Q ⟨#[.slice Ad n cd, .slice (some ⟨b, off, none⟩) m cs, f 2, f 3, f 4, .int .i64 (d : Int), .int .i64 (s : Int), .int .i64 (far : Int), .int .i64 (len : Int), f 9, f 10, f 11, f 12, f 13, f 14, f 15, f 16, f 17, f 18, f 19, f 20, f 21, f 22, f 23, f 24, f 25, f 26, f 27, f 28, f 29, f 30, f 31, f 32, f 33, f 34, f 35, f 36, f 37, f 38, f 39, f 40, f 41, f 42, f 43, f 44, f 45, f 46, f 47, f 48, f 49, f 50, f 51, f 52, f 53, f 54, f 55, f 56, f 57, f 58, f 59, f 60, f 61, f 62, f 63, f 64, f 65, f 66, f 67, f 68, f 69, f 70, f 71, f 72, f 73, f 74, f 75, f 76, f 77, f 78, f 79, f 80, f 81, f 82, f 83, f 84, f 85, f 86, f 87, f 88, f 89, f 90, f 91, f 92, f 93, f 94, f 95, f 96, f 97, f 98, f 99, f 100, f 101, f 102, f 103, f 104, f 105, f 106, f 107, f 108, f 109, f 110, f 111, f 112, f 113, f 114, f 115, f 116, f 117, f 118, f 119, f 120, f 121, f 122, f 123, f 124, f 125, f 126, f 127, f 128, f 129, f 130, f 131, f 132, f 133, f 134, f 135, f 136, f 137, f 138, f 139, f 140, f 141, f 142, f 143, f 144, f 145, f 146, f 147, f 148, f 149, f 150, f 151, f 152, f 153, f 154, f 155, f 156, f 157, f 158, f 159, f 160, f 161, f 162, f 163, f 164, f 165, f 166, f 167, f 168, f 169, f 170, f 171, f 172, f 173, f 174, f 175, f 176, f 177, f 178, f 179, f 180, f 181, f 182, f 183, f 184, f 185, f 186, f 187, f 188, f 189, f 190, f 191, f 192, f 193, f 194, f 195, f 196, f 197, f 198, f 199, f 200, f 201, f 202, f 203, f 204, f 205, f 206, f 207, f 208, f 209, f 210, f 211, f 212, f 213, f 214, f 215, f 216, f 217, f 218, f 219, f 220, f 221, f 222, f 223, f 224, f 225, f 226, f 227, f 228, f 229, f 230, f 231, f 232, f 233, f 234, f 235, f 236, f 237, f 238, f 239, f 240, f 241, f 242, f 243, f 244, f 245, f 246, f 247, f 248, f 249, f 250, f 251, f 252, f 253, f 254, f 255, f 256, f 257, f 258, f 259, f 260, f 261, f 262, f 263, f 264, f 265, f 266, f 267, f 268, f 269, f 270, f 271, f 272, f 273, f 274, f 275, f 276, f 277, f 278, f 279, f 280, f 281, f 282, f 283, f 284, f 285, f 286, f 287, f 288, f 289, f 290, f 291, f 292, f 293, f 294, f 295, f 296, f 297, f 298, f 299, f 300, f 301, f 302, f 303, f 304, f 305, f 306, f 307, f 308, f 309, f 310, f 311, f 312, f 313, f 314, f 315, f 316, f 317, f 318, f 319, f 320, f 321, f 322, f 323, f 324, f 325, f 326, f 327, f 328, f 329, f 330, f 331, f 332, f 333, f 334, f 335, f 336, f 337, f 338, f 339, f 340, f 341, f 342, f 343, f 344, f 345, f 346, f 347, f 348, f 349, f 350, f 351, f 352, f 353, f 354, f 355, f 356, f 357, f 358, f 359, f 360, f 361, f 362, f 363, f 364, f 365, f 366, f 367, f 368, f 369, f 370], []⟩ wr := by
  have hcutd := cutA_at hAd (show d < n by omega) hncd
  have hcuts := cutA_at hAd (show d - far < n by omega) hncd
  have HG := hide hgr
  have HO := hide hout
  have HD := hide hdst
  clear hgr hout hdst hAd
  have hsl1 := run_cut_lh Ad n cd (d : Int) ((d : Int) + (len : Int)) d (d + len) (by omega) (by omega) (by omega) (by omega) (by omega)
  have hsl2 := run_cut_l Ad n cd ((d : Int) - (far : Int)) (d - far) (by omega) (by omega) (by omega)
  rw [show d + len - d = len from by omega, hcutd] at hsl1
  rw [hcuts] at hsl2
  have hsl3 := run_cut_h g (d - far) (n - (d - far)) (cd - (d - far)) (len : Int) len (by omega) (by omega) (by omega)
  clear hcutd hcuts
  conv => arg 2; whnf
  go_wp2
  clear hsl1 hsl2 hsl3
  refine near_loop Ad n cd b off m cs g (d - far) (cd - d) (cd - (d - far)) w0 wr d s far len out _ _ ⟨rfl, rfl, rfl, rfl, rfl, rfl, rfl, rfl, rfl, rfl, rfl⟩ hn hlen h0 h1 h2 rfl HO.out HD.out HG.out ?_
  intro a1 w1 ha1 hd1 hg1
  obtain ⟨f1, rfl⟩ := ha1.open_
  have HG2 := hide hg1
  have HD2 := hide hd1
  clear hg1 hd1 ha1 HG HD HO
  go_wp2
  exact ⟨⟨rfl, rfl, rfl, rfl, rfl, rfl⟩, HD2.out, HG2.out⟩


end Snap
end Go.Proofs.YtodbfgomkcmdgaaDoor

/-
  snappy.encodeBlock: frames, code parts.
-/
import Derived.Test.YtoihiaenlonncaaDoorLoad
import Derived.ScopeJumps
namespace Go.Proofs.YtoihiaenlonncaaDoor
open Go.RowKit
set_option linter.unusedVariables false
namespace Snap

theorem list184 (f : Nat → Value) : ((List.range 184).map f).toArray = #[f 0, f 1, f 2, f 3, f 4, f 5, f 6, f 7, f 8, f 9, f 10, f 11, f 12, f 13, f 14, f 15, f 16, f 17, f 18, f 19, f 20, f 21, f 22, f 23, f 24, f 25, f 26, f 27, f 28, f 29, f 30, f 31, f 32, f 33, f 34, f 35, f 36, f 37, f 38, f 39, f 40, f 41, f 42, f 43, f 44, f 45, f 46, f 47, f 48, f 49, f 50, f 51, f 52, f 53, f 54, f 55, f 56, f 57, f 58, f 59, f 60, f 61, f 62, f 63, f 64, f 65, f 66, f 67, f 68, f 69, f 70, f 71, f 72, f 73, f 74, f 75, f 76, f 77, f 78, f 79, f 80, f 81, f 82, f 83, f 84, f 85, f 86, f 87, f 88, f 89, f 90, f 91, f 92, f 93, f 94, f 95, f 96, f 97, f 98, f 99, f 100, f 101, f 102, f 103, f 104, f 105, f 106, f 107, f 108, f 109, f 110, f 111, f 112, f 113, f 114, f 115, f 116, f 117, f 118, f 119, f 120, f 121, f 122, f 123, f 124, f 125, f 126, f 127, f 128, f 129, f 130, f 131, f 132, f 133, f 134, f 135, f 136, f 137, f 138, f 139, f 140, f 141, f 142, f 143, f 144, f 145, f 146, f 147, f 148, f 149, f 150, f 151, f 152, f 153, f 154, f 155, f 156, f 157, f 158, f 159, f 160, f 161, f 162, f 163, f 164, f 165, f 166, f 167, f 168, f 169, f 170, f 171, f 172, f 173, f 174, f 175, f 176, f 177, f 178, f 179, f 180, f 181, f 182, f 183] := by kernel_rfl

/-- A frame of 184 slots. -/
theorem open184 (a : Act) (hs : a.tmps.size = 184) (hd : a.defers = []) : ∃ f : Nat → Value, (∀ i, f i = a.tmps.getD i undef) ∧ a = ⟨#[f 0, f 1, f 2, f 3, f 4, f 5, f 6, f 7, f 8, f 9, f 10, f 11, f 12, f 13, f 14, f 15, f 16, f 17, f 18, f 19, f 20, f 21, f 22, f 23, f 24, f 25, f 26, f 27, f 28, f 29, f 30, f 31, f 32, f 33, f 34, f 35, f 36, f 37, f 38, f 39, f 40, f 41, f 42, f 43, f 44, f 45, f 46, f 47, f 48, f 49, f 50, f 51, f 52, f 53, f 54, f 55, f 56, f 57, f 58, f 59, f 60, f 61, f 62, f 63, f 64, f 65, f 66, f 67, f 68, f 69, f 70, f 71, f 72, f 73, f 74, f 75, f 76, f 77, f 78, f 79, f 80, f 81, f 82, f 83, f 84, f 85, f 86, f 87, f 88, f 89, f 90, f 91, f 92, f 93, f 94, f 95, f 96, f 97, f 98, f 99, f 100, f 101, f 102, f 103, f 104, f 105, f 106, f 107, f 108, f 109, f 110, f 111, f 112, f 113, f 114, f 115, f 116, f 117, f 118, f 119, f 120, f 121, f 122, f 123, f 124, f 125, f 126, f 127, f 128, f 129, f 130, f 131, f 132, f 133, f 134, f 135, f 136, f 137, f 138, f 139, f 140, f 141, f 142, f 143, f 144, f 145, f 146, f 147, f 148, f 149, f 150, f 151, f 152, f 153, f 154, f 155, f 156, f 157, f 158, f 159, f 160, f 161, f 162, f 163, f 164, f 165, f 166, f 167, f 168, f 169, f 170, f 171, f 172, f 173, f 174, f 175, f 176, f 177, f 178, f 179, f 180, f 181, f 182, f 183], []⟩ := by
  refine ⟨fun i => a.tmps.getD i undef, fun _ => rfl, ?_⟩
  exact (act_slots a 184 hs hd).trans (congrArg (fun l => (⟨l, []⟩ : Act)) (list184 _))

/-- At the start. -/
structure BkA (g o nd cd b off n cl : Nat) (a : Act) : Prop where
  size : a.tmps.size = 184
  defers : a.defers = []
  s0 : a.tmps.getD 0 undef = .slice (some ⟨g, o, none⟩) nd cd
  s1 : a.tmps.getD 1 undef = .slice (some ⟨b, off, none⟩) n cl

set_option maxRecDepth 100000 in
theorem BkA.open_ {g o nd cd b off n cl : Nat} {a : Act} (h : BkA g o nd cd b off n cl a) : ∃ f : Nat → Value, a = ⟨#[.slice (some ⟨g, o, none⟩) nd cd, .slice (some ⟨b, off, none⟩) n cl, f 2, f 3, f 4, f 5, f 6, f 7, f 8, f 9, f 10, f 11, f 12, f 13, f 14, f 15, f 16, f 17, f 18, f 19, f 20, f 21, f 22, f 23, f 24, f 25, f 26, f 27, f 28, f 29, f 30, f 31, f 32, f 33, f 34, f 35, f 36, f 37, f 38, f 39, f 40, f 41, f 42, f 43, f 44, f 45, f 46, f 47, f 48, f 49, f 50, f 51, f 52, f 53, f 54, f 55, f 56, f 57, f 58, f 59, f 60, f 61, f 62, f 63, f 64, f 65, f 66, f 67, f 68, f 69, f 70, f 71, f 72, f 73, f 74, f 75, f 76, f 77, f 78, f 79, f 80, f 81, f 82, f 83, f 84, f 85, f 86, f 87, f 88, f 89, f 90, f 91, f 92, f 93, f 94, f 95, f 96, f 97, f 98, f 99, f 100, f 101, f 102, f 103, f 104, f 105, f 106, f 107, f 108, f 109, f 110, f 111, f 112, f 113, f 114, f 115, f 116, f 117, f 118, f 119, f 120, f 121, f 122, f 123, f 124, f 125, f 126, f 127, f 128, f 129, f 130, f 131, f 132, f 133, f 134, f 135, f 136, f 137, f 138, f 139, f 140, f 141, f 142, f 143, f 144, f 145, f 146, f 147, f 148, f 149, f 150, f 151, f 152, f 153, f 154, f 155, f 156, f 157, f 158, f 159, f 160, f 161, f 162, f 163, f 164, f 165, f 166, f 167, f 168, f 169, f 170, f 171, f 172, f 173, f 174, f 175, f 176, f 177, f 178, f 179, f 180, f 181, f 182, f 183], []⟩ := by
  obtain ⟨f, hf, ha⟩ := open184 a h.size h.defers
  refine ⟨f, ha.trans ?_⟩
  simp only [(hf 0).trans h.s0, (hf 1).trans h.s1]

/-- The count is laid. -/
structure BkB (g o nd cd b off n cl : Nat) (d : Nat) (a : Act) : Prop where
  size : a.tmps.size = 184
  defers : a.defers = []
  s0 : a.tmps.getD 0 undef = .slice (some ⟨g, o, none⟩) nd cd
  s1 : a.tmps.getD 1 undef = .slice (some ⟨b, off, none⟩) n cl
  s4 : a.tmps.getD 4 undef = .int .i64 (d : Int)

set_option maxRecDepth 100000 in
theorem BkB.open_ {g o nd cd b off n cl : Nat} {d : Nat} {a : Act} (h : BkB g o nd cd b off n cl d a) : ∃ f : Nat → Value, a = ⟨#[.slice (some ⟨g, o, none⟩) nd cd, .slice (some ⟨b, off, none⟩) n cl, f 2, f 3, .int .i64 (d : Int), f 5, f 6, f 7, f 8, f 9, f 10, f 11, f 12, f 13, f 14, f 15, f 16, f 17, f 18, f 19, f 20, f 21, f 22, f 23, f 24, f 25, f 26, f 27, f 28, f 29, f 30, f 31, f 32, f 33, f 34, f 35, f 36, f 37, f 38, f 39, f 40, f 41, f 42, f 43, f 44, f 45, f 46, f 47, f 48, f 49, f 50, f 51, f 52, f 53, f 54, f 55, f 56, f 57, f 58, f 59, f 60, f 61, f 62, f 63, f 64, f 65, f 66, f 67, f 68, f 69, f 70, f 71, f 72, f 73, f 74, f 75, f 76, f 77, f 78, f 79, f 80, f 81, f 82, f 83, f 84, f 85, f 86, f 87, f 88, f 89, f 90, f 91, f 92, f 93, f 94, f 95, f 96, f 97, f 98, f 99, f 100, f 101, f 102, f 103, f 104, f 105, f 106, f 107, f 108, f 109, f 110, f 111, f 112, f 113, f 114, f 115, f 116, f 117, f 118, f 119, f 120, f 121, f 122, f 123, f 124, f 125, f 126, f 127, f 128, f 129, f 130, f 131, f 132, f 133, f 134, f 135, f 136, f 137, f 138, f 139, f 140, f 141, f 142, f 143, f 144, f 145, f 146, f 147, f 148, f 149, f 150, f 151, f 152, f 153, f 154, f 155, f 156, f 157, f 158, f 159, f 160, f 161, f 162, f 163, f 164, f 165, f 166, f 167, f 168, f 169, f 170, f 171, f 172, f 173, f 174, f 175, f 176, f 177, f 178, f 179, f 180, f 181, f 182, f 183], []⟩ := by
  obtain ⟨f, hf, ha⟩ := open184 a h.size h.defers
  refine ⟨f, ha.trans ?_⟩
  simp only [(hf 0).trans h.s0, (hf 1).trans h.s1, (hf 4).trans h.s4]

/-- The shift is laid. -/
structure BkX (g o nd cd b off n cl : Nat) (d sh : Nat) (a : Act) : Prop where
  size : a.tmps.size = 184
  defers : a.defers = []
  s0 : a.tmps.getD 0 undef = .slice (some ⟨g, o, none⟩) nd cd
  s1 : a.tmps.getD 1 undef = .slice (some ⟨b, off, none⟩) n cl
  s4 : a.tmps.getD 4 undef = .int .i64 (d : Int)
  s5 : a.tmps.getD 5 undef = .int .u32 (sh : Int)

set_option maxRecDepth 100000 in
theorem BkX.open_ {g o nd cd b off n cl : Nat} {d sh : Nat} {a : Act} (h : BkX g o nd cd b off n cl d sh a) : ∃ f : Nat → Value, a = ⟨#[.slice (some ⟨g, o, none⟩) nd cd, .slice (some ⟨b, off, none⟩) n cl, f 2, f 3, .int .i64 (d : Int), .int .u32 (sh : Int), f 6, f 7, f 8, f 9, f 10, f 11, f 12, f 13, f 14, f 15, f 16, f 17, f 18, f 19, f 20, f 21, f 22, f 23, f 24, f 25, f 26, f 27, f 28, f 29, f 30, f 31, f 32, f 33, f 34, f 35, f 36, f 37, f 38, f 39, f 40, f 41, f 42, f 43, f 44, f 45, f 46, f 47, f 48, f 49, f 50, f 51, f 52, f 53, f 54, f 55, f 56, f 57, f 58, f 59, f 60, f 61, f 62, f 63, f 64, f 65, f 66, f 67, f 68, f 69, f 70, f 71, f 72, f 73, f 74, f 75, f 76, f 77, f 78, f 79, f 80, f 81, f 82, f 83, f 84, f 85, f 86, f 87, f 88, f 89, f 90, f 91, f 92, f 93, f 94, f 95, f 96, f 97, f 98, f 99, f 100, f 101, f 102, f 103, f 104, f 105, f 106, f 107, f 108, f 109, f 110, f 111, f 112, f 113, f 114, f 115, f 116, f 117, f 118, f 119, f 120, f 121, f 122, f 123, f 124, f 125, f 126, f 127, f 128, f 129, f 130, f 131, f 132, f 133, f 134, f 135, f 136, f 137, f 138, f 139, f 140, f 141, f 142, f 143, f 144, f 145, f 146, f 147, f 148, f 149, f 150, f 151, f 152, f 153, f 154, f 155, f 156, f 157, f 158, f 159, f 160, f 161, f 162, f 163, f 164, f 165, f 166, f 167, f 168, f 169, f 170, f 171, f 172, f 173, f 174, f 175, f 176, f 177, f 178, f 179, f 180, f 181, f 182, f 183], []⟩ := by
  obtain ⟨f, hf, ha⟩ := open184 a h.size h.defers
  refine ⟨f, ha.trans ?_⟩
  simp only [(hf 0).trans h.s0, (hf 1).trans h.s1, (hf 4).trans h.s4, (hf 5).trans h.s5]

/-- In the loop that reckons the shift. -/
structure BkC (g o nd cd b off n cl : Nat) (d sh ts : Nat) (a : Act) : Prop where
  size : a.tmps.size = 184
  defers : a.defers = []
  s0 : a.tmps.getD 0 undef = .slice (some ⟨g, o, none⟩) nd cd
  s1 : a.tmps.getD 1 undef = .slice (some ⟨b, off, none⟩) n cl
  s4 : a.tmps.getD 4 undef = .int .i64 (d : Int)
  s5 : a.tmps.getD 5 undef = .int .u32 (sh : Int)
  s6 : a.tmps.getD 6 undef = .int .i64 (ts : Int)

set_option maxRecDepth 100000 in
theorem BkC.open_ {g o nd cd b off n cl : Nat} {d sh ts : Nat} {a : Act} (h : BkC g o nd cd b off n cl d sh ts a) : ∃ f : Nat → Value, a = ⟨#[.slice (some ⟨g, o, none⟩) nd cd, .slice (some ⟨b, off, none⟩) n cl, f 2, f 3, .int .i64 (d : Int), .int .u32 (sh : Int), .int .i64 (ts : Int), f 7, f 8, f 9, f 10, f 11, f 12, f 13, f 14, f 15, f 16, f 17, f 18, f 19, f 20, f 21, f 22, f 23, f 24, f 25, f 26, f 27, f 28, f 29, f 30, f 31, f 32, f 33, f 34, f 35, f 36, f 37, f 38, f 39, f 40, f 41, f 42, f 43, f 44, f 45, f 46, f 47, f 48, f 49, f 50, f 51, f 52, f 53, f 54, f 55, f 56, f 57, f 58, f 59, f 60, f 61, f 62, f 63, f 64, f 65, f 66, f 67, f 68, f 69, f 70, f 71, f 72, f 73, f 74, f 75, f 76, f 77, f 78, f 79, f 80, f 81, f 82, f 83, f 84, f 85, f 86, f 87, f 88, f 89, f 90, f 91, f 92, f 93, f 94, f 95, f 96, f 97, f 98, f 99, f 100, f 101, f 102, f 103, f 104, f 105, f 106, f 107, f 108, f 109, f 110, f 111, f 112, f 113, f 114, f 115, f 116, f 117, f 118, f 119, f 120, f 121, f 122, f 123, f 124, f 125, f 126, f 127, f 128, f 129, f 130, f 131, f 132, f 133, f 134, f 135, f 136, f 137, f 138, f 139, f 140, f 141, f 142, f 143, f 144, f 145, f 146, f 147, f 148, f 149, f 150, f 151, f 152, f 153, f 154, f 155, f 156, f 157, f 158, f 159, f 160, f 161, f 162, f 163, f 164, f 165, f 166, f 167, f 168, f 169, f 170, f 171, f 172, f 173, f 174, f 175, f 176, f 177, f 178, f 179, f 180, f 181, f 182, f 183], []⟩ := by
  obtain ⟨f, hf, ha⟩ := open184 a h.size h.defers
  refine ⟨f, ha.trans ?_⟩
  simp only [(hf 0).trans h.s0, (hf 1).trans h.s1, (hf 4).trans h.s4, (hf 5).trans h.s5, (hf 6).trans h.s6]

/-- The table is laid. -/
structure BkD (g o nd cd b off n cl : Nat) (tb d sh : Nat) (a : Act) : Prop where
  size : a.tmps.size = 184
  defers : a.defers = []
  s0 : a.tmps.getD 0 undef = .slice (some ⟨g, o, none⟩) nd cd
  s1 : a.tmps.getD 1 undef = .slice (some ⟨b, off, none⟩) n cl
  s4 : a.tmps.getD 4 undef = .int .i64 (d : Int)
  s5 : a.tmps.getD 5 undef = .int .u32 (sh : Int)
  s7 : a.tmps.getD 7 undef = .pointer (some ⟨tb, 0, none⟩)
  s8 : a.tmps.getD 8 undef = .int .i64 ((n : Int) - 15)

set_option maxRecDepth 100000 in
theorem BkD.open_ {g o nd cd b off n cl : Nat} {tb d sh : Nat} {a : Act} (h : BkD g o nd cd b off n cl tb d sh a) : ∃ f : Nat → Value, a = ⟨#[.slice (some ⟨g, o, none⟩) nd cd, .slice (some ⟨b, off, none⟩) n cl, f 2, f 3, .int .i64 (d : Int), .int .u32 (sh : Int), f 6, .pointer (some ⟨tb, 0, none⟩), .int .i64 ((n : Int) - 15), f 9, f 10, f 11, f 12, f 13, f 14, f 15, f 16, f 17, f 18, f 19, f 20, f 21, f 22, f 23, f 24, f 25, f 26, f 27, f 28, f 29, f 30, f 31, f 32, f 33, f 34, f 35, f 36, f 37, f 38, f 39, f 40, f 41, f 42, f 43, f 44, f 45, f 46, f 47, f 48, f 49, f 50, f 51, f 52, f 53, f 54, f 55, f 56, f 57, f 58, f 59, f 60, f 61, f 62, f 63, f 64, f 65, f 66, f 67, f 68, f 69, f 70, f 71, f 72, f 73, f 74, f 75, f 76, f 77, f 78, f 79, f 80, f 81, f 82, f 83, f 84, f 85, f 86, f 87, f 88, f 89, f 90, f 91, f 92, f 93, f 94, f 95, f 96, f 97, f 98, f 99, f 100, f 101, f 102, f 103, f 104, f 105, f 106, f 107, f 108, f 109, f 110, f 111, f 112, f 113, f 114, f 115, f 116, f 117, f 118, f 119, f 120, f 121, f 122, f 123, f 124, f 125, f 126, f 127, f 128, f 129, f 130, f 131, f 132, f 133, f 134, f 135, f 136, f 137, f 138, f 139, f 140, f 141, f 142, f 143, f 144, f 145, f 146, f 147, f 148, f 149, f 150, f 151, f 152, f 153, f 154, f 155, f 156, f 157, f 158, f 159, f 160, f 161, f 162, f 163, f 164, f 165, f 166, f 167, f 168, f 169, f 170, f 171, f 172, f 173, f 174, f 175, f 176, f 177, f 178, f 179, f 180, f 181, f 182, f 183], []⟩ := by
  obtain ⟨f, hf, ha⟩ := open184 a h.size h.defers
  refine ⟨f, ha.trans ?_⟩
  simp only [(hf 0).trans h.s0, (hf 1).trans h.s1, (hf 4).trans h.s4, (hf 5).trans h.s5, (hf 7).trans h.s7, (hf 8).trans h.s8]

/-- The table is there. -/
structure BkY (g o nd cd b off n cl : Nat) (tb d sh : Nat) (a : Act) : Prop where
  size : a.tmps.size = 184
  defers : a.defers = []
  s0 : a.tmps.getD 0 undef = .slice (some ⟨g, o, none⟩) nd cd
  s1 : a.tmps.getD 1 undef = .slice (some ⟨b, off, none⟩) n cl
  s4 : a.tmps.getD 4 undef = .int .i64 (d : Int)
  s5 : a.tmps.getD 5 undef = .int .u32 (sh : Int)
  s7 : a.tmps.getD 7 undef = .pointer (some ⟨tb, 0, none⟩)

set_option maxRecDepth 100000 in
theorem BkY.open_ {g o nd cd b off n cl : Nat} {tb d sh : Nat} {a : Act} (h : BkY g o nd cd b off n cl tb d sh a) : ∃ f : Nat → Value, a = ⟨#[.slice (some ⟨g, o, none⟩) nd cd, .slice (some ⟨b, off, none⟩) n cl, f 2, f 3, .int .i64 (d : Int), .int .u32 (sh : Int), f 6, .pointer (some ⟨tb, 0, none⟩), f 8, f 9, f 10, f 11, f 12, f 13, f 14, f 15, f 16, f 17, f 18, f 19, f 20, f 21, f 22, f 23, f 24, f 25, f 26, f 27, f 28, f 29, f 30, f 31, f 32, f 33, f 34, f 35, f 36, f 37, f 38, f 39, f 40, f 41, f 42, f 43, f 44, f 45, f 46, f 47, f 48, f 49, f 50, f 51, f 52, f 53, f 54, f 55, f 56, f 57, f 58, f 59, f 60, f 61, f 62, f 63, f 64, f 65, f 66, f 67, f 68, f 69, f 70, f 71, f 72, f 73, f 74, f 75, f 76, f 77, f 78, f 79, f 80, f 81, f 82, f 83, f 84, f 85, f 86, f 87, f 88, f 89, f 90, f 91, f 92, f 93, f 94, f 95, f 96, f 97, f 98, f 99, f 100, f 101, f 102, f 103, f 104, f 105, f 106, f 107, f 108, f 109, f 110, f 111, f 112, f 113, f 114, f 115, f 116, f 117, f 118, f 119, f 120, f 121, f 122, f 123, f 124, f 125, f 126, f 127, f 128, f 129, f 130, f 131, f 132, f 133, f 134, f 135, f 136, f 137, f 138, f 139, f 140, f 141, f 142, f 143, f 144, f 145, f 146, f 147, f 148, f 149, f 150, f 151, f 152, f 153, f 154, f 155, f 156, f 157, f 158, f 159, f 160, f 161, f 162, f 163, f 164, f 165, f 166, f 167, f 168, f 169, f 170, f 171, f 172, f 173, f 174, f 175, f 176, f 177, f 178, f 179, f 180, f 181, f 182, f 183], []⟩ := by
  obtain ⟨f, hf, ha⟩ := open184 a h.size h.defers
  refine ⟨f, ha.trans ?_⟩
  simp only [(hf 0).trans h.s0, (hf 1).trans h.s1, (hf 4).trans h.s4, (hf 5).trans h.s5, (hf 7).trans h.s7]

/-- Nothing is laid yet. -/
structure BkG (g o nd cd b off n cl : Nat) (tb d sh : Nat) (ne : Nat) (a : Act) : Prop where
  size : a.tmps.size = 184
  defers : a.defers = []
  s0 : a.tmps.getD 0 undef = .slice (some ⟨g, o, none⟩) nd cd
  s1 : a.tmps.getD 1 undef = .slice (some ⟨b, off, none⟩) n cl
  s4 : a.tmps.getD 4 undef = .int .i64 (d : Int)
  s5 : a.tmps.getD 5 undef = .int .u32 (sh : Int)
  s7 : a.tmps.getD 7 undef = .pointer (some ⟨tb, 0, none⟩)
  s8 : a.tmps.getD 8 undef = .int .i64 ((n : Int) - 15)
  s9 : a.tmps.getD 9 undef = .int .i64 (ne : Int)

set_option maxRecDepth 100000 in
theorem BkG.open_ {g o nd cd b off n cl : Nat} {tb d sh : Nat} {ne : Nat} {a : Act} (h : BkG g o nd cd b off n cl tb d sh ne a) : ∃ f : Nat → Value, a = ⟨#[.slice (some ⟨g, o, none⟩) nd cd, .slice (some ⟨b, off, none⟩) n cl, f 2, f 3, .int .i64 (d : Int), .int .u32 (sh : Int), f 6, .pointer (some ⟨tb, 0, none⟩), .int .i64 ((n : Int) - 15), .int .i64 (ne : Int), f 10, f 11, f 12, f 13, f 14, f 15, f 16, f 17, f 18, f 19, f 20, f 21, f 22, f 23, f 24, f 25, f 26, f 27, f 28, f 29, f 30, f 31, f 32, f 33, f 34, f 35, f 36, f 37, f 38, f 39, f 40, f 41, f 42, f 43, f 44, f 45, f 46, f 47, f 48, f 49, f 50, f 51, f 52, f 53, f 54, f 55, f 56, f 57, f 58, f 59, f 60, f 61, f 62, f 63, f 64, f 65, f 66, f 67, f 68, f 69, f 70, f 71, f 72, f 73, f 74, f 75, f 76, f 77, f 78, f 79, f 80, f 81, f 82, f 83, f 84, f 85, f 86, f 87, f 88, f 89, f 90, f 91, f 92, f 93, f 94, f 95, f 96, f 97, f 98, f 99, f 100, f 101, f 102, f 103, f 104, f 105, f 106, f 107, f 108, f 109, f 110, f 111, f 112, f 113, f 114, f 115, f 116, f 117, f 118, f 119, f 120, f 121, f 122, f 123, f 124, f 125, f 126, f 127, f 128, f 129, f 130, f 131, f 132, f 133, f 134, f 135, f 136, f 137, f 138, f 139, f 140, f 141, f 142, f 143, f 144, f 145, f 146, f 147, f 148, f 149, f 150, f 151, f 152, f 153, f 154, f 155, f 156, f 157, f 158, f 159, f 160, f 161, f 162, f 163, f 164, f 165, f 166, f 167, f 168, f 169, f 170, f 171, f 172, f 173, f 174, f 175, f 176, f 177, f 178, f 179, f 180, f 181, f 182, f 183], []⟩ := by
  obtain ⟨f, hf, ha⟩ := open184 a h.size h.defers
  refine ⟨f, ha.trans ?_⟩
  simp only [(hf 0).trans h.s0, (hf 1).trans h.s1, (hf 4).trans h.s4, (hf 5).trans h.s5, (hf 7).trans h.s7, (hf 8).trans h.s8, (hf 9).trans h.s9]

/-- The whole frame. -/
structure BkF (g o nd cd b off n cl : Nat) (tb d sh : Nat) (ne s : Nat) (a : Act) : Prop where
  size : a.tmps.size = 184
  defers : a.defers = []
  s0 : a.tmps.getD 0 undef = .slice (some ⟨g, o, none⟩) nd cd
  s1 : a.tmps.getD 1 undef = .slice (some ⟨b, off, none⟩) n cl
  s4 : a.tmps.getD 4 undef = .int .i64 (d : Int)
  s5 : a.tmps.getD 5 undef = .int .u32 (sh : Int)
  s7 : a.tmps.getD 7 undef = .pointer (some ⟨tb, 0, none⟩)
  s8 : a.tmps.getD 8 undef = .int .i64 ((n : Int) - 15)
  s9 : a.tmps.getD 9 undef = .int .i64 (ne : Int)
  s10 : a.tmps.getD 10 undef = .int .i64 (s : Int)

set_option maxRecDepth 100000 in
theorem BkF.open_ {g o nd cd b off n cl : Nat} {tb d sh : Nat} {ne s : Nat} {a : Act} (h : BkF g o nd cd b off n cl tb d sh ne s a) : ∃ f : Nat → Value, a = ⟨#[.slice (some ⟨g, o, none⟩) nd cd, .slice (some ⟨b, off, none⟩) n cl, f 2, f 3, .int .i64 (d : Int), .int .u32 (sh : Int), f 6, .pointer (some ⟨tb, 0, none⟩), .int .i64 ((n : Int) - 15), .int .i64 (ne : Int), .int .i64 (s : Int), f 11, f 12, f 13, f 14, f 15, f 16, f 17, f 18, f 19, f 20, f 21, f 22, f 23, f 24, f 25, f 26, f 27, f 28, f 29, f 30, f 31, f 32, f 33, f 34, f 35, f 36, f 37, f 38, f 39, f 40, f 41, f 42, f 43, f 44, f 45, f 46, f 47, f 48, f 49, f 50, f 51, f 52, f 53, f 54, f 55, f 56, f 57, f 58, f 59, f 60, f 61, f 62, f 63, f 64, f 65, f 66, f 67, f 68, f 69, f 70, f 71, f 72, f 73, f 74, f 75, f 76, f 77, f 78, f 79, f 80, f 81, f 82, f 83, f 84, f 85, f 86, f 87, f 88, f 89, f 90, f 91, f 92, f 93, f 94, f 95, f 96, f 97, f 98, f 99, f 100, f 101, f 102, f 103, f 104, f 105, f 106, f 107, f 108, f 109, f 110, f 111, f 112, f 113, f 114, f 115, f 116, f 117, f 118, f 119, f 120, f 121, f 122, f 123, f 124, f 125, f 126, f 127, f 128, f 129, f 130, f 131, f 132, f 133, f 134, f 135, f 136, f 137, f 138, f 139, f 140, f 141, f 142, f 143, f 144, f 145, f 146, f 147, f 148, f 149, f 150, f 151, f 152, f 153, f 154, f 155, f 156, f 157, f 158, f 159, f 160, f 161, f 162, f 163, f 164, f 165, f 166, f 167, f 168, f 169, f 170, f 171, f 172, f 173, f 174, f 175, f 176, f 177, f 178, f 179, f 180, f 181, f 182, f 183], []⟩ := by
  obtain ⟨f, hf, ha⟩ := open184 a h.size h.defers
  refine ⟨f, ha.trans ?_⟩
  simp only [(hf 0).trans h.s0, (hf 1).trans h.s1, (hf 4).trans h.s4, (hf 5).trans h.s5, (hf 7).trans h.s7, (hf 8).trans h.s8, (hf 9).trans h.s9, (hf 10).trans h.s10]

/-- At the head of the outer loop. -/
structure BkH (g o nd cd b off n cl : Nat) (tb d sh : Nat) (ne s : Nat) (nh : Nat) (a : Act) : Prop where
  size : a.tmps.size = 184
  defers : a.defers = []
  s0 : a.tmps.getD 0 undef = .slice (some ⟨g, o, none⟩) nd cd
  s1 : a.tmps.getD 1 undef = .slice (some ⟨b, off, none⟩) n cl
  s4 : a.tmps.getD 4 undef = .int .i64 (d : Int)
  s5 : a.tmps.getD 5 undef = .int .u32 (sh : Int)
  s7 : a.tmps.getD 7 undef = .pointer (some ⟨tb, 0, none⟩)
  s8 : a.tmps.getD 8 undef = .int .i64 ((n : Int) - 15)
  s9 : a.tmps.getD 9 undef = .int .i64 (ne : Int)
  s10 : a.tmps.getD 10 undef = .int .i64 (s : Int)
  s11 : a.tmps.getD 11 undef = .int .u32 (nh : Int)

set_option maxRecDepth 100000 in
theorem BkH.open_ {g o nd cd b off n cl : Nat} {tb d sh : Nat} {ne s : Nat} {nh : Nat} {a : Act} (h : BkH g o nd cd b off n cl tb d sh ne s nh a) : ∃ f : Nat → Value, a = ⟨#[.slice (some ⟨g, o, none⟩) nd cd, .slice (some ⟨b, off, none⟩) n cl, f 2, f 3, .int .i64 (d : Int), .int .u32 (sh : Int), f 6, .pointer (some ⟨tb, 0, none⟩), .int .i64 ((n : Int) - 15), .int .i64 (ne : Int), .int .i64 (s : Int), .int .u32 (nh : Int), f 12, f 13, f 14, f 15, f 16, f 17, f 18, f 19, f 20, f 21, f 22, f 23, f 24, f 25, f 26, f 27, f 28, f 29, f 30, f 31, f 32, f 33, f 34, f 35, f 36, f 37, f 38, f 39, f 40, f 41, f 42, f 43, f 44, f 45, f 46, f 47, f 48, f 49, f 50, f 51, f 52, f 53, f 54, f 55, f 56, f 57, f 58, f 59, f 60, f 61, f 62, f 63, f 64, f 65, f 66, f 67, f 68, f 69, f 70, f 71, f 72, f 73, f 74, f 75, f 76, f 77, f 78, f 79, f 80, f 81, f 82, f 83, f 84, f 85, f 86, f 87, f 88, f 89, f 90, f 91, f 92, f 93, f 94, f 95, f 96, f 97, f 98, f 99, f 100, f 101, f 102, f 103, f 104, f 105, f 106, f 107, f 108, f 109, f 110, f 111, f 112, f 113, f 114, f 115, f 116, f 117, f 118, f 119, f 120, f 121, f 122, f 123, f 124, f 125, f 126, f 127, f 128, f 129, f 130, f 131, f 132, f 133, f 134, f 135, f 136, f 137, f 138, f 139, f 140, f 141, f 142, f 143, f 144, f 145, f 146, f 147, f 148, f 149, f 150, f 151, f 152, f 153, f 154, f 155, f 156, f 157, f 158, f 159, f 160, f 161, f 162, f 163, f 164, f 165, f 166, f 167, f 168, f 169, f 170, f 171, f 172, f 173, f 174, f 175, f 176, f 177, f 178, f 179, f 180, f 181, f 182, f 183], []⟩ := by
  obtain ⟨f, hf, ha⟩ := open184 a h.size h.defers
  refine ⟨f, ha.trans ?_⟩
  simp only [(hf 0).trans h.s0, (hf 1).trans h.s1, (hf 4).trans h.s4, (hf 5).trans h.s5, (hf 7).trans h.s7, (hf 8).trans h.s8, (hf 9).trans h.s9, (hf 10).trans h.s10, (hf 11).trans h.s11]

/-- Ahead of the search. -/
structure BkI (g o nd cd b off n cl : Nat) (tb d sh : Nat) (ne s : Nat) (nh : Nat) (a : Act) : Prop where
  size : a.tmps.size = 184
  defers : a.defers = []
  s0 : a.tmps.getD 0 undef = .slice (some ⟨g, o, none⟩) nd cd
  s1 : a.tmps.getD 1 undef = .slice (some ⟨b, off, none⟩) n cl
  s4 : a.tmps.getD 4 undef = .int .i64 (d : Int)
  s5 : a.tmps.getD 5 undef = .int .u32 (sh : Int)
  s7 : a.tmps.getD 7 undef = .pointer (some ⟨tb, 0, none⟩)
  s8 : a.tmps.getD 8 undef = .int .i64 ((n : Int) - 15)
  s9 : a.tmps.getD 9 undef = .int .i64 (ne : Int)
  s10 : a.tmps.getD 10 undef = .int .i64 (s : Int)
  s11 : a.tmps.getD 11 undef = .int .u32 (nh : Int)
  s12 : a.tmps.getD 12 undef = .int .i64 (32 : Int)

set_option maxRecDepth 100000 in
theorem BkI.open_ {g o nd cd b off n cl : Nat} {tb d sh : Nat} {ne s : Nat} {nh : Nat} {a : Act} (h : BkI g o nd cd b off n cl tb d sh ne s nh a) : ∃ f : Nat → Value, a = ⟨#[.slice (some ⟨g, o, none⟩) nd cd, .slice (some ⟨b, off, none⟩) n cl, f 2, f 3, .int .i64 (d : Int), .int .u32 (sh : Int), f 6, .pointer (some ⟨tb, 0, none⟩), .int .i64 ((n : Int) - 15), .int .i64 (ne : Int), .int .i64 (s : Int), .int .u32 (nh : Int), .int .i64 (32 : Int), f 13, f 14, f 15, f 16, f 17, f 18, f 19, f 20, f 21, f 22, f 23, f 24, f 25, f 26, f 27, f 28, f 29, f 30, f 31, f 32, f 33, f 34, f 35, f 36, f 37, f 38, f 39, f 40, f 41, f 42, f 43, f 44, f 45, f 46, f 47, f 48, f 49, f 50, f 51, f 52, f 53, f 54, f 55, f 56, f 57, f 58, f 59, f 60, f 61, f 62, f 63, f 64, f 65, f 66, f 67, f 68, f 69, f 70, f 71, f 72, f 73, f 74, f 75, f 76, f 77, f 78, f 79, f 80, f 81, f 82, f 83, f 84, f 85, f 86, f 87, f 88, f 89, f 90, f 91, f 92, f 93, f 94, f 95, f 96, f 97, f 98, f 99, f 100, f 101, f 102, f 103, f 104, f 105, f 106, f 107, f 108, f 109, f 110, f 111, f 112, f 113, f 114, f 115, f 116, f 117, f 118, f 119, f 120, f 121, f 122, f 123, f 124, f 125, f 126, f 127, f 128, f 129, f 130, f 131, f 132, f 133, f 134, f 135, f 136, f 137, f 138, f 139, f 140, f 141, f 142, f 143, f 144, f 145, f 146, f 147, f 148, f 149, f 150, f 151, f 152, f 153, f 154, f 155, f 156, f 157, f 158, f 159, f 160, f 161, f 162, f 163, f 164, f 165, f 166, f 167, f 168, f 169, f 170, f 171, f 172, f 173, f 174, f 175, f 176, f 177, f 178, f 179, f 180, f 181, f 182, f 183], []⟩ := by
  obtain ⟨f, hf, ha⟩ := open184 a h.size h.defers
  refine ⟨f, ha.trans ?_⟩
  simp only [(hf 0).trans h.s0, (hf 1).trans h.s1, (hf 4).trans h.s4, (hf 5).trans h.s5, (hf 7).trans h.s7, (hf 8).trans h.s8, (hf 9).trans h.s9, (hf 10).trans h.s10, (hf 11).trans h.s11, (hf 12).trans h.s12]

/-- In the search. -/
structure BkS (g o nd cd b off n cl : Nat) (tb d sh : Nat) (ne s : Nat) (nh sk ns : Nat) (a : Act) : Prop where
  size : a.tmps.size = 184
  defers : a.defers = []
  s0 : a.tmps.getD 0 undef = .slice (some ⟨g, o, none⟩) nd cd
  s1 : a.tmps.getD 1 undef = .slice (some ⟨b, off, none⟩) n cl
  s4 : a.tmps.getD 4 undef = .int .i64 (d : Int)
  s5 : a.tmps.getD 5 undef = .int .u32 (sh : Int)
  s7 : a.tmps.getD 7 undef = .pointer (some ⟨tb, 0, none⟩)
  s8 : a.tmps.getD 8 undef = .int .i64 ((n : Int) - 15)
  s9 : a.tmps.getD 9 undef = .int .i64 (ne : Int)
  s10 : a.tmps.getD 10 undef = .int .i64 (s : Int)
  s11 : a.tmps.getD 11 undef = .int .u32 (nh : Int)
  s12 : a.tmps.getD 12 undef = .int .i64 (sk : Int)
  s13 : a.tmps.getD 13 undef = .int .i64 (ns : Int)

set_option maxRecDepth 100000 in
theorem BkS.open_ {g o nd cd b off n cl : Nat} {tb d sh : Nat} {ne s : Nat} {nh sk ns : Nat} {a : Act} (h : BkS g o nd cd b off n cl tb d sh ne s nh sk ns a) : ∃ f : Nat → Value, a = ⟨#[.slice (some ⟨g, o, none⟩) nd cd, .slice (some ⟨b, off, none⟩) n cl, f 2, f 3, .int .i64 (d : Int), .int .u32 (sh : Int), f 6, .pointer (some ⟨tb, 0, none⟩), .int .i64 ((n : Int) - 15), .int .i64 (ne : Int), .int .i64 (s : Int), .int .u32 (nh : Int), .int .i64 (sk : Int), .int .i64 (ns : Int), f 14, f 15, f 16, f 17, f 18, f 19, f 20, f 21, f 22, f 23, f 24, f 25, f 26, f 27, f 28, f 29, f 30, f 31, f 32, f 33, f 34, f 35, f 36, f 37, f 38, f 39, f 40, f 41, f 42, f 43, f 44, f 45, f 46, f 47, f 48, f 49, f 50, f 51, f 52, f 53, f 54, f 55, f 56, f 57, f 58, f 59, f 60, f 61, f 62, f 63, f 64, f 65, f 66, f 67, f 68, f 69, f 70, f 71, f 72, f 73, f 74, f 75, f 76, f 77, f 78, f 79, f 80, f 81, f 82, f 83, f 84, f 85, f 86, f 87, f 88, f 89, f 90, f 91, f 92, f 93, f 94, f 95, f 96, f 97, f 98, f 99, f 100, f 101, f 102, f 103, f 104, f 105, f 106, f 107, f 108, f 109, f 110, f 111, f 112, f 113, f 114, f 115, f 116, f 117, f 118, f 119, f 120, f 121, f 122, f 123, f 124, f 125, f 126, f 127, f 128, f 129, f 130, f 131, f 132, f 133, f 134, f 135, f 136, f 137, f 138, f 139, f 140, f 141, f 142, f 143, f 144, f 145, f 146, f 147, f 148, f 149, f 150, f 151, f 152, f 153, f 154, f 155, f 156, f 157, f 158, f 159, f 160, f 161, f 162, f 163, f 164, f 165, f 166, f 167, f 168, f 169, f 170, f 171, f 172, f 173, f 174, f 175, f 176, f 177, f 178, f 179, f 180, f 181, f 182, f 183], []⟩ := by
  obtain ⟨f, hf, ha⟩ := open184 a h.size h.defers
  refine ⟨f, ha.trans ?_⟩
  simp only [(hf 0).trans h.s0, (hf 1).trans h.s1, (hf 4).trans h.s4, (hf 5).trans h.s5, (hf 7).trans h.s7, (hf 8).trans h.s8, (hf 9).trans h.s9, (hf 10).trans h.s10, (hf 11).trans h.s11, (hf 12).trans h.s12, (hf 13).trans h.s13]

/-- A match has been found. -/
structure BkM (g o nd cd b off n cl : Nat) (tb d sh : Nat) (ne s : Nat) (ca : Nat) (a : Act) : Prop where
  size : a.tmps.size = 184
  defers : a.defers = []
  s0 : a.tmps.getD 0 undef = .slice (some ⟨g, o, none⟩) nd cd
  s1 : a.tmps.getD 1 undef = .slice (some ⟨b, off, none⟩) n cl
  s4 : a.tmps.getD 4 undef = .int .i64 (d : Int)
  s5 : a.tmps.getD 5 undef = .int .u32 (sh : Int)
  s7 : a.tmps.getD 7 undef = .pointer (some ⟨tb, 0, none⟩)
  s8 : a.tmps.getD 8 undef = .int .i64 ((n : Int) - 15)
  s9 : a.tmps.getD 9 undef = .int .i64 (ne : Int)
  s10 : a.tmps.getD 10 undef = .int .i64 (s : Int)
  s14 : a.tmps.getD 14 undef = .int .i64 (ca : Int)

set_option maxRecDepth 100000 in
theorem BkM.open_ {g o nd cd b off n cl : Nat} {tb d sh : Nat} {ne s : Nat} {ca : Nat} {a : Act} (h : BkM g o nd cd b off n cl tb d sh ne s ca a) : ∃ f : Nat → Value, a = ⟨#[.slice (some ⟨g, o, none⟩) nd cd, .slice (some ⟨b, off, none⟩) n cl, f 2, f 3, .int .i64 (d : Int), .int .u32 (sh : Int), f 6, .pointer (some ⟨tb, 0, none⟩), .int .i64 ((n : Int) - 15), .int .i64 (ne : Int), .int .i64 (s : Int), f 11, f 12, f 13, .int .i64 (ca : Int), f 15, f 16, f 17, f 18, f 19, f 20, f 21, f 22, f 23, f 24, f 25, f 26, f 27, f 28, f 29, f 30, f 31, f 32, f 33, f 34, f 35, f 36, f 37, f 38, f 39, f 40, f 41, f 42, f 43, f 44, f 45, f 46, f 47, f 48, f 49, f 50, f 51, f 52, f 53, f 54, f 55, f 56, f 57, f 58, f 59, f 60, f 61, f 62, f 63, f 64, f 65, f 66, f 67, f 68, f 69, f 70, f 71, f 72, f 73, f 74, f 75, f 76, f 77, f 78, f 79, f 80, f 81, f 82, f 83, f 84, f 85, f 86, f 87, f 88, f 89, f 90, f 91, f 92, f 93, f 94, f 95, f 96, f 97, f 98, f 99, f 100, f 101, f 102, f 103, f 104, f 105, f 106, f 107, f 108, f 109, f 110, f 111, f 112, f 113, f 114, f 115, f 116, f 117, f 118, f 119, f 120, f 121, f 122, f 123, f 124, f 125, f 126, f 127, f 128, f 129, f 130, f 131, f 132, f 133, f 134, f 135, f 136, f 137, f 138, f 139, f 140, f 141, f 142, f 143, f 144, f 145, f 146, f 147, f 148, f 149, f 150, f 151, f 152, f 153, f 154, f 155, f 156, f 157, f 158, f 159, f 160, f 161, f 162, f 163, f 164, f 165, f 166, f 167, f 168, f 169, f 170, f 171, f 172, f 173, f 174, f 175, f 176, f 177, f 178, f 179, f 180, f 181, f 182, f 183], []⟩ := by
  obtain ⟨f, hf, ha⟩ := open184 a h.size h.defers
  refine ⟨f, ha.trans ?_⟩
  simp only [(hf 0).trans h.s0, (hf 1).trans h.s1, (hf 4).trans h.s4, (hf 5).trans h.s5, (hf 7).trans h.s7, (hf 8).trans h.s8, (hf 9).trans h.s9, (hf 10).trans h.s10, (hf 14).trans h.s14]

/-- The base is laid. -/
structure BkN (g o nd cd b off n cl : Nat) (tb d sh : Nat) (ne s : Nat) (ca bs : Nat) (a : Act) : Prop where
  size : a.tmps.size = 184
  defers : a.defers = []
  s0 : a.tmps.getD 0 undef = .slice (some ⟨g, o, none⟩) nd cd
  s1 : a.tmps.getD 1 undef = .slice (some ⟨b, off, none⟩) n cl
  s4 : a.tmps.getD 4 undef = .int .i64 (d : Int)
  s5 : a.tmps.getD 5 undef = .int .u32 (sh : Int)
  s7 : a.tmps.getD 7 undef = .pointer (some ⟨tb, 0, none⟩)
  s8 : a.tmps.getD 8 undef = .int .i64 ((n : Int) - 15)
  s9 : a.tmps.getD 9 undef = .int .i64 (ne : Int)
  s10 : a.tmps.getD 10 undef = .int .i64 (s : Int)
  s14 : a.tmps.getD 14 undef = .int .i64 (ca : Int)
  s16 : a.tmps.getD 16 undef = .int .i64 (bs : Int)

set_option maxRecDepth 100000 in
theorem BkN.open_ {g o nd cd b off n cl : Nat} {tb d sh : Nat} {ne s : Nat} {ca bs : Nat} {a : Act} (h : BkN g o nd cd b off n cl tb d sh ne s ca bs a) : ∃ f : Nat → Value, a = ⟨#[.slice (some ⟨g, o, none⟩) nd cd, .slice (some ⟨b, off, none⟩) n cl, f 2, f 3, .int .i64 (d : Int), .int .u32 (sh : Int), f 6, .pointer (some ⟨tb, 0, none⟩), .int .i64 ((n : Int) - 15), .int .i64 (ne : Int), .int .i64 (s : Int), f 11, f 12, f 13, .int .i64 (ca : Int), f 15, .int .i64 (bs : Int), f 17, f 18, f 19, f 20, f 21, f 22, f 23, f 24, f 25, f 26, f 27, f 28, f 29, f 30, f 31, f 32, f 33, f 34, f 35, f 36, f 37, f 38, f 39, f 40, f 41, f 42, f 43, f 44, f 45, f 46, f 47, f 48, f 49, f 50, f 51, f 52, f 53, f 54, f 55, f 56, f 57, f 58, f 59, f 60, f 61, f 62, f 63, f 64, f 65, f 66, f 67, f 68, f 69, f 70, f 71, f 72, f 73, f 74, f 75, f 76, f 77, f 78, f 79, f 80, f 81, f 82, f 83, f 84, f 85, f 86, f 87, f 88, f 89, f 90, f 91, f 92, f 93, f 94, f 95, f 96, f 97, f 98, f 99, f 100, f 101, f 102, f 103, f 104, f 105, f 106, f 107, f 108, f 109, f 110, f 111, f 112, f 113, f 114, f 115, f 116, f 117, f 118, f 119, f 120, f 121, f 122, f 123, f 124, f 125, f 126, f 127, f 128, f 129, f 130, f 131, f 132, f 133, f 134, f 135, f 136, f 137, f 138, f 139, f 140, f 141, f 142, f 143, f 144, f 145, f 146, f 147, f 148, f 149, f 150, f 151, f 152, f 153, f 154, f 155, f 156, f 157, f 158, f 159, f 160, f 161, f 162, f 163, f 164, f 165, f 166, f 167, f 168, f 169, f 170, f 171, f 172, f 173, f 174, f 175, f 176, f 177, f 178, f 179, f 180, f 181, f 182, f 183], []⟩ := by
  obtain ⟨f, hf, ha⟩ := open184 a h.size h.defers
  refine ⟨f, ha.trans ?_⟩
  simp only [(hf 0).trans h.s0, (hf 1).trans h.s1, (hf 4).trans h.s4, (hf 5).trans h.s5, (hf 7).trans h.s7, (hf 8).trans h.s8, (hf 9).trans h.s9, (hf 10).trans h.s10, (hf 14).trans h.s14, (hf 16).trans h.s16]

/-- Ahead of what is left. -/
structure BkT (g o nd cd b off n cl : Nat) (d ne : Nat) (a : Act) : Prop where
  size : a.tmps.size = 184
  defers : a.defers = []
  s0 : a.tmps.getD 0 undef = .slice (some ⟨g, o, none⟩) nd cd
  s1 : a.tmps.getD 1 undef = .slice (some ⟨b, off, none⟩) n cl
  s4 : a.tmps.getD 4 undef = .int .i64 (d : Int)
  s9 : a.tmps.getD 9 undef = .int .i64 (ne : Int)

set_option maxRecDepth 100000 in
theorem BkT.open_ {g o nd cd b off n cl : Nat} {d ne : Nat} {a : Act} (h : BkT g o nd cd b off n cl d ne a) : ∃ f : Nat → Value, a = ⟨#[.slice (some ⟨g, o, none⟩) nd cd, .slice (some ⟨b, off, none⟩) n cl, f 2, f 3, .int .i64 (d : Int), f 5, f 6, f 7, f 8, .int .i64 (ne : Int), f 10, f 11, f 12, f 13, f 14, f 15, f 16, f 17, f 18, f 19, f 20, f 21, f 22, f 23, f 24, f 25, f 26, f 27, f 28, f 29, f 30, f 31, f 32, f 33, f 34, f 35, f 36, f 37, f 38, f 39, f 40, f 41, f 42, f 43, f 44, f 45, f 46, f 47, f 48, f 49, f 50, f 51, f 52, f 53, f 54, f 55, f 56, f 57, f 58, f 59, f 60, f 61, f 62, f 63, f 64, f 65, f 66, f 67, f 68, f 69, f 70, f 71, f 72, f 73, f 74, f 75, f 76, f 77, f 78, f 79, f 80, f 81, f 82, f 83, f 84, f 85, f 86, f 87, f 88, f 89, f 90, f 91, f 92, f 93, f 94, f 95, f 96, f 97, f 98, f 99, f 100, f 101, f 102, f 103, f 104, f 105, f 106, f 107, f 108, f 109, f 110, f 111, f 112, f 113, f 114, f 115, f 116, f 117, f 118, f 119, f 120, f 121, f 122, f 123, f 124, f 125, f 126, f 127, f 128, f 129, f 130, f 131, f 132, f 133, f 134, f 135, f 136, f 137, f 138, f 139, f 140, f 141, f 142, f 143, f 144, f 145, f 146, f 147, f 148, f 149, f 150, f 151, f 152, f 153, f 154, f 155, f 156, f 157, f 158, f 159, f 160, f 161, f 162, f 163, f 164, f 165, f 166, f 167, f 168, f 169, f 170, f 171, f 172, f 173, f 174, f 175, f 176, f 177, f 178, f 179, f 180, f 181, f 182, f 183], []⟩ := by
  obtain ⟨f, hf, ha⟩ := open184 a h.size h.defers
  refine ⟨f, ha.trans ?_⟩
  simp only [(hf 0).trans h.s0, (hf 1).trans h.s1, (hf 4).trans h.s4, (hf 9).trans h.s9]

/-- The match is being stretched. -/
structure BkE (g o nd cd b off n cl : Nat) (tb d sh : Nat) (ne s : Nat) (ca bs i : Nat) (a : Act) : Prop where
  size : a.tmps.size = 184
  defers : a.defers = []
  s0 : a.tmps.getD 0 undef = .slice (some ⟨g, o, none⟩) nd cd
  s1 : a.tmps.getD 1 undef = .slice (some ⟨b, off, none⟩) n cl
  s4 : a.tmps.getD 4 undef = .int .i64 (d : Int)
  s5 : a.tmps.getD 5 undef = .int .u32 (sh : Int)
  s7 : a.tmps.getD 7 undef = .pointer (some ⟨tb, 0, none⟩)
  s8 : a.tmps.getD 8 undef = .int .i64 ((n : Int) - 15)
  s9 : a.tmps.getD 9 undef = .int .i64 (ne : Int)
  s10 : a.tmps.getD 10 undef = .int .i64 (s : Int)
  s14 : a.tmps.getD 14 undef = .int .i64 (ca : Int)
  s16 : a.tmps.getD 16 undef = .int .i64 (bs : Int)
  s17 : a.tmps.getD 17 undef = .int .i64 (i : Int)

set_option maxRecDepth 100000 in
theorem BkE.open_ {g o nd cd b off n cl : Nat} {tb d sh : Nat} {ne s : Nat} {ca bs i : Nat} {a : Act} (h : BkE g o nd cd b off n cl tb d sh ne s ca bs i a) : ∃ f : Nat → Value, a = ⟨#[.slice (some ⟨g, o, none⟩) nd cd, .slice (some ⟨b, off, none⟩) n cl, f 2, f 3, .int .i64 (d : Int), .int .u32 (sh : Int), f 6, .pointer (some ⟨tb, 0, none⟩), .int .i64 ((n : Int) - 15), .int .i64 (ne : Int), .int .i64 (s : Int), f 11, f 12, f 13, .int .i64 (ca : Int), f 15, .int .i64 (bs : Int), .int .i64 (i : Int), f 18, f 19, f 20, f 21, f 22, f 23, f 24, f 25, f 26, f 27, f 28, f 29, f 30, f 31, f 32, f 33, f 34, f 35, f 36, f 37, f 38, f 39, f 40, f 41, f 42, f 43, f 44, f 45, f 46, f 47, f 48, f 49, f 50, f 51, f 52, f 53, f 54, f 55, f 56, f 57, f 58, f 59, f 60, f 61, f 62, f 63, f 64, f 65, f 66, f 67, f 68, f 69, f 70, f 71, f 72, f 73, f 74, f 75, f 76, f 77, f 78, f 79, f 80, f 81, f 82, f 83, f 84, f 85, f 86, f 87, f 88, f 89, f 90, f 91, f 92, f 93, f 94, f 95, f 96, f 97, f 98, f 99, f 100, f 101, f 102, f 103, f 104, f 105, f 106, f 107, f 108, f 109, f 110, f 111, f 112, f 113, f 114, f 115, f 116, f 117, f 118, f 119, f 120, f 121, f 122, f 123, f 124, f 125, f 126, f 127, f 128, f 129, f 130, f 131, f 132, f 133, f 134, f 135, f 136, f 137, f 138, f 139, f 140, f 141, f 142, f 143, f 144, f 145, f 146, f 147, f 148, f 149, f 150, f 151, f 152, f 153, f 154, f 155, f 156, f 157, f 158, f 159, f 160, f 161, f 162, f 163, f 164, f 165, f 166, f 167, f 168, f 169, f 170, f 171, f 172, f 173, f 174, f 175, f 176, f 177, f 178, f 179, f 180, f 181, f 182, f 183], []⟩ := by
  obtain ⟨f, hf, ha⟩ := open184 a h.size h.defers
  refine ⟨f, ha.trans ?_⟩
  simp only [(hf 0).trans h.s0, (hf 1).trans h.s1, (hf 4).trans h.s4, (hf 5).trans h.s5, (hf 7).trans h.s7, (hf 8).trans h.s8, (hf 9).trans h.s9, (hf 10).trans h.s10, (hf 14).trans h.s14, (hf 16).trans h.s16, (hf 17).trans h.s17]

def cS : Code → Code
  | .scope c => c
  | c => c

noncomputable def bkBody : Code := bodyOf Tryd.f24
noncomputable def bk : Code := cS (c2 bkBody)
noncomputable def bkR0 : Code := c1 bkBody
noncomputable def bkR1 : Code := c1 bk
noncomputable def bkSh : Code := c1 (c2 bk)
noncomputable def bkR2 : Code := c1 bkSh
noncomputable def bkShLoop : Code := cL (cB (c2 bkSh))
noncomputable def bk6 : Code := c2 (c2 bk)
noncomputable def bkR6 : Code := c1 bk6
noncomputable def bkR7 : Code := c1 (c2 bk6)
noncomputable def bkR8 : Code := c1 (c2 (c2 bk6))
noncomputable def bkR9 : Code := c1 (c2 (c2 (c2 bk6)))
noncomputable def bkR10 : Code := c1 (c2 (c2 (c2 (c2 bk6))))
noncomputable def bk11 : Code := c2 (c2 (c2 (c2 (c2 bk6))))
noncomputable def bkOuter : Code := cL (cB (c1 bk11))
noncomputable def bkTail : Code := c2 bk11
noncomputable def bkT1 : Code := c1 (c2 bkTail)
noncomputable def bkT2 : Code := c2 (c2 bkTail)
noncomputable def bkO : Code := cB bkOuter
noncomputable def bkR11 : Code := c1 bkO
noncomputable def bkR12 : Code := c1 (c2 bkO)
noncomputable def bkR13 : Code := c1 (c2 (c2 bkO))
noncomputable def bkSr : Code := c1 (c2 (c2 (c2 bkO)))
noncomputable def bk23 : Code := c2 (c2 (c2 (c2 bkO)))
noncomputable def bkSrLoop : Code := cL (cB bkSr)
noncomputable def bkSrB : Code := cB bkSrLoop
noncomputable def bkR23 : Code := c1 bk23
noncomputable def bkCpLoop : Code := cL (cB (c2 bk23))
noncomputable def bkCp : Code := cB bkCpLoop
noncomputable def bkR24 : Code := c1 bkCp
noncomputable def bkR25 : Code := c1 (c2 bkCp)
noncomputable def bkX : Code := c1 (c2 (c2 bkCp))
noncomputable def bkR26 : Code := c1 bkX
noncomputable def bkExt : Code := cL (cB (c2 bkX))
noncomputable def bk29 : Code := c2 (c2 (c2 bkCp))
noncomputable def bkR29 : Code := c1 bk29
noncomputable def bk30 : Code := c2 bk29

theorem bkCp_eq : bkCp = .seq bkR24 (.seq bkR25 (.seq (.seq bkR26 (.block 8 (.loop bkExt))) (.seq bkR29 bk30))) := by kernel_rfl
theorem bkBody_eq : bkBody = .seq bkR0 (.scope bk) := by kernel_rfl
theorem bk_eq : bk = .seq bkR1 (.seq (.seq bkR2 (.block 0 (.loop bkShLoop))) (.seq bkR6 (.seq bkR7 (.seq bkR8 (.seq bkR9 (.seq bkR10 (.seq (.block 2 (.loop bkOuter)) bkTail))))))) := by kernel_rfl
theorem bkTail_eq : bkTail = .seq (.label 0) (.seq bkT1 bkT2) := by kernel_rfl
theorem bkOuter_eq : bkOuter = .block 3 (.seq bkR11 (.seq bkR12 (.seq bkR13 (.seq (.block 4 (.loop bkSrLoop)) (.seq bkR23 (.block 6 (.loop bkCpLoop))))))) := by kernel_rfl
theorem bkSrLoop_eq : bkSrLoop = .block 5 bkSrB := by kernel_rfl
theorem bkCpLoop_eq : bkCpLoop = .block 7 bkCp := by kernel_rfl


end Snap
end Go.Proofs.YtoihiaenlonncaaDoor

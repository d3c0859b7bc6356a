/-
  snappy.Encode at nothing: the length 0 alone. impl.EncodeInto at nothing.
-/
import Derived.Test.YtoihiaenlonncaaDoorClone
import Derived.Test.YtoihiaenlonncaaDoorRead1
import Derived.Deep.OwnRows
namespace Go.Proofs.YtoihiaenlonncaaDoor
open Go.RowKit
set_option linter.unusedVariables false
namespace Snap

set_option maxRecDepth 100000 in
set_option maxHeartbeats 400000 in
theorem MaxLen_any (m : Nat) (h : m ≤ 1073741823) (w : World) : Calls Tryd.prog 21 #[.int .i64 (m : Int)] w fun e w' => e = .returned (.int .i64 (32 + (m : Int) + (m : Int) / 6)) ∧ w = w' := by
  go_enter Tryd.func21, Tryd.ntmps21
  go_wp2
  go_ret
  exact ⟨rfl, rfl⟩

set_option maxRecDepth 100000 in
set_option maxHeartbeats 400000 in
theorem PutUvarint_zero (g n c : Nat) (w : World) (hn : 1 ≤ n) (u : Value) (h1 : w.cell? ⟨g, 0, none⟩ = some u) (h2 : w.frozen? ⟨g, 0, none⟩ = false) :
    Calls Tryd.prog 22 #[.slice (some ⟨g, 0, none⟩) n c, .int .u64 0] w fun e w' => e = .returned (.int .i64 1) ∧ w' = w.setCell ⟨g, 0, none⟩ (.int .u8 0) := by
  go_enter Tryd.func22, Tryd.ntmps22
  go_wp2
  go_loop [1, 5] (fun x i => x = .int .u64 0 ∧ i = .int .i64 0) (fun _ _ => 0)
  case atStart => exact ⟨rfl, rfl⟩
  case round =>
    obtain ⟨rfl, rfl⟩ := hrel
    go_wp2
    go_ret
    exact ⟨rfl, rfl⟩

theorem run_cut_h (g off n c : Nat) (h : Int) (m : Nat) (hm : h.toNat = m) (h0 : 0 ≤ h) (h2 : h ≤ (c : Int)) (w : World) :
    (Instr.sliceAt 22 (.slice (some ⟨g, off, none⟩) n c) none (some (.int .i64 h)) none).run Tryd.prog w = .ok (.slice (some ⟨g, off, none⟩) m c) w := by
  have ht : Tryd.prog.underlying 22 = some (.slice (Tryd.prog.elem 22)) := by rw [elem_bytes]; exact Tryd.underlying22
  rw [run_sliceAt_slice w _ _ _ _ _ ht, run_slice_h w _ _ n c ht _ h h0 h2, elem_bytes, run_sizeOf_u8, hm]
  simp [Result.andThen, sliced, Addr.add]

/-- One byte 0 at the head of a row that is the call's own. -/
def ZeroAt (w0 : World) (base : Nat) (e : Ending) (w' : World) : Prop := Below base w0 w' ∧ ∃ g c, e = .returned (.slice (some ⟨g, 0, none⟩) 1 c) ∧ 1 ≤ c ∧ Rd w' w'.heap.size (some ⟨g, 0, none⟩) 1 [0]

theorem rd_zero {w : World} {g : Nat} {u : Value} (h1 : w.cell? ⟨g, 0, none⟩ = some u) (hlt : g < w.heap.size) : Rd (w.setCell ⟨g, 0, none⟩ (.int .u8 0)) (w.setCell ⟨g, 0, none⟩ (.int .u8 0)).heap.size (some ⟨g, 0, none⟩) 1 [0] := by
  refine ⟨rfl, fun _ => ⟨g, 0, rfl, by simpa using hlt, fun j hj => ?_⟩⟩
  obtain rfl : j = 0 := by omega
  rw [World.cell?_setCell_same w ⟨g, 0, none⟩ _ h1]
  rfl

set_option maxRecDepth 100000 in
set_option maxHeartbeats 400000 in
theorem Encode_row (g nd cd c : Nat) (A : Option Addr) (base : Nat) (u : Value) (w : World) (hnd : 32 ≤ nd) (hncd : nd ≤ cd) (h1 : w.cell? ⟨g, 0, none⟩ = some u) (h2 : w.frozen? ⟨g, 0, none⟩ = false) (hgb : base ≤ g) (hlt : g < w.heap.size) :
    Calls Tryd.prog 17 #[.slice (some ⟨g, 0, none⟩) nd cd, .slice A 0 c] w (ZeroAt w base) := by
  have hM : Calls Tryd.prog 21 #[.int .i64 0] w fun e w' => e = .returned (.int .i64 32) ∧ w = w' := MaxLen_any 0 (by omega) w
  have hP := PutUvarint_zero g nd cd w (by omega) u h1 h2
  have hsl := run_cut_h g 0 nd cd 1 1 (by omega) (by omega) (by omega)
  have HM := hide hM
  have HP := hide hP
  have HR := hide (rd_zero h1 hlt)
  clear hM hP h1 h2
  go_enter Tryd.func17, Tryd.ntmps17
  go_wp2_with fail
  refine HM.out.mono ?_
  rintro e w' ⟨rfl, rfl⟩
  go_wp2_with fail
  refine HP.out.mono ?_
  rintro e w' ⟨rfl, rfl⟩
  go_wp2
  go_loop [1, 6] (fun s d => s = .slice A 0 c ∧ d = .int .i64 1) (fun _ _ => 0)
  case atStart => exact ⟨rfl, rfl⟩
  case round =>
    obtain ⟨rfl, rfl⟩ := hrel
    go_wp2
    go_ret
    exact ⟨(Below.refl _ _).setCell hgb _, g, cd, rfl, by omega, HR.out⟩

set_option maxRecDepth 100000 in
set_option maxHeartbeats 400000 in
theorem Encode_make (Ad : Option Addr) (nd cd c : Nat) (A : Option Addr) (base : Nat) (w : World) (hnd : nd < 32) (hB : base ≤ w.heap.size) :
    Calls Tryd.prog 17 #[.slice Ad nd cd, .slice A 0 c] w (ZeroAt w base) := by
  have hM : Calls Tryd.prog 21 #[.int .i64 0] w fun e w' => e = .returned (.int .i64 32) ∧ w = w' := MaxLen_any 0 (by omega) w
  have hg : (w.alloc (.cells (madeCells #[.int .u8 0] 32) 5)).heap[w.heap.size]? = some (.cells (madeCells #[.int .u8 0] 32) 5 (0, 0)) := by
    show (w.heap.push _)[w.heap.size]? = _
    simp
  have h1 : (w.alloc (.cells (madeCells #[.int .u8 0] 32) 5)).cell? ⟨w.heap.size, 0, none⟩ = some (.int .u8 0) := by
    rw [cell_of_row _ _ 0 _ _ _ hg, ← Array.getElem?_toList, toList_madeCells_one]
    simp
  have h2 := frozen_of_row _ w.heap.size 0 _ _ hg
  have hP := PutUvarint_zero w.heap.size 32 32 _ (by omega) _ h1 h2
  have hsl := run_cut_h w.heap.size 0 32 32 1 1 (by omega) (by omega) (by omega)
  have hmk : ∀ w : World, (Instr.makeSlice 22 (.int .i64 32) (.int .i64 32)).run Tryd.prog w = .ok (.slice (some ⟨w.heap.size, 0, none⟩) 32 32) (w.alloc (.cells (madeCells #[.int .u8 0] 32) 5)) := run_make_row' (P := Tryd.prog) 22 5 (.int .u8 0) 1 Tryd.underlying22 info_u8 rfl .i64 .i64 32 (by omega) (by omega)
  have HM := hide hM
  have HP := hide hP
  have HR := hide (rd_zero h1 (by simp))
  clear hM hP h1 h2 hg
  generalize hmade : madeCells #[Value.int .u8 0] 32 = mc at *
  clear hmade
  go_enter Tryd.func17, Tryd.ntmps17
  go_wp2_with fail
  refine HM.out.mono ?_
  rintro e w' ⟨rfl, rfl⟩
  go_wp2_with fail
  refine HP.out.mono ?_
  rintro e w' ⟨rfl, rfl⟩
  obtain ⟨w2, hw2⟩ : ∃ w2, w2 = (w.alloc (.cells mc 5)).setCell ⟨w.heap.size, 0, none⟩ (.int .u8 0) := ⟨_, rfl⟩
  rw [← hw2]
  have hbw : Below base w w2 := by rw [hw2]; exact ((Below.refl _ _).alloc hB _).setCell hB _
  have hrw : Rd w2 w2.heap.size (some ⟨w.heap.size, 0, none⟩) 1 [0] := by rw [hw2]; exact HR.out
  have HB := hide hbw
  have HR2 := hide hrw
  clear hw2 hbw hrw HR
  go_wp2
  go_loop [1, 6] (fun s d => s = .slice A 0 c ∧ d = .int .i64 1) (fun _ _ => 0)
  case atStart => exact ⟨rfl, rfl⟩
  case round =>
    obtain ⟨rfl, rfl⟩ := hrel
    go_wp2
    go_ret
    exact ⟨HB.out, w.heap.size, 32, rfl, by omega, HR2.out⟩

theorem Encode_empty (vd : Value) (xs : Bs) (c : Nat) (A : Option Addr) (base : Nat) (w : World) (hown : Own w base vd xs) (hB : base ≤ w.heap.size) :
    Calls Tryd.prog 17 #[vd, .slice A 0 c] w (ZeroAt w base) := by
  rcases hown.2 with ⟨rfl, h0⟩ | ⟨g, cap, cur, rfl, hgb, hg, hnc, hcm, hs, ht⟩
  · exact Encode_make none 0 0 c A base w (by omega) hB
  · by_cases h32 : xs.length < 32
    · exact Encode_make _ _ _ c A base w h32 hB
    · have h1 : w.cell? ⟨g, 0, none⟩ = some (cur[0]'(by omega)) := by
        rw [cell_of_row w g 0 cur _ _ hg]
        simp [Array.getElem?_eq_getElem (show 0 < cur.size by omega)]
      exact Encode_row g xs.length cap c A base _ w (by omega) hnc h1 (frozen_of_row w g 0 cur _ hg) hgb (Array.getElem?_eq_some_iff.1 hg).1

set_option maxRecDepth 100000 in
set_option maxHeartbeats 400000 in
theorem iEncodeInto_empty (A0 : Option Addr) (n0 c0 B0 : Nat) (xs0 : Bs) (A : Option Addr) (c : Nat) (w : World) (hx0 : Rd w B0 A0 n0 xs0) (hB0 : B0 ≤ w.heap.size) (hn0 : n0 ≤ 4294967295) (hA0 : A0 = none → n0 = 0) :
    Calls Tryd.prog 14 #[.slice A0 n0 c0, .slice A 0 c] w (Gives w [0]) := by
  have HC0 := hide (Clone_any A0 n0 c0 B0 xs0 w hx0 hB0 hn0 hA0)
  clear hx0 hA0
  go_enter Tryd.func14, Tryd.ntmps14
  go_wp2_with fail
  refine HC0.out.mono ?_
  rintro e w1 ⟨v1, rfl, ho1, hb1⟩
  have hz1 := hb1.size
  have HC1 := hide (Clone_any A 0 c w1.heap.size [] w1 (Rd.nil _ _ _) (Nat.le_refl _) (by omega) (fun _ => rfl))
  have HO1 := hide ho1
  have HB1 := hide hb1
  clear ho1 hb1
  go_wp2_with fail
  refine HC1.out.mono ?_
  rintro e w2 ⟨v2, rfl, ho2, hb2⟩
  have hz2 := hb2.size
  obtain ⟨A2, c2, rfl, _, _, _, _⟩ := ho2.form
  have HO2 := hide (HO1.out.kept hb2)
  have HB2 := hide (HB1.out.trans (hb2.mono hz1))
  clear ho2 hb2
  go_wp2_with fail
  refine (Encode_empty v1 xs0 c2 A2 w.heap.size w2 HO2.out (by omega)).mono ?_
  rintro e w3 ⟨hb3, g, c3, rfl, hc3, hr3⟩
  have hz3 := hb3.size
  have HC3 := hide (Clone_any (some ⟨g, 0, none⟩) 1 c3 w3.heap.size [0] w3 hr3 (Nat.le_refl _) (by omega) (fun h => by cases h))
  have HB3 := hide (HB2.out.trans hb3)
  clear hb3 hr3
  go_wp2_with fail
  refine HC3.out.mono ?_
  rintro e w4 ⟨v4, rfl, ho4, hb4⟩
  have HO4 := hide (ho4.less (show w.heap.size ≤ w3.heap.size by omega))
  have HB4 := hide (HB3.out.trans (hb4.mono (by omega)))
  clear ho4 hb4
  go_wp2
  go_ret
  exact ⟨_, rfl, HO4.out, HB4.out⟩

/-- A law's end: it returns true, and nothing that was there has turned. -/
def Yes (w : World) (e : Ending) (w' : World) : Prop := e = .returned (.bool true) ∧ Below w.heap.size w w'

set_option maxRecDepth 100000 in
set_option maxHeartbeats 400000 in
theorem FnExactEmpty_total (w : World) (A : Option Addr) (n c : Nat) (xs : Bs) (hx : Rd w w.heap.size A n xs) (hA : A = none → n = 0) (hnc : n ≤ c) :
    Calls Tryd.prog 5 #[.slice A n c] w (Yes w) := by
  by_cases hn : 2147483647 < n
  · clear hx
    go_enter Tryd.func5, Tryd.ntmps5
    go_wp2
    go_ret
    exact ⟨rfl, Below.refl _ _⟩
  · have hn' : n ≤ 2147483647 := by omega
    have HI := hide (iEncodeInto_empty A n c w.heap.size xs (some ⟨w.heap.size, 0, none⟩) 0 (w.alloc (.cells #[] 5)) (hx.alloc (Nat.le_refl _) _) (by simp) (by omega) hA)
    clear hx hn hA
    go_enter Tryd.func5, Tryd.ntmps5
    go_wp2_with fail
    refine HI.out.mono ?_
    rintro e w1 ⟨v1, rfl, ho1, hb1⟩
    have hz1 := hb1.size
    rw [World.size_alloc] at hz1
    obtain ⟨A1, c1, rfl, _, _, hr1, _⟩ := ho1.form
    have HR1 := hide hr1
    have HB1 := hide (((Below.refl _ w).alloc (Nat.le_refl _) _).trans (hb1.mono (by simp)))
    clear ho1 hb1 hr1
    go_wp2_with fail
    refine (Same_any A1 (some ⟨w1.heap.size, 0, none⟩) 1 c1 1 w1.heap.size (w1.heap.size + 1) [0] (w1.alloc (.cells #[.int .u8 0] 5)) (HR1.out.alloc (Nat.le_refl _) _) (Rd.one _ _ _ (by decide)) (by omega)).mono ?_
    rintro e w2 ⟨rfl, k, rfl⟩
    go_wp2
    go_ret
    exact ⟨rfl, Below.drewN (HB1.out.alloc (by omega) _) k⟩

end Snap
end Go.Proofs.YtoihiaenlonncaaDoor

/-
  impl.Encode, impl.EncodeKeeps, impl.MaxEncodedLen, laws.common, laws.starts.
-/
import Derived.Test.YtoihiaenlonncaaDoorEnc2
namespace Go.Proofs.YtoihiaenlonncaaDoor
open Go.RowKit
set_option linter.unusedVariables false
namespace Snap

/-- A bool is returned; the world is as it was. -/
def Says (w : World) (b : Bool) (e : Ending) (w' : World) : Prop := e = .returned (.bool b) ∧ w = w'

set_option maxRecDepth 100000 in
set_option maxHeartbeats 400000 in
theorem common_any (A : Option Addr) (n c : Nat) (w : World) : Calls Tryd.prog 8 #[.slice A n c] w (Says w (decide (n ≤ 1000000))) := by
  by_cases h : n ≤ 1000000
  · rw [decide_eq_true h]
    have hd : decide ((n : Int) ≤ 1000000) = true := decide_eq_true (by omega)
    go_enter Tryd.func8, Tryd.ntmps8
    go_wp2
    go_ret
    exact ⟨rfl, rfl⟩
  · rw [decide_eq_false h]
    have h' : 1000000 < n := by omega
    clear h
    have hd : decide ((n : Int) ≤ 1000000) = false := decide_eq_false (by omega)
    go_enter Tryd.func8, Tryd.ntmps8
    go_wp2
    go_ret
    exact ⟨rfl, rfl⟩

/-- What impl.Encode gives: a block that says the text, in memory of its own. -/
def EncRes (w : World) (xs : Bs) (e : Ending) (w' : World) : Prop :=
  ∃ A c out body, e = .returned (.slice A out.length c) ∧ out = varL xs.length ++ body ∧ Chain [] body xs ∧ 60 * out.length ≤ 62 * xs.length + 360 ∧ out.length ≤ c ∧ Rd w' w'.heap.size A out.length out ∧ Below w.heap.size w w'

set_option maxRecDepth 100000 in
set_option maxHeartbeats 400000 in
theorem iEncode_any (A : Option Addr) (n c : Nat) (xs : Bs) (w : World) (hx : Rd w w.heap.size A n xs) (hn : n ≤ 1000000) (hA : A = none → n = 0) :
    Calls Tryd.prog 10 #[.slice A n c] w (EncRes w xs) := by
  have HC0 := hide (Clone_any A n c w.heap.size xs w hx (Nat.le_refl _) (by omega) hA)
  obtain rfl := hx.len
  clear hx hA
  go_enter Tryd.func10, Tryd.ntmps10
  go_wp2_with fail
  refine HC0.out.mono ?_
  rintro e w1 ⟨v1, rfl, ho1, hb1⟩
  obtain ⟨A1, c1, rfl, hlc1, _, hr1, _⟩ := ho1.form
  have HE := hide (Encode_any (.slice none 0 0) [] A1 xs.length c1 w.heap.size xs w1 (Own.nil _ _) (by simp) hb1.size hr1 (fun k hk => by cases hk) (by omega) hlc1)
  have HB := hide hb1
  clear ho1 hb1 hr1
  go_wp2_with fail
  refine HE.out.mono ?_
  rintro e w2 ⟨g, c2, out, body, rfl, ho, hch, hcost, hoc, hrd, hbel, _⟩
  have HF := hide (show EncRes w xs (.returned (.slice (some ⟨g, 0, none⟩) out.length c2)) w2 from ⟨_, c2, out, body, rfl, ho, hch, hcost, hoc, hrd, HB.out.trans hbel⟩)
  clear ho hch hcost hoc hrd hbel HE HC0 HB
  go_wp2
  go_ret
  exact HF.out

/-- Bytes are given back; what was there has not turned. -/
def Same2 (w : World) (xs : Bs) (e : Ending) (w' : World) : Prop :=
  ∃ A c, e = .returned (.slice A xs.length c) ∧ Rd w' w'.heap.size A xs.length xs ∧ Below w.heap.size w w'

set_option maxRecDepth 100000 in
set_option maxHeartbeats 400000 in
theorem iEncodeKeeps_any (A0 : Option Addr) (n0 c0 : Nat) (xs0 : Bs) (A : Option Addr) (n c : Nat) (xs : Bs) (w : World) (hx0 : Rd w w.heap.size A0 n0 xs0) (hn0 : n0 ≤ 2147483647) (hA0 : A0 = none → n0 = 0) (hx : Rd w w.heap.size A n xs) (hn : n ≤ 1000000) (hA : A = none → n = 0) :
    Calls Tryd.prog 15 #[.slice A0 n0 c0, .slice A n c] w (Same2 w xs) := by
  have HC0 := hide (Clone_any A n c w.heap.size xs w hx (Nat.le_refl _) (by omega) hA)
  have HX0 := hide hx0
  have HA0 := hide hA0
  have hl0 := hx0.len
  have hn0' : xs0.length ≤ 2147483647 := by omega
  obtain rfl := hx.len
  clear hx hA hx0 hA0 hl0
  go_enter Tryd.func15, Tryd.ntmps15
  go_wp2_with fail
  refine HC0.out.mono ?_
  rintro e w1 ⟨v1, rfl, ho1, hb1⟩
  obtain ⟨A1, c1, rfl, hlc1, _, hr1, _⟩ := ho1.form
  have HC1 := hide (Clone_any A0 n0 c0 w.heap.size xs0 w1 (HX0.out.below hb1) hb1.size (by omega) HA0.out)
  have HO1 := hide ho1
  have HB1 := hide hb1
  clear ho1 hb1 hr1
  go_wp2_with fail
  refine HC1.out.mono ?_
  rintro e w2 ⟨v2, rfl, ho2, hb2⟩
  have hz := HB1.out.size
  have hz2 := hb2.size
  have hO1 := HO1.out.kept hb2
  obtain ⟨A1', c1', hv1, _, _, hr1, _⟩ := hO1.form
  obtain ⟨rfl, _, rfl⟩ : A1 = A1' ∧ xs.length = xs.length ∧ c1 = c1' := by simpa using hv1
  have HE := hide (Encode_any v2 xs0 A1 xs.length c1 w.heap.size xs w2 (ho2.less hz) (by omega) (by omega) hr1 (fun k hk ad had => by
    subst had
    have h1 := (HO1.out.lt ad.block rfl).2
    have h2 := (ho2.lt k hk).1
    omega) (by omega) hlc1)
  have HB2 := hide (HB1.out.trans (hb2.mono hz))
  clear ho2 hb2 hr1 hO1 hv1 HC0 HC1 HO1 HX0
  go_wp2_with fail
  refine HE.out.mono ?_
  rintro e w3 ⟨g, c3, out, body, rfl, ho, hch, hcost, hoc, hrd, hbel, hkeep⟩
  have HF := hide (show Same2 w xs (.returned (.slice A1 xs.length c1)) w3 from ⟨A1, c1, rfl, hkeep, HB2.out.trans hbel⟩)
  clear ho hch hcost hoc hrd hbel HE HB2 hkeep
  go_wp2
  go_ret
  exact HF.out

set_option maxRecDepth 100000 in
set_option maxHeartbeats 400000 in
theorem iMaxLen_any (m : Nat) (h : m ≤ 1073741823) (w : World) : Calls Tryd.prog 16 #[.int .i64 (m : Int)] w fun e w' => e = .returned (.int .i64 (32 + (m : Int) + (m : Int) / 6)) ∧ w = w' := by
  have HM := hide (MaxLen_any m h w)
  go_enter Tryd.func16, Tryd.ntmps16
  go_wp2_with fail
  refine HM.out.mono ?_
  rintro e w' ⟨rfl, rfl⟩
  go_wp2
  go_ret
  exact ⟨rfl, rfl⟩

set_option maxRecDepth 100000 in
set_option maxHeartbeats 400000 in
theorem starts_yes (A A' : Option Addr) (n c m c' B B' : Nat) (xs ys : Bs) (w : World) (hx : Rd w B A n (ys ++ xs)) (hnc : n ≤ c) (hy : Rd w B' A' m ys) (hn : n ≤ 4294967295) :
    Calls Tryd.prog 9 #[.slice A n c, .slice A' m c'] w (Quiet w (.bool true)) := by
  have hl := hx.len
  have hl2 := hy.len
  rw [List.length_append] at hl
  have hmn : m ≤ n := by omega
  have ht := hx.take (k := m) hmn
  rw [← hl2, List.take_left, hl2] at ht
  have HS := hide (Same_any A A' m c c' B B' ys w ht hy (by omega))
  have hge : decide ((m : Int) ≤ (n : Int)) = true := decide_eq_true (by omega)
  have hsl : ∀ w : World, (Instr.sliceAt 22 (.slice A n c) none (some (.int .i64 (m : Int))) none).run Tryd.prog w = .ok (.slice A m c) w := by
    intro w
    have ht : Tryd.prog.underlying 22 = some (.slice (Tryd.prog.elem 22)) := by rw [elem_bytes]; exact Tryd.underlying22
    rw [run_sliceAt_slice w _ _ _ _ _ ht, run_slice_h w _ A n c ht _ _ (by omega) (by omega), elem_bytes, run_sizeOf_u8]
    cases A <;> simp [Result.andThen, sliced, Addr.add]
  clear hx hy ht hl hl2
  go_enter Tryd.func9, Tryd.ntmps9
  go_wp2_with fail
  refine HS.out.mono ?_
  rintro e w' ⟨rfl, k, rfl⟩
  go_wp2
  go_ret
  exact ⟨rfl, k, rfl⟩

end Snap
end Go.Proofs.YtoihiaenlonncaaDoor

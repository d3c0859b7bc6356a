/-
  The small functions of laws: common, small, refused, says, agrees, part.
-/
import Derived.Test.YtodbfgomkcmdgaaDoorRead5
import Derived.Test.YtodbfgomkcmdgaaDoorRead1
import Derived.Test.YtodbfgomkcmdgaaDoorImpl
import Derived.Test.YtodbfgomkcmdgaaDoorMask
namespace Go.Proofs.YtodbfgomkcmdgaaDoor
open Go.RowKit
set_option linter.unusedVariables false
namespace Snap

/-- true is returned; old memory is as it was. -/
def Yes (W : World) (e : Ending) (w' : World) : Prop := e = .returned (.bool true) ∧ Below W.heap.size W w'

/-- A bool is returned; the world is as it was. -/
def Says (w : World) (b : Bool) (e : Ending) (w' : World) : Prop := e = .returned (.bool b) ∧ w = w'

set_option maxRecDepth 100000 in
set_option maxHeartbeats 400000 in
theorem common_any (A : Option Addr) (n c : Nat) (w : World) : Calls Tryd.prog 18 #[.slice A n c] w (Says w (decide (n ≤ 1000000))) := by
  by_cases h : n ≤ 1000000
  · rw [decide_eq_true h]
    have hd : decide ((n : Int) ≤ 1000000) = true := decide_eq_true (by omega)
    go_enter Tryd.func18, Tryd.ntmps18
    go_wp2
    go_ret
    exact ⟨rfl, rfl⟩
  · rw [decide_eq_false h]
    have h' : 1000000 < n := by omega
    clear h
    have hd : decide ((n : Int) ≤ 1000000) = false := decide_eq_false (by omega)
    go_enter Tryd.func18, Tryd.ntmps18
    go_wp2
    go_ret
    exact ⟨rfl, rfl⟩

/-- What laws.small tells. -/
def smallB (xs : Bs) : Bool := plain xs && (match head xs with | none => true | some (l, _) => decide (l ≤ 100000))

set_option maxRecDepth 100000 in
set_option maxHeartbeats 400000 in
theorem small_any (A : Option Addr) (n c B : Nat) (xs : Bs) (w : World) (hx : Rd w B A n xs) (hn : n ≤ 4294967295) : Calls Tryd.prog 15 #[.slice A n c] w (Says w (smallB xs)) := by
  have hp := Plain_any A n c B xs w hx hn
  have HP := hide hp
  have hhead := Head_any A n c B xs w hx hn
  clear hp hx
  cases hh : head xs with
  | none =>
    have HB := hide (show smallB xs = plain xs by unfold smallB; rw [hh]; simp)
    have hcall : Calls Tryd.prog 33 #[.slice A n c] w fun e w' => w = w' ∧ ∃ l a : Int, e = .returned (.tuple #[.int .i64 l, .int .i64 a, .bool false]) := by
      refine hhead.mono ?_
      rintro e w' ⟨rfl, ⟨l, a, h, _⟩ | ⟨_, l, a, rfl⟩⟩
      · rw [hh] at h; cases h
      · exact ⟨rfl, l, a, rfl⟩
    have HC := hide hcall
    clear hcall hhead hh
    generalize plain xs = b at *
    go_enter Tryd.func15, Tryd.ntmps15
    go_wp2_with fail
    refine HC.out.mono ?_
    rintro e w' ⟨rfl, l, a, rfl⟩
    go_wp2_with fail
    refine HP.out.mono ?_
    rintro e w' ⟨rfl, rfl⟩
    cases b
    · go_wp2
      go_ret
      exact ⟨by rw [HB.out]; rfl, rfl⟩
    · go_wp2
      go_ret
      exact ⟨by rw [HB.out]; rfl, rfl⟩
  | some q =>
    obtain ⟨l, a⟩ := q
    have HB := hide (show smallB xs = (plain xs && decide (l ≤ 100000)) by unfold smallB; rw [hh])
    obtain ⟨_, h2, h3⟩ := headGo_at (i := 0) (long := 0) hh
    have hcall : Calls Tryd.prog 33 #[.slice A n c] w fun e w' => w = w' ∧ e = .returned (.tuple #[.int .i64 (l : Int), .int .i64 (a : Int), .bool true]) := by
      refine hhead.mono ?_
      rintro e w' ⟨rfl, ⟨l', a', h, rfl⟩ | ⟨h, _⟩⟩
      · rw [hh] at h
        cases h
        exact ⟨rfl, rfl⟩
      · rw [hh] at h; cases h
    have HC := hide hcall
    clear hcall hhead hh h2
    generalize plain xs = b at *
    have hdl : decide ((l : Int) ≤ 100000) = decide (l ≤ 100000) := by
      by_cases h : l ≤ 100000
      · rw [decide_eq_true h, decide_eq_true (by omega)]
      · rw [decide_eq_false h, decide_eq_false (by omega)]
    generalize hd : decide (l ≤ 100000) = d at *
    clear hd
    go_enter Tryd.func15, Tryd.ntmps15
    go_wp2_with fail
    refine HC.out.mono ?_
    rintro e w' ⟨rfl, rfl⟩
    go_wp2_with fail
    refine HP.out.mono ?_
    rintro e w' ⟨rfl, rfl⟩
    cases b
    · go_wp2
      go_ret
      exact ⟨by rw [HB.out]; rfl, rfl⟩
    · go_wp2
      go_ret
      exact ⟨by rw [HB.out]; rfl, rfl⟩

set_option maxRecDepth 100000 in
set_option maxHeartbeats 400000 in
theorem refused_yes (v : Value) (w : World) (hv : ∃ A n c, v = .slice A n c) : Calls Tryd.prog 20 #[.agg #[v, .int .i64 1]] w (Yes w) := by
  obtain ⟨A, n, c, rfl⟩ := hv
  go_enter Tryd.func20, Tryd.ntmps20
  go_wp2
  go_ret
  exact ⟨rfl, (Below.refl _ _).alloc (Nat.le_refl _) _⟩

set_option maxRecDepth 100000 in
set_option maxHeartbeats 400000 in
theorem says_yes (A A' : Option Addr) (n c c' B B' : Nat) (xs : Bs) (w : World) (hx : Rd w B A n xs) (hB : B ≤ w.heap.size) (hy : Rd w B' A' n xs) (hB' : B' ≤ w.heap.size) (hn : n ≤ 4294967295) :
    Calls Tryd.prog 27 #[.agg #[.slice A n c, .int .i64 0], .slice A' n c'] w (Yes w) := by
  have HX := hide hx
  have HY := hide hy
  clear hx hy
  go_enter Tryd.func27, Tryd.ntmps27
  go_wp2_with fail
  refine (Same_any A A' n c c' B B' xs _ (HX.out.alloc hB _) (HY.out.alloc hB' _) hn).mono ?_
  rintro e w' ⟨rfl, k, rfl⟩
  go_wp2
  go_ret
  exact ⟨rfl, Below.drewN ((Below.refl _ _).alloc (Nat.le_refl _) _) k⟩

set_option maxRecDepth 100000 in
set_option maxHeartbeats 400000 in
/-- What has been told is what the description says. -/
theorem agrees_some (A A' : Option Addr) (n c m c' : Nat) (xs bs : Bs) (w : World) (hx : Rd w w.heap.size A n xs) (hn : n ≤ 4294967295) (hb : Rd w w.heap.size A' m bs) (hm : m ≤ 4294967295) (hmc : m ≤ c') (hd : dec bs = some xs) :
    Calls Tryd.prog 23 #[.agg #[.slice A n c, .int .i64 0], .slice A' m c'] w (Yes w) := by
  obtain rfl := hx.len
  have HX := hide hx
  have HR := hide (Read_any A' m c' bs (w.alloc (.cells #[.slice A xs.length c, .int .i64 0] 30)) ((hb.alloc (Nat.le_refl _) _).more (by simp)) hm hmc)
  rw [hd] at HR
  have HN := hide hn
  clear hx hb hd
  go_enter Tryd.func23, Tryd.ntmps23
  go_wp2_with fail
  refine HR.out.mono ?_
  rintro e w1 ⟨hbel, ⟨v, t, ht, rfl, hown, htl⟩ | ⟨h, _⟩⟩
  · obtain rfl := Option.some.inj ht
    have hbel' := hbel
    simp only [World.size_alloc] at hbel'
    have hz := hbel'.size
    simp only [World.size_alloc] at hz
    obtain ⟨g0, g1, _, _⟩ := agg_block hbel'
    obtain ⟨A2, c2, rfl, _, _, hr2, _⟩ := hown.form
    have hr1 := ((HX.out.alloc (Nat.le_refl _) (.cells #[.slice A xs.length c, .int .i64 0] 30)).keep (w' := w1) (fun k hk => hbel'.block k (by omega)))
    have HR1 := hide hr1
    have HR2 := hide hr2
    have HB := hide hbel'
    clear hbel hbel' hown hr1 hr2
    go_wp2_with fail
    refine (says_yes A A2 xs.length c c2 _ _ xs w1 HR1.out (by omega) HR2.out (Nat.le_refl _) hn).mono ?_
    rintro e w2 ⟨rfl, hb2⟩
    have HB2 := hide (((Below.refl _ w).alloc (Nat.le_refl _) _).trans ((HB.out.mono (Nat.le_succ _)).trans (hb2.mono (by omega))))
    clear hb2
    go_wp2
    go_ret
    exact ⟨rfl, HB2.out⟩
  · cases h

set_option maxRecDepth 100000 in
set_option maxHeartbeats 400000 in
theorem agrees_none (A' : Option Addr) (m c' : Nat) (bs : Bs) (w : World) (hb : Rd w w.heap.size A' m bs) (hm : m ≤ 4294967295) (hmc : m ≤ c') (hd : dec bs = none) :
    Calls Tryd.prog 23 #[.agg #[.slice none 0 0, .int .i64 1], .slice A' m c'] w (Yes w) := by
  have HR := hide (Read_any A' m c' bs (w.alloc (.cells #[.slice none 0 0, .int .i64 1] 30)) ((hb.alloc (Nat.le_refl _) _).more (by simp)) hm hmc)
  rw [hd] at HR
  clear hb hd
  go_enter Tryd.func23, Tryd.ntmps23
  go_wp2_with fail
  refine HR.out.mono ?_
  rintro e w1 ⟨hbel, ⟨v, t, ht, _⟩ | ⟨_, v, rfl⟩⟩
  · cases ht
  · have hbel' := hbel
    simp only [World.size_alloc] at hbel'
    have hz := hbel'.size
    simp only [World.size_alloc] at hz
    obtain ⟨g0, g1, _, _⟩ := agg_block hbel'
    have HB := hide hbel'
    clear hbel hbel'
    go_wp2_with fail
    refine (refused_yes (.slice none 0 0) w1 ⟨_, _, _, rfl⟩).mono ?_
    rintro e w2 ⟨rfl, hb2⟩
    have HB2 := hide (((Below.refl _ w).alloc (Nat.le_refl _) _).trans ((HB.out.mono (Nat.le_succ _)).trans (hb2.mono (by omega))))
    clear hb2
    go_wp2
    go_ret
    exact ⟨rfl, HB2.out⟩

set_option maxRecDepth 100000 in
set_option maxHeartbeats 400000 in
theorem part_any (n : Int) (m : Nat) (hm : 1 ≤ m) (hm2 : m ≤ 4294967295) (w : World) :
    ∃ k : Nat, k < m ∧ Calls Tryd.prog 22 #[.int .i64 n, .int .i64 (m : Int)] w (fun e w' => e = .returned (.int .i64 (k : Int)) ∧ w = w') := by
  obtain ⟨j, hj, hj2⟩ := mask30 n
  refine ⟨j % m, Nat.mod_lt _ (by omega), ?_⟩
  have hne : ((m : Int) == 0) = false := by rw [beq_eq_false_iff_ne]; omega
  have hmod : (j : Int).tmod (m : Int) = ((j % m : Nat) : Int) := by
    rw [Int.tmod_eq_emod_of_nonneg (by omega)]
    rfl
  go_enter Tryd.func22, Tryd.ntmps22
  go_wp2
  go_ret
  exact ⟨rfl, rfl⟩

end Snap
end Go.Proofs.YtodbfgomkcmdgaaDoor

/-
  snappy.DecodedLen, impl.faultOf, impl.DecodedLen.
-/
import Derived.Test.YtodbfgomkcmdgaaDoorLen
namespace Go.Proofs.YtodbfgomkcmdgaaDoor
open Go.RowKit
namespace Snap

set_option maxRecDepth 100000 in
set_option maxHeartbeats 400000 in
theorem sDecodedLen_some (A : Option Addr) (n c B l a : Nat) (xs : Bs) (w : World) (hx : Rd w B A n xs) (hu : uvHead xs = some (l, a)) :
    Calls Tryd.prog 40 #[.slice A n c] w fun e w' => e = .returned (.tuple #[.int .i64 (l : Int), .nilIface]) ∧ w = w' := by
  have HC := hide (decodedLen_some A n c B l a xs w hx hu)
  clear hx hu
  go_enter Tryd.func40, Tryd.ntmps40
  go_wp2_with fail
  refine HC.out.mono ?_
  rintro e w' ⟨rfl, rfl⟩
  go_wp2
  go_ret2
  exact ⟨rfl, rfl⟩

set_option maxRecDepth 100000 in
set_option maxHeartbeats 400000 in
theorem sDecodedLen_none (A : Option Addr) (n c B : Nat) (xs : Bs) (p : Addr) (w : World) (hx : Rd w B A n xs) (hE : Corrupt w p) (hu : uvHead xs = none) :
    Calls Tryd.prog 40 #[.slice A n c] w (Quiet w (.tuple #[.int .i64 0, .iface 75 (.pointer (some p))])) := by
  have HC := hide (decodedLen_none A n c B xs p w hx hE hu)
  clear hx hu hE
  go_enter Tryd.func40, Tryd.ntmps40
  go_wp2_with fail
  refine HC.out.mono ?_
  rintro e w' ⟨rfl, k, rfl⟩
  go_wp2
  go_ret2
  exact ⟨rfl, _, rfl⟩

set_option maxRecDepth 100000 in
set_option maxHeartbeats 400000 in
theorem faultOf_corrupt (p : Addr) (w : World) (hE : Corrupt w p) :
    Calls Tryd.prog 41 #[.iface 75 (.pointer (some p))] w fun e w' => e = .returned (.int .i64 1) ∧ w = w' := by
  have heq := eql_err p
  unfold errV at heq
  unfold Corrupt at hE
  go_enter Tryd.func41, Tryd.ntmps41
  go_wp2
  go_ret
  exact ⟨rfl, rfl⟩

/-- What a function that makes an aggregate gives back. -/
def GivesAgg (w : World) (cs : Array Value) (e : Ending) (w' : World) : Prop := e = .returned (.agg cs) ∧ Below w.heap.size w w'

set_option maxRecDepth 100000 in
set_option maxHeartbeats 400000 in
theorem iDecodedLen_some (A : Option Addr) (n c B l a : Nat) (xs : Bs) (w : World) (hx : Rd w B A n xs) (hB : B ≤ w.heap.size) (hn : n ≤ 4294967295) (hA : A = none → n = 0) (hu : uvHead xs = some (l, a)) :
    Calls Tryd.prog 32 #[.slice A n c] w (GivesAgg w #[.int .i64 (l : Int), .int .i64 0]) := by
  have HX := hide hx
  have HU := hide hu
  have HA := hide hA
  clear hx hu hA
  go_enter Tryd.func32, Tryd.ntmps32
  go_wp2_with fail
  refine (Clone_any A n c B xs _ (HX.out.alloc hB _) (by simp; omega) hn HA.out).mono ?_
  rintro e w1 ⟨v, rfl, hown, hbel⟩
  obtain ⟨A1, c1, rfl, hc1, hm1, hr1, _⟩ := hown.form
  have hz := hbel.size
  simp only [World.size_alloc] at hbel hz
  clear hown
  have g0 : w1.cell? ⟨w.heap.size, 0, none⟩ = some (.int .i64 0) := (hbel.cell (p := ⟨w.heap.size, 0, none⟩) (by show w.heap.size < w.heap.size + 1; omega)).trans (World.cell?_alloc_at _ _ _ _ rfl)
  have g1 : w1.cell? ⟨w.heap.size, 1, none⟩ = some (.int .i64 0) := (hbel.cell (p := ⟨w.heap.size, 1, none⟩) (by show w.heap.size < w.heap.size + 1; omega)).trans (World.cell?_alloc_at _ _ _ _ rfl)
  have f0 : w1.frozen? ⟨w.heap.size, 0, none⟩ = false := (hbel.frozen (p := ⟨w.heap.size, 0, none⟩) (by show w.heap.size < w.heap.size + 1; omega)).trans (World.frozen?_alloc_at _ _ _ _ rfl)
  have f1 : w1.frozen? ⟨w.heap.size, 1, none⟩ = false := (hbel.frozen (p := ⟨w.heap.size, 1, none⟩) (by show w.heap.size < w.heap.size + 1; omega)).trans (World.frozen?_alloc_at _ _ _ _ rfl)
  have HB := hide hbel
  have HR := hide hr1
  clear hbel hr1
  go_wp2_with fail
  refine (sDecodedLen_some A1 xs.length c1 _ l a xs _ HR.out HU.out).mono ?_
  rintro e w' ⟨rfl, rfl⟩
  go_wp2
  refine bodyPost_ret (v := .agg #[.int .i64 (l : Int), .int .i64 0]) (by simp [results, Tryd.results32, go_sem, g0, g1]) rfl ⟨rfl, ?_⟩
  exact (((((Below.refl _ _).alloc (Nat.le_refl _) _).trans (HB.out.mono (Nat.le_succ _))).setCell (Nat.le_refl _) _).setCell (Nat.le_refl _) _)

set_option maxRecDepth 100000 in
set_option maxHeartbeats 400000 in
theorem iDecodedLen_none (A : Option Addr) (n c B : Nat) (xs : Bs) (p : Addr) (w : World) (hx : Rd w B A n xs) (hB : B ≤ w.heap.size) (hn : n ≤ 4294967295) (hA : A = none → n = 0) (hE : Corrupt w p) (hu : uvHead xs = none) :
    Calls Tryd.prog 32 #[.slice A n c] w (GivesAgg w #[.int .i64 0, .int .i64 1]) := by
  have HX := hide hx
  have HU := hide hu
  have HA := hide hA
  have hlt := hE.lt
  have HE := hide hE
  clear hx hu hA hE
  go_enter Tryd.func32, Tryd.ntmps32
  go_wp2_with fail
  refine (Clone_any A n c B xs _ (HX.out.alloc hB _) (by simp; omega) hn HA.out).mono ?_
  rintro e w1 ⟨v, rfl, hown, hbel⟩
  obtain ⟨A1, c1, rfl, hc1, hm1, hr1, _⟩ := hown.form
  have hz := hbel.size
  simp only [World.size_alloc] at hbel hz
  clear hown
  have g0 : w1.cell? ⟨w.heap.size, 0, none⟩ = some (.int .i64 0) := (hbel.cell (p := ⟨w.heap.size, 0, none⟩) (by show w.heap.size < w.heap.size + 1; omega)).trans (World.cell?_alloc_at _ _ _ _ rfl)
  have g1 : w1.cell? ⟨w.heap.size, 1, none⟩ = some (.int .i64 0) := (hbel.cell (p := ⟨w.heap.size, 1, none⟩) (by show w.heap.size < w.heap.size + 1; omega)).trans (World.cell?_alloc_at _ _ _ _ rfl)
  have f0 : w1.frozen? ⟨w.heap.size, 0, none⟩ = false := (hbel.frozen (p := ⟨w.heap.size, 0, none⟩) (by show w.heap.size < w.heap.size + 1; omega)).trans (World.frozen?_alloc_at _ _ _ _ rfl)
  have f1 : w1.frozen? ⟨w.heap.size, 1, none⟩ = false := (hbel.frozen (p := ⟨w.heap.size, 1, none⟩) (by show w.heap.size < w.heap.size + 1; omega)).trans (World.frozen?_alloc_at _ _ _ _ rfl)
  have HB := hide (((Below.refl _ w).alloc (Nat.le_refl _) _).trans (hbel.mono (Nat.le_succ _)))
  have HR := hide hr1
  have HE1 := hide (HE.out.keep HB.out hlt)
  clear hbel hr1
  go_wp2_with fail
  refine (sDecodedLen_none A1 xs.length c1 _ xs p _ HR.out HE1.out HU.out).mono ?_
  rintro e w' ⟨rfl, k, rfl⟩
  go_wp2_with fail
  refine (faultOf_corrupt p _ (by exact HE1.out)).mono ?_
  rintro e w' ⟨rfl, rfl⟩
  go_wp2
  refine bodyPost_ret (v := .agg #[.int .i64 0, .int .i64 1]) (by simp [results, Tryd.results32, go_sem, g0, g1]) rfl ⟨rfl, ?_⟩
  exact ((Below.drewN HB.out _).setCell (Nat.le_refl _) _).setCell (Nat.le_refl _) _

end Snap
end Go.Proofs.YtodbfgomkcmdgaaDoor

/-
  The length at the front of a block as the package tells it: decodedLen, DecodedLen, and impl's DecodedLen; the fault of ErrCorrupt.
-/
import Derived.Test.YtodbfgomkcmdgaaDoorClone
import Derived.Test.YtodbfgomkcmdgaaDoorUvarint
import Derived.LaidEql
namespace Go.Proofs.YtodbfgomkcmdgaaDoor
open Go.RowKit
namespace Snap

/-- What the variable ErrCorrupt holds: an interface value with a pointer. -/
def errV (p : Addr) : Value := .iface 75 (.pointer (some p))

/-- The variable ErrCorrupt holds it. -/
def Corrupt (w : World) (p : Addr) : Prop := w.cell? ⟨1, 0, none⟩ = some (.iface 75 (.pointer (some p)))

theorem Corrupt.keep {w w' : World} {p : Addr} {B : Nat} (h : Corrupt w p) (hb : Below B w w') (hB : 1 < B) : Corrupt w' p := (hb.cell (p := ⟨1, 0, none⟩) hB).trans h

theorem Corrupt.lt {w : World} {p : Addr} (h : Corrupt w p) : 1 < w.heap.size := World.block_lt_of_cell? w _ h

theorem err_comp : (Tryd.prog.info? 75).map (·.comparable) = some true := by kernel_rfl
theorem err_size : (Tryd.prog.info? 92).map (·.size) = some 1 := by kernel_rfl

theorem eql_err (p : Addr) (w : World) : (binOp .eql 52 (errV p) (errV p)).run Tryd.prog w = .ok (.bool true) w := by
  obtain ⟨i, hi, hc⟩ := Option.map_eq_some_iff.1 err_comp
  obtain ⟨j, hj, _⟩ := Option.map_eq_some_iff.1 err_size
  exact run_eql_iface_ptr_same w p Tryd.underlying52 Tryd.underlying75 hi hc hj

theorem uv_bounds (xs : Bs) : (Lib.uvarintDec xs).2 ≤ 11 ∧ -11 ≤ (Lib.uvarintDec xs).2 := by
  have key : ∀ (l : Bs) (i acc : Nat), i ≤ 10 → (Lib.uvarintFrom i acc l).2 ≤ 11 ∧ -11 ≤ (Lib.uvarintFrom i acc l).2 := by
    intro l
    induction l with
    | nil => intro i acc _; simp [Lib.uvarintFrom]
    | cons b r ih =>
      intro i acc hi
      simp only [Lib.uvarintFrom]
      split
      · dsimp only; omega
      · split
        · split
          · dsimp only; omega
          · dsimp only; omega
        · exact ih _ _ (by omega)
  exact key xs 0 0 (by omega)

set_option maxRecDepth 100000 in
set_option maxHeartbeats 400000 in
theorem decodedLen_some (A : Option Addr) (n c B l a : Nat) (xs : Bs) (w : World) (hx : Rd w B A n xs) (hu : uvHead xs = some (l, a)) :
    Calls Tryd.prog 42 #[.slice A n c] w fun e w' => e = .returned (.tuple #[.int .i64 (l : Int), .int .i64 (a : Int), .nilIface]) ∧ w = w' := by
  have hb := uv_bounds xs
  unfold uvHead at hu
  split at hu
  · cases hu
  · rename_i hc
    simp only [Option.some.injEq, Prod.mk.injEq] at hu
    obtain ⟨rfl, ha⟩ := hu
    have ha' : (Lib.uvarintDec xs).2 = (a : Int) := by omega
    have hcall := Uvarint_any A n c B xs w hx
    rw [ha'] at hcall hc hb
    generalize (Lib.uvarintDec xs).1 = v at *
    have h1 : 1 ≤ a := by omega
    have h2 : v ≤ 4294967295 := by omega
    have h3 : a ≤ 11 := by omega
    have HC := hide hcall
    clear hcall hc hb ha ha' hx
    go_enter Tryd.func42, Tryd.ntmps42
    go_wp2_with fail
    refine HC.out.mono ?_
    rintro e w' ⟨rfl, rfl⟩
    go_wp2
    go_ret3
    exact ⟨rfl, rfl⟩

set_option maxRecDepth 100000 in
set_option maxHeartbeats 400000 in
theorem decodedLen_none (A : Option Addr) (n c B : Nat) (xs : Bs) (p : Addr) (w : World) (hx : Rd w B A n xs) (hE : Corrupt w p) (hu : uvHead xs = none) :
    Calls Tryd.prog 42 #[.slice A n c] w (Quiet w (.tuple #[.int .i64 0, .int .i64 0, .iface 75 (.pointer (some p))])) := by
  have hb := uv_bounds xs
  unfold uvHead at hu
  split at hu
  · rename_i hc
    have hcall := Uvarint_any A n c B xs w hx
    have hlt := Lib.uvarintDec_lt xs
    generalize (Lib.uvarintDec xs).1 = v at *
    generalize (Lib.uvarintDec xs).2 = a at *
    unfold Corrupt at hE
    have HC := hide hcall
    clear hcall hx
    by_cases h1 : a ≤ 0
    · clear hc hlt
      go_enter Tryd.func42, Tryd.ntmps42
      go_wp2_with fail
      refine HC.out.mono ?_
      rintro e w' ⟨rfl, rfl⟩
      go_wp2
      go_quiet (fail)
      go_wp2
      go_ret3
      exact ⟨rfl, _, rfl⟩
    · have h1' : 1 ≤ a := by omega
      have h2 : 4294967295 < v := by omega
      clear hc hlt h1
      go_enter Tryd.func42, Tryd.ntmps42
      go_wp2_with fail
      refine HC.out.mono ?_
      rintro e w' ⟨rfl, rfl⟩
      go_wp2
      go_quiet (fail)
      go_wp2
      go_ret3
      exact ⟨rfl, _, rfl⟩
  · cases hu

end Snap
end Go.Proofs.YtodbfgomkcmdgaaDoor

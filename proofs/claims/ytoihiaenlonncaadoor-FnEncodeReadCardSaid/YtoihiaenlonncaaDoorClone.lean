/-
  slices.Clone at []byte: the same bytes in memory of the call's own.
-/
import Derived.Test.YtoihiaenlonncaaDoorMem
import Derived.Lib.SliceRun
namespace Go.Proofs.YtoihiaenlonncaaDoor
open Go.RowKit
namespace Snap

set_option maxRecDepth 100000 in
set_option maxHeartbeats 400000 in
theorem Clone_any (A : Option Addr) (n c B : Nat) (xs : Bs) (w : World) (hx : Rd w B A n xs) (hB : B ≤ w.heap.size) (hn : n ≤ 4294967295) (hA : A = none → n = 0) :
    Calls Tryd.prog 18 #[.slice A n c] w (Gives w xs) := by
  have hnil := fun w => Lib.run_eql_slice_nil (P := Tryd.prog) w 22 5 A n c 0 0 Tryd.underlying22
  have hl := hx.len
  cases A with
  | none =>
    obtain rfl := hA rfl
    have hxs : xs = [] := List.eq_nil_of_length_eq_zero hl
    subst hxs
    clear hx hl hA
    go_enter Tryd.func18, Tryd.ntmps18
    go_wp2
    go_ret
    exact ⟨_, rfl, Own.nil _ _, Below.refl _ _⟩
  | some ad =>
    have HX := hide hx
    clear hx hA
    have hlen : xs.length ≤ 4294967295 := by omega
    clear hl
    have hown : Own (w.alloc (.cells #[] 5)) w.heap.size (.slice (some ⟨w.heap.size, 0, none⟩) 0 0) [] :=
      World.ownsRow_lit w #[] 0 (Nat.le_refl _) (by simp [maxLen]) rfl
    go_enter Tryd.func18, Tryd.ntmps18
    go_wp2_with (at_builtin; refine append_own rfl (.tmp 5) (.tmp 6) rfl w.heap.size w (.slice (some ⟨w.heap.size, 0, none⟩) 0 0) [] rfl hown ((Below.refl _ _).alloc (Nat.le_refl _) _) B (some ad) n c xs rfl (HX.out.alloc hB _) (by simp; omega) (by simp) ?_; intro v' w1 hown1 hgrow1 hbel1)
    go_ret
    exact ⟨_, rfl, hown1, hbel1⟩

end Snap
end Go.Proofs.YtoihiaenlonncaaDoor

/-
  The law FnDecodedLen, walked: it returns true.
-/
import Derived.Test.YtjbmbjpaoagopaaDoorLen2
import Derived.Test.YtjbmbjpaoagopaaDoorRead3
namespace Go.Proofs.YtjbmbjpaoagopaaDoor
open Go.RowKit
namespace Snap

/-- A law's end: it returns true, and nothing that was there has turned. -/
def Yes (w : World) (e : Ending) (w' : World) : Prop := e = .returned (.bool true) ∧ Below w.heap.size w w'

set_option maxRecDepth 100000 in
set_option maxHeartbeats 400000 in
theorem FnDecodedLen_long (A : Option Addr) (n c : Nat) (w : World) (hn : 2147483647 < n) :
    Calls Tryd.prog 3 #[.slice A n c] w (Yes w) := by
  go_enter Tryd.func3, Tryd.ntmps3
  go_wp2
  go_ret
  exact ⟨rfl, Below.refl _ _⟩

set_option maxRecDepth 100000 in
set_option maxHeartbeats 800000 in
theorem FnDecodedLen_walk (A : Option Addr) (n c : Nat) (xs : Bs) (p : Addr) (w : World) (hx : Rd w w.heap.size A n xs) (hn : n ≤ 2147483647) (hA : A = none → n = 0) (hE : Corrupt w p) :
    Calls Tryd.prog 3 #[.slice A n c] w (Yes w) := by
  have HX := hide hx
  have HA := hide hA
  have HE := hide hE
  clear hx hA hE
  have fin : ∀ w1 : World, Below w.heap.size w w1 → ∀ o, Below w.heap.size w (w1.alloc o) := fun w1 h o => h.alloc h.size o
  by_cases hp : plain xs = true
  · have HU := hide (uvHead_eq xs hp)
    have HP := hide hp
    clear hp
    go_enter Tryd.func3, Tryd.ntmps3
    go_wp2_with fail
    refine (Head_any A n c _ xs _ HX.out (by omega)).mono ?_
    rintro e w' ⟨rfl, ⟨l, a, hh, rfl⟩ | ⟨hh, l, a, rfl⟩⟩
    · have HH := hide (HU.out.trans hh)
      clear hh
      go_wp2_with fail
      refine (iDecodedLen_some A n c _ l a xs _ HX.out (Nat.le_refl _) (by omega) HA.out HH.out).mono ?_
      rintro e w1 ⟨rfl, hbel⟩
      have HB := hide (fin w1 hbel)
      clear hbel
      go_wp2_with fail
      refine (Plain_any A n c w.heap.size xs _ (HX.out.below (HB.out _)) (by omega)).mono ?_
      rintro e w' ⟨rfl, rfl⟩
      rw [HP.out]
      go_wp2
      go_ret
      exact ⟨rfl, HB.out _⟩
    · have HH := hide (HU.out.trans hh)
      clear hh
      go_wp2_with fail
      refine (iDecodedLen_none A n c _ xs p _ HX.out (Nat.le_refl _) (by omega) HA.out HE.out HH.out).mono ?_
      rintro e w1 ⟨rfl, hbel⟩
      have HB := hide (fin w1 hbel)
      clear hbel
      go_wp2_with fail
      refine (Plain_any A n c w.heap.size xs _ (HX.out.below (HB.out _)) (by omega)).mono ?_
      rintro e w' ⟨rfl, rfl⟩
      rw [HP.out]
      go_wp2
      go_ret
      exact ⟨rfl, HB.out _⟩
  · have HP : Hid (plain xs = false) := hide (by simpa using hp)
    clear hp
    have hcase : (∃ l a, uvHead xs = some (l, a)) ∨ uvHead xs = none := by
      cases uvHead xs with
      | none => right; rfl
      | some q => left; exact ⟨q.1, q.2, rfl⟩
    have HH := hide hcase
    clear hcase
    go_enter Tryd.func3, Tryd.ntmps3
    go_wp2_with fail
    refine (Head_any A n c _ xs _ HX.out (by omega)).mono ?_
    have key : ∀ (l a : Int) (ok : Bool), ∃ cs, Calls Tryd.prog 5 #[.slice A n c] w (GivesAgg w cs) ∧ ∃ u v : Int, cs = #[.int .i64 u, .int .i64 v] := by
      intro _ _ _
      rcases HH.out with ⟨l, a, h⟩ | h
      · exact ⟨_, iDecodedLen_some A n c _ l a xs _ HX.out (Nat.le_refl _) (by omega) HA.out h, _, _, rfl⟩
      · exact ⟨_, iDecodedLen_none A n c _ xs p _ HX.out (Nat.le_refl _) (by omega) HA.out HE.out h, _, _, rfl⟩
    obtain ⟨cs, hcall, u, v, rfl⟩ := key 0 0 true
    have HC := hide hcall
    clear hcall key HH
    have post : ∀ e w', HeadIs w xs e w' → w = w' ∧ ∃ (l a : Int) (ok : Bool), e = .returned (.tuple #[.int .i64 l, .int .i64 a, .bool ok]) := by
      rintro e w' ⟨rfl, ⟨l, a, _, rfl⟩ | ⟨_, l, a, rfl⟩⟩
      · exact ⟨rfl, _, _, _, rfl⟩
      · exact ⟨rfl, _, _, _, rfl⟩
    have HPost := hide post
    clear post
    intro e w' hh
    obtain ⟨rfl, l, a, ok, rfl⟩ := HPost.out e w' hh
    clear hh HPost
    go_wp2_with fail
    refine HC.out.mono ?_
    rintro e w1 ⟨rfl, hbel⟩
    have HB := hide (fin w1 hbel)
    clear hbel
    go_wp2_with fail
    refine (Plain_any A n c w.heap.size xs _ (HX.out.below (HB.out _)) (by omega)).mono ?_
    rintro e w' ⟨rfl, rfl⟩
    rw [HP.out]
    go_wp2
    go_ret
    exact ⟨rfl, HB.out _⟩

theorem FnDecodedLen_total (W : World) (A : Option Addr) (n c : Nat) (xs : Bs) (hx : Rd W W.heap.size A n xs) (hA : A = none → n = 0) (_hc : n ≤ c) (p : Addr) (hE : Corrupt W p) :
    Calls Tryd.prog 3 #[.slice A n c] W (Yes W) := by
  by_cases h : n ≤ 2147483647
  · exact FnDecodedLen_walk A n c xs p W hx h hA hE
  · exact FnDecodedLen_long A n c W (by omega)

end Snap
end Go.Proofs.YtjbmbjpaoagopaaDoor

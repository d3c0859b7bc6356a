/-
  The row in which an encoder lays its bytes.
-/
import Derived.Test.YtoihiaenlonncaaDoorFrame
import Derived.Test.YtoihiaenlonncaaDoorSteps
namespace Go.Proofs.YtoihiaenlonncaaDoor
open Go.RowKit
set_option linter.unusedVariables false
namespace Snap

/-- The row in which the bytes are laid: its first cells are 'out'. -/
def Dst (w : World) (g n : Nat) (out : Bs) : Prop :=
  0 < n → ∃ cur : List Value, w.heap[g]? = some (.cells cur.toArray 5 (0, 0)) ∧ n ≤ cur.length ∧ ∀ j, j < out.length → cur[j]? = some (bv (out.getD j 0))

/-- The source's bytes lie in another block than the row. -/
structure Src (w : World) (g b off m : Nat) (ys : Bs) : Prop where
  len : ys.length = m
  ne : b ≠ g
  lt : b < w.heap.size
  cell : ∀ j, j < m → w.cell? ⟨b, off + j, none⟩ = some (.int .u8 ((ys.getD j 0).toNat : Int))

theorem Src.grown {w w' : World} {g b off m : Nat} {ys : Bs} (h : Src w g b off m ys) (hg : w.grownBy w' (some g)) : Src w' g b off m ys :=
  ⟨h.len, h.ne, Nat.lt_of_lt_of_le h.lt hg.size, fun j hj => (hg.cell_far ⟨b, off + j, none⟩ h.lt (by simp; exact h.ne)).trans (h.cell j hj)⟩

theorem Src.cut {w : World} {g b off m : Nat} {ys : Bs} (h : Src w g b off m ys) (i k : Nat) (hk : i + k ≤ m) : Src w g b (off + i) k ((ys.drop i).take k) :=
  ⟨by rw [List.length_take, List.length_drop, h.len]; omega, h.ne, h.lt, fun j hj => by
    rw [Nat.add_assoc, h.cell (i + j) (by omega)]
    simp only [List.getD_eq_getElem?_getD, List.getElem?_take_of_lt hj, List.getElem?_drop]⟩

theorem cutA_some (b off c k : Nat) (h : k < c) : cutA (some ⟨b, off, none⟩) c k = some ⟨b, off + k, none⟩ := by
  unfold cutA
  rw [if_neg (by omega)]
  simp only [Option.map_some, Addr.add]
  split
  · rename_i h0; subst h0; simp
  · rfl

theorem Dst.more {w' : World} {g n : Nat} {out zs : Bs} {cur : List Value} (hc : n ≤ cur.length) (hl : out.length + zs.length ≤ n) (ho : ∀ j, j < out.length → cur[j]? = some (bv (out.getD j 0)))
    (hg : w'.heap[g]? = some (.cells (splice cur out.length (zs.map bv)).toArray 5 (0, 0))) : Dst w' g n (out ++ zs) := by
  intro _
  refine ⟨_, hg, by rw [length_splice _ _ _ (by simp; omega)]; exact hc, fun j hj => ?_⟩
  rw [splice_at _ _ _ _ (by simp; omega)]
  rw [List.length_append] at hj
  by_cases h1 : j < out.length
  · rw [if_pos h1, ho j h1]
    simp [List.getD_eq_getElem?_getD, List.getElem?_append_left h1]
  · rw [if_neg h1, if_pos (by simp; omega)]
    simp only [List.getElem?_map, List.getD_eq_getElem?_getD]
    rw [List.getElem?_append_right (by omega), List.getElem?_eq_getElem (by omega)]
    rfl

theorem Dst.put {w : World} {g n : Nat} {out : Bs} (h : Dst w g n out) (hl : out.length < n) (v : UInt8) (x : Int) (hx : x = (v.toNat : Int)) (o : Nat) (ho : o = out.length) : Dst (w.setCell ⟨g, o, none⟩ (.int .u8 x)) g n (out ++ [v]) := by
  intro h0
  obtain ⟨cur, hg, hn, hc⟩ := h h0
  subst hx
  subst ho
  refine ⟨cur.set out.length (bv v), ?_, by simpa using hn, fun j hj => ?_⟩
  · rw [heap_setCell_same w g out.length cur.toArray _ _ hg]
    simp [bv]
  · rw [List.length_append] at hj
    simp only [List.length_cons, List.length_nil] at hj
    by_cases h1 : j = out.length
    · subst h1
      rw [List.getElem?_set_self (by omega)]
      simp [List.getD_eq_getElem?_getD]
    · rw [List.getElem?_set_ne (by omega), hc j (by omega)]
      simp only [List.getD_eq_getElem?_getD]
      rw [List.getElem?_append_left (by omega)]

theorem Dst.room {w : World} {g n : Nat} {out : Bs} (h : Dst w g n out) (j : Nat) (hj : j < n) : (∃ v, w.cell? ⟨g, j, none⟩ = some v) ∧ w.frozen? ⟨g, j, none⟩ = false := by
  obtain ⟨cur, hg, hn, hc⟩ := h (by omega)
  refine ⟨⟨cur[j], ?_⟩, frozen_of_row w g j cur.toArray _ hg⟩
  rw [cell_of_row w g j cur.toArray _ _ hg]
  simp [List.getElem?_eq_getElem (show j < cur.length by omega)]

theorem grownBy_put (w : World) (g i : Nat) (v : Value) : w.grownBy (w.setCell ⟨g, i, none⟩ v) (some g) :=
  ⟨rfl, rfl, rfl, by simp [World.setCell], fun k _ hk => heap_setCell_other w ⟨g, i, none⟩ k v (fun e => hk (by rw [e]))⟩

end Snap
end Go.Proofs.YtoihiaenlonncaaDoor

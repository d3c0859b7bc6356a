/-
  The hash table of snappy.encodeBlock: a row of 16384 cells of 16 bits, each below a bound.
-/
import Derived.Test.YtoihiaenlonncaaDoorBlk1
namespace Go.Proofs.YtoihiaenlonncaaDoor
open Go.RowKit
set_option linter.unusedVariables false
namespace Snap

/-- 'v' is the number 0 of 16 bits. -/
noncomputable def isZ16 (v : Value) : Bool := match v with
  | .int k z => match k with
    | .u16 => match z with
      | .ofNat m => Nat.beq m 0
      | .negSucc _ => false
    | _ => false
  | _ => false

theorem isZ16_eq {v : Value} (h : isZ16 v = true) : v = .int .u16 0 := by
  unfold isZ16 at h
  split at h
  · split at h
    · split at h
      · rename_i m
        have : m = 0 := by simpa using h
        subst this
        rfl
      · cases h
    · cases h
  · cases h

/-- A list of n such numbers. -/
noncomputable def allZ16 (l : List Value) : Nat → Bool :=
  List.rec (motive := fun _ => Nat → Bool) (fun n => Nat.beq n 0) (fun v _ ih n => Nat.casesOn (motive := fun _ => Bool) n false (fun k => (isZ16 v).rec false (ih k))) l

theorem allZ16_eq : ∀ (l : List Value) (n : Nat), allZ16 l n = true → l.length = n ∧ ∀ v ∈ l, v = .int .u16 0 := by
  intro l
  induction l with
  | nil =>
    intro n h
    have : n = 0 := by simpa [allZ16] using h
    subst this
    exact ⟨rfl, fun v hv => by cases hv⟩
  | cons x l ih =>
    intro n h
    cases n with
    | zero => cases h
    | succ n =>
      have h' : (isZ16 x).rec (motive := fun _ => Bool) false (allZ16 l n) = true := h
      cases hx : isZ16 x with
      | false => rw [hx] at h'; cases h'
      | true =>
        rw [hx] at h'
        obtain ⟨h1, h2⟩ := ih n h'
        refine ⟨by simp [h1], fun v hv => ?_⟩
        rcases List.mem_cons.1 hv with rfl | hv
        · exact isZ16_eq hx
        · exact h2 v hv

noncomputable def zeroOk (o : Option TypeInfo) : Bool := match o with
  | some i => match i.zero with
    | some v => match v with
      | .agg c => allZ16 c.toList 16384
      | _ => false
    | none => false
  | none => false

theorem zero_table : zeroOk (Tryd.prog.info? 44) = true := by kernel_rfl

theorem table_zero : ∃ Z : Array Value, (∀ w, (zeroValue 44).run Tryd.prog w = .ok (.agg Z) w) ∧ Z.size = 16384 ∧ ∀ j, j < 16384 → Z[j]? = some (.int .u16 0) := by
  have h := zero_table
  unfold zeroOk at h
  split at h
  · rename_i i hi
    split at h
    · rename_i v hv
      split at h
      · rename_i c
        obtain ⟨h1, h2⟩ := allZ16_eq _ _ h
        have h1' : c.size = 16384 := by simpa using h1
        refine ⟨c, fun w => ?_, h1', fun j hj => ?_⟩
        · simp [zeroValue, typeInfo, hi, hv]
        · rw [Array.getElem?_eq_getElem (by omega)]
          exact congrArg some (h2 _ (by simp))
      · cases h
    · cases h
  · cases h

/-- The table: its cells are below 'top'. -/
def Tab (w : World) (tb top : Nat) : Prop :=
  ∃ cur : Array Value, w.heap[tb]? = some (.cells cur 44 (0, 0)) ∧ cur.size = 16384 ∧ ∀ j, j < 16384 → ∃ v : Nat, cur[j]? = some (.int .u16 (v : Int)) ∧ v < top

theorem Tab.get {w : World} {tb top : Nat} (h : Tab w tb top) (j : Nat) (hj : j < 16384) : ∃ v : Nat, w.cell? ⟨tb, j, none⟩ = some (.int .u16 (v : Int)) ∧ v < top := by
  obtain ⟨cur, hg, _, hc⟩ := h
  obtain ⟨v, hv, hlt⟩ := hc j hj
  exact ⟨v, (cell_of_row w tb j cur _ _ hg).trans hv, hlt⟩

theorem Tab.frozen {w : World} {tb top : Nat} (h : Tab w tb top) (j : Nat) : w.frozen? ⟨tb, j, none⟩ = false := by
  obtain ⟨cur, hg, _, _⟩ := h
  exact frozen_of_row w tb j cur _ hg

theorem Tab.more {w : World} {tb top top' : Nat} (h : Tab w tb top) (ht : top ≤ top') : Tab w tb top' := by
  obtain ⟨cur, hg, hs, hc⟩ := h
  refine ⟨cur, hg, hs, fun j hj => ?_⟩
  obtain ⟨v, hv, hlt⟩ := hc j hj
  exact ⟨v, hv, by omega⟩

theorem Tab.set {w : World} {tb top : Nat} (h : Tab w tb top) (j : Nat) (hj : j < 16384) (x : Nat) (hx : x < top) : Tab (w.setCell ⟨tb, j, none⟩ (.int .u16 (x : Int))) tb top := by
  obtain ⟨cur, hg, hs, hc⟩ := h
  refine ⟨cur.setIfInBounds j (.int .u16 (x : Int)), heap_setCell_same w tb j cur _ _ hg, by simpa using hs, fun i hi => ?_⟩
  by_cases hij : j = i
  · subst hij
    exact ⟨x, by simp [hs, hj], hx⟩
  · obtain ⟨v, hv, hlt⟩ := hc i hi
    exact ⟨v, by rw [Array.getElem?_setIfInBounds_ne hij]; exact hv, hlt⟩

theorem Tab.grown {w w' : World} {tb top g : Nat} (h : Tab w tb top) (hg : w.grownBy w' (some g)) (hne : tb ≠ g) : Tab w' tb top := by
  obtain ⟨cur, hc, r⟩ := h
  have hlt : tb < w.heap.size := (Array.getElem?_eq_some_iff.1 hc).1
  exact ⟨cur, (hg.block tb hlt (by simpa using hne)).trans hc, r⟩

theorem Tab.drewN {w : World} {tb top : Nat} (h : Tab w tb top) (k : Nat) : Tab (w.drewN k) tb top := h

theorem Dst.drewN {w : World} {g n : Nat} {out : Bs} (h : Dst w g n out) (k : Nat) : Dst (w.drewN k) g n out := h

theorem Dst.setOther {w : World} {g n : Nat} {out : Bs} (h : Dst w g n out) (tb j : Nat) (v : Value) (hne : g ≠ tb) : Dst (w.setCell ⟨tb, j, none⟩ v) g n out := by
  intro h0
  obtain ⟨cur, hg, r⟩ := h h0
  exact ⟨cur, (heap_setCell_other w ⟨tb, j, none⟩ g v hne).trans hg, r⟩

theorem Src.drewN {w : World} {g b off m : Nat} {ys : Bs} (h : Src w g b off m ys) (k : Nat) : Src (w.drewN k) g b off m ys := ⟨h.len, h.ne, h.lt, h.cell⟩

theorem Src.setOther {w : World} {g b off m : Nat} {ys : Bs} (h : Src w g b off m ys) (tb j : Nat) (v : Value) (hne : b ≠ tb) : Src (w.setCell ⟨tb, j, none⟩ v) g b off m ys :=
  ⟨h.len, h.ne, by simpa [World.setCell] using h.lt, fun i hi => by
    rw [World.cell?_of_block (w := w) (heap_setCell_other w ⟨tb, j, none⟩ b v hne)]
    exact h.cell i hi⟩

theorem grownBy_drewN {w0 w : World} {r : Option Nat} (h : w0.grownBy w r) (k : Nat) : w0.grownBy (w.drewN k) r := ⟨h.os, h.tape, h.output, h.size, h.block⟩

theorem grownBy_setNew {w0 w : World} {r : Option Nat} (h : w0.grownBy w r) (tb j : Nat) (v : Value) (hn : w0.heap.size ≤ tb) : w0.grownBy (w.setCell ⟨tb, j, none⟩ v) r :=
  ⟨h.os, h.tape, h.output, by simpa [World.setCell] using h.size, fun k hk hr => (heap_setCell_other w ⟨tb, j, none⟩ k v (by show k ≠ tb; omega)).trans (h.block k hk hr)⟩

/-- What holds of the world inside encodeBlock. -/
structure BkW (w0 w : World) (g b off n tb N : Nat) (xs out : Bs) (top : Nat) : Prop where
  src : Src w g b off n xs
  dst : Dst w g N out
  tab : Tab w tb top
  gr : w0.grownBy w (some g)
  g0 : g < w0.heap.size
  b0 : b < w0.heap.size
  tb0 : w0.heap.size ≤ tb

theorem BkW.drewN {w0 w : World} {g b off n tb N : Nat} {xs out : Bs} {top : Nat} (h : BkW w0 w g b off n tb N xs out top) (k : Nat) : BkW w0 (w.drewN k) g b off n tb N xs out top :=
  ⟨h.src.drewN k, h.dst.drewN k, h.tab.drewN k, grownBy_drewN h.gr k, h.g0, h.b0, h.tb0⟩

theorem BkW.more {w0 w : World} {g b off n tb N : Nat} {xs out : Bs} {top top' : Nat} (h : BkW w0 w g b off n tb N xs out top) (ht : top ≤ top') : BkW w0 w g b off n tb N xs out top' :=
  ⟨h.src, h.dst, h.tab.more ht, h.gr, h.g0, h.b0, h.tb0⟩

theorem BkW.set {w0 w : World} {g b off n tb N : Nat} {xs out : Bs} {top : Nat} (h : BkW w0 w g b off n tb N xs out top) (j : Nat) (hj : j < 16384) (x : Nat) (hx : x < top) : BkW w0 (w.setCell ⟨tb, j, none⟩ (.int .u16 (x : Int))) g b off n tb N xs out top :=
  ⟨h.src.setOther tb j _ (by have := h.b0; have := h.tb0; omega), h.dst.setOther tb j _ (by have := h.g0; have := h.tb0; omega), h.tab.set j hj x hx, grownBy_setNew h.gr tb j _ h.tb0, h.g0, h.b0, h.tb0⟩

/-- Bytes have been laid. -/
theorem BkW.laid {w0 w w' : World} {g b off n tb N : Nat} {xs out out' : Bs} {top : Nat} (h : BkW w0 w g b off n tb N xs out top) (hd : Dst w' g N out') (hg : w.grownBy w' (some g)) : BkW w0 w' g b off n tb N xs out' top :=
  ⟨h.src.grown hg, hd, h.tab.grown hg (by have := h.g0; have := h.tb0; omega), h.gr.trans hg, h.g0, h.b0, h.tb0⟩

end Snap
end Go.Proofs.YtoihiaenlonncaaDoor

/-
  Parts of a function's code by their place; a frame of many slots as a function of the slot's number; copy into a row of the call's own.
-/
import Derived.Test.YtoihiaenlonncaaDoorMem
import Derived.StillTailTactics
import Derived.Deep.CutBlock
import Derived.Deep.RegionLaw
namespace Go.Proofs.YtoihiaenlonncaaDoor
open Go.RowKit
namespace Snap

def bodyOf (f : Func) : Code := f.body.getD .skip
def c1 : Code → Code
  | .seq a _ => a
  | c => c
def c2 : Code → Code
  | .seq _ b => b
  | c => c
def cB : Code → Code
  | .block _ b => b
  | c => c
def cL : Code → Code
  | .loop b => b
  | c => c
def cT : Code → Code
  | .cond _ a _ => a
  | c => c
def cE : Code → Code
  | .cond _ _ b => b
  | c => c

theorem list_slots (l : List Value) : (List.range l.length).map (fun i => l.getD i undef) = l := by
  apply List.ext_getElem
  · simp
  · intro i h1 h2
    simp [List.getD_eq_getElem?_getD, List.getElem?_eq_getElem h2]

/-- A frame is its slots. -/
theorem act_slots (a : Act) (N : Nat) (hs : a.tmps.size = N) (hd : a.defers = []) : a = ⟨((List.range N).map (fun i => a.tmps.getD i undef)).toArray, []⟩ := by
  obtain ⟨⟨l⟩, ds⟩ := a
  simp only at hd hs
  subst hd
  subst hs
  have h := list_slots l
  simp only [List.size_toArray]
  congr 2
  conv => lhs; rw [← h]
  apply List.map_congr_left
  intro i _
  simp [Array.getD_eq_getD_getElem?, List.getD_eq_getElem?_getD]

/-- The row's fact behind a copy. -/
theorem splice_at {α : Type} (L : List α) (off : Nat) (cs : List α) (j : Nat) (h : off + cs.length ≤ L.length) : (splice L off cs)[j]? = if j < off then L[j]? else if j < off + cs.length then cs[j - off]? else L[j]? := by
  unfold splice
  by_cases h1 : j < off
  · rw [if_pos h1, List.getElem?_append_left (by rw [List.length_take]; omega), List.getElem?_take_of_lt h1]
  · rw [if_neg h1, List.getElem?_append_right (by rw [List.length_take]; omega), List.length_take, Nat.min_eq_left (by omega)]
    by_cases h2 : j < off + cs.length
    · rw [if_pos h2, List.getElem?_append_left (by omega)]
    · rw [if_neg h2, List.getElem?_append_right (by omega), List.getElem?_drop]
      congr 1
      omega

/-- 'copy' into a known row, at a list of operations. -/
theorem copy_own {ops : Array Oper} {rest : List Oper} {o : Oper} {a : Act} {Q : Exit → Act → World → Prop} {w : World} (hgd : o.guard = none) (d s : Operand)
    (ho : o.op = .call { callee := .builtin .copy, args := #[d, s], argTypes := #[22, 22] })
    (dp sp : Option Addr) (dLen dCap sLen sCap : Nat) (hd : a.eval d = .slice dp dLen dCap) (hs : a.eval s = .slice sp sLen sCap)
    (g off : Nat) (cur : List Value) (hg : w.heap[g]? = some (.cells cur.toArray 5 (0, 0))) (cs : List Value) (hn : cs.length = Nat.min sLen dLen)
    (hpos : 0 < cs.length → dp = some ⟨g, off, none⟩ ∧ ∃ ad, sp = some ad ∧ ∀ j v, cs[j]? = some v → w.cell? (ad.add j) = some v)
    (hfit : off + cs.length ≤ cur.length) (h1 : ∀ v ∈ cs, v.oneCell' = true)
    (h : ∀ w', w'.heap[g]? = some (.cells (splice cur off cs).toArray 5 (0, 0)) → w.grownBy w' (some g) → wpList Tryd.prog ops Q rest (a.put o.dst (goInt cs.length)) w') :
    wpList Tryd.prog ops Q (o :: rest) a w := by
  have hu : Tryd.prog.underlying 22 = some (.slice 5) := Tryd.underlying22
  have hsz : (Tryd.prog.info? 5).map (·.size) = some 1 := by kernel_rfl
  by_cases h0 : cs.length = 0
  · obtain rfl : cs = [] := List.eq_nil_of_length_eq_zero h0
    refine wpList_copy_nothing hgd d s _ _ ho _ hu hsz dp sp dLen dCap sLen sCap hd hs (by simpa using hn.symm) ?_
    exact h w (by simpa [splice] using hg) (World.grownBy.refl _ _)
  · obtain ⟨rfl, ad, rfl, hsrc⟩ := hpos (by omega)
    refine wpList_copy_own hgd d s _ _ ho _ hu hsz g off dLen dCap ad sLen sCap hd hs cur.toArray _ hg cs hn hsrc (by simpa using hfit) h1 ?_
    refine h _ (by simpa [splice] using setRow_heap w g _ _ _ _ hg) ⟨rfl, rfl, rfl, by simp [World.setRow], fun k _ hk => setRow_other w g k _ (fun e => hk (by rw [e]))⟩

end Snap
end Go.Proofs.YtoihiaenlonncaaDoor

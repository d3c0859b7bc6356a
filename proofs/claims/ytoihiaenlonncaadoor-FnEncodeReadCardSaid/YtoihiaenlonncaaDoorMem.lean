/-
  Memory, for bytes: a slice that reads as a list of bytes ('Rd'), a slice in memory of the call's own ('Own'), and append onto such a slice.
-/
import Derived.Test.YtoihiaenlonncaaDoorHead
import Derived.Test.YtoihiaenlonncaaDoorProg
import Derived.WalkKit
import Derived.WalkLawsBesides
import Derived.WalkSpells
import Derived.Deep.AppendLies
import Derived.Maps.AppendAt
import Derived.Deep.Draws
import Derived.Deep.QuietTactic
import Derived.Deep.RegionWith
import Derived.BigQuiet
import Derived.Laws.CopyOwn
namespace Go.Proofs.YtoihiaenlonncaaDoor
open Go.RowKit
namespace Snap

theorem hide {p : Prop} (h : p) : Hid p := h

/-- A byte as a value. -/
def bv (b : UInt8) : Value := .int .u8 (b.toNat : Int)

theorem bytes_oneCell (xs : Bs) : ∀ u ∈ xs.map bv, u.oneCell' = true := by
  intro u hu
  obtain ⟨b, _, rfl⟩ := List.mem_map.1 hu
  rfl

/-- The slice at address A with n elements reads as the bytes xs; it lies below block B. -/
structure Rd (w : World) (B : Nat) (A : Option Addr) (n : Nat) (xs : Bs) : Prop where
  len : xs.length = n
  at_ : 0 < n → ∃ b off, A = some ⟨b, off, none⟩ ∧ b < B ∧ ∀ j, j < n → w.cell? ⟨b, off + j, none⟩ = some (bv (xs.getD j 0))

theorem Rd.nil (w : World) (B : Nat) (A : Option Addr) : Rd w B A 0 [] := ⟨rfl, fun h => absurd h (by omega)⟩

theorem Rd.keep {w w' : World} {B n : Nat} {A : Option Addr} {xs : Bs} (h : Rd w B A n xs) (hk : ∀ b, b < B → w'.heap[b]? = w.heap[b]?) : Rd w' B A n xs :=
  ⟨h.len, fun hn => by
    obtain ⟨b, off, hA, hb, hc⟩ := h.at_ hn
    exact ⟨b, off, hA, hb, fun j hj => (World.cell?_of_block (w := w) (hk b hb)).trans (hc j hj)⟩⟩

theorem Rd.below {w w' : World} {B n : Nat} {A : Option Addr} {xs : Bs} (h : Rd w B A n xs) (hb : Below B w w') : Rd w' B A n xs := h.keep hb.block

theorem Rd.drewN {w : World} {B n : Nat} {A : Option Addr} {xs : Bs} (h : Rd w B A n xs) (k : Nat) : Rd (w.drewN k) B A n xs := ⟨h.len, h.at_⟩

theorem Rd.drew {w : World} {B n : Nat} {A : Option Addr} {xs : Bs} (h : Rd w B A n xs) : Rd w.drew B A n xs := ⟨h.len, h.at_⟩

theorem Rd.more {w : World} {B B' n : Nat} {A : Option Addr} {xs : Bs} (h : Rd w B A n xs) (hB : B ≤ B') : Rd w B' A n xs :=
  ⟨h.len, fun hn => by
    obtain ⟨b, off, hA, hb, hc⟩ := h.at_ hn
    exact ⟨b, off, hA, by omega, hc⟩⟩

theorem Rd.alloc {w : World} {B n : Nat} {A : Option Addr} {xs : Bs} (h : Rd w B A n xs) (hB : B ≤ w.heap.size) (o : Obj) : Rd (w.alloc o) B A n xs :=
  h.keep fun b hb => Below.heap_alloc w o b (by omega)

/-- A cut 's[k:]'. -/
theorem Rd.drop {w : World} {B n cap : Nat} {A : Option Addr} {xs : Bs} (h : Rd w B A n xs) {k : Nat} (hk : k ≤ n) (hc : n ≤ cap) :
    Rd w B (if cap = k then A else A.map (·.add k)) (n - k) (xs.drop k) := by
  refine ⟨by rw [List.length_drop, h.len], fun hn => ?_⟩
  obtain ⟨b, off, rfl, hb, hcell⟩ := h.at_ (by omega)
  rw [if_neg (by omega)]
  refine ⟨b, off + k, ?_, hb, fun j hj => ?_⟩
  · simp only [Option.map_some, Addr.add]
    by_cases h0 : k = 0
    · subst h0; simp
    · rw [if_neg h0]
  · have := hcell (k + j) (by omega)
    rw [Nat.add_assoc, this]
    simp [List.getD_eq_getElem?_getD, List.getElem?_drop]

/-- A cut 's[:k]'. -/
theorem Rd.take {w : World} {B n : Nat} {A : Option Addr} {xs : Bs} (h : Rd w B A n xs) {k : Nat} (hk : k ≤ n) : Rd w B A k (xs.take k) := by
  refine ⟨by rw [List.length_take, h.len]; omega, fun hn => ?_⟩
  obtain ⟨b, off, hA, hb, hcell⟩ := h.at_ (by omega)
  refine ⟨b, off, hA, hb, fun j hj => ?_⟩
  rw [hcell j (by omega)]
  simp [List.getD_eq_getElem?_getD, hj]

/-- The slice at address A with n elements reads as the ints zs; it lies below block B. -/
structure RdI (w : World) (B : Nat) (A : Option Addr) (n : Nat) (zs : List Int) : Prop where
  len : zs.length = n
  at_ : 0 < n → ∃ b off, A = some ⟨b, off, none⟩ ∧ b < B ∧ ∀ j, j < n → w.cell? ⟨b, off + j, none⟩ = some (.int .i64 (zs.getD j 0))
  rng : ∀ j, j < n → -9223372036854775808 ≤ zs.getD j 0 ∧ zs.getD j 0 ≤ 9223372036854775807

theorem RdI.keep {w w' : World} {B n : Nat} {A : Option Addr} {zs : List Int} (h : RdI w B A n zs) (hk : ∀ b, b < B → w'.heap[b]? = w.heap[b]?) : RdI w' B A n zs :=
  ⟨h.len, fun hn => by
    obtain ⟨b, off, hA, hb, hc⟩ := h.at_ hn
    exact ⟨b, off, hA, hb, fun j hj => (World.cell?_of_block (w := w) (hk b hb)).trans (hc j hj)⟩, h.rng⟩

theorem RdI.below {w w' : World} {B n : Nat} {A : Option Addr} {zs : List Int} (h : RdI w B A n zs) (hb : Below B w w') : RdI w' B A n zs := h.keep hb.block

/-- A new block of one byte. -/
theorem Rd.one (w : World) (x : Int) (b : UInt8) (hx : x = (b.toNat : Int)) : Rd (w.alloc (.cells #[.int .u8 x] 5)) (w.heap.size + 1) (some ⟨w.heap.size, 0, none⟩) 1 [b] := by
  subst hx
  refine ⟨rfl, fun _ => ⟨w.heap.size, 0, rfl, by omega, fun j hj => ?_⟩⟩
  obtain rfl : j = 0 := by omega
  rw [World.cell?_alloc_at _ _ _ _ rfl]
  rfl

/-- The slice value v lies at the head of a block of the call's own (from 'base' on) and holds the bytes xs; or is nil. -/
def Own (w : World) (base : Nat) (v : Value) (xs : Bs) : Prop := w.ownsRow base 5 1 v xs.length (xs.map bv)

theorem Own.nil (w : World) (base : Nat) : Own w base (.slice none 0 0) [] := World.ownsRow_nil _ _ _ _

theorem Own.form {w : World} {base : Nat} {v : Value} {xs : Bs} (h : Own w base v xs) :
    ∃ A c, v = .slice A xs.length c ∧ xs.length ≤ c ∧ c ≤ maxLen ∧ Rd w w.heap.size A xs.length xs ∧ (A = none → c = 0) := by
  obtain ⟨_, h2⟩ := h
  rcases h2 with ⟨rfl, h0⟩ | ⟨g, cap, cur, rfl, hb, hg, hn, hm, hs, ht⟩
  · have : xs = [] := List.eq_nil_of_length_eq_zero h0
    subst this
    exact ⟨none, 0, rfl, Nat.le_refl _, by simp [maxLen], Rd.nil _ _ _, fun _ => rfl⟩
  · refine ⟨some ⟨g, 0, none⟩, cap, rfl, hn, hm, ⟨rfl, fun _ => ⟨g, 0, rfl, (Array.getElem?_eq_some_iff.1 hg).1, fun j hj => ?_⟩⟩, fun h => by cases h⟩
    rw [cell_of_row w g (0 + j) cur _ _ hg, Nat.zero_add]
    have h1 : (cur.toList.take (xs.length * 1))[j]? = some (bv (xs.getD j 0)) := by
      rw [ht]
      simp [List.getElem?_eq_getElem hj, List.getD_eq_getElem?_getD]
    rw [List.getElem?_take_of_lt (by omega)] at h1
    simpa using h1

theorem Own.lt {w : World} {base : Nat} {v : Value} {xs : Bs} (h : Own w base v xs) : ∀ k, v.ownBlock = some k → base ≤ k ∧ k < w.heap.size := World.ownsRow.lt h

theorem Own.kept {w w' : World} {base : Nat} {v : Value} {xs : Bs} (h : Own w base v xs) (hb : Below w.heap.size w w') : Own w' base v xs := by
  refine World.ownsRow.kept (row := none) h ⟨hb.os, hb.tape, hb.output, hb.size, fun k hk _ => hb.block k hk⟩ ?_
  cases v.ownBlock <;> simp

theorem Own.alloc {w : World} {base : Nat} {v : Value} {xs : Bs} (h : Own w base v xs) (o : Obj) : Own (w.alloc o) base v xs := World.ownsRow.alloc h o

theorem Own.less {w : World} {base base' : Nat} {v : Value} {xs : Bs} (h : Own w base v xs) (hb : base' ≤ base) : Own w base' v xs := by
  obtain ⟨h1, h2⟩ := h
  refine ⟨h1, ?_⟩
  rcases h2 with h2 | ⟨g, cap, cur, hv, hg, r⟩
  · exact .inl h2
  · exact .inr ⟨g, cap, cur, hv, by omega, r⟩

theorem Below.drewN {B : Nat} {a w : World} (h : Below B a w) (n : Nat) : Below B a (w.drewN n) := ⟨h.os, h.tape, h.output, h.size, h.block⟩

/-- What a function that makes a slice gives back. -/
def Gives (w : World) (xs : Bs) (e : Ending) (w' : World) : Prop := ∃ v, e = .returned v ∧ Own w' w.heap.size v xs ∧ Below w.heap.size w w'

theorem info_u8 : (Tryd.prog.info? 5).map (fun i => (i.zero, i.size, i.bytes)) = some (some (.int .u8 0), 1, 1) := by kernel_rfl

/-- append onto a slice of the call's own, the source whatever reads as bytes (nil too). -/
theorem append_own {ops : Array Oper} {rest : List Oper} {o : Oper} {a : Act} {Q : Exit → Act → World → Prop} {w : World} (hgd : o.guard = none) (s x : Operand)
    (ho : o.op = .call { callee := .builtin .append, args := #[s, x], argTypes := #[22, 22] })
    (base : Nat) (w0 : World) (v : Value) (xs : Bs) (hs : a.eval s = v) (hown : Own w base v xs) (hbel : Below base w0 w)
    (B : Nat) (A : Option Addr) (m c : Nat) (ys : Bs) (hx : a.eval x = .slice A m c) (hr : Rd w B A m ys) (hlen : xs.length + ys.length ≤ 70368744177664) (hbase : base ≤ w.heap.size)
    (h : ∀ v' w', Own w' base v' (xs ++ ys) → w.grownBy w' v.ownBlock → Below base w0 w' → wpList Tryd.prog ops Q rest (a.put o.dst v') w') : wpList Tryd.prog ops Q (o :: rest) a w := by
  obtain ⟨i, hi, hz, hsz, hby⟩ := info_parts info_u8
  have fin : ∀ v' w', (w'.ownsRow base 5 1 v' (xs.length + m) (xs.map bv ++ ys.map bv)) → w.grownBy w' v.ownBlock → wpList Tryd.prog ops Q rest (a.put o.dst v') w' := by
    intro v' w' h1 h2
    refine h v' w' ?_ h2 (hbel.grown h2 hbase (fun k hk => (hown.lt k hk).1))
    unfold Own
    rw [List.length_append, List.map_append, hr.len]
    exact h1
  have hm := hr.len
  by_cases h0 : m = 0
  · subst h0
    have hy : ys = [] := List.eq_nil_of_length_eq_zero hm
    subst hy
    have key : (Builtin.append_ #[22, 22] o.type #[v, .slice A 0 c]).run Tryd.prog w = .ok v w := by
      rcases hown.2 with ⟨rfl, _⟩ | ⟨g, cap, cur, rfl, _, _, hnc, _⟩
      · cases A <;> simp [Builtin.append_, run_underlying Tryd.underlying22, sizeOf, typeInfo, hi, Builtin.lenOf, Builtin.firstCells, loadCells, loadCellsFrom]
      · cases A <;> simp [Builtin.append_, run_underlying Tryd.underlying22, sizeOf, typeInfo, hi, Builtin.lenOf, Builtin.firstCells, hnc, storeCells, loadCells, loadCellsFrom]
    refine wpList_plain hgd fun K hK => ?_
    unfold Oper.wp execOp
    simp only [ho, resolve, invoke, builtin, Sem.run_bind, Sem.run_pure, Result.andThen_ok, List.map_toArray, List.map_cons, List.map_nil, hs, hx, key]
    exact hK _ _ (fin v w (by simpa [Own] using hown) (World.grownBy.refl w _))
  · obtain ⟨b, off, rfl, hb, hc⟩ := hr.at_ (by omega)
    refine wpList_append_own w hgd s x 22 ho base 5 i (.int .u8 0) 1 1 Tryd.underlying22 hi hz hsz hby rfl (by decide) v xs.length (xs.map bv) hs hown ⟨b, off, none⟩ m c (ys.map bv) hx
      (by simp [hm]) ?_ (bytes_oneCell ys) (by unfold maxLen; omega) (by omega) hbase (fun v' w' h1 h2 _ => fin v' w' h1 h2)
    intro j u hu
    have hj : j < m := by
      have := (List.getElem?_eq_some_iff.1 hu).1
      simpa [hm] using this
    rw [Addr.add_lit, hc j hj]
    rw [← hu]
    simp [List.getElem?_eq_getElem (show j < ys.length by omega), List.getD_eq_getElem?_getD]

/-- It returns v; the world is as it was but for draws. -/
def Quiet (w : World) (v : Value) (e : Ending) (w' : World) : Prop := e = .returned v ∧ ∃ k, w' = w.drewN k

theorem Rd.cellAt {w : World} {B n : Nat} {A : Option Addr} {xs : Bs} (h : Rd w B A n xs) {b off : Nat} (hA : A = some ⟨b, off, none⟩) {k : Nat} (hk : k < n) :
    w.cell? ⟨b, off + k, none⟩ = some (.int .u8 ((xs.getD k 0).toNat : Int)) := by
  obtain ⟨b', off', hA', _, hc⟩ := h.at_ (by omega)
  rw [hA] at hA'
  simp only [Option.some.injEq, Addr.mk.injEq, and_true] at hA'
  obtain ⟨rfl, rfl⟩ := hA'
  exact hc k hk

theorem drop_cons_getD (xs : Bs) (j : Nat) (h : j < xs.length) : xs.drop j = xs.getD j 0 :: xs.drop (j + 1) := by
  rw [List.drop_eq_getElem_cons h, List.getD_eq_getElem?_getD, List.getElem?_eq_getElem h]
  rfl

/-! ### Cuts of slices: the address of 's[k:]' behind a name, so that the walk does not part on it -/

def cutA (A : Option Addr) (cap k : Nat) : Option Addr := if cap = k then A else A.map (·.add k)

theorem Rd.cut {w : World} {B n cap : Nat} {A : Option Addr} {xs : Bs} (h : Rd w B A n xs) {k : Nat} (hk : k ≤ n) (hc : n ≤ cap) : Rd w B (cutA A cap k) (n - k) (xs.drop k) := h.drop hk hc

theorem run_sizeOf_u8 (w : World) : (sizeOf 5).run Tryd.prog w = .ok 1 w := by kernel_rfl

theorem elem_bytes : Tryd.prog.elem 22 = 5 := by kernel_rfl

/-- 's[l:]'. -/
theorem run_cut_l (A : Option Addr) (n c : Nat) (l : Int) (k : Nat) (hk : l.toNat = k) (h0 : 0 ≤ l) (h1 : l ≤ (n : Int)) (w : World) :
    (Instr.sliceAt 22 (.slice A n c) (some (.int .i64 l)) none none).run Tryd.prog w = .ok (.slice (cutA A c k) (n - k) (c - k)) w := by
  have ht : Tryd.prog.underlying 22 = some (.slice (Tryd.prog.elem 22)) := by rw [elem_bytes]; exact Tryd.underlying22
  rw [run_sliceAt_slice w _ _ _ _ _ ht, run_slice_l w _ A n c ht _ l h0 h1, elem_bytes, run_sizeOf_u8, hk]
  simp only [Result.andThen, sliced, Nat.mul_one]
  rfl

/-- 's[l:h]'. -/
theorem run_cut_lh (A : Option Addr) (n c : Nat) (l h : Int) (k m : Nat) (hk : l.toNat = k) (hm : h.toNat = m) (h0 : 0 ≤ l) (h1 : l ≤ h) (h2 : h ≤ (c : Int)) (w : World) :
    (Instr.sliceAt 22 (.slice A n c) (some (.int .i64 l)) (some (.int .i64 h)) none).run Tryd.prog w = .ok (.slice (cutA A c k) (m - k) (c - k)) w := by
  have ht : Tryd.prog.underlying 22 = some (.slice (Tryd.prog.elem 22)) := by rw [elem_bytes]; exact Tryd.underlying22
  rw [run_sliceAt_slice w _ _ _ _ _ ht, run_slice_lh w _ A n c ht _ _ l h h0 h1 h2, elem_bytes, run_sizeOf_u8, hk, hm]
  simp only [Result.andThen, sliced, Nat.mul_one]
  rfl

end Snap
end Go.Proofs.YtoihiaenlonncaaDoor

/-
  Plain lists of bytes: what a block says. No program, no world.
  'item' reads one element; 'run' says what the elements behind the length say; 'Chain' is a row of elements that take one text to a longer one.
-/
namespace Go.Proofs.YtoihiaenlonncaaDoor
namespace Snap

abbrev Bs := List UInt8

/-- The number that bytes tell, the low ones first. -/
def leN : Bs → Nat
  | [] => 0
  | b :: r => b.toNat + 256 * leN r

def little (b : Bs) (m : Nat) : Option Nat := if b.length < m then none else some (leN (b.take m))

structure It where
  back : Bool
  n : Nat
  far : Nat
  told : Nat

/-- The element at the front of some bytes; none where bytes lack. -/
def item : Bs → Option It
  | [] => none
  | t :: r =>
    if t.toNat % 4 = 0 then
      if t.toNat / 4 < 60 then some ⟨false, t.toNat / 4 + 1, 0, 1⟩
      else (little r (t.toNat / 4 - 59)).map fun n => ⟨false, n + 1, 0, t.toNat / 4 - 58⟩
    else if t.toNat % 4 = 1 then (little r 1).map fun low => ⟨true, t.toNat / 4 % 8 + 4, t.toNat / 4 / 8 * 256 + low, 2⟩
    else if t.toNat % 4 = 2 then (little r 2).map fun far => ⟨true, t.toNat / 4 + 1, far, 3⟩
    else (little r 4).map fun far => ⟨true, t.toNat / 4 + 1, far, 5⟩

/-- n bytes more, each as it stands 'far' ahead of it. -/
def copyOut (out : Bs) (far : Nat) : Nat → Bs
  | 0 => out
  | n + 1 => copyOut (out ++ [out.getD (out.length - far) 0]) far n

/-- One element: what is left of the bytes, and the text behind it. -/
def step (long : Nat) (b out : Bs) : Option (Bs × Bs) :=
  match item b with
  | none => none
  | some it =>
    if long < out.length + it.n then none
    else if it.back then
      if it.far = 0 ∨ out.length < it.far then none else some (b.drop it.told, copyOut out it.far it.n)
    else if b.length < it.told + it.n then none
    else some (b.drop (it.told + it.n), out ++ (b.drop it.told).take it.n)

def fin (long : Nat) (out : Bs) : Option Bs := if out.length = long then some out else none

def runF (long : Nat) : Nat → Bs → Bs → Option Bs
  | 0, b, out => if b = [] then fin long out else none
  | k + 1, b, out =>
    if b = [] then fin long out else
    match step long b out with
    | none => none
    | some (b', out') => runF long k b' out'

def run (long : Nat) (b out : Bs) : Option Bs := runF long b.length b out

theorem leN_lt (b : Bs) : leN b < 256 ^ b.length := by
  induction b with
  | nil => simp [leN]
  | cons x r ih =>
    have := x.toNat_lt
    simp only [leN, List.length_cons, Nat.pow_succ]
    omega

theorem item_told {b : Bs} {it : It} (h : item b = some it) : 1 ≤ it.told ∧ it.told ≤ b.length ∧ 1 ≤ it.n := by
  cases b with
  | nil => simp [item] at h
  | cons t r =>
    have ht := t.toNat_lt
    have key : ∀ m n, little r m = some n → m ≤ r.length := by
      intro m n hm
      unfold little at hm
      split at hm
      · cases hm
      · omega
    simp only [item] at h
    split at h
    · split at h
      · obtain rfl := Option.some.inj h
        simp
      · obtain ⟨n, hn, rfl⟩ := Option.map_eq_some_iff.1 h
        have := key _ _ hn
        simp
        omega
    · split at h
      · obtain ⟨n, hn, rfl⟩ := Option.map_eq_some_iff.1 h
        have := key _ _ hn
        simp; omega
      · split at h
        · obtain ⟨n, hn, rfl⟩ := Option.map_eq_some_iff.1 h
          have := key _ _ hn
          simp; omega
        · obtain ⟨n, hn, rfl⟩ := Option.map_eq_some_iff.1 h
          have := key _ _ hn
          simp; omega

theorem copyOut_length (far : Nat) : ∀ (n : Nat) (out : Bs), (copyOut out far n).length = out.length + n := by
  intro n
  induction n with
  | zero => intro out; rfl
  | succ n ih => intro out; simp only [copyOut, ih, List.length_append, List.length_cons, List.length_nil]; omega

theorem step_some {long : Nat} {b out b' out' : Bs} (h : step long b out = some (b', out')) :
    b'.length < b.length ∧ out.length < out'.length ∧ out'.length ≤ long := by
  unfold step at h
  cases hi : item b with
  | none => rw [hi] at h; cases h
  | some it =>
    have ht := item_told hi
    rw [hi] at h
    simp only at h
    split at h
    · cases h
    · split at h
      · split at h
        · cases h
        · simp only [Option.some.injEq, Prod.mk.injEq] at h
          obtain ⟨rfl, rfl⟩ := h
          simp only [List.length_drop, copyOut_length]
          omega
      · split at h
        · cases h
        · simp only [Option.some.injEq, Prod.mk.injEq] at h
          obtain ⟨rfl, rfl⟩ := h
          simp only [List.length_drop, List.length_append, List.length_take]
          omega

theorem runF_enough (long : Nat) : ∀ (k j : Nat) (b out : Bs), b.length ≤ k → b.length ≤ j → runF long k b out = runF long j b out := by
  intro k
  induction k with
  | zero =>
    intro j b out hk _
    have : b = [] := List.eq_nil_of_length_eq_zero (by omega)
    subst this
    cases j <;> simp [runF]
  | succ k ih =>
    intro j b out hk hj
    cases j with
    | zero =>
      have : b = [] := List.eq_nil_of_length_eq_zero (by omega)
      subst this
      simp [runF]
    | succ j =>
      simp only [runF]
      by_cases hb : b = []
      · simp [hb]
      · rw [if_neg hb, if_neg hb]
        cases hs : step long b out with
        | none => rfl
        | some p =>
          obtain ⟨b', out'⟩ := p
          have := step_some hs
          exact ih j b' out' (by omega) (by omega)

theorem run_nil (long : Nat) (out : Bs) : run long [] out = fin long out := by simp [run, runF]

theorem run_none {long : Nat} {b out : Bs} (hb : b ≠ []) (h : step long b out = none) : run long b out = none := by
  unfold run
  cases hl : b.length with
  | zero => exact absurd (List.eq_nil_of_length_eq_zero hl) hb
  | succ k => simp [runF, hb, h]

theorem run_some {long : Nat} {b out b' out' : Bs} (h : step long b out = some (b', out')) : run long b out = run long b' out' := by
  have hs := step_some h
  have hb : b ≠ [] := by rintro rfl; simp at hs
  unfold run
  cases hl : b.length with
  | zero => exact absurd (List.eq_nil_of_length_eq_zero hl) hb
  | succ k =>
    simp only [runF, hb, if_false, h]
    exact runF_enough long k _ b' out' (by omega) (Nat.le_refl _)

/-! ### Rows of elements -/

/-- 'e' is one element that takes 'out' to 'out''. -/
structure Elem (out e out' : Bs) : Prop where
  more : out.length < out'.length
  whole : ∀ (long : Nat) (rest : Bs), step long (e ++ rest) out = if out'.length ≤ long then some (rest, out') else none
  cut : ∀ (long k : Nat), 0 < k → k < e.length → step long (e.take k) out = none
  ne : e ≠ []

inductive Chain : Bs → Bs → Bs → Prop where
  | nil (out : Bs) : Chain out [] out
  | cons {out e mid body out' : Bs} (h : Elem out e mid) (t : Chain mid body out') : Chain out (e ++ body) out'

theorem Chain.one {out e out' : Bs} (h : Elem out e out') : Chain out e out' := by
  have := Chain.cons h (Chain.nil out')
  simpa using this

theorem Chain.trans {a x b y c : Bs} (h : Chain a x b) (k : Chain b y c) : Chain a (x ++ y) c := by
  induction h with
  | nil => simpa using k
  | cons he _ ih => rw [List.append_assoc]; exact .cons he (ih k)

theorem Chain.snoc {a x b e c : Bs} (h : Chain a x b) (k : Elem b e c) : Chain a (x ++ e) c := h.trans (.one k)

theorem Chain.le {out body out' : Bs} (h : Chain out body out') : out.length ≤ out'.length := by
  induction h with
  | nil => exact Nat.le_refl _
  | cons he _ ih => have := he.more; omega

/-- What the elements say, whatever stands behind them. -/
theorem Chain.run_append {out body out' : Bs} (h : Chain out body out') (long : Nat) (rest : Bs) (hl : out'.length ≤ long) :
    run long (body ++ rest) out = run long rest out' := by
  induction h with
  | nil => rfl
  | @cons out e mid body out' he t ih =>
    have h1 := he.whole long (body ++ rest)
    have := t.le
    rw [if_pos (by omega)] at h1
    rw [List.append_assoc, run_some h1]
    exact ih hl

theorem Chain.run_eq {out body out' : Bs} (h : Chain out body out') : run out'.length body out = some out' := by
  have := h.run_append out'.length [] (Nat.le_refl _)
  rw [List.append_nil, run_nil] at this
  rw [this]
  simp [fin]

/-- Another length at the front: refused. -/
theorem Chain.run_other {out body out' : Bs} (h : Chain out body out') (long : Nat) (hl : long ≠ out'.length) : run long body out = none := by
  induction h with
  | nil out => rw [run_nil]; simp [fin, Ne.symm hl]
  | @cons out e mid body out' he t ih =>
    have h1 := he.whole long body
    have hne : e ++ body ≠ [] := by simp [he.ne]
    by_cases hm : mid.length ≤ long
    · rw [if_pos hm] at h1
      rw [run_some h1]
      exact ih hl
    · rw [if_neg hm] at h1
      exact run_none hne h1

/-- Bytes lack at the end: refused. -/
theorem Chain.run_cut {out body out' : Bs} (h : Chain out body out') (k : Nat) (hk : k < body.length) : run out'.length (body.take k) out = none := by
  induction h generalizing k with
  | nil out => simp at hk
  | @cons out e mid body out' he t ih =>
    have hle := t.le
    have hmore := he.more
    rw [List.length_append] at hk
    by_cases h0 : k = 0
    · subst h0
      rw [List.take_zero, run_nil]
      unfold fin
      rw [if_neg (by omega)]
    · by_cases hke : k < e.length
      · rw [List.take_append_of_le_length (by omega)]
        refine run_none ?_ (he.cut out'.length k (by omega) hke)
        intro h
        have h0' : (e.take k).length = 0 := by rw [h]; rfl
        rw [List.length_take] at h0'
        omega
      · have hsplit : (e ++ body).take k = e ++ body.take (k - e.length) := by
          rw [List.take_append, List.take_of_length_le (by omega)]
        rw [hsplit]
        have h1 := he.whole out'.length (body.take (k - e.length))
        rw [if_pos (by omega)] at h1
        rw [run_some h1]
        exact ih (k - e.length) (by omega)

/-- An element more behind the whole text: refused. -/
theorem Chain.run_more {out body out' e more : Bs} (h : Chain out body out') (he : Elem out' e more) : run out'.length (body ++ e) out = none := by
  rw [h.run_append _ _ (Nat.le_refl _)]
  have h1 := he.whole out'.length []
  rw [List.append_nil, if_neg (by have := he.more; omega)] at h1
  exact run_none he.ne h1

end Snap
end Go.Proofs.YtoihiaenlonncaaDoor

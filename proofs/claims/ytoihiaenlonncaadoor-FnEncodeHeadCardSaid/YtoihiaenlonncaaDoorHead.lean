/-
  Plain lists of bytes: the length at the front of a block, as the description of the format reads it, and as a varint of 64 bits is read. No program, no world.
-/
import Derived.Test.YtoihiaenlonncaaDoorElems
import Derived.Lib.VarintDec
namespace Go.Proofs.YtoihiaenlonncaaDoor
namespace Snap

/-- The length at the front, read from its i-th byte on. -/
def headGo : Bs → Nat → Nat → Option (Nat × Nat)
  | [], _, _ => none
  | b :: r, i, long =>
    if i = 5 then none
    else if b.toNat < 128 then (if long + b.toNat % 128 * 128 ^ i ≤ 4294967295 then some (long + b.toNat % 128 * 128 ^ i, i + 1) else none)
    else headGo r (i + 1) (long + b.toNat % 128 * 128 ^ i)

/-- The length at the front of a block, and where the elements begin. -/
def head (b : Bs) : Option (Nat × Nat) := headGo b 0 0

/-- No byte more than needed tells the length; from the i-th byte on. -/
def plainGo : Bs → Nat → Bool
  | [], _ => true
  | b :: r, i => if b.toNat < 128 then decide (0 < b.toNat ∨ i = 0) else plainGo r (i + 1)

def plain (b : Bs) : Bool := plainGo b 0

/-- What a block says, by the description of the format. -/
def dec (b : Bs) : Option Bs :=
  match head b with
  | none => none
  | some (long, at_) => run long (b.drop at_) []

/-- The length at the front as the package reads it. -/
def uvHead (b : Bs) : Option (Nat × Nat) :=
  if (Lib.uvarintDec b).2 ≤ 0 ∨ 4294967295 < (Lib.uvarintDec b).1 then none else some ((Lib.uvarintDec b).1, (Lib.uvarintDec b).2.toNat)

/-- What the package makes of a block. -/
def decG (b : Bs) : Option Bs :=
  match uvHead b with
  | none => none
  | some (long, at_) => run long (b.drop at_) []

theorem headGo_at {i : Nat} : ∀ {b : Bs} {long l a : Nat}, headGo b i long = some (l, a) → i < a ∧ a ≤ i + b.length ∧ l ≤ 4294967295 := by
  intro b
  induction b generalizing i with
  | nil => intro long l a h; cases h
  | cons x r ih =>
    intro long l a h
    simp only [headGo] at h
    split at h
    · cases h
    · split at h
      · split at h
        · simp only [Option.some.injEq, Prod.mk.injEq] at h
          obtain ⟨rfl, rfl⟩ := h
          simp only [List.length_cons]
          omega
        · cases h
      · have := ih h
        simp only [List.length_cons]
        omega

theorem pow_scale (i : Nat) : (2 : Nat) ^ (7 * i) = 128 ^ i := by
  rw [Nat.pow_mul]

/-- From the sixth byte on a plain length is too large, or none. -/
theorem uv_far : ∀ (b : Bs) (i acc : Nat), 5 ≤ i → plainGo b i = true → (Lib.uvarintFrom i acc b).2 ≤ 0 ∨ 4294967295 < (Lib.uvarintFrom i acc b).1 := by
  intro b
  induction b with
  | nil => intro i acc _ _; left; simp [Lib.uvarintFrom]
  | cons x r ih =>
    intro i acc hi hp
    simp only [plainGo] at hp
    simp only [Lib.uvarintFrom]
    by_cases h10 : i = 10
    · rw [if_pos h10]; left; dsimp only; omega
    · rw [if_neg h10]
      by_cases hx : x.toNat < 128
      · rw [if_pos hx] at hp ⊢
        by_cases h9 : i = 9 ∧ 1 < x.toNat
        · rw [if_pos h9]; left; dsimp only; omega
        · rw [if_neg h9]
          right
          have h0 : 0 < x.toNat := by
            have := of_decide_eq_true hp
            omega
          have hpow : (2 : Nat) ^ 35 ≤ 2 ^ (7 * i) := Nat.pow_le_pow_right (by decide) (by omega)
          have h1 : 1 * 2 ^ (7 * i) ≤ x.toNat * 2 ^ (7 * i) := Nat.mul_le_mul_right _ h0
          show 4294967295 < acc + x.toNat * 2 ^ (7 * i)
          have h35 : (2 : Nat) ^ 35 = 34359738368 := by decide
          generalize 2 ^ (7 * i) = P at *
          generalize x.toNat * P = Q at *
          omega
      · rw [if_neg hx] at hp ⊢
        exact ih (i + 1) _ (by omega) hp

theorem uv_headGo : ∀ (b : Bs) (i acc : Nat), i ≤ 5 → plainGo b i = true →
    (if (Lib.uvarintFrom i acc b).2 ≤ 0 ∨ 4294967295 < (Lib.uvarintFrom i acc b).1 then none else some ((Lib.uvarintFrom i acc b).1, (Lib.uvarintFrom i acc b).2.toNat)) = headGo b i acc := by
  intro b
  induction b with
  | nil => intro i acc _ _; simp [Lib.uvarintFrom, headGo]
  | cons x r ih =>
    intro i acc hi hp
    by_cases h5 : i = 5
    · subst h5
      rw [if_pos (uv_far (x :: r) 5 acc (Nat.le_refl _) hp)]
      simp [headGo]
    · simp only [plainGo] at hp
      simp only [Lib.uvarintFrom, headGo]
      rw [if_neg h5]
      by_cases hx : x.toNat < 128
      · have hi10 : ¬ i = 10 := by omega
        have hi9 : ¬ (i = 9 ∧ 1 < x.toNat) := by omega
        simp only [hx, if_true, hi10, hi9, if_false]
        rw [pow_scale, Nat.mod_eq_of_lt hx]
        by_cases hle : acc + x.toNat * 128 ^ i ≤ 4294967295
        · rw [if_neg (by omega), if_pos hle]
          congr 2
        · rw [if_pos (by right; omega), if_neg hle]
      · have hi10 : ¬ i = 10 := by omega
        rw [if_neg hx] at hp
        simp only [hx, if_false, hi10]
        rw [pow_scale]
        exact ih (i + 1) _ (by omega) hp

/-- At a plain length the package and the description read the same. -/
theorem uvHead_eq (b : Bs) (hp : plain b = true) : uvHead b = head b := uv_headGo b 0 0 (by omega) hp

theorem decG_eq (b : Bs) (hp : plain b = true) : decG b = dec b := by
  unfold decG dec
  rw [uvHead_eq b hp]

/-! ### The varint of a length -/

def varF : Nat → Nat → Bs
  | 0, n => [UInt8.ofNat n]
  | k + 1, n => if n < 128 then [UInt8.ofNat n] else UInt8.ofNat (n % 128 + 128) :: varF k (n / 128)

/-- A length as the head of a block tells it. -/
def varL (n : Nat) : Bs := varF n n

theorem varF_enough : ∀ (k j n : Nat), n ≤ k → n ≤ j → varF k n = varF j n := by
  intro k
  induction k with
  | zero =>
    intro j n hk _
    obtain rfl : n = 0 := by omega
    cases j <;> simp [varF]
  | succ k ih =>
    intro j n hk hj
    cases j with
    | zero =>
      obtain rfl : n = 0 := by omega
      simp [varF]
    | succ j =>
      simp only [varF]
      by_cases h : n < 128
      · rw [if_pos h, if_pos h]
      · rw [if_neg h, if_neg h, ih j (n / 128) (by omega) (by omega)]

theorem varL_small {n : Nat} (h : n < 128) : varL n = [UInt8.ofNat n] := by
  unfold varL
  cases n with
  | zero => rfl
  | succ n => simp [varF, h]

theorem varL_large {n : Nat} (h : 128 ≤ n) : varL n = UInt8.ofNat (n % 128 + 128) :: varL (n / 128) := by
  unfold varL
  cases n with
  | zero => omega
  | succ m =>
    simp only [varF]
    rw [if_neg (by omega), varF_enough m ((m + 1) / 128) ((m + 1) / 128) (by omega) (Nat.le_refl _)]

theorem varL_ne (n : Nat) : varL n ≠ [] := by
  by_cases h : n < 128
  · rw [varL_small h]; simp
  · rw [varL_large (by omega)]; simp

theorem headGo_varL (rest : Bs) : ∀ (k n i acc : Nat), n ≤ k → i ≤ 4 → n < 128 ^ (5 - i) → acc + n * 128 ^ i ≤ 4294967295 →
    headGo (varL n ++ rest) i acc = some (acc + n * 128 ^ i, i + (varL n).length) := by
  intro k
  induction k with
  | zero =>
    intro n i acc hk hi hn hle
    obtain rfl : n = 0 := by omega
    rw [varL_small (by decide)]
    have e : (UInt8.ofNat 0).toNat = 0 := by decide
    simp only [List.cons_append, List.nil_append, headGo, e, List.length_cons, List.length_nil]
    rw [if_neg (by omega), if_pos (by decide), if_pos (by simpa using hle)]
  | succ k ih =>
    intro n i acc hk hi hn hle
    by_cases h : n < 128
    · rw [varL_small h]
      have e : (UInt8.ofNat n).toNat = n := toNat_ofNat (by omega)
      simp only [List.cons_append, List.nil_append, headGo, e, List.length_cons, List.length_nil]
      rw [if_neg (by omega), if_pos h, Nat.mod_eq_of_lt h, if_pos hle]
    · rw [varL_large (by omega)]
      have e : (UInt8.ofNat (n % 128 + 128)).toNat = n % 128 + 128 := toNat_ofNat (by omega)
      have em : (n % 128 + 128) % 128 = n % 128 := by omega
      simp only [List.cons_append, headGo, e, em, List.length_cons]
      rw [if_neg (by omega), if_neg (by omega)]
      have hi4 : i ≠ 4 := by
        rintro rfl
        simp at hn
        omega
      have hsplit : n % 128 * 128 ^ i + n / 128 * 128 ^ (i + 1) = n * 128 ^ i := by
        rw [Nat.pow_succ, ← Nat.mul_assoc, Nat.mul_right_comm, ← Nat.add_mul]
        congr 1
        omega
      have hn' : n / 128 < 128 ^ (5 - (i + 1)) := by
        rw [Nat.div_lt_iff_lt_mul (by decide), ← Nat.pow_succ]
        have : (5 - (i + 1)).succ = 5 - i := by omega
        rw [this]
        exact hn
      rw [ih (n / 128) (i + 1) (acc + n % 128 * 128 ^ i) (by omega) (by omega) hn' (by omega)]
      congr 2
      · omega
      · omega

theorem head_varL (n : Nat) (rest : Bs) (h : n ≤ 4294967295) : head (varL n ++ rest) = some (n, (varL n).length) := by
  have := headGo_varL rest n n 0 0 (Nat.le_refl _) (by omega) (by simp; omega) (by simpa using h)
  unfold head
  rw [this]
  simp

theorem headGo_cut : ∀ (k n i acc j : Nat), n ≤ k → j < (varL n).length → headGo ((varL n).take j) i acc = none := by
  intro k
  induction k with
  | zero =>
    intro n i acc j hk hj
    obtain rfl : n = 0 := by omega
    rw [varL_small (by decide)] at hj ⊢
    obtain rfl : j = 0 := by simp at hj; omega
    rfl
  | succ k ih =>
    intro n i acc j hk hj
    by_cases h : n < 128
    · rw [varL_small h] at hj ⊢
      obtain rfl : j = 0 := by simp at hj; omega
      rfl
    · rw [varL_large (by omega)] at hj ⊢
      cases j with
      | zero => rfl
      | succ j =>
        have e : (UInt8.ofNat (n % 128 + 128)).toNat = n % 128 + 128 := toNat_ofNat (by omega)
        simp only [List.take_succ_cons, headGo, e]
        split
        · rfl
        · rw [if_neg (by omega)]
          exact ih (n / 128) _ _ j (by omega) (by simpa using hj)

theorem head_cut (n j : Nat) (h : j < (varL n).length) : head ((varL n).take j) = none := headGo_cut n n 0 0 j (Nat.le_refl _) h

theorem plainGo_varL (rest : Bs) : ∀ (k n i : Nat), n ≤ k → (0 < n ∨ i = 0) → plainGo (varL n ++ rest) i = true := by
  intro k
  induction k with
  | zero =>
    intro n i hk h
    obtain rfl : n = 0 := by omega
    rw [varL_small (by decide)]
    have e : (UInt8.ofNat 0).toNat = 0 := by decide
    simp only [List.cons_append, plainGo, e]
    rw [if_pos (by decide)]
    simpa using h
  | succ k ih =>
    intro n i hk h0
    by_cases h : n < 128
    · rw [varL_small h]
      have e : (UInt8.ofNat n).toNat = n := toNat_ofNat (by omega)
      simp only [List.cons_append, plainGo, e, h, if_true]
      simpa using h0
    · rw [varL_large (by omega)]
      have e : (UInt8.ofNat (n % 128 + 128)).toNat = n % 128 + 128 := toNat_ofNat (by omega)
      simp only [List.cons_append, plainGo, e]
      rw [if_neg (by omega)]
      exact ih (n / 128) (i + 1) (by omega) (by left; omega)

theorem plain_varL (n : Nat) (rest : Bs) : plain (varL n ++ rest) = true := plainGo_varL rest n n 0 (Nat.le_refl _) (by right; rfl)

theorem plainGo_cut : ∀ (k n i j : Nat), n ≤ k → j < (varL n).length → plainGo ((varL n).take j) i = true := by
  intro k
  induction k with
  | zero =>
    intro n i j hk hj
    obtain rfl : n = 0 := by omega
    rw [varL_small (by decide)] at hj ⊢
    obtain rfl : j = 0 := by simp at hj; omega
    rfl
  | succ k ih =>
    intro n i j hk hj
    by_cases h : n < 128
    · rw [varL_small h] at hj ⊢
      obtain rfl : j = 0 := by simp at hj; omega
      rfl
    · rw [varL_large (by omega)] at hj ⊢
      cases j with
      | zero => rfl
      | succ j =>
        have e : (UInt8.ofNat (n % 128 + 128)).toNat = n % 128 + 128 := toNat_ofNat (by omega)
        simp only [List.take_succ_cons, plainGo, e]
        rw [if_neg (by omega)]
        exact ih (n / 128) _ j (by omega) (by simpa using hj)

/-! ### Blocks whose elements form a row -/

theorem dec_varL (n : Nat) (body : Bs) (h : n ≤ 4294967295) : dec (varL n ++ body) = run n body [] := by
  unfold dec
  rw [head_varL n body h]
  simp only
  rw [List.drop_left]

theorem decG_varL (n : Nat) (body : Bs) (h : n ≤ 4294967295) : decG (varL n ++ body) = run n body [] := by
  rw [decG_eq _ (plain_varL n body), dec_varL n body h]

theorem decG_chain {body text : Bs} (h : Chain [] body text) (hn : text.length ≤ 4294967295) : decG (varL text.length ++ body) = some text := by
  rw [decG_varL _ _ hn, h.run_eq]

theorem dec_chain {body text : Bs} (h : Chain [] body text) (hn : text.length ≤ 4294967295) : dec (varL text.length ++ body) = some text := by
  rw [dec_varL _ _ hn, h.run_eq]

/-- A block of any elements, bytes lacking at its end. -/
theorem decG_cut {body text : Bs} (h : Chain [] body text) (hn : text.length ≤ 4294967295) (k : Nat) (hk : k < (varL text.length ++ body).length) :
    decG ((varL text.length ++ body).take k) = none := by
  by_cases hv : k < (varL text.length).length
  · rw [List.take_append_of_le_length (by omega), decG_eq _ (plainGo_cut _ _ 0 k (Nat.le_refl _) hv)]
    unfold dec
    rw [head_cut _ _ hv]
  · have e : (varL text.length ++ body).take k = varL text.length ++ body.take (k - (varL text.length).length) := by
      rw [List.take_append, List.take_of_length_le (by omega)]
    rw [e, decG_varL _ _ hn]
    rw [List.length_append] at hk
    exact h.run_cut _ (by omega)

end Snap
end Go.Proofs.YtoihiaenlonncaaDoor

/-
  Plain lists of bytes: the elements that a writer lays down, each in the form that the description of the format gives; the length at the front. No program, no world.
-/
import Derived.Test.YtoihiaenlonncaaDoorPlain
namespace Go.Proofs.YtoihiaenlonncaaDoor
namespace Snap

/-- The m low bytes of a number, the low ones first. -/
def leB : Nat → Nat → Bs
  | 0, _ => []
  | m + 1, n => UInt8.ofNat (n % 256) :: leB m (n / 256)

theorem leB_length (m n : Nat) : (leB m n).length = m := by
  induction m generalizing n with
  | zero => rfl
  | succ m ih => simp [leB, ih]

theorem toNat_ofNat {n : Nat} (h : n < 256) : (UInt8.ofNat n).toNat = n := by
  rw [UInt8.toNat_ofNat']
  exact Nat.mod_eq_of_lt h

theorem leN_leB (m n : Nat) (h : n < 256 ^ m) : leN (leB m n) = n := by
  induction m generalizing n with
  | zero => simp only [Nat.pow_zero] at h; simp [leB, leN]; omega
  | succ m ih =>
    rw [Nat.pow_succ] at h
    simp only [leB, leN]
    rw [toNat_ofNat (Nat.mod_lt _ (by decide)), ih _ (by omega)]
    omega

theorem little_append (m n : Nat) (rest : Bs) (h : n < 256 ^ m) : little (leB m n ++ rest) m = some n := by
  unfold little
  rw [if_neg (by rw [List.length_append, leB_length]; omega), List.take_append_of_le_length (by rw [leB_length]; exact Nat.le_refl _),
    List.take_of_length_le (by rw [leB_length]; exact Nat.le_refl _), leN_leB m n h]

theorem little_short (b : Bs) (m : Nat) (h : b.length < m) : little b m = none := by
  unfold little
  rw [if_pos h]

/-! ### Literals -/

theorem item_lit_short (n : Nat) (rest : Bs) (h : n < 60) : item (UInt8.ofNat (n * 4) :: rest) = some ⟨false, n + 1, 0, 1⟩ := by
  have e : (UInt8.ofNat (n * 4)).toNat = n * 4 := toNat_ofNat (by omega)
  have e1 : n * 4 % 4 = 0 := by omega
  have e2 : n * 4 / 4 = n := by omega
  simp only [item, e, e1, e2, h, if_true]

theorem item_lit_long (m : Nat) (rest : Bs) (h1 : 1 ≤ m) (h4 : m ≤ 4) : item (UInt8.ofNat ((59 + m) * 4) :: rest) = (little rest m).map fun n => ⟨false, n + 1, 0, m + 1⟩ := by
  have e : (UInt8.ofNat ((59 + m) * 4)).toNat = (59 + m) * 4 := toNat_ofNat (by omega)
  have e1 : (59 + m) * 4 % 4 = 0 := by omega
  have e2 : (59 + m) * 4 / 4 = 59 + m := by omega
  have e3 : ¬ 59 + m < 60 := by omega
  have e4 : 59 + m - 59 = m := by omega
  have e5 : 59 + m - 58 = m + 1 := by omega
  simp only [item, e, e1, e2, e3, e4, e5, if_true, if_false]

theorem elem_lit_short (out text : Bs) (n : Nat) (hn : text.length = n + 1) (h : n < 60) : Elem out (UInt8.ofNat (n * 4) :: text) (out ++ text) := by
  refine ⟨by simp; omega, fun long rest => ?_, fun long k hk hlt => ?_, by simp⟩
  · unfold step
    rw [List.cons_append, item_lit_short n _ h]
    simp only [List.length_append, List.length_cons, hn, Bool.false_eq_true, if_false]
    by_cases hl : out.length + (n + 1) ≤ long
    · rw [if_neg (by omega), if_neg (by omega), if_pos hl]
      have e1 : (UInt8.ofNat (n * 4) :: (text ++ rest)).drop (1 + (n + 1)) = rest := by
        rw [Nat.add_comm, List.drop_succ_cons, ← hn, List.drop_left]
      have e2 : ((UInt8.ofNat (n * 4) :: (text ++ rest)).drop 1).take (n + 1) = text := by
        rw [List.drop_succ_cons, List.drop_zero, ← hn, List.take_left]
      rw [e1, e2]
    · rw [if_pos (by omega), if_neg hl]
  · obtain ⟨k, rfl⟩ : ∃ j, k = j + 1 := ⟨k - 1, by omega⟩
    simp only [List.length_cons, hn] at hlt
    unfold step
    rw [List.take_succ_cons, item_lit_short n _ h]
    simp only [List.length_cons, List.length_take, hn, Bool.false_eq_true, if_false]
    rw [if_pos (show min k (n + 1) + 1 < 1 + (n + 1) by omega)]
    simp

theorem elem_lit_long (out text : Bs) (n m : Nat) (hn : text.length = n + 1) (h1 : 1 ≤ m) (h4 : m ≤ 4) (h : n < 256 ^ m) :
    Elem out (UInt8.ofNat ((59 + m) * 4) :: (leB m n ++ text)) (out ++ text) := by
  have hlen := leB_length m n
  refine ⟨by simp; omega, fun long rest => ?_, fun long k hk hlt => ?_, by simp⟩
  · unfold step
    rw [List.cons_append, List.append_assoc, item_lit_long m _ h1 h4, little_append m n _ h]
    simp only [Option.map_some, List.length_append, List.length_cons, hn, Bool.false_eq_true, if_false, hlen]
    by_cases hl : out.length + (n + 1) ≤ long
    · rw [if_neg (by omega), if_neg (by omega), if_pos hl]
      have e0 : (UInt8.ofNat ((59 + m) * 4) :: (leB m n ++ (text ++ rest))).drop (m + 1) = text ++ rest := by
        rw [List.drop_succ_cons]
        exact List.drop_left' hlen
      have e1 : (UInt8.ofNat ((59 + m) * 4) :: (leB m n ++ (text ++ rest))).drop (m + 1 + (n + 1)) = rest := by
        rw [← List.drop_drop, e0]
        exact List.drop_left' hn
      rw [e1, e0, List.take_left' hn]
    · rw [if_pos (by omega), if_neg hl]
  · obtain ⟨k, rfl⟩ : ∃ j, k = j + 1 := ⟨k - 1, by omega⟩
    simp only [List.length_cons, List.length_append, hn, hlen] at hlt
    unfold step
    rw [List.take_succ_cons, item_lit_long m _ h1 h4]
    by_cases hkm : k < m
    · rw [little_short _ _ (by rw [List.length_take, List.length_append, hlen]; omega)]
      rfl
    · have e : (leB m n ++ text).take k = leB m n ++ text.take (k - m) := by
        rw [List.take_append, List.take_of_length_le (by omega), hlen]
      rw [e, little_append m n _ h]
      simp only [Option.map_some, List.length_cons, List.length_append, List.length_take, hn, hlen, Bool.false_eq_true, if_false]
      rw [if_pos (show m + min (k - m) (n + 1) + 1 < m + 1 + (n + 1) by omega)]
      simp

/-- How many bytes tell the length of a literal (0: it stands in the tag). -/
def litM (n bytes : Nat) : Nat :=
  if bytes < 1 ∧ n < 60 then 0 else
  let b1 := if bytes < 1 ∨ (256 ≤ n ∧ bytes < 2) then (if 256 ≤ n then 2 else 1) else bytes
  let b2 := if 65536 ≤ n ∧ b1 < 3 then 3 else b1
  if 16777216 ≤ n ∧ b2 < 4 then 4 else b2

def litL (text : Bs) (bytes : Nat) : Bs :=
  let n := text.length - 1
  let m := litM n bytes
  if m = 0 then UInt8.ofNat (n * 4) :: text else UInt8.ofNat ((59 + m) * 4) :: (leB m n ++ text)

theorem litM_zero {n bytes : Nat} : litM n bytes = 0 ↔ bytes < 1 ∧ n < 60 := by
  unfold litM
  by_cases h : bytes < 1 ∧ n < 60
  · simp [h]
  · simp only [h, if_false, iff_false]
    repeat' split
    all_goals omega

theorem litM_le {n bytes : Nat} (hb : bytes ≤ 4) : litM n bytes ≤ 4 := by
  unfold litM
  dsimp only
  repeat' split
  all_goals omega

theorem litM_room {n bytes : Nat} (hb : bytes ≤ 4) (hn : n < 4294967296) (h : litM n bytes ≠ 0) : n < 256 ^ litM n bytes := by
  have hz : ¬ (bytes < 1 ∧ n < 60) := fun hh => h (litM_zero.2 hh)
  have key : ∀ m, litM n bytes = m → m ≠ 0 → n < 256 ^ m := by
    intro m hm h0
    have hle := litM_le (n := n) hb
    rw [hm] at hle
    unfold litM at hm
    rw [if_neg hz] at hm
    dsimp only at hm
    have hmm : m = 1 ∨ m = 2 ∨ m = 3 ∨ m = 4 := by omega
    rcases hmm with rfl | rfl | rfl | rfl
    · show n < 256
      repeat' split at hm
      all_goals omega
    · show n < 65536
      repeat' split at hm
      all_goals omega
    · show n < 16777216
      repeat' split at hm
      all_goals omega
    · show n < 4294967296
      exact hn
  exact key _ rfl h

theorem elem_lit (out text : Bs) (bytes : Nat) (hne : 0 < text.length) (hn : text.length ≤ 4294967296) (hb : bytes ≤ 4) : Elem out (litL text bytes) (out ++ text) := by
  unfold litL
  dsimp only
  by_cases h : litM (text.length - 1) bytes = 0
  · rw [if_pos h]
    exact elem_lit_short out text _ (by omega) (litM_zero.1 h).2
  · rw [if_neg h]
    exact elem_lit_long out text _ _ (by omega) (by omega) (litM_le hb) (litM_room hb (by omega) h)

/-! ### Copies -/

theorem elem_copy_of {out e : Bs} {n far : Nat} (hw : ∀ rest, item (e ++ rest) = some ⟨true, n, far, e.length⟩) (hc : ∀ k, k < e.length → item (e.take k) = none)
    (hne : e ≠ []) (hn : 1 ≤ n) (h1 : 1 ≤ far) (h2 : far ≤ out.length) : Elem out e (copyOut out far n) := by
  refine ⟨by rw [copyOut_length]; omega, fun long rest => ?_, fun long k hk hlt => ?_, hne⟩
  · unfold step
    rw [hw]
    simp only [copyOut_length, if_true]
    by_cases hl : out.length + n ≤ long
    · rw [if_neg (by omega), if_neg (by omega), if_pos hl, List.drop_left]
    · rw [if_pos (by omega), if_neg hl]
  · unfold step
    rw [hc k hlt]

/-- A copy that may not stand there. -/
theorem step_bad_copy {out e : Bs} {n far : Nat} (long : Nat) (hw : ∀ rest, item (e ++ rest) = some ⟨true, n, far, e.length⟩) (h : far = 0 ∨ out.length < far) : step long e out = none := by
  have h1 := hw []
  rw [List.append_nil] at h1
  unfold step
  rw [h1]
  simp only [if_true]
  split
  · rfl
  · first | rfl | rw [if_pos h]

def copyL (form n far : Nat) : Bs :=
  if form = 1 then [UInt8.ofNat (1 + (n - 4) * 4 + far / 256 * 32), UInt8.ofNat (far % 256)]
  else UInt8.ofNat (form + (n - 1) * 4) :: leB (2 * form - 2) far

def fitsL (form n far : Nat) : Bool :=
  if form = 1 then decide (4 ≤ n ∧ n ≤ 11 ∧ far < 2048)
  else if form = 2 then decide (1 ≤ n ∧ n ≤ 64 ∧ far < 65536)
  else if form = 3 then decide (1 ≤ n ∧ n ≤ 64 ∧ far ≤ 4294967295)
  else false

theorem copyL_ne (form n far : Nat) : copyL form n far ≠ [] := by
  unfold copyL
  split <;> simp

theorem item_copyL {form n far : Nat} (h : fitsL form n far = true) :
    (∀ rest, item (copyL form n far ++ rest) = some ⟨true, n, far, (copyL form n far).length⟩) ∧ ∀ k, k < (copyL form n far).length → item ((copyL form n far).take k) = none := by
  unfold fitsL at h
  by_cases h1 : form = 1
  · subst h1
    simp only [if_true, decide_eq_true_eq] at h
    obtain ⟨ha, hb, hc⟩ := h
    have e : (UInt8.ofNat (1 + (n - 4) * 4 + far / 256 * 32)).toNat = 1 + (n - 4) * 4 + far / 256 * 32 := toNat_ofNat (by omega)
    have e1 : (1 + (n - 4) * 4 + far / 256 * 32) % 4 = 1 := by omega
    have e2 : (1 + (n - 4) * 4 + far / 256 * 32) / 4 % 8 + 4 = n := by omega
    have e3 : (1 + (n - 4) * 4 + far / 256 * 32) / 4 / 8 * 256 + far % 256 = far := by omega
    have el : ∀ rest : Bs, little (UInt8.ofNat (far % 256) :: rest) 1 = some (far % 256) := by
      intro rest
      have h3 := little_append 1 (far % 256) rest (by simp; omega)
      simpa [leB] using h3
    refine ⟨fun rest => ?_, fun k hk => ?_⟩
    · simp only [copyL, if_true, List.cons_append, List.nil_append, item, e, e1, Nat.one_ne_zero, if_false, el, Option.map_some, e2, e3, List.length_cons, List.length_nil]
    · simp only [copyL, if_true, List.length_cons, List.length_nil] at hk ⊢
      have hk' : k = 0 ∨ k = 1 := by omega
      rcases hk' with rfl | rfl
      · rfl
      · simp only [List.take_succ_cons, List.take_zero, item, e, e1, Nat.one_ne_zero, if_false, if_true]
        rw [little_short _ _ (by simp)]
        rfl
  · rw [if_neg h1] at h
    by_cases h2 : form = 2
    · subst h2
      simp only [if_true, decide_eq_true_eq] at h
      obtain ⟨ha, hb, hc⟩ := h
      have e : (UInt8.ofNat (2 + (n - 1) * 4)).toNat = 2 + (n - 1) * 4 := toNat_ofNat (by omega)
      have e2 : (2 + (n - 1) * 4) % 4 = 2 := by omega
      have e3 : (2 + (n - 1) * 4) / 4 + 1 = n := by omega
      have hlen := leB_length 2 far
      refine ⟨fun rest => ?_, fun k hk => ?_⟩
      · simp only [copyL, h1, if_false, List.cons_append, item, e, e2, Nat.reduceEqDiff, if_true, Nat.reduceMul, Nat.reduceSub, little_append 2 far rest (by simpa using hc), Option.map_some, e3, List.length_cons, hlen]
      · simp only [copyL, h1, if_false, List.length_cons, Nat.reduceMul, Nat.reduceSub, hlen] at hk ⊢
        cases k with
        | zero => rfl
        | succ k =>
          simp only [List.take_succ_cons, item, e, e2, Nat.reduceEqDiff, if_false, if_true]
          rw [little_short _ _ (by rw [List.length_take, hlen]; omega)]
          rfl
    · rw [if_neg h2] at h
      by_cases h3 : form = 3
      · subst h3
        simp only [if_true, decide_eq_true_eq] at h
        obtain ⟨ha, hb, hc⟩ := h
        have e : (UInt8.ofNat (3 + (n - 1) * 4)).toNat = 3 + (n - 1) * 4 := toNat_ofNat (by omega)
        have e0 : ¬ (3 + (n - 1) * 4) % 4 = 0 := by omega
        have e1 : ¬ (3 + (n - 1) * 4) % 4 = 1 := by omega
        have e2 : ¬ (3 + (n - 1) * 4) % 4 = 2 := by omega
        have e3 : (3 + (n - 1) * 4) / 4 + 1 = n := by omega
        have hlen := leB_length 4 far
        refine ⟨fun rest => ?_, fun k hk => ?_⟩
        · simp only [copyL, h1, if_false, List.cons_append, item, e, e0, e1, e2, Nat.reduceMul, Nat.reduceSub, little_append 4 far rest (by simp; omega), Option.map_some, e3, List.length_cons, hlen]
        · simp only [copyL, h1, if_false, List.length_cons, Nat.reduceMul, Nat.reduceSub, hlen] at hk ⊢
          cases k with
          | zero => rfl
          | succ k =>
            simp only [List.take_succ_cons, item, e, e0, e1, e2, if_false]
            rw [little_short _ _ (by rw [List.length_take, hlen]; omega)]
            rfl
      · rw [if_neg h3] at h
        cases h

theorem fitsL_n {form n far : Nat} (h : fitsL form n far = true) : 1 ≤ n := by
  unfold fitsL at h
  repeat' split at h
  all_goals simp at h
  all_goals omega

theorem elem_copy {out : Bs} {form n far : Nat} (h : fitsL form n far = true) (h1 : 1 ≤ far) (h2 : far ≤ out.length) : Elem out (copyL form n far) (copyOut out far n) := by
  obtain ⟨hw, hc⟩ := item_copyL h
  exact elem_copy_of hw hc (copyL_ne _ _ _) (fitsL_n h) h1 h2

/-- Where each byte behind 'out' is the one that stands 'far' ahead of it, a copy says the text on. -/
theorem copyOut_take (T : Bs) (far : Nat) (h1 : 1 ≤ far) : ∀ (n at_ : Nat), far ≤ at_ → at_ + n ≤ T.length → (∀ k, k < n → T.getD (at_ + k) 0 = T.getD (at_ + k - far) 0) →
    copyOut (T.take at_) far n = T.take (at_ + n) := by
  intro n
  induction n with
  | zero => intro at_ _ _ _; simp [copyOut]
  | succ n ih =>
    intro at_ hf hl hk
    have hlen : (T.take at_).length = at_ := by rw [List.length_take]; omega
    have h0 := hk 0 (by omega)
    have hb : (T.take at_).getD (at_ - far) 0 = T.getD at_ 0 := by
      simp only [Nat.add_zero] at h0
      rw [h0]
      simp only [List.getD_eq_getElem?_getD]
      rw [List.getElem?_take_of_lt (by omega)]
    have e : T.take at_ ++ [T.getD at_ 0] = T.take (at_ + 1) := by
      rw [List.take_succ_eq_append_getElem (by omega)]
      congr 2
      rw [List.getD_eq_getElem?_getD, List.getElem?_eq_getElem (by omega)]
      rfl
    simp only [copyOut]
    rw [hlen, hb, e, ih (at_ + 1) (by omega) (by omega) (fun k hk' => by have := hk (k + 1) (by omega); rw [show at_ + 1 + k = at_ + (k + 1) by omega]; exact this)]
    congr 1
    omega

theorem copyOut_add (far a b : Nat) : ∀ out : Bs, copyOut (copyOut out far a) far b = copyOut out far (a + b) := by
  induction a with
  | zero => intro out; simp [copyOut]
  | succ a ih => intro out; rw [Nat.add_right_comm]; simp only [copyOut]; exact ih _

/-- What stands so far ahead, said once: where the offset is no smaller than the length. -/
theorem copyOut_far (out : Bs) (far n : Nat) (h2 : far ≤ out.length) (hn : n ≤ far) : copyOut out far n = out ++ (out.drop (out.length - far)).take n := by
  by_cases h1 : far = 0
  · subst h1
    obtain rfl : n = 0 := by omega
    simp [copyOut]
  · have hT : (out ++ (out.drop (out.length - far)).take n).take out.length = out := List.take_left
    have h := copyOut_take (out ++ (out.drop (out.length - far)).take n) far (by omega) n out.length h2 (by simp; omega) ?_
    · rw [hT] at h
      rw [h, List.take_of_length_le (by simp; omega)]
    · intro k hk
      simp only [List.getD_eq_getElem?_getD]
      rw [List.getElem?_append_right (by omega), List.getElem?_append_left (by omega), List.getElem?_take_of_lt (by omega), List.getElem?_drop]
      congr 2
      omega

/-! ### A text over and over -/

def again (text : Bs) (long : Nat) : Bs := (List.range long).map fun i => text.getD (i % text.length) 0

theorem again_length (text : Bs) (long : Nat) : (again text long).length = long := by simp [again]

theorem again_getD (text : Bs) (long i : Nat) (h : i < long) : (again text long).getD i 0 = text.getD (i % text.length) 0 := by
  simp [again, List.getD_eq_getElem?_getD, h]

theorem again_self (text : Bs) : again text text.length = text := by
  apply List.ext_getElem
  · exact again_length _ _
  · intro i h1 h2
    simp [again, List.getD_eq_getElem?_getD, Nat.mod_eq_of_lt h2, List.getElem?_eq_getElem h2]

theorem again_take (text : Bs) (a b : Nat) (h : a ≤ b) : (again text b).take a = again text a := by
  unfold again
  rw [← List.map_take, List.take_range, Nat.min_eq_left h]

theorem copyOut_again (text : Bs) (L n : Nat) (h0 : 0 < text.length) (hL : text.length ≤ L) : copyOut (again text L) text.length n = again text (L + n) := by
  have h := copyOut_take (again text (L + n)) text.length h0 n L hL (by rw [again_length]; omega) (fun k hk => by
    rw [again_getD _ _ _ (by omega), again_getD _ _ _ (by omega)]
    congr 1
    have e : L + k = L + k - text.length + text.length := by omega
    rw [e, Nat.add_mod_right, Nat.add_sub_cancel])
  rw [again_take _ _ _ (by omega)] at h
  rw [h, List.take_of_length_le (by rw [again_length]; omega)]

theorem copyOut_tail (text : Bs) (far n : Nat) (h1 : 1 ≤ far) (h2 : far ≤ text.length) : copyOut text far n = text ++ again (text.drop (text.length - far)) n := by
  have hs : (text.drop (text.length - far)).length = far := by rw [List.length_drop]; omega
  have hT : (text ++ again (text.drop (text.length - far)) n).take text.length = text := List.take_left
  have h := copyOut_take (text ++ again (text.drop (text.length - far)) n) far h1 n text.length h2 (by rw [List.length_append, again_length]; omega) ?_
  · rw [hT] at h
    rw [h, List.take_of_length_le (by rw [List.length_append, again_length]; omega)]
  · intro k hk
    have ea : (text ++ again (text.drop (text.length - far)) n).getD (text.length + k) 0 = (text.drop (text.length - far)).getD (k % far) 0 := by
      have := again_getD (text.drop (text.length - far)) n k hk
      rw [hs] at this
      rw [← this]
      simp only [List.getD_eq_getElem?_getD]
      rw [List.getElem?_append_right (by omega), Nat.add_sub_cancel_left]
    rw [ea]
    by_cases hkf : k < far
    · rw [Nat.mod_eq_of_lt hkf]
      simp only [List.getD_eq_getElem?_getD]
      rw [List.getElem?_append_left (by omega), List.getElem?_drop]
      congr 2
      omega
    · have := again_getD (text.drop (text.length - far)) n (k - far) (by omega)
      rw [hs] at this
      have e : (k - far) % far = k % far := by
        conv => rhs; rw [show k = k - far + far by omega]
        rw [Nat.add_mod_right]
      rw [e] at this
      rw [← this]
      simp only [List.getD_eq_getElem?_getD]
      rw [List.getElem?_append_right (by omega)]
      congr 2
      omega

end Snap
end Go.Proofs.YtoihiaenlonncaaDoor

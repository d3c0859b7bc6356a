/-
  spec.Read, whole.
-/
import Derived.Test.YtoihiaenlonncaaDoorRead4E
import Derived.Test.YtoihiaenlonncaaDoorSteps
namespace Go.Proofs.YtoihiaenlonncaaDoor
open Go.RowKit
set_option linter.unusedVariables false
namespace Snap

theorem Own.rd {w : World} {base n c : Nat} {A : Option Addr} {xs : Bs} (h : Own w base (.slice A n c) xs) : Rd w w.heap.size A n xs ∧ n ≤ c := by
  obtain ⟨A', c', he, hc, _, hr, _⟩ := h.form
  injection he with h1 h2 h3
  subst h1
  subst h3
  rw [← h2] at hr hc
  exact ⟨hr, hc⟩

set_option maxRecDepth 100000 in
set_option maxHeartbeats 1000000 in
theorem rn_end (A : Option Addr) (nb c long at_ g o k cv n far i : Nat) (wr : World) (Q : Exit → Act → World → Prop) (a : Act) (hfr : RNr A nb c long at_ g o k cv n far i a) (hi : i = n)
    (h : ∀ a, RNr A nb c long at_ g o k cv n far n a → Q (.exit 2) a wr) : Code.wp Tryd.prog rdNear Q a wr := by
  subst hi
  obtain ⟨f, rfl⟩ := hfr.open_
  conv => arg 2; whnf
  go_wp2
  exact ⟨rfl, rfl, rfl, rfl, rfl, rfl, rfl, rfl, rfl⟩

set_option maxRecDepth 100000 in
set_option maxHeartbeats 1000000 in
theorem rn_step (A : Option Addr) (nb c long at_ g o j cv n far i base : Nat) (w0 wr : World) (out : Bs) (Q : Exit → Act → World → Prop) (a : Act) (hfr : RNr A nb c long at_ g o (j + far) cv n far i a) (hi : i < n) (hn : n ≤ 4294967296) (h1 : 1 ≤ far) (hk : out.length = j + far) (hkl : j + far ≤ 4294967296)
    (hB : base ≤ wr.heap.size) (hown : Own wr base (.slice (some ⟨g, o, none⟩) (j + far) cv) out) (hbel : Below base w0 wr)
    (h : ∀ a w g' o' cv', RNr A nb c long at_ g' o' (j + far + 1) cv' n far (i + 1) a → Own w base (.slice (some ⟨g', o', none⟩) (j + far + 1) cv') (out ++ [out.getD j 0]) → Below base w0 w → Q .normal a w) : Code.wp Tryd.prog rdNear Q a wr := by
  obtain ⟨f, rfl⟩ := hfr.open_
  have hr := hown.rd.1
  have g1 := hr.cellAt rfl (k := j) (by omega)
  have HR := hide hr
  have HK := hide hk
  have HO := hide hown
  have HB := hide hbel
  clear hr hk hown hbel hfr
  generalize out.getD j 0 = y at *
  conv => arg 2; whnf
  go_wp2_with (at_builtin; refine append_own rfl (.tmp 64) (.tmp 72) rfl base w0 (.slice (some ⟨g, o, none⟩) (j + far) cv) out rfl (HO.out.alloc _) (HB.out.alloc hB _) (wr.heap.size + 1) (some ⟨wr.heap.size, 0, none⟩) 1 1 [y] rfl (Rd.one _ _ _ rfl) (by rw [HK.out]; simp; omega) (by simp; omega) ?_; intro v' w1 hown1 hgrow1 hbel1)
  have hlen1 : (out ++ [y]).length = j + far + 1 := by rw [List.length_append, HK.out]; rfl
  obtain ⟨A1, c1, rfl, _, _, _, _⟩ := hown1.form
  rw [hlen1] at hown1 ⊢
  obtain ⟨b1, o1, rfl, _, _⟩ := hown1.rd.1.at_ (by omega)
  have HO1 := hide hown1
  have HB1 := hide hbel1
  clear hown1 hbel1 hgrow1 hlen1
  go_wp2
  exact h _ _ _ _ _ ⟨rfl, rfl, rfl, rfl, rfl, rfl, rfl, rfl, rfl⟩ HO1.out HB1.out

theorem rn_loop (A : Option Addr) (nb c long at_ g o d cv n far base : Nat) (w0 wr : World) (out : Bs) (Q : Exit → Act → World → Prop) (a : Act) (hfr : RNr A nb c long at_ g o d cv n far 0 a) (hd : out.length = d) (hn : d + n ≤ 4294967295) (h1 : 1 ≤ far) (h2 : far ≤ d)
    (hB : base ≤ w0.heap.size) (hown : Own wr base (.slice (some ⟨g, o, none⟩) d cv) out) (hbel : Below base w0 wr)
    (h : ∀ a w g' o' cv', RNr A nb c long at_ g' o' (d + n) cv' n far n a → Own w base (.slice (some ⟨g', o', none⟩) (d + n) cv') (copyOut out far n) → Below base w0 w → Q (.exit 2) a w) : Code.wp Tryd.prog (.loop rdNear) Q a wr := by
  refine wp_loop (fun a w => ∃ i g o cv, i ≤ n ∧ RNr A nb c long at_ g o (d + i) cv n far i a ∧ Own w base (.slice (some ⟨g, o, none⟩) (d + i) cv) (copyOut out far i) ∧ Below base w0 w) (fun a _ => match a.tmps.getD 12 undef with | .int _ k => n - k.toNat | _ => 0)
    ⟨0, g, o, cv, Nat.zero_le _, hfr, hown, hbel⟩ ?_
  rintro a w ⟨i, g, o, cv, hi, hf, ho, hb⟩
  have h12 := hf.s12
  by_cases hin : i = n
  · subst hin
    exact rn_end A nb c long at_ g o (d + i) cv i far i w _ a hf rfl (fun a' h' => h a' w g o cv h' ho hb)
  · have e : d + i = (d - far + i) + far := by omega
    have hl : (copyOut out far i).length = d + i := by rw [copyOut_length, hd]
    have hsz := hb.size
    rw [e] at hf ho hl
    refine rn_step A nb c long at_ g o (d - far + i) cv n far i base w0 w (copyOut out far i) _ a hf (by omega) (by omega) h1 hl (by omega) (by omega) ho hb ?_
    intro a' w' g' o' cv' hf' ho' hb'
    have e' : d - far + i + far + 1 = d + (i + 1) := by omega
    rw [e'] at hf' ho'
    refine ⟨⟨i + 1, g', o', cv', by omega, hf', ?_, hb'⟩, ?_⟩
    · rw [copyOut_succ', hd, show d + i - far = d - far + i from by omega]
      exact ho'
    · rw [hf'.s12, h12]
      show n - (((i + 1 : Nat) : Int)).toNat < n - ((i : Nat) : Int).toNat
      omega

set_option maxRecDepth 100000 in
set_option maxHeartbeats 1000000 in
theorem rd_copy (A : Option Addr) (nb c long at_ : Nat) (Av : Option Addr) (k cv base : Nat) (w0 wr : World) (bs out : Bs) (Q : Exit → Act → World → Prop) (a : Act) (hfr : RFr A nb c long at_ Av k cv a) (hnb : nb ≤ 4294967295) (hnc : nb ≤ c) (hlong : long ≤ 4294967295) (hat : at_ ≤ nb) (hk : out.length = k) (hkl : k ≤ long) (hB0 : base ≤ w0.heap.size) (hrd : Rd wr base A nb bs) (hown : Own wr base (.slice Av k cv) out) (hbel : Below base w0 wr) (hlt : at_ < nb) (n far told : Nat) (hi : item (bs.drop at_) = some ⟨true, n, far, told⟩) (ht : 1 ≤ told) (ht2 : told ≤ 5) (hn : k + n ≤ long) (h1 : 1 ≤ far) (h2 : far ≤ k)
    (h : ∀ a w Av cv, RFr A nb c long (at_ + told) Av (k + n) cv a → Own w base (.slice Av (k + n) cv) (copyOut out far n) → Below base w0 w → Q .normal a w) : Code.wp Tryd.prog rdLoop Q a wr := by
  obtain ⟨g, o, rfl, _, _⟩ := hown.rd.1.at_ (by omega)
  obtain ⟨f, rfl⟩ := hfr.open_
  have hB := Nat.le_trans hB0 hbel.size
  have hcut := hrd.cut (k := at_) (cap := c) (by omega) hnc
  have hsl := run_cut_l A nb c (at_ : Int) at_ (by omega) (by omega) (by omega)
  have hcall := item_any (cutA A c at_) (nb - at_) (c - at_) base (bs.drop at_) wr hcut (by omega) (by omega) (by omega)
  rw [hi] at hcall
  simp only [itV] at hcall
  have HC := hide hcall
  have HRD := hide hrd
  have HK := hide hk
  have HO := hide hown
  have HB := hide hbel
  clear hcall hcut hrd hk hown hbel hi hfr
  have ht0 : ((told : Int) == 0) = false := by rw [beq_eq_false_iff_ne]; omega
  have hd0 : decide ((long : Int) - (k : Int) < (n : Int)) = false := decide_eq_false (by omega)
  have hf3 : ((far : Int) == 0) = false := by rw [beq_eq_false_iff_ne]; omega
  have hf4 : decide ((k : Int) < (far : Int)) = false := decide_eq_false (by omega)
  conv => arg 2; whnf
  go_wp2_with fail
  refine HC.out.mono ?_
  rintro e w' ⟨rfl, rfl⟩
  go_wp2
  refine rn_loop A nb c long (at_ + told) g o k cv n far base w0 wr out _ _ ⟨rfl, rfl, rfl, rfl, rfl, rfl, rfl, rfl, rfl⟩ HK.out (by omega) h1 h2 hB0 HO.out HB.out ?_
  intro a1 w1 g1 o1 cv1 hf1 ho1 hb1
  have HO1 := hide ho1
  have HB1 := hide hb1
  obtain ⟨f1, rfl⟩ := hf1.open_
  clear ho1 hb1 hf1
  go_wp2
  exact h _ _ _ _ ⟨rfl, rfl, rfl, rfl, rfl, rfl⟩ HO1.out HB1.out

theorem item_bounds {b : Bs} {it : It} (h : item b = some it) : it.told ≤ 5 ∧ it.n ≤ 4294967296 ∧ it.far < 4294967296 := by
  cases b with
  | nil => simp [item] at h
  | cons t r =>
    have ht := t.toNat_lt
    simp only [item] at h
    split at h
    · split at h
      · obtain rfl := Option.some.inj h
        simp; omega
      · obtain ⟨v, hv, rfl⟩ := Option.map_eq_some_iff.1 h
        have := little_lt hv (by omega)
        simp; omega
    · split at h
      · obtain ⟨v, hv, rfl⟩ := Option.map_eq_some_iff.1 h
        have hb : v < 256 ^ 1 := by
          unfold little at hv
          split at hv
          · cases hv
          · obtain rfl := Option.some.inj hv
            refine Nat.lt_of_lt_of_le (leN_lt _) (Nat.pow_le_pow_right (by decide) ?_)
            rw [List.length_take]; omega
        simp; omega
      · split at h
        · obtain ⟨v, hv, rfl⟩ := Option.map_eq_some_iff.1 h
          have := little_lt hv (by omega)
          simp; omega
        · obtain ⟨v, hv, rfl⟩ := Option.map_eq_some_iff.1 h
          have := little_lt hv (by omega)
          simp; omega

/-- A round is a step. -/
theorem rd_round (A : Option Addr) (nb c long at_ : Nat) (Av : Option Addr) (k cv base : Nat) (w0 wr : World) (bs out : Bs) (Q : Exit → Act → World → Prop) (a : Act) (hfr : RFr A nb c long at_ Av k cv a) (hnb : nb ≤ 4294967295) (hnc : nb ≤ c) (hlong : long ≤ 4294967295) (hat : at_ ≤ nb) (hk : out.length = k) (hkl : k ≤ long) (hB0 : base ≤ w0.heap.size) (hrd : Rd wr base A nb bs) (hown : Own wr base (.slice Av k cv) out) (hbel : Below base w0 wr) (hlt : at_ < nb)
    (hret : step long (bs.drop at_) out = none → ∀ a w, RetF base w0 a w → Q .ret a w)
    (hok : ∀ at' out', step long (bs.drop at_) out = some (bs.drop at', out') → at_ < at' → at' ≤ nb → out'.length ≤ long → ∀ a w Av cv, RFr A nb c long at' Av out'.length cv a → Own w base (.slice Av out'.length cv) out' → Below base w0 w → Q .normal a w) : Code.wp Tryd.prog rdLoop Q a wr := by
  have hB := Nat.le_trans hB0 hbel.size
  have hl := hrd.len
  cases hi : item (bs.drop at_) with
  | none => exact rd_none A nb c long at_ Av k cv base w0 wr bs out Q a hfr hnb hnc hlong hat hk hkl hB hrd hown hbel hlt hi (hret (step_item_none hi))
  | some it =>
    obtain ⟨h1, h2, h3⟩ := item_told hi
    obtain ⟨h4, h5, h6⟩ := item_bounds hi
    obtain ⟨back, n, far, told⟩ := it
    rw [List.length_drop] at h2
    simp only at h1 h2 h3 h4 h5 h6
    by_cases hbig : long < k + n
    · refine rd_big A nb c long at_ Av k cv base w0 wr bs out Q a hfr hnb hnc hlong hat hk hkl hB hrd hown hbel hlt back n far told hi h1 h4 h5 hbig (hret ?_)
      unfold step
      rw [hi]
      simp only
      rw [if_pos (by omega)]
    · cases back with
      | true =>
        by_cases hbad : far = 0 ∨ k < far
        · exact rd_cbad A nb c long at_ Av k cv base w0 wr bs out Q a hfr hnb hnc hlong hat hk hkl hB hrd hown hbel hlt n far told hi h1 h4 (by omega) h6 hbad (hret (step_copy_no hi (by omega)))
        · refine rd_copy A nb c long at_ Av k cv base w0 wr bs out Q a hfr hnb hnc hlong hat hk hkl hB0 hrd hown hbel hlt n far told hi h1 h4 (by omega) (by omega) (by omega) ?_
          intro a' w' Av' cv' hf' ho' hb'
          have hst := step_copy_ok (n := long) (out := out) hi (by omega)
          rw [List.drop_drop] at hst
          have hlen : (copyOut out far n).length = k + n := by rw [copyOut_length, hk]
          rw [← hlen] at hf' ho'
          exact hok _ _ hst (by omega) (by omega) (by omega) a' w' Av' cv' hf' ho' hb'
      | false =>
        obtain ⟨n, rfl⟩ : ∃ x, n = x + 1 := ⟨n - 1, by omega⟩
        have hfar : far = 0 := by
          cases hd : bs.drop at_ with
          | nil => rw [hd] at hi; simp [item] at hi
          | cons t r =>
            rw [hd] at hi
            simp only [item] at hi
            repeat' split at hi
            all_goals simp at hi
            all_goals omega
        subst hfar
        by_cases hbad : nb < at_ + told + (n + 1)
        · refine rd_lbad A nb c long at_ Av k cv base w0 wr bs out Q a hfr hnb hnc hlong hat hk hkl hB hrd hown hbel hlt (n + 1) 0 told hi h1 h4 (by omega) (by omega) hbad (hret (step_lit_no hi ?_))
          rw [List.length_drop]
          omega
        · refine rd_lit A nb c long at_ Av k cv base w0 wr bs out Q a hfr hnb hnc hlong hat hk hkl hB hrd hown hbel hlt (n + 1) 0 told hi h1 h4 (by omega) (by omega) ?_
          intro a' w' Av' cv' hf' ho' hb'
          have hst := step_lit_ok (n := long) (out := out) hi (by omega) (by rw [List.length_drop]; omega)
          rw [List.drop_drop, List.drop_drop] at hst
          have hlen : (out ++ (bs.drop (at_ + told)).take (n + 1)).length = k + (n + 1) := by rw [List.length_append, List.length_take, List.length_drop, hk]; omega
          rw [← hlen] at hf' ho'
          refine hok _ _ (hst.trans (by rw [Nat.add_assoc])) (by omega) (by omega) (by omega) a' w' Av' cv' hf' ho' hb'

/-- What spec.Read gives back. -/
def GivesRead (w : World) (o : Option Bs) (e : Ending) (w' : World) : Prop :=
  Below w.heap.size w w' ∧ ((∃ v t, o = some t ∧ e = .returned (.tuple #[v, .bool true]) ∧ Own w' w.heap.size v t ∧ t.length ≤ 4294967295) ∨ (o = none ∧ ∃ v, e = .returned (.tuple #[v, .bool false])))

theorem rd_loop (A : Option Addr) (nb c long at_ base : Nat) (w0 wr : World) (bs : Bs) (Q : Exit → Act → World → Prop) (a : Act) (hfr : RFr A nb c long at_ none 0 0 a) (hnb : nb ≤ 4294967295) (hnc : nb ≤ c) (hlong : long ≤ 4294967295) (hat : at_ ≤ nb)
    (hbase : base = w0.heap.size) (hrd : Rd w0 base A nb bs) (hbel : Below base w0 wr)
    (hret : run long (bs.drop at_) [] = none → ∀ a w, RetF base w0 a w → Q .ret a w)
    (hexit : ∀ out a w Av cv, run long (bs.drop at_) [] = fin long out → out.length ≤ long → RFr A nb c long nb Av out.length cv a → Own w base (.slice Av out.length cv) out → Below base w0 w → Q (.exit 0) a w) : Code.wp Tryd.prog (.loop rdLoop) Q a wr := by
  refine wp_loop (fun a w => ∃ at1 out Av cv, at1 ≤ nb ∧ out.length ≤ long ∧ RFr A nb c long at1 Av out.length cv a ∧ Own w base (.slice Av out.length cv) out ∧ Below base w0 w ∧ run long (bs.drop at_) [] = run long (bs.drop at1) out)
    (fun a _ => match a.tmps.getD 5 undef with | .int _ k => nb - k.toNat | _ => 0) ⟨at_, [], none, 0, hat, Nat.zero_le _, hfr, Own.nil _ _, hbel, rfl⟩ ?_
  rintro a w ⟨at1, out, Av, cv, h1, h2, hf, ho, hb, hr⟩
  have h5 := hf.s5
  have hl := hrd.len
  have hsz := hb.size
  by_cases he : at1 = nb
  · refine rd_end A nb c long at1 Av out.length cv base w0 w bs out _ a hf hnb hnc hlong h1 rfl h2 (by omega) (hrd.below hb) ho hb he ?_
    intro a' hf'
    rw [he, ← hl, List.drop_length, run_nil] at hr
    exact hexit out a' w Av cv hr h2 hf' ho hb
  · have hne : bs.drop at1 ≠ [] := by
      intro h
      have h' : (bs.drop at1).length = 0 := by rw [h]; rfl
      rw [List.length_drop] at h'
      omega
    refine rd_round A nb c long at1 Av out.length cv base w0 w bs out _ a hf hnb hnc hlong h1 rfl h2 (by omega) (hrd.below hb) ho hb (by omega) ?_ ?_
    · intro hst a' w' h'
      exact hret (hr.trans (run_none hne hst)) a' w' h'
    · intro at' out' hst hlt hle hlen a' w' Av' cv' hf' ho' hb'
      refine ⟨⟨at', out', Av', cv', hle, hlen, hf', ho', hb', hr.trans (run_some hst)⟩, ?_⟩
      rw [hf'.s5, h5]
      show nb - ((at' : Nat) : Int).toNat < nb - ((at1 : Nat) : Int).toNat
      omega

set_option maxRecDepth 100000 in
set_option maxHeartbeats 1000000 in
theorem rd_rest (A : Option Addr) (nb c long at_ : Nat) (Av : Option Addr) (k cv : Nat) (wr : World) (Q : Exit → Act → World → Prop) (a : Act) (hfr : RFr A nb c long at_ Av k cv a)
    (h : ∀ a, a.defers = [] → a.tmps.getD 2 undef = .slice Av k cv → a.tmps.getD 3 undef = .bool (decide (k = long)) → Q .ret a wr) : Code.wp Tryd.prog rdRest Q a wr := by
  obtain ⟨f, rfl⟩ := hfr.open_
  conv => arg 2; whnf
  go_wp2
  exact h _ rfl rfl (congrArg Value.bool (nat_beq k long))

theorem results_tmp2 {fn : Func} {t u : Tmp} (h : fn.results = #[.tmp t, .tmp u]) (tmps : Array Value) (P : Program) (w : World) {v v' : Value} (hv : tmps.getD t undef = v) (hv' : tmps.getD u undef = v') :
    (results fn tmps).run P w = .ok (.tuple #[v, v']) w := by
  subst hv
  subst hv'
  simp [results, h]

set_option maxRecDepth 100000 in
set_option maxHeartbeats 1000000 in
theorem Read_any (A : Option Addr) (n c : Nat) (xs : Bs) (w : World) (hx : Rd w w.heap.size A n xs) (hn : n ≤ 4294967295) (hnc : n ≤ c) :
    Calls Tryd.prog 12 #[.slice A n c] w (GivesRead w (dec xs)) := by
  have hhead := Head_any A n c _ xs w hx hn
  have hl := hx.len
  have HX := hide hx
  cases hh : head xs with
  | none =>
    have HD := hide (show dec xs = none by unfold dec; rw [hh])
    have HH := hide (hhead.mono (fun e w' h => (show HeadIs w xs e w' from h)))
    have hcall : Calls Tryd.prog 19 #[.slice A n c] w fun e w' => w = w' ∧ ∃ l a : Int, e = .returned (.tuple #[.int .i64 l, .int .i64 a, .bool false]) := by
      refine hhead.mono ?_
      rintro e w' ⟨rfl, ⟨l, a, h, _⟩ | ⟨_, l, a, rfl⟩⟩
      · rw [hh] at h; cases h
      · exact ⟨rfl, l, a, rfl⟩
    have HC := hide hcall
    clear hcall hhead HH hx hl hh
    go_enter Tryd.func12, Tryd.ntmps12
    go_wp2_with fail
    refine HC.out.mono ?_
    rintro e w' ⟨rfl, l, a, rfl⟩
    go_wp2
    go_ret2
    exact ⟨(Below.refl _ _).alloc (Nat.le_refl _) _, .inr ⟨HD.out, _, rfl⟩⟩
  | some q =>
    obtain ⟨l, at_⟩ := q
    obtain ⟨_, h2, h3⟩ := headGo_at (i := 0) (long := 0) hh
    have hat : at_ ≤ n := by omega
    have HD := hide (show dec xs = run l (xs.drop at_) [] by unfold dec; rw [hh])
    have hcall : Calls Tryd.prog 19 #[.slice A n c] w fun e w' => w = w' ∧ e = .returned (.tuple #[.int .i64 (l : Int), .int .i64 (at_ : Int), .bool true]) := by
      refine hhead.mono ?_
      rintro e w' ⟨rfl, ⟨l', a', h, rfl⟩ | ⟨h, _⟩⟩
      · rw [hh] at h
        cases h
        exact ⟨rfl, rfl⟩
      · rw [hh] at h; cases h
    have HC := hide hcall
    clear hcall hhead hx hl hh h2
    go_enter Tryd.func12, Tryd.ntmps12
    go_wp2_with fail
    refine HC.out.mono ?_
    rintro e w' ⟨rfl, rfl⟩
    go_wp2
    rename_i K hK
    refine rd_loop A n c l at_ w.heap.size w w xs _ _ ⟨rfl, rfl, rfl, rfl, rfl, rfl⟩ hn hnc h3 hat rfl HX.out (Below.refl _ _) ?_ ?_
    · rintro hnone a w' ⟨hd, hs3, hb⟩
      exact bodyPost_ret (results_tmp2 rfl _ _ _ rfl hs3) hd ⟨hb, .inr ⟨HD.out.trans hnone, _, rfl⟩⟩
    · intro out a w' Av cv hrun hol hf ho hb
      refine hK _ _ (rd_rest A n c l n Av out.length cv w' _ a hf ?_)
      intro a' hd hs2 hs3
      unfold fin at hrun
      by_cases hlen : out.length = l
      · rw [decide_eq_true hlen] at hs3
        rw [if_pos hlen] at hrun
        exact bodyPost_ret (results_tmp2 rfl _ _ _ hs2 hs3) hd ⟨hb, .inl ⟨_, out, HD.out.trans hrun, rfl, ho, by omega⟩⟩
      · rw [decide_eq_false hlen] at hs3
        rw [if_neg hlen] at hrun
        exact bodyPost_ret (results_tmp2 rfl _ _ _ hs2 hs3) hd ⟨hb, .inr ⟨HD.out.trans hrun, _, rfl⟩⟩


end Snap
end Go.Proofs.YtoihiaenlonncaaDoor

/-
  spec.Read: it reads a block as 'dec' says.
-/
import Derived.Test.YtoihiaenlonncaaDoorFrame
import Derived.Test.YtoihiaenlonncaaDoorRead3E
import Derived.Test.YtoihiaenlonncaaDoorRead2
namespace Go.Proofs.YtoihiaenlonncaaDoor
open Go.RowKit
set_option linter.unusedVariables false
namespace Snap

theorem list97 (f : Nat → Value) : ((List.range 97).map f).toArray = #[f 0, f 1, f 2, f 3, f 4, f 5, f 6, f 7, f 8, f 9, f 10, f 11, f 12, f 13, f 14, f 15, f 16, f 17, f 18, f 19, f 20, f 21, f 22, f 23, f 24, f 25, f 26, f 27, f 28, f 29, f 30, f 31, f 32, f 33, f 34, f 35, f 36, f 37, f 38, f 39, f 40, f 41, f 42, f 43, f 44, f 45, f 46, f 47, f 48, f 49, f 50, f 51, f 52, f 53, f 54, f 55, f 56, f 57, f 58, f 59, f 60, f 61, f 62, f 63, f 64, f 65, f 66, f 67, f 68, f 69, f 70, f 71, f 72, f 73, f 74, f 75, f 76, f 77, f 78, f 79, f 80, f 81, f 82, f 83, f 84, f 85, f 86, f 87, f 88, f 89, f 90, f 91, f 92, f 93, f 94, f 95, f 96] := by kernel_rfl

/-- A frame of 97 slots. -/
theorem open97 (a : Act) (hs : a.tmps.size = 97) (hd : a.defers = []) : ∃ f : Nat → Value, (∀ i, f i = a.tmps.getD i undef) ∧ a = ⟨#[f 0, f 1, f 2, f 3, f 4, f 5, f 6, f 7, f 8, f 9, f 10, f 11, f 12, f 13, f 14, f 15, f 16, f 17, f 18, f 19, f 20, f 21, f 22, f 23, f 24, f 25, f 26, f 27, f 28, f 29, f 30, f 31, f 32, f 33, f 34, f 35, f 36, f 37, f 38, f 39, f 40, f 41, f 42, f 43, f 44, f 45, f 46, f 47, f 48, f 49, f 50, f 51, f 52, f 53, f 54, f 55, f 56, f 57, f 58, f 59, f 60, f 61, f 62, f 63, f 64, f 65, f 66, f 67, f 68, f 69, f 70, f 71, f 72, f 73, f 74, f 75, f 76, f 77, f 78, f 79, f 80, f 81, f 82, f 83, f 84, f 85, f 86, f 87, f 88, f 89, f 90, f 91, f 92, f 93, f 94, f 95, f 96], []⟩ := by
  refine ⟨fun i => a.tmps.getD i undef, fun _ => rfl, ?_⟩
  exact (act_slots a 97 hs hd).trans (congrArg (fun l => (⟨l, []⟩ : Act)) (list97 _))

/-- The frame at a round's head. -/
structure RFr (A : Option Addr) (nb c long at_ : Nat) (Av : Option Addr) (k cv : Nat) (a : Act) : Prop where
  size : a.tmps.size = 97
  defers : a.defers = []
  s0 : a.tmps.getD 0 undef = .slice A nb c
  s4 : a.tmps.getD 4 undef = .int .i64 (long : Int)
  s5 : a.tmps.getD 5 undef = .int .i64 (at_ : Int)
  s7 : a.tmps.getD 7 undef = .slice Av k cv

set_option maxRecDepth 100000 in
theorem RFr.open_ {A : Option Addr} {nb c long at_ : Nat} {Av : Option Addr} {k cv : Nat} {a : Act} (h : RFr A nb c long at_ Av k cv a) : ∃ f : Nat → Value, a = ⟨#[.slice A nb c, f 1, f 2, f 3, .int .i64 (long : Int), .int .i64 (at_ : Int), f 6, .slice Av k cv, f 8, f 9, f 10, f 11, f 12, f 13, f 14, f 15, f 16, f 17, f 18, f 19, f 20, f 21, f 22, f 23, f 24, f 25, f 26, f 27, f 28, f 29, f 30, f 31, f 32, f 33, f 34, f 35, f 36, f 37, f 38, f 39, f 40, f 41, f 42, f 43, f 44, f 45, f 46, f 47, f 48, f 49, f 50, f 51, f 52, f 53, f 54, f 55, f 56, f 57, f 58, f 59, f 60, f 61, f 62, f 63, f 64, f 65, f 66, f 67, f 68, f 69, f 70, f 71, f 72, f 73, f 74, f 75, f 76, f 77, f 78, f 79, f 80, f 81, f 82, f 83, f 84, f 85, f 86, f 87, f 88, f 89, f 90, f 91, f 92, f 93, f 94, f 95, f 96], []⟩ := by
  obtain ⟨f, hf, ha⟩ := open97 a h.size h.defers
  refine ⟨f, ha.trans ?_⟩
  simp only [(hf 0).trans h.s0, (hf 4).trans h.s4, (hf 5).trans h.s5, (hf 7).trans h.s7]

/-- The frame at the inner loop's head. -/
structure RNr (A : Option Addr) (nb c long at_ g o k cv n far i : Nat) (a : Act) : Prop where
  size : a.tmps.size = 97
  defers : a.defers = []
  s0 : a.tmps.getD 0 undef = .slice A nb c
  s4 : a.tmps.getD 4 undef = .int .i64 (long : Int)
  s5 : a.tmps.getD 5 undef = .int .i64 (at_ : Int)
  s7 : a.tmps.getD 7 undef = .slice (some ⟨g, o, none⟩) k cv
  s9 : a.tmps.getD 9 undef = .int .i64 (n : Int)
  s10 : a.tmps.getD 10 undef = .int .i64 (far : Int)
  s12 : a.tmps.getD 12 undef = .int .i64 (i : Int)

set_option maxRecDepth 100000 in
theorem RNr.open_ {A : Option Addr} {nb c long at_ g o k cv n far i : Nat} {a : Act} (h : RNr A nb c long at_ g o k cv n far i a) : ∃ f : Nat → Value, a = ⟨#[.slice A nb c, f 1, f 2, f 3, .int .i64 (long : Int), .int .i64 (at_ : Int), f 6, .slice (some ⟨g, o, none⟩) k cv, f 8, .int .i64 (n : Int), .int .i64 (far : Int), f 11, .int .i64 (i : Int), f 13, f 14, f 15, f 16, f 17, f 18, f 19, f 20, f 21, f 22, f 23, f 24, f 25, f 26, f 27, f 28, f 29, f 30, f 31, f 32, f 33, f 34, f 35, f 36, f 37, f 38, f 39, f 40, f 41, f 42, f 43, f 44, f 45, f 46, f 47, f 48, f 49, f 50, f 51, f 52, f 53, f 54, f 55, f 56, f 57, f 58, f 59, f 60, f 61, f 62, f 63, f 64, f 65, f 66, f 67, f 68, f 69, f 70, f 71, f 72, f 73, f 74, f 75, f 76, f 77, f 78, f 79, f 80, f 81, f 82, f 83, f 84, f 85, f 86, f 87, f 88, f 89, f 90, f 91, f 92, f 93, f 94, f 95, f 96], []⟩ := by
  obtain ⟨f, hf, ha⟩ := open97 a h.size h.defers
  refine ⟨f, ha.trans ?_⟩
  simp only [(hf 0).trans h.s0, (hf 4).trans h.s4, (hf 5).trans h.s5, (hf 7).trans h.s7, (hf 9).trans h.s9, (hf 10).trans h.s10, (hf 12).trans h.s12]

noncomputable def rdBody : Code := bodyOf Tryd.f12
noncomputable def rdRest : Code := c2 (c2 (c2 (c2 (c2 rdBody))))
noncomputable def rdLoop : Code := cL (cB (c1 (c2 (c2 (c2 (c2 rdBody))))))
noncomputable def rdB : Code := cB (c2 rdLoop)
noncomputable def rdCp : Code := cT (c2 (c1 (c2 (c2 (c2 rdB)))))
noncomputable def rdNear : Code := cL (cB (c2 (c1 (c2 rdCp))))

/-- false is returned. -/
def RetF (base : Nat) (w0 : World) (a : Act) (w : World) : Prop := a.defers = [] ∧ a.tmps.getD 3 undef = .bool false ∧ Below base w0 w

set_option maxRecDepth 100000 in
set_option maxHeartbeats 1000000 in
theorem rd_end (A : Option Addr) (nb c long at_ : Nat) (Av : Option Addr) (k cv base : Nat) (w0 wr : World) (bs out : Bs) (Q : Exit → Act → World → Prop) (a : Act) (hfr : RFr A nb c long at_ Av k cv a) (hnb : nb ≤ 4294967295) (hnc : nb ≤ c) (hlong : long ≤ 4294967295) (hat : at_ ≤ nb) (hk : out.length = k) (hkl : k ≤ long) (hB : base ≤ wr.heap.size) (hrd : Rd wr base A nb bs) (hown : Own wr base (.slice Av k cv) out) (hbel : Below base w0 wr) (he : at_ = nb) (h : ∀ a, RFr A nb c long nb Av k cv a → Q (.exit 0) a wr) : Code.wp Tryd.prog rdLoop Q a wr := by
  subst he
  obtain ⟨f, rfl⟩ := hfr.open_
  clear hrd hown hbel hk
  conv => arg 2; whnf
  go_wp2
  exact ⟨rfl, rfl, rfl, rfl, rfl, rfl⟩

set_option maxRecDepth 100000 in
set_option maxHeartbeats 1000000 in
theorem rd_none (A : Option Addr) (nb c long at_ : Nat) (Av : Option Addr) (k cv base : Nat) (w0 wr : World) (bs out : Bs) (Q : Exit → Act → World → Prop) (a : Act) (hfr : RFr A nb c long at_ Av k cv a) (hnb : nb ≤ 4294967295) (hnc : nb ≤ c) (hlong : long ≤ 4294967295) (hat : at_ ≤ nb) (hk : out.length = k) (hkl : k ≤ long) (hB : base ≤ wr.heap.size) (hrd : Rd wr base A nb bs) (hown : Own wr base (.slice Av k cv) out) (hbel : Below base w0 wr) (hlt : at_ < nb) (hi : item (bs.drop at_) = none) (h : ∀ a w, RetF base w0 a w → Q .ret a w) : Code.wp Tryd.prog rdLoop Q a wr := by
  obtain ⟨f, rfl⟩ := hfr.open_
  have hcut := hrd.cut (k := at_) (cap := c) (by omega) hnc
  have hsl := run_cut_l A nb c (at_ : Int) at_ (by omega) (by omega) (by omega)
  have hcall := item_any (cutA A c at_) (nb - at_) (c - at_) base (bs.drop at_) wr hcut (by omega) (by omega) (by omega)
  rw [hi] at hcall
  simp only [itV] at hcall
  have HC := hide hcall
  have HRD := hide hrd
  have HK := hide hk
  have HO := hide hown
  have HB := hide hbel
  clear hcall hcut hrd hk hown hbel hi hfr
  conv => arg 2; whnf
  go_wp2_with fail
  refine HC.out.mono ?_
  rintro e w' ⟨rfl, rfl⟩
  go_wp2
  exact ⟨rfl, rfl, HB.out.alloc hB _⟩

set_option maxRecDepth 100000 in
set_option maxHeartbeats 1000000 in
theorem rd_big (A : Option Addr) (nb c long at_ : Nat) (Av : Option Addr) (k cv base : Nat) (w0 wr : World) (bs out : Bs) (Q : Exit → Act → World → Prop) (a : Act) (hfr : RFr A nb c long at_ Av k cv a) (hnb : nb ≤ 4294967295) (hnc : nb ≤ c) (hlong : long ≤ 4294967295) (hat : at_ ≤ nb) (hk : out.length = k) (hkl : k ≤ long) (hB : base ≤ wr.heap.size) (hrd : Rd wr base A nb bs) (hown : Own wr base (.slice Av k cv) out) (hbel : Below base w0 wr) (hlt : at_ < nb) (back : Bool) (n far told : Nat) (hi : item (bs.drop at_) = some ⟨back, n, far, told⟩) (ht : 1 ≤ told) (ht2 : told ≤ 5) (hn : n ≤ 4294967296) (hbig : long < k + n) (h : ∀ a w, RetF base w0 a w → Q .ret a w) : Code.wp Tryd.prog rdLoop Q a wr := by
  obtain ⟨f, rfl⟩ := hfr.open_
  have hcut := hrd.cut (k := at_) (cap := c) (by omega) hnc
  have hsl := run_cut_l A nb c (at_ : Int) at_ (by omega) (by omega) (by omega)
  have hcall := item_any (cutA A c at_) (nb - at_) (c - at_) base (bs.drop at_) wr hcut (by omega) (by omega) (by omega)
  rw [hi] at hcall
  simp only [itV] at hcall
  have HC := hide hcall
  have HRD := hide hrd
  have HK := hide hk
  have HO := hide hown
  have HB := hide hbel
  clear hcall hcut hrd hk hown hbel hi hfr
  have hd0 : decide ((long : Int) - (k : Int) < (n : Int)) = true := decide_eq_true (by omega)
  have ht0 : ((told : Int) == 0) = false := by rw [beq_eq_false_iff_ne]; omega
  conv => arg 2; whnf
  go_wp2_with fail
  refine HC.out.mono ?_
  rintro e w' ⟨rfl, rfl⟩
  go_wp2
  exact ⟨rfl, rfl, HB.out.alloc hB _⟩

set_option maxRecDepth 100000 in
set_option maxHeartbeats 1000000 in
theorem rd_cbad (A : Option Addr) (nb c long at_ : Nat) (Av : Option Addr) (k cv base : Nat) (w0 wr : World) (bs out : Bs) (Q : Exit → Act → World → Prop) (a : Act) (hfr : RFr A nb c long at_ Av k cv a) (hnb : nb ≤ 4294967295) (hnc : nb ≤ c) (hlong : long ≤ 4294967295) (hat : at_ ≤ nb) (hk : out.length = k) (hkl : k ≤ long) (hB : base ≤ wr.heap.size) (hrd : Rd wr base A nb bs) (hown : Own wr base (.slice Av k cv) out) (hbel : Below base w0 wr) (hlt : at_ < nb) (n far told : Nat) (hi : item (bs.drop at_) = some ⟨true, n, far, told⟩) (ht : 1 ≤ told) (ht2 : told ≤ 5) (hn : k + n ≤ long) (hfar : far < 4294967296) (hbad : far = 0 ∨ k < far) (h : ∀ a w, RetF base w0 a w → Q .ret a w) : Code.wp Tryd.prog rdLoop Q a wr := by
  obtain ⟨f, rfl⟩ := hfr.open_
  have hcut := hrd.cut (k := at_) (cap := c) (by omega) hnc
  have hsl := run_cut_l A nb c (at_ : Int) at_ (by omega) (by omega) (by omega)
  have hcall := item_any (cutA A c at_) (nb - at_) (c - at_) base (bs.drop at_) wr hcut (by omega) (by omega) (by omega)
  rw [hi] at hcall
  simp only [itV] at hcall
  have HC := hide hcall
  have HRD := hide hrd
  have HK := hide hk
  have HO := hide hown
  have HB := hide hbel
  clear hcall hcut hrd hk hown hbel hi hfr
  have ht0 : ((told : Int) == 0) = false := by rw [beq_eq_false_iff_ne]; omega
  have hd0 : decide ((long : Int) - (k : Int) < (n : Int)) = false := decide_eq_false (by omega)
  by_cases hf : far = 0
  · subst hf
    clear hbad
    conv => arg 2; whnf
    go_wp2_with fail
    refine HC.out.mono ?_
    rintro e w' ⟨rfl, rfl⟩
    go_wp2
    exact ⟨rfl, rfl, HB.out.alloc hB _⟩
  · have hf1 : 1 ≤ far := by omega
    have hf2 : k < far := by omega
    have hf3 : ((far : Int) == 0) = false := by rw [beq_eq_false_iff_ne]; omega
    have hf4 : decide ((k : Int) < (far : Int)) = true := decide_eq_true (by omega)
    clear hbad hf
    conv => arg 2; whnf
    go_wp2_with fail
    refine HC.out.mono ?_
    rintro e w' ⟨rfl, rfl⟩
    go_wp2
    exact ⟨rfl, rfl, HB.out.alloc hB _⟩

set_option maxRecDepth 100000 in
set_option maxHeartbeats 1000000 in
theorem rd_lbad (A : Option Addr) (nb c long at_ : Nat) (Av : Option Addr) (k cv base : Nat) (w0 wr : World) (bs out : Bs) (Q : Exit → Act → World → Prop) (a : Act) (hfr : RFr A nb c long at_ Av k cv a) (hnb : nb ≤ 4294967295) (hnc : nb ≤ c) (hlong : long ≤ 4294967295) (hat : at_ ≤ nb) (hk : out.length = k) (hkl : k ≤ long) (hB : base ≤ wr.heap.size) (hrd : Rd wr base A nb bs) (hown : Own wr base (.slice Av k cv) out) (hbel : Below base w0 wr) (hlt : at_ < nb) (n far told : Nat) (hi : item (bs.drop at_) = some ⟨false, n, far, told⟩) (ht : 1 ≤ told) (ht2 : told ≤ 5) (hn : k + n ≤ long) (htl : at_ + told ≤ nb) (hbad : nb < at_ + told + n) (h : ∀ a w, RetF base w0 a w → Q .ret a w) : Code.wp Tryd.prog rdLoop Q a wr := by
  obtain ⟨f, rfl⟩ := hfr.open_
  have hcut := hrd.cut (k := at_) (cap := c) (by omega) hnc
  have hsl := run_cut_l A nb c (at_ : Int) at_ (by omega) (by omega) (by omega)
  have hcall := item_any (cutA A c at_) (nb - at_) (c - at_) base (bs.drop at_) wr hcut (by omega) (by omega) (by omega)
  rw [hi] at hcall
  simp only [itV] at hcall
  have HC := hide hcall
  have HRD := hide hrd
  have HK := hide hk
  have HO := hide hown
  have HB := hide hbel
  clear hcall hcut hrd hk hown hbel hi hfr
  have ht0 : ((told : Int) == 0) = false := by rw [beq_eq_false_iff_ne]; omega
  have hd0 : decide ((long : Int) - (k : Int) < (n : Int)) = false := decide_eq_false (by omega)
  conv => arg 2; whnf
  go_wp2_with fail
  refine HC.out.mono ?_
  rintro e w' ⟨rfl, rfl⟩
  go_wp2
  exact ⟨rfl, rfl, HB.out.alloc hB _⟩

set_option maxRecDepth 100000 in
set_option maxHeartbeats 1000000 in
theorem rd_lit (A : Option Addr) (nb c long at_ : Nat) (Av : Option Addr) (k cv base : Nat) (w0 wr : World) (bs out : Bs) (Q : Exit → Act → World → Prop) (a : Act) (hfr : RFr A nb c long at_ Av k cv a) (hnb : nb ≤ 4294967295) (hnc : nb ≤ c) (hlong : long ≤ 4294967295) (hat : at_ ≤ nb) (hk : out.length = k) (hkl : k ≤ long) (hB : base ≤ wr.heap.size) (hrd : Rd wr base A nb bs) (hown : Own wr base (.slice Av k cv) out) (hbel : Below base w0 wr) (hlt : at_ < nb) (n far told : Nat) (hi : item (bs.drop at_) = some ⟨false, n, far, told⟩) (ht : 1 ≤ told) (ht2 : told ≤ 5) (hn : k + n ≤ long) (htl : at_ + told + n ≤ nb)
    (h : ∀ a w Av cv, RFr A nb c long (at_ + told + n) Av (k + n) cv a → Own w base (.slice Av (k + n) cv) (out ++ (bs.drop (at_ + told)).take n) → Below base w0 w → Q .normal a w) : Code.wp Tryd.prog rdLoop Q a wr := by
  obtain ⟨f, rfl⟩ := hfr.open_
  have hcut := hrd.cut (k := at_) (cap := c) (by omega) hnc
  have hsl := run_cut_l A nb c (at_ : Int) at_ (by omega) (by omega) (by omega)
  have hcall := item_any (cutA A c at_) (nb - at_) (c - at_) base (bs.drop at_) wr hcut (by omega) (by omega) (by omega)
  rw [hi] at hcall
  simp only [itV] at hcall
  have HC := hide hcall
  have HRD := hide hrd
  have HK := hide hk
  have HO := hide hown
  have HB := hide hbel
  clear hcall hcut hrd hk hown hbel hi hfr
  have ht0 : ((told : Int) == 0) = false := by rw [beq_eq_false_iff_ne]; omega
  have hd0 : decide ((long : Int) - (k : Int) < (n : Int)) = false := decide_eq_false (by omega)
  have hsl2 := run_cut_lh A nb c ((at_ : Int) + (told : Int)) ((at_ : Int) + (told : Int) + (n : Int)) (at_ + told) (at_ + told + n) (by omega) (by omega) (by omega) (by omega) (by omega)
  rw [show at_ + told + n - (at_ + told) = n from by omega] at hsl2
  have hcut2 := (HRD.out.cut (k := at_ + told) (cap := c) (by omega) hnc).take (k := n) (by omega)
  have HR2 := hide hcut2
  clear hcut2
  conv => arg 2; whnf
  go_wp2_with fail
  refine HC.out.mono ?_
  rintro e w' ⟨rfl, rfl⟩
  go_wp2_with (at_builtin; refine append_own rfl (.tmp 81) (.tmp 87) rfl base w0 (.slice Av k cv) out rfl HO.out HB.out base (cutA A c (at_ + told)) n (c - (at_ + told)) ((bs.drop (at_ + told)).take n) rfl HR2.out (by rw [HK.out, HR2.out.len]; omega) hB ?_; intro v' w1 hown1 hgrow1 hbel1)
  have hlen1 : (out ++ (bs.drop (at_ + told)).take n).length = k + n := by rw [List.length_append, HK.out, HR2.out.len]
  obtain ⟨A1, c1, rfl, _, _, _, _⟩ := hown1.form
  rw [hlen1] at hown1 ⊢
  have HO1 := hide hown1
  have HB1 := hide hbel1
  clear hown1 hbel1 hgrow1 hlen1
  go_wp2
  exact h _ _ _ _ ⟨rfl, rfl, rfl, rfl, rfl, rfl⟩ HO1.out HB1.out


end Snap
end Go.Proofs.YtoihiaenlonncaaDoor

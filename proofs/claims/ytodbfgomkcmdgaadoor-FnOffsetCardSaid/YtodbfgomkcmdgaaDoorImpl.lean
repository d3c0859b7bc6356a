/-
  impl.told, impl.Decode, impl.DecodeInto, impl.DecodeKeeps.
-/
import Derived.Test.YtodbfgomkcmdgaaDoorSDecode
namespace Go.Proofs.YtodbfgomkcmdgaaDoor
open Go.RowKit
set_option linter.unusedVariables false
namespace Snap

/-- What impl's functions tell of a block: the text in memory of the call's own, or the fault 1. -/
def GivesTold (w : World) (o : Option Bs) (e : Ending) (w' : World) : Prop :=
  Below w.heap.size w w' ∧ ((∃ v t, o = some t ∧ e = .returned (.agg #[v, .int .i64 0]) ∧ Own w' w.heap.size v t ∧ t.length ≤ 4294967295) ∨ (o = none ∧ e = .returned (.agg #[.slice none 0 0, .int .i64 1])))

theorem agg_block {w w3 : World} {v u : Value} {T : TypeId} (hb : Below (w.heap.size + 1) (w.alloc (.cells #[v, u] T)) w3) :
    w3.cell? ⟨w.heap.size, 0, none⟩ = some v ∧ w3.cell? ⟨w.heap.size, 1, none⟩ = some u ∧ w3.frozen? ⟨w.heap.size, 0, none⟩ = false ∧ w3.frozen? ⟨w.heap.size, 1, none⟩ = false :=
  ⟨(hb.cell (p := ⟨w.heap.size, 0, none⟩) (by show w.heap.size < w.heap.size + 1; omega)).trans (World.cell?_alloc_at _ _ _ _ rfl),
   (hb.cell (p := ⟨w.heap.size, 1, none⟩) (by show w.heap.size < w.heap.size + 1; omega)).trans (World.cell?_alloc_at _ _ _ _ rfl),
   (hb.frozen (p := ⟨w.heap.size, 0, none⟩) (by show w.heap.size < w.heap.size + 1; omega)).trans (World.frozen?_alloc_at _ _ _ _ rfl),
   (hb.frozen (p := ⟨w.heap.size, 1, none⟩) (by show w.heap.size < w.heap.size + 1; omega)).trans (World.frozen?_alloc_at _ _ _ _ rfl)⟩

theorem told_block {w w3 : World} (hb : Below (w.heap.size + 1) (w.alloc (.cells #[.slice none 0 0, .int .i64 0] 30)) w3) :
    w3.cell? ⟨w.heap.size, 0, none⟩ = some (.slice none 0 0) ∧ w3.cell? ⟨w.heap.size, 1, none⟩ = some (.int .i64 0) ∧ w3.frozen? ⟨w.heap.size, 0, none⟩ = false ∧ w3.frozen? ⟨w.heap.size, 1, none⟩ = false :=
  ⟨(hb.cell (p := ⟨w.heap.size, 0, none⟩) (by show w.heap.size < w.heap.size + 1; omega)).trans (World.cell?_alloc_at _ _ _ _ rfl),
   (hb.cell (p := ⟨w.heap.size, 1, none⟩) (by show w.heap.size < w.heap.size + 1; omega)).trans (World.cell?_alloc_at _ _ _ _ rfl),
   (hb.frozen (p := ⟨w.heap.size, 0, none⟩) (by show w.heap.size < w.heap.size + 1; omega)).trans (World.frozen?_alloc_at _ _ _ _ rfl),
   (hb.frozen (p := ⟨w.heap.size, 1, none⟩) (by show w.heap.size < w.heap.size + 1; omega)).trans (World.frozen?_alloc_at _ _ _ _ rfl)⟩

theorem Own.setBelow {w : World} {base : Nat} {v : Value} {xs : Bs} (h : Own w base v xs) {a : Addr} (ha : a.block < base) (u : Value) : Own (w.setCell a u) base v xs := ownsRow_setCell_below h ha u

set_option maxRecDepth 100000 in
set_option maxHeartbeats 400000 in
theorem told_ok (A : Option Addr) (n c B : Nat) (xs : Bs) (w : World) (hx : Rd w B A n xs) (hB : B ≤ w.heap.size) (hn : n ≤ 4294967295) (hA : A = none → n = 0) :
    Calls Tryd.prog 38 #[.slice A n c, .nilIface] w (GivesTold w (some xs)) := by
  have HX := hide hx
  have HA := hide hA
  have HN := hide hn
  clear hx hA
  go_enter Tryd.func38, Tryd.ntmps38
  go_wp2_with fail
  refine (Clone_any A n c B xs _ (HX.out.alloc hB _) (by simp; omega) hn HA.out).mono ?_
  rintro e w1 ⟨v, rfl, hown, hbel⟩
  have hz := hbel.size
  simp only [World.size_alloc] at hbel hz hown
  have g0 : w1.cell? ⟨w.heap.size, 0, none⟩ = some (.slice none 0 0) := (hbel.cell (p := ⟨w.heap.size, 0, none⟩) (by show w.heap.size < w.heap.size + 1; omega)).trans (World.cell?_alloc_at _ _ _ _ rfl)
  have g1 : w1.cell? ⟨w.heap.size, 1, none⟩ = some (.int .i64 0) := (hbel.cell (p := ⟨w.heap.size, 1, none⟩) (by show w.heap.size < w.heap.size + 1; omega)).trans (World.cell?_alloc_at _ _ _ _ rfl)
  have f0 : w1.frozen? ⟨w.heap.size, 0, none⟩ = false := (hbel.frozen (p := ⟨w.heap.size, 0, none⟩) (by show w.heap.size < w.heap.size + 1; omega)).trans (World.frozen?_alloc_at _ _ _ _ rfl)
  have f1 : w1.frozen? ⟨w.heap.size, 1, none⟩ = false := (hbel.frozen (p := ⟨w.heap.size, 1, none⟩) (by show w.heap.size < w.heap.size + 1; omega)).trans (World.frozen?_alloc_at _ _ _ _ rfl)
  obtain ⟨A1, c1, rfl, _, _, _, _⟩ := hown.form
  have HB := hide hbel
  have HO := hide hown
  clear hbel hown
  go_wp2
  refine bodyPost_ret (v := .agg #[.slice A1 xs.length c1, .int .i64 0]) (by simp [results, Tryd.results38, go_sem, g0, g1]) rfl ⟨?_, .inl ⟨_, xs, rfl, rfl, ?_, ?_⟩⟩
  · exact ((((Below.refl _ _).alloc (Nat.le_refl _) _).trans (HB.out.mono (Nat.le_succ _))).setCell (Nat.le_refl _) _).setCell (Nat.le_refl _) _
  · exact ((HO.out.setBelow (a := ⟨w.heap.size, 0, none⟩) (Nat.lt_succ_self _) _).setBelow (a := ⟨w.heap.size, 1, none⟩) (Nat.lt_succ_self _) _).less (Nat.le_succ _)
  · rw [HX.out.len]; exact hn

set_option maxRecDepth 100000 in
set_option maxHeartbeats 400000 in
theorem told_bad (v : Value) (p : Addr) (w : World) (hv : v = .slice none 0 0) (hE : Corrupt w p) :
    Calls Tryd.prog 38 #[v, .iface 75 (.pointer (some p))] w (GivesTold w none) := by
  subst hv
  have hlt := hE.lt
  have HE := hide (hE.keep ((Below.refl _ w).alloc (Nat.le_refl _) (.cells #[.slice none 0 0, .int .i64 0] 30)) hlt)
  clear hE
  go_enter Tryd.func38, Tryd.ntmps38
  go_wp2_with fail
  refine (faultOf_corrupt p _ (by exact HE.out)).mono ?_
  rintro e w' ⟨rfl, rfl⟩
  go_wp2
  refine bodyPost_ret (v := .agg #[.slice none 0 0, .int .i64 1]) (by simp [results, Tryd.results38, go_sem]) rfl ⟨?_, .inr ⟨rfl, rfl⟩⟩
  exact (Below.refl _ _).alloc (Nat.le_refl _) _

theorem Own.ne {w1 w2 : World} {b1 : Nat} {v : Value} {A : Option Addr} {n c : Nat} {xs ys : Bs} (h1 : Own w1 b1 v xs) (h2 : Own w2 w1.heap.size (.slice A n c) ys) : ∀ g off, v.ownBlock = some g → A ≠ some ⟨g, off, none⟩ := by
  rintro g off hg rfl
  have k1 := (h1.lt g hg).2
  have k2 := (h2.lt g rfl).1
  omega

set_option maxRecDepth 100000 in
set_option maxHeartbeats 400000 in
theorem iDecode_any (A : Option Addr) (n c B : Nat) (xs : Bs) (p : Addr) (w : World) (hx : Rd w B A n xs) (hB : B ≤ w.heap.size) (hn : n ≤ 4294967295) (hA : A = none → n = 0) (hE : Corrupt w p) :
    Calls Tryd.prog 21 #[.slice A n c] w (GivesTold w (decG xs)) := by
  have HX := hide hx
  have HA := hide hA
  have HN := hide hn
  have hlt := hE.lt
  have HE := hide hE
  clear hx hA hE
  go_enter Tryd.func21, Tryd.ntmps21
  go_wp2_with fail
  refine (Clone_any A n c B xs _ (HX.out.alloc hB _) (by simp; omega) hn HA.out).mono ?_
  rintro e w1 ⟨v1, rfl, hown, hbel⟩
  have hz := hbel.size
  simp only [World.size_alloc] at hbel hz hown
  obtain ⟨A1, c1, rfl, hc1, _, hr1, _⟩ := hown.form
  have hlen : xs.length ≤ 4294967295 := by rw [HX.out.len]; exact hn
  have HO := hide hown
  have HR1 := hide hr1
  have HB := hide hbel
  have HE1 := hide (HE.out.keep (((Below.refl _ w).alloc (Nat.le_refl _) _).trans (hbel.mono (Nat.le_succ _))) hlt)
  clear hbel hown hr1
  go_wp2_with fail
  refine (sDecode_any (.slice none 0 0) [] (w.heap.size + 1) A1 xs.length c1 xs p w1 (Own.nil _ _) HR1.out (by intro g off h; cases h) hz (by omega) hc1 HE1.out (by omega)).mono ?_
  rintro e w2 ⟨hb2, ⟨t, A2, c2, ht, rfl, hr2, hA2, hl2, hlc2⟩ | ⟨ht, rfl⟩⟩
  · have hb2' := HB.out.trans hb2
    have hz2 := hb2'.size
    simp only [World.size_alloc] at hz2
    have HB2 := hide hb2'
    have HR2 := hide hr2
    have HA2 := hide hA2
    have HT := hide ht
    clear hb2 hb2' hr2 hA2 ht
    go_wp2_with fail
    refine (told_ok A2 t.length c2 _ t w2 HR2.out (Nat.le_refl _) hl2 HA2.out).mono ?_
    rintro e w3 ⟨hb3, ⟨v, t', ht', rfl, ho3, hl3⟩ | ⟨h, _⟩⟩
    · obtain rfl := Option.some.inj ht'
      have hb3' := HB2.out.trans (hb3.mono (by omega))
      have hz3 := hb3'.size
      simp only [World.size_alloc] at hz3
      obtain ⟨g0, g1, f0, f1⟩ := told_block hb3'
      obtain ⟨A3, c3, rfl, _, _, _, _⟩ := ho3.form
      have HB3 := hide hb3'
      have HO3 := hide (ho3.less (base' := w.heap.size + 1) (by omega))
      clear hb3 hb3' ho3
      go_wp2
      refine bodyPost_ret (v := .agg #[.slice A3 t.length c3, .int .i64 0]) (by simp [results, Tryd.results21, go_sem, g0, g1]) rfl ⟨?_, .inl ⟨_, t, HT.out, rfl, ?_, hl2⟩⟩
      · exact ((((Below.refl _ _).alloc (Nat.le_refl _) _).trans (HB3.out.mono (Nat.le_succ _))).setCell (Nat.le_refl _) _).setCell (Nat.le_refl _) _
      · exact ((HO3.out.setBelow (a := ⟨w.heap.size, 0, none⟩) (Nat.lt_succ_self _) _).setBelow (a := ⟨w.heap.size, 1, none⟩) (Nat.lt_succ_self _) _).less (Nat.le_succ _)
    · cases h
  · have hb2' := HB.out.trans hb2
    have hz2 := hb2'.size
    simp only [World.size_alloc] at hz2
    have HB2 := hide hb2'
    have HE2 := hide (HE1.out.keep hb2 (by omega))
    have HT := hide ht
    clear hb2 hb2' ht
    go_wp2_with fail
    refine (told_bad _ p w2 rfl HE2.out).mono ?_
    rintro e w3 ⟨hb3, ⟨v, t', ht', _⟩ | ⟨_, rfl⟩⟩
    · cases ht'
    · have hb3' := HB2.out.trans (hb3.mono (by omega))
      have hz3 := hb3'.size
      simp only [World.size_alloc] at hz3
      obtain ⟨g0, g1, f0, f1⟩ := told_block hb3'
      have HB3 := hide hb3'
      clear hb3 hb3'
      go_wp2
      refine bodyPost_ret (v := .agg #[.slice none 0 0, .int .i64 1]) (by simp [results, Tryd.results21, go_sem, g0, g1]) rfl ⟨?_, .inr ⟨HT.out, rfl⟩⟩
      exact ((((Below.refl _ _).alloc (Nat.le_refl _) _).trans (HB3.out.mono (Nat.le_succ _))).setCell (Nat.le_refl _) _).setCell (Nat.le_refl _) _

set_option maxRecDepth 100000 in
set_option maxHeartbeats 400000 in
theorem iDecodeInto_any (A0 : Option Addr) (n0 c0 B0 : Nat) (xs0 : Bs) (A : Option Addr) (n c B : Nat) (xs : Bs) (p : Addr) (w : World) (hx0 : Rd w B0 A0 n0 xs0) (hB0 : B0 ≤ w.heap.size) (hn0 : n0 ≤ 4294967295) (hA0 : A0 = none → n0 = 0)
    (hx : Rd w B A n xs) (hB : B ≤ w.heap.size) (hn : n ≤ 4294967295) (hA : A = none → n = 0) (hE : Corrupt w p) :
    Calls Tryd.prog 24 #[.slice A0 n0 c0, .slice A n c] w (GivesTold w (decG xs)) := by
  have HX0 := hide hx0
  have HA0 := hide hA0
  have HX := hide hx
  have HA := hide hA
  have HN := hide hn
  have hlt := hE.lt
  have HE := hide hE
  clear hx hA hE hx0 hA0
  go_enter Tryd.func24, Tryd.ntmps24
  go_wp2_with fail
  refine (Clone_any A0 n0 c0 B0 xs0 _ (HX0.out.alloc hB0 _) (by simp; omega) hn0 HA0.out).mono ?_
  rintro e w0 ⟨v0, rfl, hown0, hbel0⟩
  have hz0 := hbel0.size
  simp only [World.size_alloc] at hbel0 hz0 hown0
  have hxw := (HX.out.alloc hB (.cells #[.slice none 0 0, .int .i64 0] 30)).keep (w' := w0) (fun k hk => hbel0.block k (by omega))
  have HXW := hide hxw
  have HB0 := hide hbel0
  have HO0 := hide hown0
  clear hxw hbel0 hown0
  go_wp2_with fail
  refine (Clone_any A n c B xs w0 HXW.out (by omega) hn HA.out).mono ?_
  rintro e w1 ⟨v1, rfl, hown, hbel⟩
  have hz1 := hbel.size
  obtain ⟨A1, c1, rfl, hc1, _, hr1, _⟩ := hown.form
  have hz : w.heap.size + 1 ≤ w1.heap.size := by omega
  have hlen : xs.length ≤ 4294967295 := by rw [HX.out.len]; exact hn
  have HNE := hide (Own.ne HO0.out hown)
  have HO := hide (HO0.out.kept hbel)
  have HR1 := hide hr1
  have HB := hide (HB0.out.trans (hbel.mono hz0))
  have HE1 := hide (HE.out.keep (((Below.refl _ w).alloc (Nat.le_refl _) _).trans (HB.out.mono (Nat.le_succ _))) hlt)
  clear hbel hown hr1
  go_wp2_with fail
  refine (sDecode_any v0 xs0 (w.heap.size + 1) A1 xs.length c1 xs p w1 HO.out HR1.out HNE.out hz (by omega) hc1 HE1.out (by omega)).mono ?_
  rintro e w2 ⟨hb2, ⟨t, A2, c2, ht, rfl, hr2, hA2, hl2, hlc2⟩ | ⟨ht, rfl⟩⟩
  · have hb2' := HB.out.trans hb2
    have hz2 := hb2'.size
    simp only [World.size_alloc] at hz2
    have HB2 := hide hb2'
    have HR2 := hide hr2
    have HA2 := hide hA2
    have HT := hide ht
    clear hb2 hb2' hr2 hA2 ht
    go_wp2_with fail
    refine (told_ok A2 t.length c2 _ t w2 HR2.out (Nat.le_refl _) hl2 HA2.out).mono ?_
    rintro e w3 ⟨hb3, ⟨v, t', ht', rfl, ho3, hl3⟩ | ⟨h, _⟩⟩
    · obtain rfl := Option.some.inj ht'
      have hb3' := HB2.out.trans (hb3.mono (by omega))
      have hz3 := hb3'.size
      simp only [World.size_alloc] at hz3
      obtain ⟨g0, g1, f0, f1⟩ := told_block hb3'
      obtain ⟨A3, c3, rfl, _, _, _, _⟩ := ho3.form
      have HB3 := hide hb3'
      have HO3 := hide (ho3.less (base' := w.heap.size + 1) (by omega))
      clear hb3 hb3' ho3
      go_wp2
      refine bodyPost_ret (v := .agg #[.slice A3 t.length c3, .int .i64 0]) (by simp [results, Tryd.results24, go_sem, g0, g1]) rfl ⟨?_, .inl ⟨_, t, HT.out, rfl, ?_, hl2⟩⟩
      · exact ((((Below.refl _ _).alloc (Nat.le_refl _) _).trans (HB3.out.mono (Nat.le_succ _))).setCell (Nat.le_refl _) _).setCell (Nat.le_refl _) _
      · exact ((HO3.out.setBelow (a := ⟨w.heap.size, 0, none⟩) (Nat.lt_succ_self _) _).setBelow (a := ⟨w.heap.size, 1, none⟩) (Nat.lt_succ_self _) _).less (Nat.le_succ _)
    · cases h
  · have hb2' := HB.out.trans hb2
    have hz2 := hb2'.size
    simp only [World.size_alloc] at hz2
    have HB2 := hide hb2'
    have HE2 := hide (HE1.out.keep hb2 (by omega))
    have HT := hide ht
    clear hb2 hb2' ht
    go_wp2_with fail
    refine (told_bad _ p w2 rfl HE2.out).mono ?_
    rintro e w3 ⟨hb3, ⟨v, t', ht', _⟩ | ⟨_, rfl⟩⟩
    · cases ht'
    · have hb3' := HB2.out.trans (hb3.mono (by omega))
      have hz3 := hb3'.size
      simp only [World.size_alloc] at hz3
      obtain ⟨g0, g1, f0, f1⟩ := told_block hb3'
      have HB3 := hide hb3'
      clear hb3 hb3'
      go_wp2
      refine bodyPost_ret (v := .agg #[.slice none 0 0, .int .i64 1]) (by simp [results, Tryd.results24, go_sem, g0, g1]) rfl ⟨?_, .inr ⟨HT.out, rfl⟩⟩
      exact ((((Below.refl _ _).alloc (Nat.le_refl _) _).trans (HB3.out.mono (Nat.le_succ _))).setCell (Nat.le_refl _) _).setCell (Nat.le_refl _) _

set_option maxRecDepth 100000 in
set_option maxHeartbeats 400000 in
theorem iDecodeKeeps_any (A0 : Option Addr) (n0 c0 B0 : Nat) (xs0 : Bs) (A : Option Addr) (n c B : Nat) (xs : Bs) (p : Addr) (w : World) (hx0 : Rd w B0 A0 n0 xs0) (hB0 : B0 ≤ w.heap.size) (hn0 : n0 ≤ 4294967295) (hA0 : A0 = none → n0 = 0)
    (hx : Rd w B A n xs) (hB : B ≤ w.heap.size) (hn : n ≤ 4294967295) (hA : A = none → n = 0) (hE : Corrupt w p) :
    Calls Tryd.prog 17 #[.slice A0 n0 c0, .slice A n c] w (Gives w xs) := by
  have HX0 := hide hx0
  have HA0 := hide hA0
  have HX := hide hx
  have HA := hide hA
  have hlt := hE.lt
  have HE := hide hE
  clear hx hA hE hx0 hA0
  go_enter Tryd.func17, Tryd.ntmps17
  go_wp2_with fail
  refine (Clone_any A n c B xs w HX.out hB hn HA.out).mono ?_
  rintro e w1 ⟨v1, rfl, hown, hbel⟩
  have hz1 := hbel.size
  have hlen : xs.length ≤ 4294967295 := by rw [HX.out.len]; exact hn
  have HX1 := hide (HX0.out.keep (w' := w1) (fun k hk => hbel.block k (by omega)))
  obtain ⟨A1, c1, rfl, hc1, _, _, _⟩ := hown.form
  have HB := hide hbel
  have HO := hide hown
  clear hbel hown
  go_wp2_with fail
  refine (Clone_any A0 n0 c0 B0 xs0 w1 HX1.out (by omega) hn0 HA0.out).mono ?_
  rintro e w2 ⟨v2, rfl, hown2, hbel2⟩
  have hz2 := hbel2.size
  have HO2 := hide hown2
  have HO1 := hide (HO.out.kept hbel2)
  have hr1 : Rd w2 w2.heap.size A1 xs.length xs := by
    obtain ⟨A', c', he, _, _, hr, _⟩ := HO1.out.form
    cases he
    exact hr
  have HNE := hide (show ∀ g off, v2.ownBlock = some g → A1 ≠ some ⟨g, off, none⟩ from by
    rintro g off hg rfl
    have k1 := (hown2.lt g hg).1
    have k2 := (HO.out.lt g rfl).2
    omega)
  have HR1 := hide hr1
  have HB2 := hide hbel2
  have HE1 := hide (HE.out.keep (HB.out.trans (hbel2.mono hz1)) hlt)
  clear hown2 hbel2 hr1
  go_wp2_with fail
  refine (sDecode_any v2 xs0 w1.heap.size A1 xs.length c1 xs p w2 HO2.out HR1.out HNE.out hz2 (by omega) hc1 HE1.out (by omega)).mono ?_
  rintro e w3 ⟨hb3, hcase⟩
  have HO3 := hide (HO.out.kept (HB2.out.trans hb3))
  have HB3 := hide (HB.out.trans ((HB2.out.trans hb3).mono hz1))
  rcases hcase with ⟨t, A2, c2, _, rfl, _, _, _, _⟩ | ⟨_, rfl⟩
  · clear hb3
    go_wp2
    go_ret
    exact ⟨_, rfl, HO3.out, HB3.out⟩
  · clear hb3
    go_wp2
    go_ret
    exact ⟨_, rfl, HO3.out, HB3.out⟩

end Snap
end Go.Proofs.YtodbfgomkcmdgaaDoor

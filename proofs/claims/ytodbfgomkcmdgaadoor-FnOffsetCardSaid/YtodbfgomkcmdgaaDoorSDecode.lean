/-
  snappy.Decode: the text that the block says, or a fault.
-/
import Derived.Test.YtodbfgomkcmdgaaDoorDecode9
import Derived.Test.YtodbfgomkcmdgaaDoorLen2
import Derived.Deep.OwnRows
namespace Go.Proofs.YtodbfgomkcmdgaaDoor
open Go.RowKit
set_option linter.unusedVariables false
namespace Snap

/-- What snappy.Decode gives back. -/
def SDecoded (W : World) (base : Nat) (p : Addr) (ys : Bs) (e : Ending) (w : World) : Prop :=
  Below base W w ∧ ((∃ t A c, decG ys = some t ∧ e = .returned (.tuple #[.slice A t.length c, .nilIface]) ∧ Rd w w.heap.size A t.length t ∧ (A = none → t.length = 0) ∧ t.length ≤ 4294967295 ∧ t.length ≤ c) ∨
    (decG ys = none ∧ e = .returned (.tuple #[.slice none 0 0, .iface 75 (.pointer (some p))])))

theorem below_grown {base g : Nat} {W w : World} (h : W.grownBy w (some g)) (hb : base ≤ g) (hw : base ≤ W.heap.size) : Below base W w :=
  ⟨h.os, h.tape, h.output, h.size, fun k hk => h.block k (by omega) (by simp; omega)⟩

theorem Src.of_rd {W : World} {B g b off m : Nat} {ys : Bs} (h : Rd W B (some ⟨b, off, none⟩) m ys) (hb : b < W.heap.size) (hne : b ≠ g) : Src W g b off m ys :=
  ⟨h.len, hne, hb, fun j hj => h.cellAt rfl hj⟩

theorem fin_len {n : Nat} {ys out t : Bs} (h : run n ys out = some t) : t.length = n := by
  have key : ∀ (k : Nat) (ys out : Bs), runF n k ys out = some t → t.length = n := by
    intro k
    induction k with
    | zero =>
      intro ys out h
      unfold runF at h
      split at h
      · unfold fin at h
        split at h
        · rename_i hl; obtain rfl := Option.some.inj h; exact hl
        · cases h
      · cases h
    | succ k ih =>
      intro ys out h
      unfold runF at h
      split at h
      · unfold fin at h
        split at h
        · rename_i hl; obtain rfl := Option.some.inj h; exact hl
        · cases h
      · split at h
        · cases h
        · exact ih _ _ h
  exact key _ _ _ h

theorem Dst.rd {w : World} {g n : Nat} {out : Bs} {Ad : Option Addr} (h : Dst w g n out) (hl : out.length = n) (hA : 0 < n → Ad = some ⟨g, 0, none⟩) : Rd w w.heap.size Ad n out := by
  refine ⟨hl, fun hn => ?_⟩
  obtain ⟨cur, hg, _, hc⟩ := h hn
  refine ⟨g, 0, hA hn, (Array.getElem?_eq_some_iff.1 hg).1, fun j hj => ?_⟩
  rw [Nat.zero_add, cell_of_row w g j cur.toArray _ _ hg]
  simpa using hc j (by omega)

theorem run_cut_none (w : World) : (Instr.sliceAt 22 (.slice none 0 0) none (some (.int .i64 0)) none).run Tryd.prog w = .ok (.slice none 0 0) w := by
  have ht : Tryd.prog.underlying 22 = some (.slice (Tryd.prog.elem 22)) := by rw [elem_bytes]; exact Tryd.underlying22
  rw [run_sliceAt_slice w _ _ _ _ _ ht, run_slice_h w _ _ 0 0 ht _ 0 (by omega) (by omega), elem_bytes, run_sizeOf_u8]
  simp [Result.andThen, sliced]

theorem cutA_some (b off c k : Nat) : ∃ off', cutA (some ⟨b, off, none⟩) c k = some ⟨b, off', none⟩ := by
  unfold cutA
  split
  · exact ⟨off, rfl⟩
  · simp only [Option.map_some, Addr.add]
    split
    · exact ⟨off, rfl⟩
    · exact ⟨off + k, rfl⟩

theorem uvHead_at {ys : Bs} {l a : Nat} (h : uvHead ys = some (l, a)) : 1 ≤ a ∧ a ≤ ys.length ∧ l ≤ 4294967295 := by
  have key : ∀ (xs : Bs) (i acc : Nat), (Lib.uvarintFrom i acc xs).2 ≤ (i + xs.length : Nat) := by
    intro xs
    induction xs with
    | nil => intro i acc; simp [Lib.uvarintFrom]; try omega
    | cons b r ih =>
      intro i acc
      have h1 := ih (i + 1) (acc + b.toNat % 128 * 2 ^ (7 * i))
      simp only [Lib.uvarintFrom, List.length_cons]
      split
      · dsimp only; omega
      · split
        · split
          · dsimp only; omega
          · dsimp only; omega
        · refine Int.le_trans (ih _ _) ?_
          omega
  have hk := key ys 0 0
  unfold uvHead at h
  split at h
  · cases h
  · rename_i hc
    simp only [Option.some.injEq, Prod.mk.injEq] at h
    obtain ⟨rfl, rfl⟩ := h
    unfold Lib.uvarintDec at *
    omega

theorem made_dst (W : World) (l : Nat) : Dst (W.alloc (.cells (madeCells #[.int .u8 0] l) 5)) W.heap.size l [] := by
  intro _
  refine ⟨(madeCells #[.int .u8 0] l).toList, ?_, by simp [size_madeCells], fun j hj => by simp at hj⟩
  show (W.heap.push _)[W.heap.size]? = _
  simp

set_option maxRecDepth 100000 in
set_option maxHeartbeats 400000 in
theorem sDecode_bad (vd : Value) (base : Nat) (A : Option Addr) (m cs : Nat) (ys : Bs) (p : Addr) (W : World) (hy : Rd W W.heap.size A m ys) (hE : Corrupt W p) (hu : uvHead ys = none) :
    Calls Tryd.prog 36 #[vd, .slice A m cs] W (SDecoded W base p ys) := by
  have HC := hide (decodedLen_none A m cs W.heap.size ys p W hy hE hu)
  have HU := hide hu
  clear hy hE hu
  go_enter Tryd.func36, Tryd.ntmps36
  go_wp2_with fail
  refine HC.out.mono ?_
  rintro e w' ⟨rfl, k, rfl⟩
  go_wp2
  go_ret2
  refine ⟨Below.drewN (Below.refl _ _) k, .inr ⟨?_, rfl⟩⟩
  unfold decG
  rw [HU.out]


set_option maxRecDepth 100000 in
set_option maxHeartbeats 400000 in
theorem sDecode_nil  (base : Nat) (b off m cs l at_ : Nat) (ys : Bs) (p : Addr) (W : World) (hy : Rd W W.heap.size (some ⟨b, off, none⟩) m ys) (hb : b < W.heap.size) (hbase : base ≤ W.heap.size) (hm : m ≤ 4294967295) (hmc : m ≤ cs) (hE : Corrupt W p) (hEb : 1 < base)
    (hu : uvHead ys = some (l, at_)) (hl : l ≤ 4294967295) (hat : at_ ≤ m) (h0 : l = 0) :
    Calls Tryd.prog 36 #[.slice none 0 0, .slice (some ⟨b, off, none⟩) m cs] W (SDecoded W base p ys) := by
  have HC := hide (decodedLen_some (some ⟨b, off, none⟩) m cs W.heap.size l at_ ys W hy hu)
  obtain ⟨off', hoff⟩ := cutA_some b off cs at_
  have hcut := hy.cut hat hmc
  have hsl := run_cut_l (some ⟨b, off, none⟩) m cs (at_ : Int) at_ (by omega) (by omega) (by omega)
  rw [hoff] at hsl hcut
  have HY := hide hcut
  have HE := hide hE
  have hdec : decG ys = run l (ys.drop at_) [] := by unfold decG; rw [hu]
  have HDEC := hide hdec
  subst h0
  have hn := run_cut_none
  clear hy hE hu hcut hoff hdec
  go_enter Tryd.func36, Tryd.ntmps36
  go_wp2_with fail
  refine HC.out.mono ?_
  rintro e w' ⟨rfl, rfl⟩
  go_wp2_with fail
  have hB : Base none 0 0 b off' (m - at_) (cs - at_) W.heap.size := ⟨hl, by omega, (by omega), by omega, (fun h => absurd h (by omega))⟩
  have hbel : Below base W W := Below.refl _ _
  have hsz : base ≤ (W).heap.size := hbase
  refine (decode_any none 0 0 b off' (m - at_) (cs - at_) W.heap.size (ys.drop at_) W hB (Src.of_rd HY.out hb (by omega)) (fun h => absurd h (by omega))).mono ?_
  rintro e w' ⟨hgr, ⟨rfl, out, hrun, hd⟩ | ⟨rfl, hnone⟩⟩
  · have HB := hide (hbel.trans (below_grown hgr hbase hsz))
    have HT := hide (HDEC.out.trans hrun)
    have hlen := fin_len hrun
    have HR := hide (hd.rd (Ad := none) hlen (fun h => absurd h (by omega)))
    have HL := hide hlen
    clear hgr hrun hd hB hbel hsz hlen
    go_wp2
    go_ret2
    refine ⟨HB.out, .inl ⟨out, none, 0, HT.out, ?_, ?_, (fun _ => by rw [HL.out]), ?_, ?_⟩⟩
    · rw [HL.out]; try rfl
    · rw [HL.out]; exact HR.out
    · rw [HL.out]; exact hl
    · rw [HL.out]; omega
  · have HB := hide (hbel.trans (below_grown hgr hbase hsz))
    have HT := hide (HDEC.out.trans hnone)
    have hE1 := HE.out.keep HB.out hEb
    unfold Corrupt at hE1
    clear hgr hnone hB hbel hsz
    go_wp2
    go_quiet (fail)
    go_wp2
    go_ret2
    exact ⟨Below.drewN HB.out _, .inr ⟨HT.out, rfl⟩⟩


set_option maxRecDepth 100000 in
set_option maxHeartbeats 400000 in
theorem sDecode_row (g nd cd : Nat) (cur : List Value) (base : Nat) (b off m cs l at_ : Nat) (ys : Bs) (p : Addr) (W : World) (hy : Rd W W.heap.size (some ⟨b, off, none⟩) m ys) (hb : b < W.heap.size) (hbase : base ≤ W.heap.size) (hm : m ≤ 4294967295) (hmc : m ≤ cs) (hE : Corrupt W p) (hEb : 1 < base)
    (hu : uvHead ys = some (l, at_)) (hl : l ≤ 4294967295) (hat : at_ ≤ m) (hnd : l ≤ nd) (hncd : nd ≤ cd) (hcd : cd ≤ 2 ^ 63 - 1) (hg : W.heap[g]? = some (.cells cur.toArray 5 (0, 0))) (hgb : base ≤ g) (hne : b ≠ g) (hcur : nd ≤ cur.length) :
    Calls Tryd.prog 36 #[.slice (some ⟨g, 0, none⟩) nd cd, .slice (some ⟨b, off, none⟩) m cs] W (SDecoded W base p ys) := by
  have HC := hide (decodedLen_some (some ⟨b, off, none⟩) m cs W.heap.size l at_ ys W hy hu)
  obtain ⟨off', hoff⟩ := cutA_some b off cs at_
  have hcut := hy.cut hat hmc
  have hsl := run_cut_l (some ⟨b, off, none⟩) m cs (at_ : Int) at_ (by omega) (by omega) (by omega)
  rw [hoff] at hsl hcut
  have HY := hide hcut
  have HE := hide hE
  have hdec : decG ys = run l (ys.drop at_) [] := by unfold decG; rw [hu]
  have HDEC := hide hdec
  have hsl2 := run_cut_h g 0 nd cd (l : Int) l (by omega) (by omega) (by omega)
  have HG := hide hg
  clear hg
  clear hy hE hu hcut hoff hdec
  go_enter Tryd.func36, Tryd.ntmps36
  go_wp2_with fail
  refine HC.out.mono ?_
  rintro e w' ⟨rfl, rfl⟩
  go_wp2_with fail
  have hB : Base (some ⟨g, 0, none⟩) l cd b off' (m - at_) (cs - at_) g := ⟨hl, by omega, (by omega), by omega, (fun _ => rfl)⟩
  have hbel : Below base W W := Below.refl _ _
  have hsz : base ≤ (W).heap.size := hbase
  refine (decode_any (some ⟨g, 0, none⟩) l cd b off' (m - at_) (cs - at_) g (ys.drop at_) W hB (Src.of_rd HY.out hb hne) (fun _ => ⟨cur, HG.out, by omega, fun j hj => by simp at hj⟩)).mono ?_
  rintro e w' ⟨hgr, ⟨rfl, out, hrun, hd⟩ | ⟨rfl, hnone⟩⟩
  · have HB := hide (hbel.trans (below_grown hgr hgb hsz))
    have HT := hide (HDEC.out.trans hrun)
    have hlen := fin_len hrun
    have HR := hide (hd.rd (Ad := (some ⟨g, 0, none⟩)) hlen (fun _ => rfl))
    have HL := hide hlen
    clear hgr hrun hd hB hbel hsz hlen
    go_wp2
    go_ret2
    refine ⟨HB.out, .inl ⟨out, (some ⟨g, 0, none⟩), cd, HT.out, ?_, ?_, (fun h => by cases h), ?_, ?_⟩⟩
    · rw [HL.out]; try rfl
    · rw [HL.out]; exact HR.out
    · rw [HL.out]; exact hl
    · rw [HL.out]; omega
  · have HB := hide (hbel.trans (below_grown hgr hgb hsz))
    have HT := hide (HDEC.out.trans hnone)
    have hE1 := HE.out.keep HB.out hEb
    unfold Corrupt at hE1
    clear hgr hnone hB hbel hsz
    go_wp2
    go_quiet (fail)
    go_wp2
    go_ret2
    exact ⟨Below.drewN HB.out _, .inr ⟨HT.out, rfl⟩⟩


set_option maxRecDepth 100000 in
set_option maxHeartbeats 400000 in
theorem sDecode_make (Ad : Option Addr) (nd cd : Nat) (base : Nat) (b off m cs l at_ : Nat) (ys : Bs) (p : Addr) (W : World) (hy : Rd W W.heap.size (some ⟨b, off, none⟩) m ys) (hb : b < W.heap.size) (hbase : base ≤ W.heap.size) (hm : m ≤ 4294967295) (hmc : m ≤ cs) (hE : Corrupt W p) (hEb : 1 < base)
    (hu : uvHead ys = some (l, at_)) (hl : l ≤ 4294967295) (hat : at_ ≤ m) (hnd : nd < l) :
    Calls Tryd.prog 36 #[.slice Ad nd cd, .slice (some ⟨b, off, none⟩) m cs] W (SDecoded W base p ys) := by
  have HC := hide (decodedLen_some (some ⟨b, off, none⟩) m cs W.heap.size l at_ ys W hy hu)
  obtain ⟨off', hoff⟩ := cutA_some b off cs at_
  have hcut := hy.cut hat hmc
  have hsl := run_cut_l (some ⟨b, off, none⟩) m cs (at_ : Int) at_ (by omega) (by omega) (by omega)
  rw [hoff] at hsl hcut
  have HY := hide hcut
  have HE := hide hE
  have hdec : decG ys = run l (ys.drop at_) [] := by unfold decG; rw [hu]
  have HDEC := hide hdec
  have hmk := run_make_row' (P := Tryd.prog) 22 5 (.int .u8 0) 1 Tryd.underlying22 info_u8 rfl .i64 .i64 l (by omega) (by omega)
  clear hy hE hu hcut hoff hdec
  go_enter Tryd.func36, Tryd.ntmps36
  go_wp2_with fail
  refine HC.out.mono ?_
  rintro e w' ⟨rfl, rfl⟩
  go_wp2_with fail
  have hB : Base (some ⟨W.heap.size, 0, none⟩) l l b off' (m - at_) (cs - at_) W.heap.size := ⟨hl, by omega, (Nat.le_refl _), by omega, (fun _ => rfl)⟩
  have hbel : Below base W (W.alloc (.cells (madeCells #[.int .u8 0] l) 5)) := (Below.refl _ _).alloc hbase _
  have hsz : base ≤ ((W.alloc (.cells (madeCells #[.int .u8 0] l) 5))).heap.size := (by simp; omega)
  refine (decode_any (some ⟨W.heap.size, 0, none⟩) l l b off' (m - at_) (cs - at_) W.heap.size (ys.drop at_) (W.alloc (.cells (madeCells #[.int .u8 0] l) 5)) hB (Src.of_rd (HY.out.alloc (Nat.le_refl _) _) (by simp; omega) (by omega)) (made_dst W l)).mono ?_
  rintro e w' ⟨hgr, ⟨rfl, out, hrun, hd⟩ | ⟨rfl, hnone⟩⟩
  · have HB := hide (hbel.trans (below_grown hgr hbase hsz))
    have HT := hide (HDEC.out.trans hrun)
    have hlen := fin_len hrun
    have HR := hide (hd.rd (Ad := (some ⟨W.heap.size, 0, none⟩)) hlen (fun _ => rfl))
    have HL := hide hlen
    clear hgr hrun hd hB hbel hsz hlen
    go_wp2
    go_ret2
    refine ⟨HB.out, .inl ⟨out, (some ⟨W.heap.size, 0, none⟩), l, HT.out, ?_, ?_, (fun h => by cases h), ?_, ?_⟩⟩
    · rw [HL.out]; try rfl
    · rw [HL.out]; exact HR.out
    · rw [HL.out]; exact hl
    · rw [HL.out]; omega
  · have HB := hide (hbel.trans (below_grown hgr hbase hsz))
    have HT := hide (HDEC.out.trans hnone)
    have hE1 := HE.out.keep HB.out hEb
    unfold Corrupt at hE1
    clear hgr hnone hB hbel hsz
    go_wp2
    go_quiet (fail)
    go_wp2
    go_ret2
    exact ⟨Below.drewN HB.out _, .inr ⟨HT.out, rfl⟩⟩


/-- snappy.Decode, at any room that is the call's own (or nil). -/
theorem sDecode_any (vd : Value) (xs : Bs) (base : Nat) (A : Option Addr) (m cs : Nat) (ys : Bs) (p : Addr) (W : World) (hown : Own W base vd xs) (hy : Rd W W.heap.size A m ys) (hne : ∀ g off, vd.ownBlock = some g → A ≠ some ⟨g, off, none⟩) (hbase : base ≤ W.heap.size) (hm : m ≤ 4294967295) (hmc : m ≤ cs) (hE : Corrupt W p)
    (hEb : 1 < base) : Calls Tryd.prog 36 #[vd, .slice A m cs] W (SDecoded W base p ys) := by
  cases hu : uvHead ys with
  | none => exact sDecode_bad vd base A m cs ys p W hy hE hu
  | some q =>
    obtain ⟨l, at_⟩ := q
    obtain ⟨h1, h2, h3⟩ := uvHead_at hu
    have hlen := hy.len
    obtain ⟨b, off, rfl, hb, _⟩ := hy.at_ (by omega)
    rcases hown.2 with ⟨rfl, h0⟩ | ⟨g, cap, cur, rfl, hgb, hg, hnc, hcm, hs, ht⟩
    · by_cases hl : l = 0
      · exact sDecode_nil base b off m cs l at_ ys p W hy hb hbase hm hmc hE hEb hu h3 (by omega) hl
      · exact sDecode_make none 0 0 base b off m cs l at_ ys p W hy hb hbase hm hmc hE hEb hu h3 (by omega) (by omega)
    · unfold maxLen at hcm
      by_cases hl : l ≤ xs.length
      · exact sDecode_row g xs.length cap cur.toList base b off m cs l at_ ys p W hy hb hbase hm hmc hE hEb hu h3 (by omega) hl hnc hcm (by simpa using hg) hgb (fun e => hne g off rfl (by rw [e])) (by simp; omega)
      · exact sDecode_make _ _ _ base b off m cs l at_ ys p W hy hb hbase hm hmc hE hEb hu h3 (by omega) (by omega)


end Snap
end Go.Proofs.YtodbfgomkcmdgaaDoor

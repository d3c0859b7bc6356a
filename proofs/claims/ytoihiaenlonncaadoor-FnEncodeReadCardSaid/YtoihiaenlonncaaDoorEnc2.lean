/-
  snappy.Encode, whole.
-/
import Derived.Test.YtoihiaenlonncaaDoorEnc1
import Derived.Test.YtoihiaenlonncaaDoorVarint
namespace Go.Proofs.YtoihiaenlonncaaDoor
open Go.RowKit
set_option linter.unusedVariables false
namespace Snap

theorem EnZ.next {g nd cd b off m c d m' c' b' off' : Nat} {a : Act} (h : EnZ g nd cd b off m c d (.slice (some ⟨b', off', none⟩) m' c') a) : EnD g nd cd b' off' m' c' d a := ⟨h.size, h.defers, h.s0, h.s1, h.s6⟩
theorem EnZ.last {g nd cd b off m c d : Nat} {a : Act} (h : EnZ g nd cd b off m c d (.slice none 0 0) a) : EnE g nd cd d a := ⟨h.size, h.defers, h.s0, h.s1, h.s6⟩

/-- What Encode's loop has done. -/
structure EnW (w0 w : World) (g nd m k slack : Nat) (xs body : Bs) : Prop where
  chain : Chain [] body (xs.take k)
  dst : Dst w g nd (varL m ++ body)
  gr : w0.grownBy w (some g)
  cost : 60 * body.length ≤ 62 * k + slack

theorem en_loop (g nd cd b off m c : Nat) (xs : Bs) (w0 : World) (Q : Exit → Act → World → Prop) (a : Act) (hfr : EnD g nd cd b off m c (varL m).length a) (hs : Src w0 g b off m xs) (hd : Dst w0 g nd (varL m)) (hg0 : g < w0.heap.size)
    (hm1 : 1 ≤ m) (hm : m ≤ 1073741823) (hmc : m ≤ c) (hndcd : nd ≤ cd) (hndb : nd ≤ 4294967295) (hroom : 32 + m + m / 6 ≤ nd)
    (h : ∀ a w' body, EnE g nd cd ((varL m).length + body.length) a → EnW w0 w' g nd m m 60 xs body → Q (.exit 0) a w') : Code.wp Tryd.prog (.loop enL) Q a w0 := by
  have hvl : (varL m).length ≤ 5 := varL_length_le m (by omega)
  have hlen := hs.len
  refine wp_loop (fun a w => ∃ k body, (k < m ∧ EnD g nd cd b (off + k) (m - k) (c - k) ((varL m).length + body.length) a ∧ EnW w0 w g nd m k 0 xs body) ∨ (k = m ∧ EnE g nd cd ((varL m).length + body.length) a ∧ EnW w0 w g nd m m 60 xs body)) (fun a _ => match a.tmps.getD 1 undef with | .slice _ n _ => n | _ => 0)
    ⟨0, [], .inl ⟨by omega, hfr, by simpa using Chain.nil [], by simpa using hd, World.grownBy.refl _ _, by simp⟩⟩ ?_
  rintro a w ⟨k, body, ⟨hk, hf, hw⟩ | ⟨rfl, hf, hw⟩⟩
  · have h1 := hf.s1
    have hcost := hw.cost
    have hsrc : Src w g b off m xs := hs.grown hw.gr
    have hg1 : g < w.heap.size := Nat.lt_of_lt_of_le hg0 hw.gr.size
    have hlap : (varL m ++ body).length = (varL m).length + body.length := List.length_append
    rw [enL_eq]
    refine wp_seq (en_h_go g nd cd b (off + k) (m - k) (c - k) _ w _ a hf (by omega) (by omega) (fun a1 hf1 => ?_))
    refine wp_block (wp_seq (en_r8 g nd cd b (off + k) (m - k) (c - k) _ w _ a1 hf1 (fun a2 hf2 => ?_)))
    refine wp_seq (en_r9 g nd cd b (off + k) (m - k) (c - k) _ _ w _ a2 hf2 (fun a3 hf3 => ?_))
    by_cases hlast : m - k ≤ 65536
    · have hx : (xs.drop k).take (m - k) = xs.drop k := List.take_of_length_le (by rw [List.length_drop]; omega)
      have hsk := hsrc.cut k (m - k) (by omega)
      rw [hx] at hsk
      have hall : xs.take m = xs := List.take_of_length_le (by omega)
      refine wp_seq (en_x10_no g nd cd b (off + k) (m - k) (c - k) _ _ w _ a3 hf3 hlast (fun a4 hf4 => ?_))
      have fin : ∀ a' w' e, EnZ g nd cd b (off + k) (m - k) (c - k) ((varL m).length + body.length + e.length) (.slice none 0 0) a' → Dst w' g nd (varL m ++ body ++ e) → w.grownBy w' (some g) → Chain (xs.take k) e (xs.take k ++ xs.drop k) → 60 * e.length ≤ 61 * (m - k) + 60 →
          (∃ k body, (k < m ∧ EnD g nd cd b (off + k) (m - k) (c - k) ((varL m).length + body.length) a' ∧ EnW w0 w' g nd m k 0 xs body) ∨ (k = m ∧ EnE g nd cd ((varL m).length + body.length) a' ∧ EnW w0 w' g nd m m 60 xs body)) ∧
          (match a'.tmps.getD 1 undef with | .slice _ n _ => n | _ => 0) < (match a.tmps.getD 1 undef with | .slice _ n _ => n | _ => 0) := by
        intro a' w' e hf' hd' hg' hc' hl'
        have hla : (body ++ e).length = body.length + e.length := List.length_append
        refine ⟨⟨m, body ++ e, .inr ⟨rfl, ?_, ⟨?_, by rw [← List.append_assoc]; exact hd', hw.gr.trans hg', by rw [hla]; omega⟩⟩⟩, ?_⟩
        · rw [hla, ← Nat.add_assoc]; exact hf'.last
        · rw [hall]
          rw [List.take_append_drop] at hc'
          exact hw.chain.trans hc'
        · rw [hf'.s1, h1]
          show 0 < m - k
          omega
      by_cases hsm : m - k < 17
      · refine en_x12_lit g nd cd b (off + k) (m - k) (c - k) _ _ (xs.drop k) (varL m ++ body) w _ a4 hf4 hsk hw.dst (by omega) hsm (by omega) hndcd hndb hlap (by omega) ?_
        intro a5 w5 hf5 hd5 hg5
        have hld : (xs.drop k).length = m - k := by rw [List.length_drop]; omega
        refine fin a5 w5 _ hf5 hd5 hg5 (Chain.one (elem_lit _ _ 0 (by omega) (by omega) (by omega))) ?_
        rw [litL_len _ (by omega) (by omega), hld]
        unfold litHead
        rw [if_pos (by omega)]
        omega
      · refine en_x12_blk g nd cd b (off + k) (m - k) (c - k) _ _ (xs.drop k) (varL m ++ body) (xs.take k) w _ a4 hf4 hsk hw.dst hg1 (by omega) hlast (by omega) hndcd hndb hlap (by omega) ?_
        intro a5 w5 bs hf5 hd5 hg5 hc5 hl5
        exact fin a5 w5 bs hf5 hd5 hg5 hc5 hl5
    · have hsk := hsrc.cut k 65536 (by omega)
      refine wp_seq (en_x10_yes g nd cd b (off + k) (m - k) (c - k) _ _ w _ a3 hf3 (by omega) (by omega) (by omega) (fun a4 q hf4 => ?_))
      refine en_x12_blk g nd cd b (off + k) 65536 (c - k) _ _ ((xs.drop k).take 65536) (varL m ++ body) (xs.take k) (w.drewN q) _ a4 hf4 (hsk.drewN q) (hw.dst.drewN q) hg1 (by omega) (by omega) (by omega) hndcd hndb hlap (by omega) ?_
      intro a5 w5 bs hf5 hd5 hg5 hc5 hl5
      have hla : (body ++ bs).length = body.length + bs.length := List.length_append
      have hf6 := hf5.next
      rw [Nat.add_assoc off, Nat.sub_sub, Nat.sub_sub, Nat.add_assoc, ← hla] at hf6
      refine ⟨⟨k + 65536, body ++ bs, .inl ⟨by omega, hf6, ⟨?_, by rw [← List.append_assoc]; exact hd5, (grownBy_drewN hw.gr q).trans hg5, by rw [hla]; omega⟩⟩⟩, ?_⟩
      · rw [← List.take_add] at hc5
        exact hw.chain.trans hc5
      · rw [hf6.s1, h1]
        show m - (k + 65536) < m - k
        omega
  · rw [enL_eq]
    exact wp_seq (en_h_end g nd cd _ w _ a hf (fun a1 hf1 => h a1 w body hf1 hw))

/-- What Encode gives. -/
def EncOut (w0 : World) (base : Nat) (A : Option Addr) (xs : Bs) (e : Ending) (w' : World) : Prop :=
  ∃ g c out body, e = .returned (.slice (some ⟨g, 0, none⟩) out.length c) ∧ out = varL xs.length ++ body ∧ Chain [] body xs ∧ 60 * out.length ≤ 62 * xs.length + 360 ∧ out.length ≤ c ∧ Rd w' w'.heap.size (some ⟨g, 0, none⟩) out.length out ∧ Below base w0 w' ∧ Rd w' w'.heap.size A xs.length xs

theorem Dst.rd {w : World} {g n : Nat} {out : Bs} (h : Dst w g n out) (hn : out.length ≤ n) : Rd w w.heap.size (some ⟨g, 0, none⟩) out.length out := by
  refine ⟨rfl, fun h0 => ?_⟩
  obtain ⟨cur, hg, _, hc⟩ := h (by omega)
  refine ⟨g, 0, rfl, (Array.getElem?_eq_some_iff.1 hg).1, fun j hj => ?_⟩
  rw [Nat.zero_add, cell_of_row w g j cur.toArray _ _ hg]
  simpa using hc j hj

set_option maxRecDepth 100000 in
set_option maxHeartbeats 1000000 in
/-- From the first length on. -/
theorem en_core (g nd cd b off m c base : Nat) (xs : Bs) (w0 w : World) (a : Act) (hfr : EnS (some ⟨g, 0, none⟩) nd cd b off m c a) (hs : Src w g b off m xs) (hd : Dst w g nd []) (hg0 : g < w.heap.size) (hgr : w0.grownBy w (some g)) (hbase : base ≤ g) (hbase0 : base ≤ w0.heap.size)
    (hm1 : 1 ≤ m) (hm : m ≤ 1073741823) (hmc : m ≤ c) (hndcd : nd ≤ cd) (hndb : nd ≤ 4294967295) (hroom : 32 + m + m / 6 ≤ nd) :
    Code.wp Tryd.prog (.seq enR6 (.seq (.block 0 (.loop enL)) enT)) (bodyPost Tryd.prog Tryd.f17 (EncOut w0 base (some ⟨b, off, none⟩) xs)) a w := by
  have hvl : (varL m).length ≤ 5 := varL_length_le m (by omega)
  have hlen := hs.len
  refine wp_seq (en_r6 g nd cd b off m c w _ a hfr (by omega) hd (by omega) hndb ?_)
  intro a1 w1 hf1 hd1 hg1
  refine wp_seq (wp_block (en_loop g nd cd b off m c xs w1 _ a1 hf1 (hs.grown hg1) hd1 (Nat.lt_of_lt_of_le hg0 hg1.size) hm1 hm hmc hndcd hndb hroom ?_))
  intro a2 w2 body hf2 hw2
  have hlap : (varL m ++ body).length = (varL m).length + body.length := List.length_append
  have hcost := hw2.cost
  show Code.wp _ enT _ _ _
  rw [← hlap] at hf2
  refine en_t g nd cd _ w2 _ a2 hf2 (by omega) (by omega) (fun a3 hr => ?_)
  have hgr2 : w0.grownBy w2 (some g) := (hgr.trans hg1).trans hw2.gr
  have hsrc2 := (hs.grown hg1).grown hw2.gr
  have hch := hw2.chain
  rw [List.take_of_length_le (by omega)] at hch
  refine bodyPost_ret (results_one rfl _ _ _ hr.2) hr.1 ⟨g, cd, varL m ++ body, body, rfl, by rw [hlen], hch, by omega, by omega, hw2.dst.rd (by omega), ?_, ?_⟩
  · exact ⟨hgr2.os, hgr2.tape, hgr2.output, hgr2.size, fun k hk => hgr2.block k (by omega) (by intro hh; have := Option.some.inj hh; omega)⟩
  · refine ⟨rfl, fun h0 => ⟨b, off, rfl, hsrc2.lt, fun j hj => ?_⟩⟩
    exact hsrc2.cell j (by omega)

set_option maxRecDepth 100000 in
set_option maxHeartbeats 1000000 in
theorem Encode_some (Ad : Option Addr) (nd cd b off m c base : Nat) (ys xs : Bs) (w : World) (hown : Own w base (.slice Ad nd cd) ys) (hy : ys.length = nd) (hB : base ≤ w.heap.size) (hndcd : nd ≤ cd) (hndb : nd ≤ 4294967295) (hx : Rd w w.heap.size (some ⟨b, off, none⟩) m xs) (hb : b < w.heap.size) (hne : ∀ ad, Ad = some ad → b ≠ ad.block)
    (hm1 : 1 ≤ m) (hm : m ≤ 1073741823) (hmc : m ≤ c) :
    Calls Tryd.prog 17 #[.slice Ad nd cd, .slice (some ⟨b, off, none⟩) m c] w (EncOut w base (some ⟨b, off, none⟩) xs) := by
  have hxl := hx.len
  have hxc : ∀ j, j < m → w.cell? ⟨b, off + j, none⟩ = some (.int .u8 ((xs.getD j 0).toNat : Int)) := by
    obtain ⟨b', off', hA, _, hc⟩ := hx.at_ (by omega)
    obtain ⟨rfl, rfl⟩ : b = b' ∧ off = off' := by simpa using hA
    exact hc
  have main : ∀ a, EnS Ad nd cd b off m c a → Code.wp Tryd.prog (.seq enX1 (.seq enR6 (.seq (.block 0 (.loop enL)) enT))) (bodyPost Tryd.prog Tryd.f17 (EncOut w base (some ⟨b, off, none⟩) xs)) a w := by
    intro a hf
    by_cases hroom : 32 + m + m / 6 ≤ nd
    · rcases hown.2 with ⟨hv, h0⟩ | ⟨g, cap, cur, hv, hgb, hg, hnc, hcm, hs, ht⟩
      · omega
      · simp only [Value.slice.injEq] at hv
        obtain ⟨rfl, hyn, rfl⟩ := hv
        refine wp_seq (en_x1_room _ nd cd b off m c w _ a hf hm hroom hndb (fun a1 hf1 => ?_))
        have hglt : g < w.heap.size := (Array.getElem?_eq_some_iff.1 hg).1
        refine en_core g nd cd b off m c base xs w w a1 hf1 ⟨hxl, hne _ rfl, hb, hxc⟩ ?_ hglt (World.grownBy.refl _ _) hgb hB hm1 hm hmc hndcd hndb hroom
        intro h0
        exact ⟨cur.toList, by simpa using hg, by simp [hs]; omega, fun j hj => absurd hj (by simp)⟩
    · refine wp_seq (en_x1_make Ad nd cd b off m c w _ a hf hm (by omega) (fun a1 hf1 => ?_))
      have hgr : w.grownBy (w.alloc (.cells (madeCells #[.int .u8 0] (32 + m + m / 6)) 5)) (some w.heap.size) := World.grownBy_alloc w _ _
      refine en_core w.heap.size _ _ b off m c base xs w _ a1 hf1 ⟨hxl, by omega, Nat.lt_of_lt_of_le hb hgr.size, fun j hj => ?_⟩ ?_ (by show w.heap.size < (w.heap.push _).size; simp) hgr hB hB hm1 hm hmc (Nat.le_refl _) (by omega) (Nat.le_refl _)
      · exact (World.cell?_of_block (w := w) (hgr.block b hb (by simp; omega))).trans (hxc j hj)
      · intro h0
        refine ⟨(madeCells #[.int .u8 0] (32 + m + m / 6)).toList, by show (w.heap.push _)[w.heap.size]? = _; simp, by simp [size_madeCells], fun j hj => absurd hj (by simp)⟩
  have HM := hide main
  clear main hown hx hxc hne
  go_enter Tryd.func17, Tryd.ntmps17
  exact wp_seq (en_r0 Ad nd cd b off m c w _ _ ⟨rfl, rfl, rfl, rfl⟩ (fun a1 h1 => HM.out a1 h1))

theorem Encode_any (vd : Value) (ys : Bs) (A : Option Addr) (m c base : Nat) (xs : Bs) (w : World) (hown : Own w base vd ys) (hyb : ys.length ≤ 4294967295) (hB : base ≤ w.heap.size) (hx : Rd w w.heap.size A m xs) (hne : ∀ k, vd.ownBlock = some k → ∀ ad, A = some ad → ad.block ≠ k) (hm : m ≤ 1073741823) (hmc : m ≤ c) :
    Calls Tryd.prog 17 #[vd, .slice A m c] w (EncOut w base A xs) := by
  by_cases h0 : m = 0
  · subst h0
    have hxs : xs = [] := List.eq_nil_of_length_eq_zero hx.len
    subst hxs
    refine (Encode_empty vd ys c A base w hown hB).mono ?_
    rintro e w' ⟨hbel, g, c', rfl, hc, hr⟩
    refine ⟨g, c', [0], [], rfl, ?_, Chain.nil _, by simp, hc, hr, hbel, Rd.nil _ _ _⟩
    rw [show ([] : Bs).length = 0 from rfl, varL_small (by omega)]
    rfl
  · obtain ⟨b, off, rfl, hb, _⟩ := hx.at_ (by omega)
    obtain ⟨Ad, cd, rfl, hnc, _, _, _⟩ := hown.form
    refine Encode_some Ad ys.length cd b off m c base ys xs w hown rfl hB hnc hyb hx hb ?_ (by omega) hm hmc
    rintro ad rfl
    exact hne ad.block rfl _ rfl

end Snap
end Go.Proofs.YtoihiaenlonncaaDoor

/-
  snappy.emitLiteral: it lays 'litL text 0'.
-/
import Derived.Test.YtoihiaenlonncaaDoorRow
namespace Go.Proofs.YtoihiaenlonncaaDoor
open Go.RowKit
set_option linter.unusedVariables false
namespace Snap

/-- So many bytes have been laid behind 'out'. -/
def Laid (w0 : World) (g N : Nat) (out bs : Bs) (e : Ending) (w' : World) : Prop := e = .returned (.int .i64 ((bs.length : Nat) : Int)) ∧ Dst w' g N (out ++ bs) ∧ w0.grownBy w' (some g)

theorem litM_short {k : Nat} (h : k < 60) : litM k 0 = 0 := litM_zero.2 ⟨by omega, h⟩
theorem litM_one {k : Nat} (h : 60 ≤ k) (h2 : k < 256) : litM k 0 = 1 := by
  unfold litM
  dsimp only
  repeat' split
  all_goals omega
theorem litM_two {k : Nat} (h : 256 ≤ k) (h2 : k < 65536) : litM k 0 = 2 := by
  unfold litM
  dsimp only
  repeat' split
  all_goals omega

theorem or0_fin : ∀ n : Fin 60, bits BinOp.or IntKind.u8 ((n.val : Int) * 4) 0 = (((UInt8.ofNat (n.val * 4)).toNat : Nat) : Int) := by decide +kernel
theorem or0 (k : Nat) (h : k < 60) : bits BinOp.or IntKind.u8 ((k : Int) * 4) 0 = (((UInt8.ofNat (k * 4)).toNat : Nat) : Int) := or0_fin ⟨k, h⟩

set_option maxRecDepth 100000 in
set_option maxHeartbeats 2000000 in
theorem emitLiteral_short (g o n c N b off k cl : Nat) (xs out : Bs) (w : World) (hs : Src w g b off (k + 1) xs) (hk : k < 60) (hout : out.length = o) (hN : o + n ≤ N) (hnc : n ≤ c) (hn : k + 1 + 1 ≤ n) (hcl : k + 1 ≤ cl) (hNb : N ≤ 4294967295) (hd : Dst w g N out) :
    Calls Tryd.prog 23 #[.slice (some ⟨g, o, none⟩) n c, .slice (some ⟨b, off, none⟩) (k + 1) cl] w (Laid w g N out (litL xs 0)) := by
  have hL : litL xs 0 = UInt8.ofNat (k * 4) :: xs := by
    unfold litL
    dsimp only
    rw [hs.len, show k + 1 - 1 = k from rfl, if_pos (litM_short hk)]
  have h0 := or0 k hk
  generalize UInt8.ofNat (k * 4) = y0 at *
  have HL := hide hL
  have hcells : ∀ j, j < 3 → j < n → (∃ v, w.cell? ⟨g, o + j, none⟩ = some v) ∧ w.frozen? ⟨g, o + j, none⟩ = false := fun j _ hj => hd.room (o + j) (by omega)

  obtain ⟨⟨v0, g0⟩, f0⟩ := hcells 0 (by omega) (by omega)
  rw [Nat.add_zero] at g0 f0
  have hsl := run_cut_l (some ⟨g, o, none⟩) n c 1 1 (by omega) (by omega) (by omega)
  rw [cutA_some g o c 1 (by omega)] at hsl

  have hd0 := Dst.put hd (by (try simp only [List.length_append, List.length_cons, List.length_nil]); omega) y0 ((y0.toNat : Nat)) (rfl) (o := o) (by (try simp only [List.length_append, List.length_cons, List.length_nil]); omega)
  obtain ⟨cur, hcur, hclen, hco⟩ := hd0 (by omega)
  have hgr : w.grownBy (w.setCell ⟨g, o, none⟩ (.int .u8 ((y0.toNat : Nat)))) (some g) := World.grownBy.trans (World.grownBy.refl w (some g)) (grownBy_put _ g (o) _)
  have hsrc := hs.grown hgr
  have HCU := hide hcur
  have HCO := hide hco
  have HG := hide hgr
  have HS := hide hsrc
  have HO := hide hout
  have hpos : ∀ j v, (xs.map bv)[j]? = some v → (w.setCell ⟨g, o, none⟩ (.int .u8 ((y0.toNat : Nat)))).cell? ((⟨b, off, none⟩ : Addr).add j) = some v := fun j v hj => by
    have hl := hsrc.len
    have hjl : j < k + 1 := by
      have := (List.getElem?_eq_some_iff.1 hj).1
      rw [List.length_map] at this
      omega
    rw [Addr.add_lit]
    refine (hsrc.cell j hjl).trans ?_
    rw [← hj, List.getElem?_map, List.getElem?_eq_getElem (by omega), List.getD_eq_getElem?_getD, List.getElem?_eq_getElem (by omega)]
    rfl
  have HPOS := hide hpos
  clear hpos hs hd hcur hco hgr hsrc hout hcells hL hd0 

  go_enter Tryd.func23, Tryd.ntmps23
  go_wp2_with (refine copy_own rfl (.tmp 43) (.tmp 44) rfl (some ⟨g, o + 1, none⟩) (some ⟨b, off, none⟩) (n - 1) (c - 1) (k + 1) cl rfl rfl g (o + 1) cur HCU.out (xs.map bv) (by have := HS.out.len; rw [List.length_map]; show _ = min _ _; omega) (fun _ => ⟨rfl, _, rfl, HPOS.out⟩) (by have := HS.out.len; rw [List.length_map]; omega) (bytes_oneCell xs) ?_; intro w1 hg1 hgr1; have hlen : (xs.map bv).length = k + 1 := by { rw [List.length_map]; exact HS.out.len }; rw [hlen])
  have hol : (out ++ [y0]).length = o + 1 := by simp [HO.out]
  have hfin : Dst w1 g N ((out ++ [y0]) ++ xs) := Dst.more hclen (by rw [hol, HS.out.len]; omega) HCO.out (by rw [hol]; exact hg1)
  have HF := hide hfin
  have HG2 := hide (HG.out.trans hgr1)
  have HXL := hide HS.out.len
  clear hg1 hgr1 hfin hol hlen
  go_wp2
  go_ret
  refine ⟨?_, ?_, HG2.out⟩
  · rw [HL.out]
    simp [HXL.out]
    try omega
  · rw [HL.out]
    have := HF.out
    simpa using this

set_option maxRecDepth 100000 in
set_option maxHeartbeats 2000000 in
theorem emitLiteral_one (g o n c N b off k cl : Nat) (xs out : Bs) (w : World) (hs : Src w g b off (k + 1) xs) (hk0 : 60 ≤ k) (hk : k < 256) (hout : out.length = o) (hN : o + n ≤ N) (hnc : n ≤ c) (hn : k + 1 + 2 ≤ n) (hcl : k + 1 ≤ cl) (hNb : N ≤ 4294967295) (hd : Dst w g N out) :
    Calls Tryd.prog 23 #[.slice (some ⟨g, o, none⟩) n c, .slice (some ⟨b, off, none⟩) (k + 1) cl] w (Laid w g N out (litL xs 0)) := by
  have hL : litL xs 0 = 240 :: UInt8.ofNat k :: xs := by
    unfold litL
    dsimp only
    rw [hs.len, show k + 1 - 1 = k from rfl, litM_one hk0 hk, if_neg (by decide)]
    simp only [leB, List.cons_append, List.nil_append, Nat.mod_eq_of_lt hk]
    rfl
  have h1 : (k : Int) = (((UInt8.ofNat k).toNat : Nat) : Int) := by rw [toNat_ofNat hk]
  have e240 : (240 : Int) = (((240 : UInt8).toNat : Nat) : Int) := by decide
  generalize UInt8.ofNat k = y1 at *
  generalize (240 : UInt8) = y0 at *
  have HL := hide hL
  have hcells : ∀ j, j < 3 → j < n → (∃ v, w.cell? ⟨g, o + j, none⟩ = some v) ∧ w.frozen? ⟨g, o + j, none⟩ = false := fun j _ hj => hd.room (o + j) (by omega)

  obtain ⟨⟨v0, g0⟩, f0⟩ := hcells 0 (by omega) (by omega)
  rw [Nat.add_zero] at g0 f0
  obtain ⟨⟨v1, g1⟩, f1⟩ := hcells 1 (by omega) (by omega)
  have hsl := run_cut_l (some ⟨g, o, none⟩) n c 2 2 (by omega) (by omega) (by omega)
  rw [cutA_some g o c 2 (by omega)] at hsl

  have hd0 := Dst.put hd (by (try simp only [List.length_append, List.length_cons, List.length_nil]); omega) y0 (240) (e240) (o := o) (by (try simp only [List.length_append, List.length_cons, List.length_nil]); omega)
  have hd1 := Dst.put hd0 (by (try simp only [List.length_append, List.length_cons, List.length_nil]); omega) y1 ((k : Int)) (h1) (o := o + 1) (by (try simp only [List.length_append, List.length_cons, List.length_nil]); omega)
  obtain ⟨cur, hcur, hclen, hco⟩ := hd1 (by omega)
  have hgr : w.grownBy ((w.setCell ⟨g, o, none⟩ (.int .u8 (240))).setCell ⟨g, o + 1, none⟩ (.int .u8 ((k : Int)))) (some g) := World.grownBy.trans (World.grownBy.trans (World.grownBy.refl w (some g)) (grownBy_put _ g (o) _)) (grownBy_put _ g (o + 1) _)
  have hsrc := hs.grown hgr
  have HCU := hide hcur
  have HCO := hide hco
  have HG := hide hgr
  have HS := hide hsrc
  have HO := hide hout
  have hpos : ∀ j v, (xs.map bv)[j]? = some v → ((w.setCell ⟨g, o, none⟩ (.int .u8 (240))).setCell ⟨g, o + 1, none⟩ (.int .u8 ((k : Int)))).cell? ((⟨b, off, none⟩ : Addr).add j) = some v := fun j v hj => by
    have hl := hsrc.len
    have hjl : j < k + 1 := by
      have := (List.getElem?_eq_some_iff.1 hj).1
      rw [List.length_map] at this
      omega
    rw [Addr.add_lit]
    refine (hsrc.cell j hjl).trans ?_
    rw [← hj, List.getElem?_map, List.getElem?_eq_getElem (by omega), List.getD_eq_getElem?_getD, List.getElem?_eq_getElem (by omega)]
    rfl
  have HPOS := hide hpos
  clear hpos hs hd hcur hco hgr hsrc hout hcells hL hd0 hd1 h1 e240

  go_enter Tryd.func23, Tryd.ntmps23
  go_wp2_with (refine copy_own rfl (.tmp 43) (.tmp 44) rfl (some ⟨g, o + 2, none⟩) (some ⟨b, off, none⟩) (n - 2) (c - 2) (k + 1) cl rfl rfl g (o + 2) cur HCU.out (xs.map bv) (by have := HS.out.len; rw [List.length_map]; show _ = min _ _; omega) (fun _ => ⟨rfl, _, rfl, HPOS.out⟩) (by have := HS.out.len; rw [List.length_map]; omega) (bytes_oneCell xs) ?_; intro w1 hg1 hgr1; have hlen : (xs.map bv).length = k + 1 := by { rw [List.length_map]; exact HS.out.len }; rw [hlen])
  have hol : ((out ++ [y0]) ++ [y1]).length = o + 2 := by simp [HO.out]
  have hfin : Dst w1 g N (((out ++ [y0]) ++ [y1]) ++ xs) := Dst.more hclen (by rw [hol, HS.out.len]; omega) HCO.out (by rw [hol]; exact hg1)
  have HF := hide hfin
  have HG2 := hide (HG.out.trans hgr1)
  have HXL := hide HS.out.len
  clear hg1 hgr1 hfin hol hlen
  go_wp2
  go_ret
  refine ⟨?_, ?_, HG2.out⟩
  · rw [HL.out]
    simp [HXL.out]
    try omega
  · rw [HL.out]
    have := HF.out
    simpa using this

set_option maxRecDepth 100000 in
set_option maxHeartbeats 2000000 in
theorem emitLiteral_two (g o n c N b off k cl : Nat) (xs out : Bs) (w : World) (hs : Src w g b off (k + 1) xs) (hk0 : 256 ≤ k) (hk : k < 65536) (hout : out.length = o) (hN : o + n ≤ N) (hnc : n ≤ c) (hn : k + 1 + 3 ≤ n) (hcl : k + 1 ≤ cl) (hNb : N ≤ 4294967295) (hd : Dst w g N out) :
    Calls Tryd.prog 23 #[.slice (some ⟨g, o, none⟩) n c, .slice (some ⟨b, off, none⟩) (k + 1) cl] w (Laid w g N out (litL xs 0)) := by
  have hL : litL xs 0 = 244 :: UInt8.ofNat (k % 256) :: UInt8.ofNat (k / 256 % 256) :: xs := by
    unfold litL
    dsimp only
    rw [hs.len, show k + 1 - 1 = k from rfl, litM_two hk0 hk, if_neg (by decide)]
    rfl
  have h1 : (k : Int) % 256 = (((UInt8.ofNat (k % 256)).toNat : Nat) : Int) := by rw [toNat_ofNat (Nat.mod_lt _ (by decide))]; rfl
  have h2 : (k : Int) / 256 = (((UInt8.ofNat (k / 256 % 256)).toNat : Nat) : Int) := by rw [toNat_ofNat (Nat.mod_lt _ (by decide))]; omega
  have e244 : (244 : Int) = (((244 : UInt8).toNat : Nat) : Int) := by decide
  generalize UInt8.ofNat (k % 256) = y1 at *
  generalize UInt8.ofNat (k / 256 % 256) = y2 at *
  generalize (244 : UInt8) = y0 at *
  have HL := hide hL
  have hcells : ∀ j, j < 3 → j < n → (∃ v, w.cell? ⟨g, o + j, none⟩ = some v) ∧ w.frozen? ⟨g, o + j, none⟩ = false := fun j _ hj => hd.room (o + j) (by omega)

  obtain ⟨⟨v0, g0⟩, f0⟩ := hcells 0 (by omega) (by omega)
  rw [Nat.add_zero] at g0 f0
  obtain ⟨⟨v1, g1⟩, f1⟩ := hcells 1 (by omega) (by omega)
  obtain ⟨⟨v2, g2⟩, f2⟩ := hcells 2 (by omega) (by omega)
  have hsl := run_cut_l (some ⟨g, o, none⟩) n c 3 3 (by omega) (by omega) (by omega)
  rw [cutA_some g o c 3 (by omega)] at hsl

  have hd0 := Dst.put hd (by (try simp only [List.length_append, List.length_cons, List.length_nil]); omega) y0 (244) (e244) (o := o) (by (try simp only [List.length_append, List.length_cons, List.length_nil]); omega)
  have hd1 := Dst.put hd0 (by (try simp only [List.length_append, List.length_cons, List.length_nil]); omega) y1 ((k : Int) % 256) (h1) (o := o + 1) (by (try simp only [List.length_append, List.length_cons, List.length_nil]); omega)
  have hd2 := Dst.put hd1 (by (try simp only [List.length_append, List.length_cons, List.length_nil]); omega) y2 ((k : Int) / 256) (h2) (o := o + 2) (by (try simp only [List.length_append, List.length_cons, List.length_nil]); omega)
  obtain ⟨cur, hcur, hclen, hco⟩ := hd2 (by omega)
  have hgr : w.grownBy (((w.setCell ⟨g, o, none⟩ (.int .u8 (244))).setCell ⟨g, o + 1, none⟩ (.int .u8 ((k : Int) % 256))).setCell ⟨g, o + 2, none⟩ (.int .u8 ((k : Int) / 256))) (some g) := World.grownBy.trans (World.grownBy.trans (World.grownBy.trans (World.grownBy.refl w (some g)) (grownBy_put _ g (o) _)) (grownBy_put _ g (o + 1) _)) (grownBy_put _ g (o + 2) _)
  have hsrc := hs.grown hgr
  have HCU := hide hcur
  have HCO := hide hco
  have HG := hide hgr
  have HS := hide hsrc
  have HO := hide hout
  have hpos : ∀ j v, (xs.map bv)[j]? = some v → (((w.setCell ⟨g, o, none⟩ (.int .u8 (244))).setCell ⟨g, o + 1, none⟩ (.int .u8 ((k : Int) % 256))).setCell ⟨g, o + 2, none⟩ (.int .u8 ((k : Int) / 256))).cell? ((⟨b, off, none⟩ : Addr).add j) = some v := fun j v hj => by
    have hl := hsrc.len
    have hjl : j < k + 1 := by
      have := (List.getElem?_eq_some_iff.1 hj).1
      rw [List.length_map] at this
      omega
    rw [Addr.add_lit]
    refine (hsrc.cell j hjl).trans ?_
    rw [← hj, List.getElem?_map, List.getElem?_eq_getElem (by omega), List.getD_eq_getElem?_getD, List.getElem?_eq_getElem (by omega)]
    rfl
  have HPOS := hide hpos
  clear hpos hs hd hcur hco hgr hsrc hout hcells hL hd0 hd1 hd2 h1 h2 e244

  go_enter Tryd.func23, Tryd.ntmps23
  go_wp2_with (refine copy_own rfl (.tmp 43) (.tmp 44) rfl (some ⟨g, o + 3, none⟩) (some ⟨b, off, none⟩) (n - 3) (c - 3) (k + 1) cl rfl rfl g (o + 3) cur HCU.out (xs.map bv) (by have := HS.out.len; rw [List.length_map]; show _ = min _ _; omega) (fun _ => ⟨rfl, _, rfl, HPOS.out⟩) (by have := HS.out.len; rw [List.length_map]; omega) (bytes_oneCell xs) ?_; intro w1 hg1 hgr1; have hlen : (xs.map bv).length = k + 1 := by { rw [List.length_map]; exact HS.out.len }; rw [hlen])
  have hol : (((out ++ [y0]) ++ [y1]) ++ [y2]).length = o + 3 := by simp [HO.out]
  have hfin : Dst w1 g N ((((out ++ [y0]) ++ [y1]) ++ [y2]) ++ xs) := Dst.more hclen (by rw [hol, HS.out.len]; omega) HCO.out (by rw [hol]; exact hg1)
  have HF := hide hfin
  have HG2 := hide (HG.out.trans hgr1)
  have HXL := hide HS.out.len
  clear hg1 hgr1 hfin hol hlen
  go_wp2
  go_ret
  refine ⟨?_, ?_, HG2.out⟩
  · rw [HL.out]
    simp [HXL.out]
    try omega
  · rw [HL.out]
    have := HF.out
    simpa using this

end Snap
end Go.Proofs.YtoihiaenlonncaaDoor

/-
  snappy.encodeBlock, whole.
-/
import Derived.Test.YtoihiaenlonncaaDoorBlk6
import Derived.Test.YtoihiaenlonncaaDoorBlk7
namespace Go.Proofs.YtoihiaenlonncaaDoor
open Go.RowKit
set_option linter.unusedVariables false
namespace Snap

theorem BkF.tail {g o nd cd b off n cl tb d sh ne s : Nat} {a : Act} (h : BkF g o nd cd b off n cl tb d sh ne s a) : BkT g o nd cd b off n cl d ne a := ⟨h.size, h.defers, h.s0, h.s1, h.s4, h.s9⟩

theorem cp_loop (g o nd cd b off n cl tb sh ne s ca N : Nat) (xs out T0 e : Bs) (w0 w : World) (Q : Exit → Act → World → Prop) (a : Act) (hfr : BkM g o nd cd b off n cl tb e.length sh ne s ca a) (hw : BkW w0 w g b off n tb N xs (out ++ e) (s + 1)) (ht : Told T0 xs e s 60)
    (hn : n ≤ 65536) (hncl : n ≤ cl) (hsh : sh ≤ 24) (hndcd : nd ≤ cd) (hnd : nd ≤ 4294967295) (hout : out.length = o) (hN : o + nd ≤ N) (hNb : N ≤ 4294967295) (hroom : 61 * n + 300 ≤ 60 * nd)
    (hs1 : 1 ≤ s) (hs : s + 15 ≤ n) (hca : ca < s) (hm : w4 xs s = w4 xs ca)
    (hg : ∀ a w' e s, BkT g o nd cd b off n cl e.length s a → BkW w0 w' g b off n tb N xs (out ++ e) n → Told T0 xs e s 0 → s ≤ n → Q (.goto 0) a w')
    (hb : ∀ a w' e s' nh, BkH g o nd cd b off n cl tb e.length sh s' (s' + 1) nh a → BkW w0 w' g b off n tb N xs (out ++ e) (s' + 1) → Told T0 xs e s' 0 → s < s' → s' + 15 < n → nh < 4294967296 → Q (.exit 6) a w') : Code.wp Tryd.prog (.loop bkCpLoop) Q a w := by
  refine wp_loop (fun a w' => ∃ e ne s' ca, BkM g o nd cd b off n cl tb e.length sh ne s' ca a ∧ BkW w0 w' g b off n tb N xs (out ++ e) (s' + 1) ∧ Told T0 xs e s' 60 ∧ s ≤ s' ∧ s' + 15 ≤ n ∧ ca < s' ∧ w4 xs s' = w4 xs ca) (fun a _ => match a.tmps.getD 10 undef with | .int _ k => n - k.toNat | _ => 0)
    ⟨e, ne, s, ca, hfr, hw, ht, Nat.le_refl _, hs, hca, hm⟩ ?_
  rintro a w' ⟨e, ne, bs, ca, hf, hw', ht', hsb, hbn, hcb, hm'⟩
  have h10 := hf.s10
  have hlen := hw'.src.len
  have hcost := ht'.cost
  rw [bkCpLoop_eq, bkCp_eq]
  refine wp_block (wp_seq (bk_r24 g o nd cd b off n cl tb e.length sh ne bs ca w' _ a hf (by omega) (fun a1 hf1 => ?_)))
  refine wp_seq (bk_r25 g o nd cd b off n cl tb e.length sh ne bs ca bs w' _ a1 hf1 (by omega) (fun a2 hf2 => ?_))
  refine wp_seq (wp_seq (bk_r26 g o nd cd b off n cl tb e.length sh ne (bs + 4) ca bs w' _ a2 hf2 (by omega) (fun a3 hf3 => ?_)))
  refine wp_block (bk_ext g o nd cd b off n cl tb e.length sh ne ca bs N xs (out ++ e) w0 w' _ a3 hf3 hw' hn hcb (by omega) hm' ?_)
  intro a4 w4' L hL4 hLn hall hf4 hw4
  have ht4 := ht'.copy hcb (by omega) hL4 (by omega) hall
  have hcost4 := ht4.cost
  have hlap : (e ++ copies (bs - ca) L).length = e.length + (copies (bs - ca) L).length := List.length_append
  refine wp_seq (bk_r29 g o nd cd b off n cl tb e.length sh ne ca bs L N xs (out ++ e) w0 w4' _ a4 hf4 hw4 hn hndcd hnd hcb hL4 hLn (by omega) (by rw [List.length_append, hout]) hN hNb ?_)
  intro a5 w5 hf5 hw5
  rw [← hlap] at hf5
  rw [List.append_assoc] at hw5
  by_cases hgo : n ≤ bs + L + 15
  · exact b30_goto g o nd cd b off n cl tb _ sh ne (bs + L) w5 _ a5 hf5 hn hgo hLn (fun a6 hf6 => hg a6 w5 _ (bs + L) hf6 (hw5.more (by omega)) ht4 hLn)
  · refine b30_on g o nd cd b off n cl tb _ sh ne (bs + L) N xs _ w0 w5 _ a5 hf5 (hw5.more (by omega)) hn hncl hsh (by omega) (by omega) ?_ ?_
    · intro a6 w6 ca' hf6 hw6 hca' hm6
      refine ⟨⟨_, bs + L, bs + L, ca', hf6, hw6, ⟨ht4.chain, by omega⟩, by omega, by omega, hca', hm6⟩, ?_⟩
      rw [hf6.s10, h10]
      show n - (((bs + L : Nat) : Int)).toNat < n - ((bs : Nat) : Int).toNat
      omega
    · intro a6 w6 nh hf6 hw6 hnh
      exact hb a6 w6 _ (bs + L) nh hf6 hw6 ht4 (by omega) (by omega) hnh

theorem out_loop (g o nd cd b off n cl tb sh nh N : Nat) (xs out T0 : Bs) (w0 w : World) (Q : Exit → Act → World → Prop) (a : Act) (hfr : BkH g o nd cd b off n cl tb 0 sh 0 1 nh a) (hw : BkW w0 w g b off n tb N xs out 1)
    (hn0 : 17 ≤ n) (hn : n ≤ 65536) (hncl : n ≤ cl) (hsh : sh ≤ 24) (hndcd : nd ≤ cd) (hnd : nd ≤ 4294967295) (hout : out.length = o) (hN : o + nd ≤ N) (hNb : N ≤ 4294967295) (hroom : 61 * n + 300 ≤ 60 * nd) (hnh : nh < 4294967296)
    (hg : ∀ a w' e s, BkT g o nd cd b off n cl e.length s a → BkW w0 w' g b off n tb N xs (out ++ e) n → Told T0 xs e s 0 → s ≤ n → Q (.goto 0) a w') : Code.wp Tryd.prog (.loop bkOuter) Q a w := by
  refine wp_loop (fun a w' => ∃ e ne s nh, BkH g o nd cd b off n cl tb e.length sh ne s nh a ∧ BkW w0 w' g b off n tb N xs (out ++ e) s ∧ Told T0 xs e ne 0 ∧ ne < s ∧ s + 15 ≤ n ∧ nh < 4294967296) (fun a _ => match a.tmps.getD 10 undef with | .int _ k => n - k.toNat | _ => 0)
    ⟨[], 0, 1, nh, hfr, by simpa using hw, Told.nil T0 xs, by omega, by omega, hnh⟩ ?_
  rintro a w' ⟨e, ne, s, nh, hf, hw', ht', hns, hsn, hnh'⟩
  have h10 := hf.s10
  have hlen := hw'.src.len
  have hcost := ht'.cost
  rw [bkOuter_eq]
  refine wp_block (wp_seq (bk_r11 g o nd cd b off n cl tb e.length sh ne s nh w' _ a hf (fun a1 hf1 => ?_)))
  refine wp_seq (bk_r12 g o nd cd b off n cl tb e.length sh ne s nh w' _ a1 hf1 (fun a2 hf2 => ?_))
  refine wp_seq (bk_r13 g o nd cd b off n cl tb e.length sh ne s nh w' _ a2 hf2 (fun a3 hf3 => ?_))
  refine wp_seq (wp_block (sr_loop g o nd cd b off n cl tb e.length sh ne s nh N xs (out ++ e) w0 w' _ a3 hf3 hw' hn hncl (by omega) hsh (by omega) (by omega) hsn hnh' ?_ ?_))
  · intro a4 w4' s' hf4 hw4
    exact hg a4 w4' e ne hf4.tail hw4 ht' (by omega)
  · intro a4 w4' s' ca hf4 hw4 hca hss hsn' hm
    have ht4 := ht'.lit (s := s') (by omega) (by omega) (by omega)
    have hcost4 := ht4.cost
    have hlap : (e ++ litL ((xs.drop ne).take (s' - ne)) 0).length = e.length + (litL ((xs.drop ne).take (s' - ne)) 0).length := List.length_append
    refine wp_seq (bk_r23 g o nd cd b off n cl tb e.length sh ne s' ca N xs (out ++ e) w0 w4' _ a4 hf4 hw4 hn hncl hndcd hnd (by omega) (by omega) (by omega) (by rw [List.length_append, hout]) hN hNb ?_)
    intro a5 w5 hf5 hw5
    rw [← hlap] at hf5
    rw [List.append_assoc] at hw5
    refine wp_block (cp_loop g o nd cd b off n cl tb sh ne s' ca N xs out T0 _ w0 w5 _ a5 hf5 hw5 ht4 hn hncl hsh hndcd hnd hout hN hNb hroom (by omega) hsn' hca hm ?_ ?_)
    · intro a6 w6 e6 s6 hf6 hw6 ht6 hs6
      exact hg a6 w6 e6 s6 hf6 hw6 ht6 hs6
    · intro a6 w6 e6 s6 nh6 hf6 hw6 ht6 hs6 hs6n hnh6
      refine ⟨⟨e6, s6, s6 + 1, nh6, hf6, hw6, ht6, by omega, by omega, hnh6⟩, ?_⟩
      rw [hf6.s10, h10]
      show n - (((s6 + 1 : Nat) : Int)).toNat < n - ((s : Nat) : Int).toNat
      omega

/-- What encodeBlock gives. -/
def BlockLaid (w0 : World) (g N n : Nat) (out xs T0 : Bs) (e : Ending) (w' : World) : Prop :=
  ∃ bs : Bs, e = .returned (.int .i64 ((bs.length : Nat) : Int)) ∧ Dst w' g N (out ++ bs) ∧ w0.grownBy w' (some g) ∧ Chain T0 bs (T0 ++ xs) ∧ 60 * bs.length ≤ 61 * n + 60

theorem bk_tail (g o nd cd b off n cl tb ne N : Nat) (xs out T0 e : Bs) (w0 w : World) (Q : Exit → Act → World → Prop) (a : Act) (hfr : BkT g o nd cd b off n cl e.length ne a) (hw : BkW w0 w g b off n tb N xs (out ++ e) n) (ht : Told T0 xs e ne 0) (hne : ne ≤ n)
    (hn : n ≤ 65536) (hncl : n ≤ cl) (hndcd : nd ≤ cd) (hnd : nd ≤ 4294967295) (hout : out.length = o) (hN : o + nd ≤ N) (hNb : N ≤ 4294967295) (hroom : 61 * n + 300 ≤ 60 * nd)
    (h : ∀ a w' bs, RetBk bs.length a → Dst w' g N (out ++ bs) → w0.grownBy w' (some g) → Chain T0 bs (T0 ++ xs) → 60 * bs.length ≤ 61 * n + 60 → Q .ret a w') : Code.wp Tryd.prog (.seq .skip (.seq bkT1 bkT2)) Q a w := by
  have hlen := hw.src.len
  have hcost := ht.cost
  have hskip : Code.wp Tryd.prog .skip (Exit.then (Code.wp Tryd.prog (.seq bkT1 bkT2) Q) Q) a w := by
    refine wp_skip ?_
    show Code.wp _ _ _ _ _
    by_cases h0 : n ≤ ne
    · refine wp_seq (bk_t1_none g o nd cd b off n cl e.length ne w _ a hfr hn h0 (by omega) (fun a1 hf1 => ?_))
      refine bk_t2 g o nd cd b off n cl e.length ne w _ a1 hf1 (fun a2 hr => ?_)
      have hfull : xs.take ne = xs := List.take_of_length_le (by omega)
      have hch := ht.chain
      rw [hfull] at hch
      exact h a2 w e hr hw.dst hw.gr hch (by omega)
    · have ht4 := ht.lit (s := n) (by omega) (by omega) (by omega)
      have hfull : (xs.drop ne).take (n - ne) = xs.drop ne := List.take_of_length_le (by rw [List.length_drop]; omega)
      rw [hfull] at ht4
      have hcost4 := ht4.cost
      have hlap : (e ++ litL (xs.drop ne) 0).length = e.length + (litL (xs.drop ne) 0).length := List.length_append
      refine wp_seq (bk_t1_lit g o nd cd b off n cl tb e.length ne N xs (out ++ e) w0 w _ a hfr hw hn hncl hndcd hnd (by omega) (by omega) (by rw [List.length_append, hout]) hN hNb ?_)
      intro a1 w1 hf1 hw1
      rw [← hlap] at hf1
      rw [List.append_assoc] at hw1
      refine bk_t2 g o nd cd b off n cl _ ne w1 _ a1 hf1 (fun a2 hr => ?_)
      have hall : xs.take n = xs := List.take_of_length_le (by omega)
      have hch := ht4.chain
      rw [hall] at hch
      exact h a2 w1 _ hr hw1.dst hw1.gr hch hcost4
  exact wp_seq hskip

theorem bk_find : findLabel bk 0 = some (.seq .skip (.seq bkT1 bkT2)) := by kernel_rfl

set_option maxRecDepth 100000 in
set_option maxHeartbeats 1000000 in
theorem encodeBlock_any (g o nd cd N b off n cl : Nat) (xs out T0 : Bs) (w : World) (hs : Src w g b off n xs) (hn0 : 17 ≤ n) (hn : n ≤ 65536) (hncl : n ≤ cl) (hout : out.length = o) (hN : o + nd ≤ N) (hNb : N ≤ 4294967295) (hndcd : nd ≤ cd) (hroom : 61 * n + 300 ≤ 60 * nd) (hd : Dst w g N out) (hg : g < w.heap.size) :
    Calls Tryd.prog 24 #[.slice (some ⟨g, o, none⟩) nd cd, .slice (some ⟨b, off, none⟩) n cl] w (BlockLaid w g N n out xs T0) := by
  have hnd : nd ≤ 4294967295 := by omega
  have main : ∀ (Q : Exit → Act → World → Prop) a, BkB g o nd cd b off n cl 0 a → (∀ a w' bs, RetBk bs.length a → Dst w' g N (out ++ bs) → w.grownBy w' (some g) → Chain T0 bs (T0 ++ xs) → 60 * bs.length ≤ 61 * n + 60 → Q .ret a w') → Code.wp Tryd.prog (.scope bk) Q a w := by
    intro Q a hf hQ
    refine wp_scope_jumps 0 (fun a w' => ∃ tb e ne, BkT g o nd cd b off n cl e.length ne a ∧ BkW w w' g b off n tb N xs (out ++ e) n ∧ Told T0 xs e ne 0 ∧ ne ≤ n) (fun _ _ => 0) bk_find ?_ ?_
    · rw [bk_eq]
      refine wp_seq (bk_r1 g o nd cd b off n cl w _ a hf (fun a1 hf1 h5 => ?_))
      refine wp_seq (wp_seq (bk_r2 g o nd cd b off n cl w _ a1 hf1 h5 (fun a2 hf2 => ?_)))
      refine wp_block (bk_shift g o nd cd b off n cl w _ a2 hf2 hn (fun a3 sh ts hsh hf3 => ?_))
      refine wp_seq (bk_r6 g o nd cd b off n cl sh ts w _ a3 hf3 (fun a4 Z hf4 hZ hZc => ?_))
      generalize htb : w.heap.size = tb at hf4
      have hW : BkW w (w.alloc (.cells Z 44)) g b off n tb N xs (out ++ []) 1 := by
        have hgr : w.grownBy (w.alloc (.cells Z 44)) (some g) := World.grownBy_alloc w _ _
        refine ⟨hs.grown hgr, ?_, ⟨Z, by subst htb; show (w.heap.push _)[w.heap.size]? = _; simp, hZ, fun j hj => ⟨0, hZc j hj, by omega⟩⟩, hgr, hg, hs.lt, by omega⟩
        rw [List.append_nil]
        intro h0
        obtain ⟨cur, hc, r⟩ := hd h0
        exact ⟨cur, by show (w.heap.push _)[g]? = _; rw [Array.getElem?_push_lt hg, ← hc, Array.getElem?_eq_getElem hg], r⟩
      rw [List.append_nil] at hW
      refine wp_seq (bk_r7 g o nd cd b off n cl tb sh _ _ a4 hf4 hn (fun a5 hf5 => ?_))
      refine wp_seq (bk_r8 g o nd cd b off n cl tb sh _ _ a5 hf5 (fun a6 hf6 => ?_))
      refine wp_seq (bk_r9 g o nd cd b off n cl tb sh _ _ a6 hf6 (fun a7 hf7 => ?_))
      refine wp_seq (bk_r10 g o nd cd b off n cl tb sh xs _ _ a7 hf7 hW.src hsh hn0 hn hncl (fun a8 nh k hf8 hnh => ?_))
      refine wp_seq (wp_block (out_loop g o nd cd b off n cl tb sh nh N xs out T0 w _ _ a8 hf8 (hW.drewN k) hn0 hn hncl hsh hndcd hnd hout hN hNb hroom hnh ?_))
      intro a9 w9 e s hf9 hw9 ht9 hs9
      exact ⟨rfl, tb, e, s, hf9, hw9, ht9, hs9⟩
    · rintro a1 w1 ⟨tb, e, ne, hf1, hw1, ht1, hne1⟩
      exact bk_tail g o nd cd b off n cl tb ne N xs out T0 e w w1 _ a1 hf1 hw1 ht1 hne1 hn hncl hndcd hnd hout hN hNb hroom (fun a2 w2 bs hr hd2 hg2 hc2 hl2 => hQ a2 w2 bs hr hd2 hg2 hc2 hl2)
  have HM := hide main
  clear main hd hs hroom
  go_enter Tryd.func24, Tryd.ntmps24
  refine wp_seq (bk_r0 g o nd cd b off n cl w _ _ ⟨rfl, rfl, rfl, rfl⟩ (fun a1 h1 => HM.out _ a1 h1 ?_))
  rintro a w' bs ⟨hdf, h4⟩ hd2 hg2 hc2 hl2
  exact bodyPost_ret (results_one rfl _ _ _ h4) hdf ⟨bs, rfl, hd2, hg2, hc2, hl2⟩

end Snap
end Go.Proofs.YtoihiaenlonncaaDoor

/-
  spec.item: it reads one element, as 'item' says.
-/
import Derived.Test.YtoihiaenlonncaaDoorRead1
namespace Go.Proofs.YtoihiaenlonncaaDoor
open Go.RowKit
namespace Snap

theorem little_int (A : Option Addr) (n c B : Nat) (mi : Int) (xs : Bs) (w : World) (hx : Rd w B A n xs) (hn : n ≤ 4294967295) (h1 : 1 ≤ mi) (h4 : mi ≤ 4) :
    Calls Tryd.prog 25 #[.slice A n c, .int .i64 mi] w fun e w' => e = .returned (.int .i64 (littleV xs mi.toNat)) ∧ w = w' := by
  have h := little_any A n c B mi.toNat xs w hx hn (by omega) (by omega)
  rw [Int.toNat_of_nonneg (by omega)] at h
  exact h

def itV : Option It → Value
  | none => .tuple #[.bool false, .int .i64 0, .int .i64 0, .int .i64 0]
  | some it => .tuple #[.bool it.back, .int .i64 (it.n : Int), .int .i64 (it.far : Int), .int .i64 (it.told : Int)]

theorem results_tmp4 {fn : Func} {t u v x : Tmp} (h : fn.results = #[.tmp t, .tmp u, .tmp v, .tmp x]) (tmps : Array Value) (P : Program) (w : World) :
    (results fn tmps).run P w = .ok (.tuple #[tmps.getD t undef, tmps.getD u undef, tmps.getD v undef, tmps.getD x undef]) w := by simp [results, h]

theorem littleV_none {xs : Bs} {m : Nat} (h : little xs m = none) : littleV xs m = -1 := by unfold littleV; rw [h]
theorem littleV_some {xs : Bs} {m v : Nat} (h : little xs m = some v) : littleV xs m = (v : Int) := by unfold littleV; rw [h]

theorem little_lt {xs : Bs} {m v : Nat} (h : little xs m = some v) (hm : m ≤ 4) : v < 4294967296 := by
  unfold little at h
  split at h
  · cases h
  · obtain rfl := Option.some.inj h
    have h := leN_lt (xs.take m)
    have hlen : (xs.take m).length ≤ 4 := by rw [List.length_take]; omega
    exact Nat.lt_of_lt_of_le h (Nat.pow_le_pow_right (by decide) hlen)

set_option maxRecDepth 100000 in
set_option maxHeartbeats 400000 in
theorem item_lit1 (A : Option Addr) (n c B : Nat) (t : UInt8) (xs : Bs) (w : World) (hx : Rd w B A n (t :: xs)) (hn : n ≤ 4294967295) (h0 : t.toNat % 4 = 0) (h1 : t.toNat / 4 < 60) :
    Calls Tryd.prog 20 #[.slice A n c] w fun e w' => e = .returned (itV (item (t :: xs))) ∧ w = w' := by
  have hv : item (t :: xs) = some ⟨false, t.toNat / 4 + 1, 0, 1⟩ := by simp only [item, h0, h1, if_true]
  rw [hv]
  clear hv
  have hlen := hx.len
  simp only [List.length_cons] at hlen
  obtain ⟨b, off, rfl, _, hc⟩ := hx.at_ (by omega)
  have g1 : w.cell? ⟨b, off, none⟩ = some (.int .u8 (t.toNat : Int)) := hc 0 (by omega)
  have ht := t.toNat_lt
  have hn1 : 1 ≤ n := by omega
  generalize t.toNat = x at *
  have h0' : x % 4 < 1 := by omega
  clear h0 hlen hc hx
  go_enter Tryd.func20, Tryd.ntmps20
  go_wp2
  refine bodyPost_ret (results_tmp4 rfl _ _ _) rfl ?_
  exact ⟨rfl, rfl⟩


/-- What all but the shortest literal have in common: the bytes behind the tag. -/
theorem item_open {A : Option Addr} {n c B : Nat} {t : UInt8} {xs : Bs} {w : World} (hx : Rd w B A n (t :: xs)) (hnc : n ≤ c) :
    ∃ b off, A = some ⟨b, off, none⟩ ∧ 1 ≤ n ∧ Hid (Rd w B (cutA A c 1) (n - 1) xs) ∧ w.cell? ⟨b, off, none⟩ = some (.int .u8 (t.toNat : Int)) := by
  have hlen := hx.len
  simp only [List.length_cons] at hlen
  have hd := hx.cut (k := 1) (by omega) hnc
  rw [List.drop_succ_cons, List.drop_zero] at hd
  obtain ⟨b, off, hA, _, hc⟩ := hx.at_ (by omega)
  exact ⟨b, off, hA, by omega, hide hd, hc 0 (by omega)⟩

theorem little_cases (xs : Bs) (m : Nat) : (∃ v, little xs m = some v) ∨ little xs m = none := by
  cases little xs m with
  | none => right; rfl
  | some v => left; exact ⟨v, rfl⟩


set_option maxRecDepth 100000 in
set_option maxHeartbeats 400000 in
theorem item_litm (A : Option Addr) (n c B : Nat) (t : UInt8) (xs : Bs) (w : World) (hx : Rd w B A n (t :: xs)) (hn : n ≤ 4294967295) (hnc : n ≤ c) (h0 : t.toNat % 4 = 0) (h1 : 60 ≤ t.toNat / 4) :
    Calls Tryd.prog 20 #[.slice A n c] w fun e w' => e = .returned (itV (item (t :: xs))) ∧ w = w' := by
  obtain ⟨b, off, rfl, hn1, HD, g1⟩ := item_open hx hnc
  have ht := t.toNat_lt
  have hv : item (t :: xs) = (little xs (t.toNat / 4 - 59)).map fun n => ⟨false, n + 1, 0, t.toNat / 4 - 58⟩ := by
    simp only [item, h0, if_true]
    rw [if_neg (by omega)]
  rw [hv]
  clear hv hx
  generalize t.toNat = x at *
  have hx256 : x < 256 := by omega
  have h0' : x % 4 < 1 := by omega
  clear h0
  have hsl := run_cut_l (some ⟨b, off, none⟩) n c 1 1 rfl (by decide) (by omega)
  rcases little_cases xs (x / 4 - 59) with ⟨v, hl⟩ | hl
  · have hlt := little_lt hl (by omega)
    have HL := hide (littleV_some hl)
    rw [hl]
    clear hl ht
    go_enter Tryd.func20, Tryd.ntmps20
    go_wp2_with fail
    refine (little_int _ _ _ B _ xs _ HD.out (by omega) (by omega) (by omega)).mono ?_
    rintro e w' ⟨rfl, rfl⟩
    rw [show ((x : Int) / 4 - 59).toNat = x / 4 - 59 from by omega, HL.out]
    clear HD HL hsl
    go_wp2
    refine bodyPost_ret (results_tmp4 rfl _ _ _) rfl ?_
    refine ⟨?_, rfl⟩
    simp [itV]
    try omega
  · have HL := hide (littleV_none hl)
    rw [hl]
    clear hl ht
    go_enter Tryd.func20, Tryd.ntmps20
    go_wp2_with fail
    refine (little_int _ _ _ B _ xs _ HD.out (by omega) (by omega) (by omega)).mono ?_
    rintro e w' ⟨rfl, rfl⟩
    rw [show ((x : Int) / 4 - 59).toNat = x / 4 - 59 from by omega, HL.out]
    clear HD HL hsl
    go_wp2
    refine bodyPost_ret (results_tmp4 rfl _ _ _) rfl ?_
    exact ⟨rfl, rfl⟩

set_option maxRecDepth 100000 in
set_option maxHeartbeats 400000 in
theorem item_c1 (A : Option Addr) (n c B : Nat) (t : UInt8) (xs : Bs) (w : World) (hx : Rd w B A n (t :: xs)) (hn : n ≤ 4294967295) (hnc : n ≤ c) (h0 : t.toNat % 4 = 1) :
    Calls Tryd.prog 20 #[.slice A n c] w fun e w' => e = .returned (itV (item (t :: xs))) ∧ w = w' := by
  obtain ⟨b, off, rfl, hn1, HD, g1⟩ := item_open hx hnc
  have ht := t.toNat_lt
  have hv : item (t :: xs) = (little xs 1).map fun low => ⟨true, t.toNat / 4 % 8 + 4, t.toNat / 4 / 8 * 256 + low, 2⟩ := by
    simp only [item, h0, Nat.one_ne_zero, if_true, if_false]
  rw [hv]
  clear hv hx
  generalize t.toNat = x at *
  have hx256 : x < 256 := by omega
  have h0' : x % 4 < 2 := by omega
  have h1' : 1 ≤ x % 4 := by omega
  clear h0
  have hsl := run_cut_l (some ⟨b, off, none⟩) n c 1 1 rfl (by decide) (by omega)
  rcases little_cases xs (1) with ⟨v, hl⟩ | hl
  · have hlt := little_lt hl (by omega)
    have HL := hide (littleV_some hl)
    rw [hl]
    clear hl ht
    go_enter Tryd.func20, Tryd.ntmps20
    go_wp2_with fail
    refine (little_int _ _ _ B _ xs _ HD.out (by omega) (by omega) (by omega)).mono ?_
    rintro e w' ⟨rfl, rfl⟩
    rw [show (1 : Int).toNat = 1 from by omega, HL.out]
    clear HD HL hsl
    go_wp2
    refine bodyPost_ret (results_tmp4 rfl _ _ _) rfl ?_
    refine ⟨?_, rfl⟩
    simp [itV]
    try omega
  · have HL := hide (littleV_none hl)
    rw [hl]
    clear hl ht
    go_enter Tryd.func20, Tryd.ntmps20
    go_wp2_with fail
    refine (little_int _ _ _ B _ xs _ HD.out (by omega) (by omega) (by omega)).mono ?_
    rintro e w' ⟨rfl, rfl⟩
    rw [show (1 : Int).toNat = 1 from by omega, HL.out]
    clear HD HL hsl
    go_wp2
    refine bodyPost_ret (results_tmp4 rfl _ _ _) rfl ?_
    exact ⟨rfl, rfl⟩

set_option maxRecDepth 100000 in
set_option maxHeartbeats 400000 in
theorem item_c2 (A : Option Addr) (n c B : Nat) (t : UInt8) (xs : Bs) (w : World) (hx : Rd w B A n (t :: xs)) (hn : n ≤ 4294967295) (hnc : n ≤ c) (h0 : t.toNat % 4 = 2) :
    Calls Tryd.prog 20 #[.slice A n c] w fun e w' => e = .returned (itV (item (t :: xs))) ∧ w = w' := by
  obtain ⟨b, off, rfl, hn1, HD, g1⟩ := item_open hx hnc
  have ht := t.toNat_lt
  have hv : item (t :: xs) = (little xs 2).map fun far => ⟨true, t.toNat / 4 + 1, far, 3⟩ := by
    simp only [item, h0, Nat.reduceEqDiff, if_true, if_false]
  rw [hv]
  clear hv hx
  generalize t.toNat = x at *
  have hx256 : x < 256 := by omega
  have h0' : x % 4 < 3 := by omega
  have h1' : 2 ≤ x % 4 := by omega
  clear h0
  have hsl := run_cut_l (some ⟨b, off, none⟩) n c 1 1 rfl (by decide) (by omega)
  rcases little_cases xs (2) with ⟨v, hl⟩ | hl
  · have hlt := little_lt hl (by omega)
    have HL := hide (littleV_some hl)
    rw [hl]
    clear hl ht
    go_enter Tryd.func20, Tryd.ntmps20
    go_wp2_with fail
    refine (little_int _ _ _ B _ xs _ HD.out (by omega) (by omega) (by omega)).mono ?_
    rintro e w' ⟨rfl, rfl⟩
    rw [show (2 : Int).toNat = 2 from by omega, HL.out]
    clear HD HL hsl
    go_wp2
    refine bodyPost_ret (results_tmp4 rfl _ _ _) rfl ?_
    refine ⟨?_, rfl⟩
    simp [itV]
    try omega
  · have HL := hide (littleV_none hl)
    rw [hl]
    clear hl ht
    go_enter Tryd.func20, Tryd.ntmps20
    go_wp2_with fail
    refine (little_int _ _ _ B _ xs _ HD.out (by omega) (by omega) (by omega)).mono ?_
    rintro e w' ⟨rfl, rfl⟩
    rw [show (2 : Int).toNat = 2 from by omega, HL.out]
    clear HD HL hsl
    go_wp2
    refine bodyPost_ret (results_tmp4 rfl _ _ _) rfl ?_
    exact ⟨rfl, rfl⟩

set_option maxRecDepth 100000 in
set_option maxHeartbeats 400000 in
theorem item_c4 (A : Option Addr) (n c B : Nat) (t : UInt8) (xs : Bs) (w : World) (hx : Rd w B A n (t :: xs)) (hn : n ≤ 4294967295) (hnc : n ≤ c) (h0 : t.toNat % 4 = 3) :
    Calls Tryd.prog 20 #[.slice A n c] w fun e w' => e = .returned (itV (item (t :: xs))) ∧ w = w' := by
  obtain ⟨b, off, rfl, hn1, HD, g1⟩ := item_open hx hnc
  have ht := t.toNat_lt
  have hv : item (t :: xs) = (little xs 4).map fun far => ⟨true, t.toNat / 4 + 1, far, 5⟩ := by
    simp only [item, h0, Nat.reduceEqDiff, if_false]
  rw [hv]
  clear hv hx
  generalize t.toNat = x at *
  have hx256 : x < 256 := by omega
  have h1' : 3 ≤ x % 4 := by omega
  clear h0
  have hsl := run_cut_l (some ⟨b, off, none⟩) n c 1 1 rfl (by decide) (by omega)
  rcases little_cases xs (4) with ⟨v, hl⟩ | hl
  · have hlt := little_lt hl (by omega)
    have HL := hide (littleV_some hl)
    rw [hl]
    clear hl ht
    go_enter Tryd.func20, Tryd.ntmps20
    go_wp2_with fail
    refine (little_int _ _ _ B _ xs _ HD.out (by omega) (by omega) (by omega)).mono ?_
    rintro e w' ⟨rfl, rfl⟩
    rw [show (4 : Int).toNat = 4 from by omega, HL.out]
    clear HD HL hsl
    go_wp2
    refine bodyPost_ret (results_tmp4 rfl _ _ _) rfl ?_
    refine ⟨?_, rfl⟩
    simp [itV]
    try omega
  · have HL := hide (littleV_none hl)
    rw [hl]
    clear hl ht
    go_enter Tryd.func20, Tryd.ntmps20
    go_wp2_with fail
    refine (little_int _ _ _ B _ xs _ HD.out (by omega) (by omega) (by omega)).mono ?_
    rintro e w' ⟨rfl, rfl⟩
    rw [show (4 : Int).toNat = 4 from by omega, HL.out]
    clear HD HL hsl
    go_wp2
    refine bodyPost_ret (results_tmp4 rfl _ _ _) rfl ?_
    exact ⟨rfl, rfl⟩

theorem item_any (A : Option Addr) (n c B : Nat) (xs : Bs) (w : World) (hx : Rd w B A n xs) (hn : n ≤ 4294967295) (hnc : n ≤ c) (h0 : 0 < n) :
    Calls Tryd.prog 20 #[.slice A n c] w fun e w' => e = .returned (itV (item xs)) ∧ w = w' := by
  cases xs with
  | nil => have := hx.len; simp at this; omega
  | cons t xs =>
    have hk : t.toNat % 4 = 0 ∨ t.toNat % 4 = 1 ∨ t.toNat % 4 = 2 ∨ t.toNat % 4 = 3 := by omega
    rcases hk with hk | hk | hk | hk
    · by_cases h : t.toNat / 4 < 60
      · exact item_lit1 A n c B t xs w hx hn hk h
      · exact item_litm A n c B t xs w hx hn hnc hk (by omega)
    · exact item_c1 A n c B t xs w hx hn hnc hk
    · exact item_c2 A n c B t xs w hx hn hnc hk
    · exact item_c4 A n c B t xs w hx hn hnc hk

end Snap
end Go.Proofs.YtoihiaenlonncaaDoor

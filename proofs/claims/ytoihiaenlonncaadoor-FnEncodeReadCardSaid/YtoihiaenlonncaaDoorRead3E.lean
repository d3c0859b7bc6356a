/-
  spec.Head: the length at the front of a block.
-/
import Derived.Test.YtoihiaenlonncaaDoorMem
namespace Go.Proofs.YtoihiaenlonncaaDoor
open Go.RowKit
namespace Snap

/-- What spec.Head returns. -/
def HeadIs (w : World) (xs : Bs) (e : Ending) (w' : World) : Prop :=
  w = w' ∧ ((∃ l a : Nat, head xs = some (l, a) ∧ e = .returned (.tuple #[.int .i64 (l : Int), .int .i64 (a : Int), .bool true])) ∨
    (head xs = none ∧ ∃ l a : Int, e = .returned (.tuple #[.int .i64 l, .int .i64 a, .bool false])))

theorem headGo_step {xs : Bs} {k acc : Nat} (hk : k < xs.length) : headGo (xs.drop k) k acc =
    (if k = 5 then none
    else if (xs.getD k 0).toNat < 128 then (if acc + (xs.getD k 0).toNat % 128 * 128 ^ k ≤ 4294967295 then some (acc + (xs.getD k 0).toNat % 128 * 128 ^ k, k + 1) else none)
    else headGo (xs.drop (k + 1)) (k + 1) (acc + (xs.getD k 0).toNat % 128 * 128 ^ k)) := by
  rw [drop_cons_getD xs k hk]
  rfl

set_option maxRecDepth 100000 in
set_option maxHeartbeats 1600000 in
theorem Head_any (A : Option Addr) (n c B : Nat) (xs : Bs) (w : World) (hx : Rd w B A n xs) (hn : n ≤ 4294967295) :
    Calls Tryd.prog 19 #[.slice A n c] w (HeadIs w xs) := by
  by_cases h0 : n = 0
  · subst h0
    have hxs : xs = [] := List.eq_nil_of_length_eq_zero hx.len
    subst hxs
    clear hx
    go_enter Tryd.func19, Tryd.ntmps19
    go_wp2
    go_loop [11] (fun i => i = .int .i64 0) (fun _ => 0)
    case atStart => rfl
    case round =>
      subst hrel
      go_wp2
      go_ret3
      exact ⟨rfl, .inr ⟨rfl, _, _, rfl⟩⟩
  · obtain ⟨b, off, rfl, _, hc⟩ := hx.at_ (by omega)
    have hlen := hx.len
    have HC := hide hc
    have HL := hide hlen
    clear hc hx hlen
    go_enter Tryd.func19, Tryd.ntmps19
    go_wp2
    go_loop [5, 6, 11] (fun vl vs vi => ∃ k acc : Nat, k ≤ n ∧ k ≤ 5 ∧ vi = .int .i64 (k : Int) ∧ vs = .int .i64 ((128 ^ k : Nat) : Int) ∧ vl = .int .i64 (acc : Int) ∧ acc < 128 ^ k ∧ Hid (headGo (xs.drop k) k acc = head xs)) (fun _ _ vi => n - (intOf vi).toNat)
    case atStart => exact ⟨0, 0, Nat.zero_le _, by omega, rfl, rfl, rfl, by decide, hide rfl⟩
    case round =>
      obtain ⟨k, acc, hk, hk5, rfl, rfl, rfl, hacc, hh⟩ := hrel
      by_cases hlt : k < n
      · have g1 : w.cell? ⟨b, off + k, none⟩ = some (.int .u8 ((xs.getD k 0).toNat : Int)) := HC.out k hlt
        have hst := headGo_step (xs := xs) (k := k) (acc := acc) (by rw [HL.out]; exact hlt)
        rw [hh.out] at hst
        have hx256 := (xs.getD k 0).toNat_lt
        generalize (xs.getD k 0).toNat = x at g1 hst hx256
        have HS := hide hst
        clear hst hh
        have hks : k = 0 ∨ k = 1 ∨ k = 2 ∨ k = 3 ∨ k = 4 ∨ k = 5 := by omega
        rcases hks with rfl | rfl | rfl | rfl | rfl | rfl
        · have hp : (128 : Nat) ^ 0 = 1 := by decide
          have hp1 : (128 : Nat) ^ (0 + 1) = 128 := by decide
          rw [hp] at hacc HS ⊢
          have hs5 : ¬ (0 = 5) := by decide
          clear hp
          rw [Nat.add_zero] at g1
          by_cases hb : x < 128
          · have hm : x % 128 = x := Nat.mod_eq_of_lt hb
            rw [hm] at HS
            by_cases hle : acc + x * 1 ≤ 4294967295
            · have HN : Hid (head xs = some (acc + x * 1, 0 + 1)) := by
                have := HS.out
                rw [if_neg hs5, if_pos hb, if_pos hle] at this
                exact this
              have hle' : (acc : Int) + (x : Int) % 128 * 1 ≤ 4294967295 := by omega
              clear HS hm hp1 hs5 hle
              go_wp2
              go_ret3
              exact ⟨rfl, .inl ⟨_, _, HN.out, by simp; omega⟩⟩
            · exact absurd (show acc + x * 1 ≤ 4294967295 by omega) hle
          · have HN : Hid (headGo (xs.drop (0 + 1)) (0 + 1) (acc + x % 128 * 1) = head xs) := by
              have := HS.out
              rw [if_neg hs5, if_neg hb] at this
              exact this.symm
            have H1 := hide hp1
            clear HS hp1 hs5
            go_wp2
            go_round
            case rel => exact ⟨0 + 1, acc + x % 128 * 1, by omega, by omega, by go_num, by rw [H1.out]; go_num, by go_num, by rw [H1.out]; omega, HN⟩
            case measure => simp [intOf]; omega
        · have hp : (128 : Nat) ^ 1 = 128 := by decide
          have hp1 : (128 : Nat) ^ (1 + 1) = 16384 := by decide
          rw [hp] at hacc HS ⊢
          have hs5 : ¬ (1 = 5) := by decide
          clear hp
          by_cases hb : x < 128
          · have hm : x % 128 = x := Nat.mod_eq_of_lt hb
            rw [hm] at HS
            by_cases hle : acc + x * 128 ≤ 4294967295
            · have HN : Hid (head xs = some (acc + x * 128, 1 + 1)) := by
                have := HS.out
                rw [if_neg hs5, if_pos hb, if_pos hle] at this
                exact this
              have hle' : (acc : Int) + (x : Int) % 128 * 128 ≤ 4294967295 := by omega
              clear HS hm hp1 hs5 hle
              go_wp2
              go_ret3
              exact ⟨rfl, .inl ⟨_, _, HN.out, by simp; omega⟩⟩
            · exact absurd (show acc + x * 128 ≤ 4294967295 by omega) hle
          · have HN : Hid (headGo (xs.drop (1 + 1)) (1 + 1) (acc + x % 128 * 128) = head xs) := by
              have := HS.out
              rw [if_neg hs5, if_neg hb] at this
              exact this.symm
            have H1 := hide hp1
            clear HS hp1 hs5
            go_wp2
            go_round
            case rel => exact ⟨1 + 1, acc + x % 128 * 128, by omega, by omega, by go_num, by rw [H1.out]; go_num, by go_num, by rw [H1.out]; omega, HN⟩
            case measure => simp [intOf]; omega
        · have hp : (128 : Nat) ^ 2 = 16384 := by decide
          have hp1 : (128 : Nat) ^ (2 + 1) = 2097152 := by decide
          rw [hp] at hacc HS ⊢
          have hs5 : ¬ (2 = 5) := by decide
          clear hp
          by_cases hb : x < 128
          · have hm : x % 128 = x := Nat.mod_eq_of_lt hb
            rw [hm] at HS
            by_cases hle : acc + x * 16384 ≤ 4294967295
            · have HN : Hid (head xs = some (acc + x * 16384, 2 + 1)) := by
                have := HS.out
                rw [if_neg hs5, if_pos hb, if_pos hle] at this
                exact this
              have hle' : (acc : Int) + (x : Int) % 128 * 16384 ≤ 4294967295 := by omega
              clear HS hm hp1 hs5 hle
              go_wp2
              go_ret3
              exact ⟨rfl, .inl ⟨_, _, HN.out, by simp; omega⟩⟩
            · exact absurd (show acc + x * 16384 ≤ 4294967295 by omega) hle
          · have HN : Hid (headGo (xs.drop (2 + 1)) (2 + 1) (acc + x % 128 * 16384) = head xs) := by
              have := HS.out
              rw [if_neg hs5, if_neg hb] at this
              exact this.symm
            have H1 := hide hp1
            clear HS hp1 hs5
            go_wp2
            go_round
            case rel => exact ⟨2 + 1, acc + x % 128 * 16384, by omega, by omega, by go_num, by rw [H1.out]; go_num, by go_num, by rw [H1.out]; omega, HN⟩
            case measure => simp [intOf]; omega
        · have hp : (128 : Nat) ^ 3 = 2097152 := by decide
          have hp1 : (128 : Nat) ^ (3 + 1) = 268435456 := by decide
          rw [hp] at hacc HS ⊢
          have hs5 : ¬ (3 = 5) := by decide
          clear hp
          by_cases hb : x < 128
          · have hm : x % 128 = x := Nat.mod_eq_of_lt hb
            rw [hm] at HS
            by_cases hle : acc + x * 2097152 ≤ 4294967295
            · have HN : Hid (head xs = some (acc + x * 2097152, 3 + 1)) := by
                have := HS.out
                rw [if_neg hs5, if_pos hb, if_pos hle] at this
                exact this
              have hle' : (acc : Int) + (x : Int) % 128 * 2097152 ≤ 4294967295 := by omega
              clear HS hm hp1 hs5 hle
              go_wp2
              go_ret3
              exact ⟨rfl, .inl ⟨_, _, HN.out, by simp; omega⟩⟩
            · exact absurd (show acc + x * 2097152 ≤ 4294967295 by omega) hle
          · have HN : Hid (headGo (xs.drop (3 + 1)) (3 + 1) (acc + x % 128 * 2097152) = head xs) := by
              have := HS.out
              rw [if_neg hs5, if_neg hb] at this
              exact this.symm
            have H1 := hide hp1
            clear HS hp1 hs5
            go_wp2
            go_round
            case rel => exact ⟨3 + 1, acc + x % 128 * 2097152, by omega, by omega, by go_num, by rw [H1.out]; go_num, by go_num, by rw [H1.out]; omega, HN⟩
            case measure => simp [intOf]; omega
        · have hp : (128 : Nat) ^ 4 = 268435456 := by decide
          have hp1 : (128 : Nat) ^ (4 + 1) = 34359738368 := by decide
          rw [hp] at hacc HS ⊢
          have hs5 : ¬ (4 = 5) := by decide
          clear hp
          by_cases hb : x < 128
          · have hm : x % 128 = x := Nat.mod_eq_of_lt hb
            rw [hm] at HS
            by_cases hle : acc + x * 268435456 ≤ 4294967295
            · have HN : Hid (head xs = some (acc + x * 268435456, 4 + 1)) := by
                have := HS.out
                rw [if_neg hs5, if_pos hb, if_pos hle] at this
                exact this
              have hle' : (acc : Int) + (x : Int) % 128 * 268435456 ≤ 4294967295 := by omega
              clear HS hm hp1 hs5 hle
              go_wp2
              go_ret3
              exact ⟨rfl, .inl ⟨_, _, HN.out, by simp; omega⟩⟩
            · have HN : Hid (head xs = none) := by
                have := HS.out
                rw [if_neg hs5, if_pos hb, if_neg hle] at this
                exact this
              have hle' : decide ((acc : Int) + (x : Int) % 128 * 268435456 ≤ 4294967295) = false := by simp; omega
              clear HS hm hp1 hs5 hle
              go_wp2
              go_ret3
              exact ⟨rfl, .inr ⟨HN.out, _, _, rfl⟩⟩
          · have HN : Hid (headGo (xs.drop (4 + 1)) (4 + 1) (acc + x % 128 * 268435456) = head xs) := by
              have := HS.out
              rw [if_neg hs5, if_neg hb] at this
              exact this.symm
            have H1 := hide hp1
            clear HS hp1 hs5
            go_wp2
            go_round
            case rel => exact ⟨4 + 1, acc + x % 128 * 268435456, by omega, by omega, by go_num, by rw [H1.out]; go_num, by go_num, by rw [H1.out]; omega, HN⟩
            case measure => simp [intOf]; omega
        · have HN : Hid (head xs = none) := by
            have := HS.out
            rw [if_pos rfl] at this
            exact this
          clear HS hacc
          go_wp2
          go_ret3
          exact ⟨rfl, .inr ⟨HN.out, _, _, rfl⟩⟩
      · have hkn : n ≤ k := by omega
        have he : xs.drop k = [] := List.drop_of_length_le (by rw [HL.out]; exact hkn)
        have hN : head xs = none := by rw [← hh.out, he]; rfl
        have HN := hide hN
        clear hh he hN
        go_wp2
        go_ret3
        exact ⟨rfl, .inr ⟨HN.out, _, _, rfl⟩⟩

end Snap
end Go.Proofs.YtoihiaenlonncaaDoor

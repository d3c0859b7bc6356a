/-
  encoding/binary.Uvarint: it reads a varint of 64 bits, as 'Lib.uvarintDec' says. (The walk is the library's own worked one, turned to this program's numbers.)
-/
import Derived.Test.YtodbfgomkcmdgaaDoorMem
import Derived.Lib.VarintBits
import Derived.Laws.Closers25b
namespace Go.Proofs.YtodbfgomkcmdgaaDoor
open Go.RowKit
namespace Snap

set_option maxRecDepth 100000 in
set_option maxHeartbeats 32000000 in
theorem Uvarint_at (g o n c : Nat) (l : List UInt8) (w : World) (hl : l.length = n) (hcell : ∀ j (hj : j < l.length), w.cell? ⟨g, o + j, none⟩ = some (.int .u8 (l[j]).toNat)) :
    Calls Tryd.prog 46 #[.slice (some ⟨g, o, none⟩) n c] w fun e w' => e = .returned (.tuple #[.int .u64 (Lib.uvarintDec l).1, .int .i64 (Lib.uvarintDec l).2]) ∧ w' = w := by
  go_enter Tryd.func46, Tryd.ntmps46
  go_wp2
  go_loop [4, 5, 10] (fun vx vs vi => ∃ k acc : Nat, vi = .int .i64 k ∧ vs = .int .u64 ((7 * k : Nat) : Int) ∧ vx = .int .u64 acc ∧ k ≤ 10 ∧ k ≤ n ∧ acc < 2 ^ (7 * k) ∧ Lib.uvarintDec l = Lib.uvarintFrom k acc (l.drop k))
    (fun _ _ vi => n - (intOf vi).toNat)
  case atStart => exact ⟨0, 0, rfl, rfl, rfl, by omega, by omega, by decide, rfl⟩
  case round =>
    obtain ⟨k, acc, rfl, rfl, rfl, hk10, hkn, hacc, hdec⟩ := hrel
    by_cases hk : k < n
    · have hc := hcell k (by omega)
      have hdrop : l.drop k = l[k]'(by omega) :: l.drop (k + 1) := List.drop_eq_getElem_cons (by omega)
      rw [hdrop] at hdec
      generalize l[k]'(by omega) = b at hc hdec
      have hb256 : b.toNat < 256 := b.toNat_lt
      clear hcell hdrop
      have hks : k = 0 ∨ k = 1 ∨ k = 2 ∨ k = 3 ∨ k = 4 ∨ k = 5 ∨ k = 6 ∨ k = 7 ∨ k = 8 ∨ k = 9 ∨ k = 10 := by omega
      rcases hks with rfl | rfl | rfl | rfl | rfl | rfl | rfl | rfl | rfl | rfl | rfl
      · obtain rfl : acc = 0 := by simpa using hacc
        have hc0 : w.cell? ⟨g, o, none⟩ = some (.int .u8 b.toNat) := hc
        by_cases hb : b.toNat < 128
        · have hor : bits .or .u64 0 (b.toNat : Int) = (b.toNat : Int) := by
            rw [u64_orv0 _ _ (by omega) (by omega) (by omega) (by omega) (by omega)]
            omega
          have hF : Lib.uvarintFrom 0 0 (b :: l.drop (0 + 1)) = (b.toNat, 1) := by simp [Lib.uvarintFrom, hb]
          rw [hF] at hdec
          go_wp2
          go_ret2
          exact ⟨rfl, rfl⟩
        · have hv : bits .or .u64 0 (IntKind.u64.wrap (IntKind.u64.wrap (bits .and .u8 (b.toNat : Int) 127))) = ((b.toNat % 128 : Nat) : Int) := by
            simp (disch := omega) only [u8_and127, u64_wrap_id, u64_orv0]
            omega
          have hF : Lib.uvarintFrom 0 0 (b :: l.drop (0 + 1)) = Lib.uvarintFrom 1 (b.toNat % 128) (l.drop (0 + 1)) := by simp [Lib.uvarintFrom, hb]
          go_wp2
          refine ⟨⟨1, b.toNat % 128, rfl, rfl, (by first | rfl | (congr 1; omega)), by omega, by omega, ?_, hdec.trans hF⟩, by simp [intOf]; omega⟩
          show b.toNat % 128 < 2 ^ 7
          omega
      · have hacc' : acc < 128 := by simpa using hacc
        by_cases hb : b.toNat < 128
        · have hor : bits .or .u64 (acc : Int) ((b.toNat : Int) * 128) = ((acc + b.toNat * 128 : Nat) : Int) := by
            rw [u64_orv7 _ _ (by omega) (by omega) (by omega) (by omega) (by omega)]
            omega
          have hF : Lib.uvarintFrom 1 acc (b :: l.drop (1 + 1)) = (acc + b.toNat * 128, 2) := by simp [Lib.uvarintFrom, hb]
          rw [hF] at hdec
          go_wp2
          go_ret2
          exact ⟨rfl, rfl⟩
        · have hv : bits .or .u64 (acc : Int) (IntKind.u64.wrap (IntKind.u64.wrap (bits .and .u8 (b.toNat : Int) 127) * 128)) = ((acc + b.toNat % 128 * 128 : Nat) : Int) := by
            simp (disch := omega) only [u8_and127, u64_wrap_id, u64_orv7]
            omega
          have hF : Lib.uvarintFrom 1 acc (b :: l.drop (1 + 1)) = Lib.uvarintFrom 2 (acc + b.toNat % 128 * 128) (l.drop (1 + 1)) := by simp [Lib.uvarintFrom, hb]
          go_wp2
          refine ⟨⟨2, acc + b.toNat % 128 * 128, rfl, rfl, (by first | rfl | (congr 1; omega)), by omega, by omega, ?_, hdec.trans hF⟩, by simp [intOf]; omega⟩
          show acc + b.toNat % 128 * 128 < 2 ^ 14
          have e2 : (2 : Nat) ^ 14 = 16384 := by decide
          omega
      · have hacc' : acc < 16384 := by simpa using hacc
        by_cases hb : b.toNat < 128
        · have hor : bits .or .u64 (acc : Int) ((b.toNat : Int) * 16384) = ((acc + b.toNat * 16384 : Nat) : Int) := by
            rw [u64_orv14 _ _ (by omega) (by omega) (by omega) (by omega) (by omega)]
            omega
          have hF : Lib.uvarintFrom 2 acc (b :: l.drop (2 + 1)) = (acc + b.toNat * 16384, 3) := by simp [Lib.uvarintFrom, hb]
          rw [hF] at hdec
          go_wp2
          go_ret2
          exact ⟨rfl, rfl⟩
        · have hv : bits .or .u64 (acc : Int) (IntKind.u64.wrap (IntKind.u64.wrap (bits .and .u8 (b.toNat : Int) 127) * 16384)) = ((acc + b.toNat % 128 * 16384 : Nat) : Int) := by
            simp (disch := omega) only [u8_and127, u64_wrap_id, u64_orv14]
            omega
          have hF : Lib.uvarintFrom 2 acc (b :: l.drop (2 + 1)) = Lib.uvarintFrom 3 (acc + b.toNat % 128 * 16384) (l.drop (2 + 1)) := by simp [Lib.uvarintFrom, hb]
          go_wp2
          refine ⟨⟨3, acc + b.toNat % 128 * 16384, rfl, rfl, (by first | rfl | (congr 1; omega)), by omega, by omega, ?_, hdec.trans hF⟩, by simp [intOf]; omega⟩
          show acc + b.toNat % 128 * 16384 < 2 ^ 21
          have e2 : (2 : Nat) ^ 21 = 2097152 := by decide
          omega
      · have hacc' : acc < 2097152 := by simpa using hacc
        by_cases hb : b.toNat < 128
        · have hor : bits .or .u64 (acc : Int) ((b.toNat : Int) * 2097152) = ((acc + b.toNat * 2097152 : Nat) : Int) := by
            rw [u64_orv21 _ _ (by omega) (by omega) (by omega) (by omega) (by omega)]
            omega
          have hF : Lib.uvarintFrom 3 acc (b :: l.drop (3 + 1)) = (acc + b.toNat * 2097152, 4) := by simp [Lib.uvarintFrom, hb]
          rw [hF] at hdec
          go_wp2
          go_ret2
          exact ⟨rfl, rfl⟩
        · have hv : bits .or .u64 (acc : Int) (IntKind.u64.wrap (IntKind.u64.wrap (bits .and .u8 (b.toNat : Int) 127) * 2097152)) = ((acc + b.toNat % 128 * 2097152 : Nat) : Int) := by
            simp (disch := omega) only [u8_and127, u64_wrap_id, u64_orv21]
            omega
          have hF : Lib.uvarintFrom 3 acc (b :: l.drop (3 + 1)) = Lib.uvarintFrom 4 (acc + b.toNat % 128 * 2097152) (l.drop (3 + 1)) := by simp [Lib.uvarintFrom, hb]
          go_wp2
          refine ⟨⟨4, acc + b.toNat % 128 * 2097152, rfl, rfl, (by first | rfl | (congr 1; omega)), by omega, by omega, ?_, hdec.trans hF⟩, by simp [intOf]; omega⟩
          show acc + b.toNat % 128 * 2097152 < 2 ^ 28
          have e2 : (2 : Nat) ^ 28 = 268435456 := by decide
          omega
      · have hacc' : acc < 268435456 := by simpa using hacc
        by_cases hb : b.toNat < 128
        · have hor : bits .or .u64 (acc : Int) ((b.toNat : Int) * 268435456) = ((acc + b.toNat * 268435456 : Nat) : Int) := by
            rw [u64_orv28 _ _ (by omega) (by omega) (by omega) (by omega) (by omega)]
            omega
          have hF : Lib.uvarintFrom 4 acc (b :: l.drop (4 + 1)) = (acc + b.toNat * 268435456, 5) := by simp [Lib.uvarintFrom, hb]
          rw [hF] at hdec
          go_wp2
          go_ret2
          exact ⟨rfl, rfl⟩
        · have hv : bits .or .u64 (acc : Int) (IntKind.u64.wrap (IntKind.u64.wrap (bits .and .u8 (b.toNat : Int) 127) * 268435456)) = ((acc + b.toNat % 128 * 268435456 : Nat) : Int) := by
            simp (disch := omega) only [u8_and127, u64_wrap_id, u64_orv28]
            omega
          have hF : Lib.uvarintFrom 4 acc (b :: l.drop (4 + 1)) = Lib.uvarintFrom 5 (acc + b.toNat % 128 * 268435456) (l.drop (4 + 1)) := by simp [Lib.uvarintFrom, hb]
          go_wp2
          refine ⟨⟨5, acc + b.toNat % 128 * 268435456, rfl, rfl, (by first | rfl | (congr 1; omega)), by omega, by omega, ?_, hdec.trans hF⟩, by simp [intOf]; omega⟩
          show acc + b.toNat % 128 * 268435456 < 2 ^ 35
          have e2 : (2 : Nat) ^ 35 = 34359738368 := by decide
          omega
      · have hacc' : acc < 34359738368 := by simpa using hacc
        by_cases hb : b.toNat < 128
        · have hor : bits .or .u64 (acc : Int) ((b.toNat : Int) * 34359738368) = ((acc + b.toNat * 34359738368 : Nat) : Int) := by
            rw [u64_orv35 _ _ (by omega) (by omega) (by omega) (by omega) (by omega)]
            omega
          have hF : Lib.uvarintFrom 5 acc (b :: l.drop (5 + 1)) = (acc + b.toNat * 34359738368, 6) := by simp [Lib.uvarintFrom, hb]
          rw [hF] at hdec
          go_wp2
          go_ret2
          exact ⟨rfl, rfl⟩
        · have hv : bits .or .u64 (acc : Int) (IntKind.u64.wrap (IntKind.u64.wrap (bits .and .u8 (b.toNat : Int) 127) * 34359738368)) = ((acc + b.toNat % 128 * 34359738368 : Nat) : Int) := by
            simp (disch := omega) only [u8_and127, u64_wrap_id, u64_orv35]
            omega
          have hF : Lib.uvarintFrom 5 acc (b :: l.drop (5 + 1)) = Lib.uvarintFrom 6 (acc + b.toNat % 128 * 34359738368) (l.drop (5 + 1)) := by simp [Lib.uvarintFrom, hb]
          go_wp2
          refine ⟨⟨6, acc + b.toNat % 128 * 34359738368, rfl, rfl, (by first | rfl | (congr 1; omega)), by omega, by omega, ?_, hdec.trans hF⟩, by simp [intOf]; omega⟩
          show acc + b.toNat % 128 * 34359738368 < 2 ^ 42
          have e2 : (2 : Nat) ^ 42 = 4398046511104 := by decide
          omega
      · have hacc' : acc < 4398046511104 := by simpa using hacc
        by_cases hb : b.toNat < 128
        · have hor : bits .or .u64 (acc : Int) ((b.toNat : Int) * 4398046511104) = ((acc + b.toNat * 4398046511104 : Nat) : Int) := by
            rw [u64_orv42 _ _ (by omega) (by omega) (by omega) (by omega) (by omega)]
            omega
          have hF : Lib.uvarintFrom 6 acc (b :: l.drop (6 + 1)) = (acc + b.toNat * 4398046511104, 7) := by simp [Lib.uvarintFrom, hb]
          rw [hF] at hdec
          go_wp2
          go_ret2
          exact ⟨rfl, rfl⟩
        · have hv : bits .or .u64 (acc : Int) (IntKind.u64.wrap (IntKind.u64.wrap (bits .and .u8 (b.toNat : Int) 127) * 4398046511104)) = ((acc + b.toNat % 128 * 4398046511104 : Nat) : Int) := by
            simp (disch := omega) only [u8_and127, u64_wrap_id, u64_orv42]
            omega
          have hF : Lib.uvarintFrom 6 acc (b :: l.drop (6 + 1)) = Lib.uvarintFrom 7 (acc + b.toNat % 128 * 4398046511104) (l.drop (6 + 1)) := by simp [Lib.uvarintFrom, hb]
          go_wp2
          refine ⟨⟨7, acc + b.toNat % 128 * 4398046511104, rfl, rfl, (by first | rfl | (congr 1; omega)), by omega, by omega, ?_, hdec.trans hF⟩, by simp [intOf]; omega⟩
          show acc + b.toNat % 128 * 4398046511104 < 2 ^ 49
          have e2 : (2 : Nat) ^ 49 = 562949953421312 := by decide
          omega
      · have hacc' : acc < 562949953421312 := by simpa using hacc
        by_cases hb : b.toNat < 128
        · have hor : bits .or .u64 (acc : Int) ((b.toNat : Int) * 562949953421312) = ((acc + b.toNat * 562949953421312 : Nat) : Int) := by
            rw [u64_orv49 _ _ (by omega) (by omega) (by omega) (by omega) (by omega)]
            omega
          have hF : Lib.uvarintFrom 7 acc (b :: l.drop (7 + 1)) = (acc + b.toNat * 562949953421312, 8) := by simp [Lib.uvarintFrom, hb]
          rw [hF] at hdec
          go_wp2
          go_ret2
          exact ⟨rfl, rfl⟩
        · have hv : bits .or .u64 (acc : Int) (IntKind.u64.wrap (IntKind.u64.wrap (bits .and .u8 (b.toNat : Int) 127) * 562949953421312)) = ((acc + b.toNat % 128 * 562949953421312 : Nat) : Int) := by
            simp (disch := omega) only [u8_and127, u64_wrap_id, u64_orv49]
            omega
          have hF : Lib.uvarintFrom 7 acc (b :: l.drop (7 + 1)) = Lib.uvarintFrom 8 (acc + b.toNat % 128 * 562949953421312) (l.drop (7 + 1)) := by simp [Lib.uvarintFrom, hb]
          go_wp2
          refine ⟨⟨8, acc + b.toNat % 128 * 562949953421312, rfl, rfl, (by first | rfl | (congr 1; omega)), by omega, by omega, ?_, hdec.trans hF⟩, by simp [intOf]; omega⟩
          show acc + b.toNat % 128 * 562949953421312 < 2 ^ 56
          have e2 : (2 : Nat) ^ 56 = 72057594037927936 := by decide
          omega
      · have hacc' : acc < 72057594037927936 := by simpa using hacc
        by_cases hb : b.toNat < 128
        · have hor : bits .or .u64 (acc : Int) ((b.toNat : Int) * 72057594037927936) = ((acc + b.toNat * 72057594037927936 : Nat) : Int) := by
            rw [u64_orv56 _ _ (by omega) (by omega) (by omega) (by omega) (by omega)]
            omega
          have hF : Lib.uvarintFrom 8 acc (b :: l.drop (8 + 1)) = (acc + b.toNat * 72057594037927936, 9) := by simp [Lib.uvarintFrom, hb]
          rw [hF] at hdec
          go_wp2
          go_ret2
          exact ⟨rfl, rfl⟩
        · have hv : bits .or .u64 (acc : Int) (IntKind.u64.wrap (IntKind.u64.wrap (bits .and .u8 (b.toNat : Int) 127) * 72057594037927936)) = ((acc + b.toNat % 128 * 72057594037927936 : Nat) : Int) := by
            simp (disch := omega) only [u8_and127, u64_wrap_id, u64_orv56]
            omega
          have hF : Lib.uvarintFrom 8 acc (b :: l.drop (8 + 1)) = Lib.uvarintFrom 9 (acc + b.toNat % 128 * 72057594037927936) (l.drop (8 + 1)) := by simp [Lib.uvarintFrom, hb]
          go_wp2
          refine ⟨⟨9, acc + b.toNat % 128 * 72057594037927936, rfl, rfl, (by first | rfl | (congr 1; omega)), by omega, by omega, ?_, hdec.trans hF⟩, by simp [intOf]; omega⟩
          show acc + b.toNat % 128 * 72057594037927936 < 2 ^ 63
          have e2 : (2 : Nat) ^ 63 = 9223372036854775808 := by decide
          omega
      · have hacc' : acc < 9223372036854775808 := by simpa using hacc
        by_cases hb : b.toNat < 128
        · by_cases hb1 : 1 < b.toNat
          · -- THE TENTH BYTE MAY BEAR ONE BIT: OVERFLOW
            have hF : Lib.uvarintFrom 9 acc (b :: l.drop (9 + 1)) = (0, -10) := by simp [Lib.uvarintFrom, hb, hb1]
            rw [hF] at hdec
            go_wp2
            go_ret2
            exact ⟨rfl, rfl⟩
          · have hor : bits .or .u64 (acc : Int) ((b.toNat : Int) * 9223372036854775808) = ((acc + b.toNat * 9223372036854775808 : Nat) : Int) := by
              rw [u64_orv63 _ _ (by omega) (by omega) (by omega) (by omega) (by omega)]
              omega
            have hF : Lib.uvarintFrom 9 acc (b :: l.drop (9 + 1)) = (acc + b.toNat * 9223372036854775808, 10) := by simp [Lib.uvarintFrom, hb, hb1]
            rw [hF] at hdec
            go_wp2
            go_ret2
            exact ⟨rfl, rfl⟩
        · -- THE TENTH BYTE BEARS THE BIT 128: '<< 63' WRAPS: what is gathered counts no more
          obtain ⟨a2, ha2⟩ : ∃ a2 : Nat, bits .or .u64 (acc : Int) (IntKind.u64.wrap (IntKind.u64.wrap (bits .and .u8 (b.toNat : Int) 127) * 9223372036854775808)) = (a2 : Int) := ⟨_, (Int.toNat_of_nonneg (bits_lo_u64 _ _ _)).symm⟩
          have hhi := bits_hi_u64 .or (acc : Int) (IntKind.u64.wrap (IntKind.u64.wrap (bits .and .u8 (b.toNat : Int) 127) * 9223372036854775808))
          have hF : Lib.uvarintFrom 9 acc (b :: l.drop (9 + 1)) = Lib.uvarintFrom 10 a2 (l.drop (9 + 1)) := by
            rw [Lib.uvarintFrom_ten a2 (acc + b.toNat % 128 * 9223372036854775808)]
            simp [Lib.uvarintFrom, hb]
          go_wp2
          refine ⟨⟨10, a2, rfl, rfl, (by first | rfl | (congr 1; omega)), by omega, by omega, ?_, hdec.trans hF⟩, by simp [intOf]; omega⟩
          show a2 < 2 ^ 70
          have e2 : (2 : Nat) ^ 70 = 1180591620717411303424 := by decide
          omega
      · -- AN ELEVENTH BYTE: OVERFLOW
        have hF : Lib.uvarintFrom 10 acc (b :: l.drop (10 + 1)) = (0, -11) := by simp [Lib.uvarintFrom]
        rw [hF] at hdec
        go_wp2
        go_ret2
        exact ⟨rfl, rfl⟩
    · -- THE BYTES ARE AT AN END: buf too small
      have hkn2 : k = n := by omega
      subst hkn2
      have hF : Lib.uvarintFrom k acc (l.drop k) = (0, 0) := by rw [List.drop_eq_nil_of_le (by omega)]; rfl
      rw [hF] at hdec
      go_wp2
      go_ret2
      exact ⟨rfl, rfl⟩



set_option maxRecDepth 100000 in
theorem Uvarint_any (A : Option Addr) (n c B : Nat) (xs : Bs) (w : World) (hx : Rd w B A n xs) :
    Calls Tryd.prog 46 #[.slice A n c] w fun e w' => e = .returned (.tuple #[.int .u64 (Lib.uvarintDec xs).1, .int .i64 (Lib.uvarintDec xs).2]) ∧ w = w' := by
  by_cases h0 : n = 0
  · subst h0
    have hxs : xs = [] := List.eq_nil_of_length_eq_zero hx.len
    subst hxs
    clear hx
    have hd : Lib.uvarintDec [] = (0, 0) := rfl
    rw [hd]
    go_enter Tryd.func46, Tryd.ntmps46
    go_wp2
    go_loop [10] (fun i => i = .int .i64 0) (fun _ => 0)
    case atStart => rfl
    case round =>
      subst hrel
      go_wp2
      go_ret2
      exact ⟨rfl, rfl⟩
  · obtain ⟨b, off, rfl, _, hc⟩ := hx.at_ (by omega)
    refine (Uvarint_at b off n c xs w hx.len (fun j hj => ?_)).mono fun e w' ⟨he, hw⟩ => ⟨he, hw.symm⟩
    rw [hc j (by have := hx.len; omega)]
    simp [bv, List.getD_eq_getElem?_getD, List.getElem?_eq_getElem hj]

end Snap
end Go.Proofs.YtodbfgomkcmdgaaDoor

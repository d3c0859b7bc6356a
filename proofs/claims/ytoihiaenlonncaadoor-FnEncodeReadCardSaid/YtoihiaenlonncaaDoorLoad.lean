/-
  snappy.load32, load64, hash.
-/
import Derived.Test.YtoihiaenlonncaaDoorEmitCopy3
import Derived.Lib.EndianBits
namespace Go.Proofs.YtoihiaenlonncaaDoor
open Go.RowKit
set_option linter.unusedVariables false
namespace Snap

/-- 's[l:h:m]'. -/
theorem run_cut_lhm (b off n c : Nat) (l h k : Int) (i j m : Nat) (hi : l.toNat = i) (hj : h.toNat = j) (hm : k.toNat = m) (h0 : 0 ≤ l) (h1 : l ≤ h) (h2 : h ≤ k) (h3 : k ≤ (c : Int)) (hlt : i < m) (w : World) :
    (Instr.sliceAt 22 (.slice (some ⟨b, off, none⟩) n c) (some (.int .i64 l)) (some (.int .i64 h)) (some (.int .i64 k))).run Tryd.prog w = .ok (.slice (some ⟨b, off + i, none⟩) (j - i) (m - i)) w := by
  have ht : Tryd.prog.underlying 22 = some (.slice (Tryd.prog.elem 22)) := by rw [elem_bytes]; exact Tryd.underlying22
  rw [run_sliceAt_slice w _ _ _ _ _ ht, run_slice_lhm w _ _ n c ht _ _ _ l h k h0 h1 h2 h3, elem_bytes, run_sizeOf_u8, hi, hj, hm]
  have := cutA_some b off m i hlt
  unfold cutA at this
  simp only [Result.andThen, sliced, Nat.mul_one, this]

theorem load32_or1 (x t : Nat) (h1 : x < 256) (h2 : t < 256) : bits BinOp.or IntKind.u32 (x : Int) ((t : Int) * 256) = ((x + 256 * t : Nat) : Int) := by
  rw [u32_or8 _ _ (by omega) (by omega) (by omega) (by omega) (by omega)]
  omega
theorem load32_or2 (x t : Nat) (h1 : x < 65536) (h2 : t < 256) : bits BinOp.or IntKind.u32 (x : Int) ((t : Int) * 65536) = ((x + 65536 * t : Nat) : Int) := by
  rw [u32_or16 _ _ (by omega) (by omega) (by omega) (by omega) (by omega)]
  omega
theorem load32_or3 (x t : Nat) (h1 : x < 16777216) (h2 : t < 256) : bits BinOp.or IntKind.u32 (x : Int) ((t : Int) * 16777216) = ((x + 16777216 * t : Nat) : Int) := by
  rw [u32_or24 _ _ (by omega) (by omega) (by omega) (by omega) (by omega)]
  omega
theorem load32_val (t0 t1 t2 t3 : Nat) (l0 : t0 < 256) (l1 : t1 < 256) (l2 : t2 < 256) (l3 : t3 < 256) : bits BinOp.or IntKind.u32 (bits BinOp.or IntKind.u32 (bits BinOp.or IntKind.u32 ((t0 : Int)) ((t1 : Int) * 256)) ((t2 : Int) * 65536)) ((t3 : Int) * 16777216) = ((t0 + 256 * t1 + 65536 * t2 + 16777216 * t3 : Nat) : Int) := by
  rw [load32_or1 _ t1 (by omega) l1]
  rw [load32_or2 _ t2 (by omega) l2]
  rw [load32_or3 _ t3 (by omega) l3]

set_option maxRecDepth 100000 in
set_option maxHeartbeats 2000000 in
theorem load32_any (b off n c i : Nat) (w : World) (t0 t1 t2 t3 : Nat) (l0 : t0 < 256) (l1 : t1 < 256) (l2 : t2 < 256) (l3 : t3 < 256) (g0 : w.cell? ⟨b, off + i, none⟩ = some (.int .u8 (t0 : Int))) (g1 : w.cell? ⟨b, off + (i + 1), none⟩ = some (.int .u8 (t1 : Int))) (g2 : w.cell? ⟨b, off + (i + 2), none⟩ = some (.int .u8 (t2 : Int))) (g3 : w.cell? ⟨b, off + (i + 3), none⟩ = some (.int .u8 (t3 : Int))) (hin : i + 4 ≤ n) (hnc : n ≤ c) (hn : n ≤ 4294967295) :
    Calls Tryd.prog 27 #[.slice (some ⟨b, off, none⟩) n c, .int .i64 (i : Int)] w (Quiet w (.int .u32 ((t0 + 256 * t1 + 65536 * t2 + 16777216 * t3 : Nat) : Int))) := by
  have hsl := run_cut_lhm b off n c (i : Int) ((i : Int) + 4) (n : Int) i (i + 4) n (by omega) (by omega) (by omega) (by omega) (by omega) (by omega) (by omega) (by omega)
  rw [show i + 4 - i = 4 from by omega] at hsl

  obtain ⟨p, hp⟩ : ∃ p, p = off + i := ⟨_, rfl⟩
  rw [← hp] at hsl g0
  rw [← Nat.add_assoc, ← hp] at g1
  rw [← Nat.add_assoc, ← hp] at g2
  rw [← Nat.add_assoc, ← hp] at g3
  have H1 : (1 : Int) ≤ (n : Int) - (i : Int) := by omega
  clear hp
  go_enter Tryd.func27, Tryd.ntmps27
  go_wp2_with fail
  go_quiet (fail)
  go_wp2
  refine bodyPost_ret (results_one rfl _ _ _ rfl) rfl ⟨?_, _, rfl⟩
  exact congrArg (fun x => Ending.returned (Value.int .u32 x)) (load32_val t0 t1 t2 t3 l0 l1 l2 l3)

theorem load64_or1 (x t : Nat) (h1 : x < 256) (h2 : t < 256) : bits BinOp.or IntKind.u64 (x : Int) ((t : Int) * 256) = ((x + 256 * t : Nat) : Int) := by
  rw [u64_or8 _ _ (by omega) (by omega) (by omega) (by omega) (by omega)]
  omega
theorem load64_or2 (x t : Nat) (h1 : x < 65536) (h2 : t < 256) : bits BinOp.or IntKind.u64 (x : Int) ((t : Int) * 65536) = ((x + 65536 * t : Nat) : Int) := by
  rw [u64_or16 _ _ (by omega) (by omega) (by omega) (by omega) (by omega)]
  omega
theorem load64_or3 (x t : Nat) (h1 : x < 16777216) (h2 : t < 256) : bits BinOp.or IntKind.u64 (x : Int) ((t : Int) * 16777216) = ((x + 16777216 * t : Nat) : Int) := by
  rw [u64_or24 _ _ (by omega) (by omega) (by omega) (by omega) (by omega)]
  omega
theorem load64_or4 (x t : Nat) (h1 : x < 4294967296) (h2 : t < 256) : bits BinOp.or IntKind.u64 (x : Int) ((t : Int) * 4294967296) = ((x + 4294967296 * t : Nat) : Int) := by
  rw [u64_or32 _ _ (by omega) (by omega) (by omega) (by omega) (by omega)]
  omega
theorem load64_or5 (x t : Nat) (h1 : x < 1099511627776) (h2 : t < 256) : bits BinOp.or IntKind.u64 (x : Int) ((t : Int) * 1099511627776) = ((x + 1099511627776 * t : Nat) : Int) := by
  rw [u64_or40 _ _ (by omega) (by omega) (by omega) (by omega) (by omega)]
  omega
theorem load64_or6 (x t : Nat) (h1 : x < 281474976710656) (h2 : t < 256) : bits BinOp.or IntKind.u64 (x : Int) ((t : Int) * 281474976710656) = ((x + 281474976710656 * t : Nat) : Int) := by
  rw [u64_or48 _ _ (by omega) (by omega) (by omega) (by omega) (by omega)]
  omega
theorem load64_or7 (x t : Nat) (h1 : x < 72057594037927936) (h2 : t < 256) : bits BinOp.or IntKind.u64 (x : Int) ((t : Int) * 72057594037927936) = ((x + 72057594037927936 * t : Nat) : Int) := by
  rw [u64_or56 _ _ (by omega) (by omega) (by omega) (by omega) (by omega)]
  omega
theorem load64_val (t0 t1 t2 t3 t4 t5 t6 t7 : Nat) (l0 : t0 < 256) (l1 : t1 < 256) (l2 : t2 < 256) (l3 : t3 < 256) (l4 : t4 < 256) (l5 : t5 < 256) (l6 : t6 < 256) (l7 : t7 < 256) : bits BinOp.or IntKind.u64 (bits BinOp.or IntKind.u64 (bits BinOp.or IntKind.u64 (bits BinOp.or IntKind.u64 (bits BinOp.or IntKind.u64 (bits BinOp.or IntKind.u64 (bits BinOp.or IntKind.u64 ((t0 : Int)) ((t1 : Int) * 256)) ((t2 : Int) * 65536)) ((t3 : Int) * 16777216)) ((t4 : Int) * 4294967296)) ((t5 : Int) * 1099511627776)) ((t6 : Int) * 281474976710656)) ((t7 : Int) * 72057594037927936) = ((t0 + 256 * t1 + 65536 * t2 + 16777216 * t3 + 4294967296 * t4 + 1099511627776 * t5 + 281474976710656 * t6 + 72057594037927936 * t7 : Nat) : Int) := by
  rw [load64_or1 _ t1 (by omega) l1]
  rw [load64_or2 _ t2 (by omega) l2]
  rw [load64_or3 _ t3 (by omega) l3]
  rw [load64_or4 _ t4 (by omega) l4]
  rw [load64_or5 _ t5 (by omega) l5]
  rw [load64_or6 _ t6 (by omega) l6]
  rw [load64_or7 _ t7 (by omega) l7]

set_option maxRecDepth 100000 in
set_option maxHeartbeats 2000000 in
theorem load64_any (b off n c i : Nat) (w : World) (t0 t1 t2 t3 t4 t5 t6 t7 : Nat) (l0 : t0 < 256) (l1 : t1 < 256) (l2 : t2 < 256) (l3 : t3 < 256) (l4 : t4 < 256) (l5 : t5 < 256) (l6 : t6 < 256) (l7 : t7 < 256) (g0 : w.cell? ⟨b, off + i, none⟩ = some (.int .u8 (t0 : Int))) (g1 : w.cell? ⟨b, off + (i + 1), none⟩ = some (.int .u8 (t1 : Int))) (g2 : w.cell? ⟨b, off + (i + 2), none⟩ = some (.int .u8 (t2 : Int))) (g3 : w.cell? ⟨b, off + (i + 3), none⟩ = some (.int .u8 (t3 : Int))) (g4 : w.cell? ⟨b, off + (i + 4), none⟩ = some (.int .u8 (t4 : Int))) (g5 : w.cell? ⟨b, off + (i + 5), none⟩ = some (.int .u8 (t5 : Int))) (g6 : w.cell? ⟨b, off + (i + 6), none⟩ = some (.int .u8 (t6 : Int))) (g7 : w.cell? ⟨b, off + (i + 7), none⟩ = some (.int .u8 (t7 : Int))) (hin : i + 8 ≤ n) (hnc : n ≤ c) (hn : n ≤ 4294967295) :
    Calls Tryd.prog 29 #[.slice (some ⟨b, off, none⟩) n c, .int .i64 (i : Int)] w (Quiet w (.int .u64 ((t0 + 256 * t1 + 65536 * t2 + 16777216 * t3 + 4294967296 * t4 + 1099511627776 * t5 + 281474976710656 * t6 + 72057594037927936 * t7 : Nat) : Int))) := by
  have hsl := run_cut_lhm b off n c (i : Int) ((i : Int) + 8) (n : Int) i (i + 8) n (by omega) (by omega) (by omega) (by omega) (by omega) (by omega) (by omega) (by omega)
  rw [show i + 8 - i = 8 from by omega] at hsl

  obtain ⟨p, hp⟩ : ∃ p, p = off + i := ⟨_, rfl⟩
  rw [← hp] at hsl g0
  rw [← Nat.add_assoc, ← hp] at g1
  rw [← Nat.add_assoc, ← hp] at g2
  rw [← Nat.add_assoc, ← hp] at g3
  rw [← Nat.add_assoc, ← hp] at g4
  rw [← Nat.add_assoc, ← hp] at g5
  rw [← Nat.add_assoc, ← hp] at g6
  rw [← Nat.add_assoc, ← hp] at g7
  have H1 : (1 : Int) ≤ (n : Int) - (i : Int) := by omega
  clear hp
  go_enter Tryd.func29, Tryd.ntmps29
  go_wp2_with fail
  go_quiet (fail)
  go_wp2
  refine bodyPost_ret (results_one rfl _ _ _ rfl) rfl ⟨?_, _, rfl⟩
  exact congrArg (fun x => Ending.returned (Value.int .u64 x)) (load64_val t0 t1 t2 t3 t4 t5 t6 t7 l0 l1 l2 l3 l4 l5 l6 l7)

/-- What hash gives; only its size matters. -/
def hashV (u sh : Nat) : Nat := (u * 506832829 % 4294967296) / 2 ^ sh

theorem hashV_lt (u sh : Nat) : hashV u sh < 4294967296 := Nat.lt_of_le_of_lt (Nat.div_le_self _ _) (Nat.mod_lt _ (by decide))

theorem hash_any (u sh : Nat) (hu : u < 4294967296) (hs : sh < 32) (w : World) : Calls Tryd.prog 26 #[.int .u32 (u : Int), .int .u32 (sh : Int)] w (fun e w' => e = .returned (.int .u32 ((hashV u sh : Nat) : Int)) ∧ w = w') := by
  go_enter Tryd.func26, Tryd.ntmps26
  go_wp2
  refine bodyPost_ret (results_one rfl _ _ _ rfl) rfl ⟨?_, rfl⟩
  refine congrArg (fun x => Ending.returned (Value.int .u32 x)) ?_
  unfold hashV
  rw [Int.natCast_ediv, Int.natCast_emod, Int.natCast_mul, Int.natCast_pow]
  rfl

/-- The number that 4 bytes tell, from a place on. -/
def w4 (xs : Bs) (i : Nat) : Nat := (xs.getD i 0).toNat + 256 * (xs.getD (i + 1) 0).toNat + 65536 * (xs.getD (i + 2) 0).toNat + 16777216 * (xs.getD (i + 3) 0).toNat
/-- The number that 8 bytes tell, from a place on. -/
def w8 (xs : Bs) (i : Nat) : Nat := (xs.getD i 0).toNat + 256 * (xs.getD (i + 1) 0).toNat + 65536 * (xs.getD (i + 2) 0).toNat + 16777216 * (xs.getD (i + 3) 0).toNat + 4294967296 * (xs.getD (i + 4) 0).toNat + 1099511627776 * (xs.getD (i + 5) 0).toNat + 281474976710656 * (xs.getD (i + 6) 0).toNat + 72057594037927936 * (xs.getD (i + 7) 0).toNat

theorem w4_lt (xs : Bs) (i : Nat) : w4 xs i < 4294967296 := by
  unfold w4
  have h0 := (xs.getD i 0).toNat_lt; have h1 := (xs.getD (i + 1) 0).toNat_lt; have h2 := (xs.getD (i + 2) 0).toNat_lt; have h3 := (xs.getD (i + 3) 0).toNat_lt
  omega

theorem w8_lt (xs : Bs) (i : Nat) : w8 xs i < 18446744073709551616 := by
  unfold w8
  have h0 := (xs.getD i 0).toNat_lt; have h1 := (xs.getD (i + 1) 0).toNat_lt; have h2 := (xs.getD (i + 2) 0).toNat_lt; have h3 := (xs.getD (i + 3) 0).toNat_lt
  have h4 := (xs.getD (i + 4) 0).toNat_lt; have h5 := (xs.getD (i + 5) 0).toNat_lt; have h6 := (xs.getD (i + 6) 0).toNat_lt; have h7 := (xs.getD (i + 7) 0).toNat_lt
  omega

theorem w8_mid (xs : Bs) (i : Nat) : w8 xs i / 256 % 4294967296 = w4 xs (i + 1) := by
  unfold w8 w4
  have h0 := (xs.getD i 0).toNat_lt; have h1 := (xs.getD (i + 1) 0).toNat_lt; have h2 := (xs.getD (i + 2) 0).toNat_lt; have h3 := (xs.getD (i + 3) 0).toNat_lt
  have h4 := (xs.getD (i + 4) 0).toNat_lt; have h5 := (xs.getD (i + 5) 0).toNat_lt; have h6 := (xs.getD (i + 6) 0).toNat_lt; have h7 := (xs.getD (i + 7) 0).toNat_lt
  rw [show i + 1 + 1 = i + 2 from rfl, show i + 1 + 2 = i + 3 from rfl, show i + 1 + 3 = i + 4 from rfl]
  omega

theorem w4_same {xs : Bs} {i j : Nat} (h : w4 xs i = w4 xs j) : ∀ k, k < 4 → xs.getD (i + k) 0 = xs.getD (j + k) 0 := by
  unfold w4 at h
  have h0 := (xs.getD i 0).toNat_lt; have h1 := (xs.getD (i + 1) 0).toNat_lt; have h2 := (xs.getD (i + 2) 0).toNat_lt; have h3 := (xs.getD (i + 3) 0).toNat_lt
  have g0 := (xs.getD j 0).toNat_lt; have g1 := (xs.getD (j + 1) 0).toNat_lt; have g2 := (xs.getD (j + 2) 0).toNat_lt; have g3 := (xs.getD (j + 3) 0).toNat_lt
  intro k hk
  apply UInt8.toNat_inj.1
  have hk4 : k = 0 ∨ k = 1 ∨ k = 2 ∨ k = 3 := by omega
  rcases hk4 with rfl | rfl | rfl | rfl
  · rw [Nat.add_zero, Nat.add_zero]; omega
  · omega
  · omega
  · omega

theorem load32_src {w : World} {g b off n c : Nat} {xs : Bs} (hs : Src w g b off n xs) (i : Nat) (hin : i + 4 ≤ n) (hnc : n ≤ c) (hn : n ≤ 4294967295) :
    Calls Tryd.prog 27 #[.slice (some ⟨b, off, none⟩) n c, .int .i64 (i : Int)] w (Quiet w (.int .u32 ((w4 xs i : Nat) : Int))) :=
  load32_any b off n c i w _ _ _ _ (UInt8.toNat_lt _) (UInt8.toNat_lt _) (UInt8.toNat_lt _) (UInt8.toNat_lt _) (hs.cell i (by omega)) (hs.cell (i + 1) (by omega)) (hs.cell (i + 2) (by omega)) (hs.cell (i + 3) (by omega)) hin hnc hn

theorem load64_src {w : World} {g b off n c : Nat} {xs : Bs} (hs : Src w g b off n xs) (i : Nat) (hin : i + 8 ≤ n) (hnc : n ≤ c) (hn : n ≤ 4294967295) :
    Calls Tryd.prog 29 #[.slice (some ⟨b, off, none⟩) n c, .int .i64 (i : Int)] w (Quiet w (.int .u64 ((w8 xs i : Nat) : Int))) :=
  load64_any b off n c i w _ _ _ _ _ _ _ _ (UInt8.toNat_lt _) (UInt8.toNat_lt _) (UInt8.toNat_lt _) (UInt8.toNat_lt _) (UInt8.toNat_lt _) (UInt8.toNat_lt _) (UInt8.toNat_lt _) (UInt8.toNat_lt _)
    (hs.cell i (by omega)) (hs.cell (i + 1) (by omega)) (hs.cell (i + 2) (by omega)) (hs.cell (i + 3) (by omega)) (hs.cell (i + 4) (by omega)) (hs.cell (i + 5) (by omega)) (hs.cell (i + 6) (by omega)) (hs.cell (i + 7) (by omega)) hin hnc hn

end Snap
end Go.Proofs.YtoihiaenlonncaaDoor

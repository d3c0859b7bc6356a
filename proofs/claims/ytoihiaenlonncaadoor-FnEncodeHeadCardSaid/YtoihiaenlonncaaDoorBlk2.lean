/-
  snappy.encodeBlock: up to the outer loop.
-/
import Derived.Test.YtoihiaenlonncaaDoorTab
namespace Go.Proofs.YtoihiaenlonncaaDoor
open Go.RowKit
set_option linter.unusedVariables false
namespace Snap

set_option maxRecDepth 100000 in
set_option maxHeartbeats 1000000 in
theorem bk_r0 (g o nd cd b off n cl : Nat) (w : World) (Q : Exit → Act → World → Prop) (a : Act) (hfr : BkA g o nd cd b off n cl a)  (h : ∀ a, BkB g o nd cd b off n cl 0 a → Q .normal a w) : Code.wp Tryd.prog bkR0 Q a w := by
  obtain ⟨f, rfl⟩ := hfr.open_
  clear hfr
  conv => arg 2; whnf
  go_wp2
  exact ⟨rfl, rfl, rfl, rfl, rfl⟩

set_option maxRecDepth 100000 in
set_option maxHeartbeats 1000000 in
theorem bk_r1 (g o nd cd b off n cl : Nat) (w : World) (Q : Exit → Act → World → Prop) (a : Act) (hfr : BkB g o nd cd b off n cl 0 a)  (h : ∀ a, BkB g o nd cd b off n cl 0 a → a.tmps.getD 5 undef = .int .u32 24 → Q .normal a w) : Code.wp Tryd.prog bkR1 Q a w := by
  obtain ⟨f, rfl⟩ := hfr.open_
  clear hfr
  conv => arg 2; whnf
  go_wp2
  exact h _ ⟨rfl, rfl, rfl, rfl, rfl⟩ rfl

set_option maxRecDepth 100000 in
set_option maxHeartbeats 1000000 in
theorem bk_r2 (g o nd cd b off n cl : Nat) (w : World) (Q : Exit → Act → World → Prop) (a : Act) (hfr : BkB g o nd cd b off n cl 0 a) (h5 : a.tmps.getD 5 undef = .int .u32 24) (h : ∀ a, BkC g o nd cd b off n cl 0 24 256 a → Q .normal a w) : Code.wp Tryd.prog bkR2 Q a w := by
  have hc : BkX g o nd cd b off n cl 0 24 a := ⟨hfr.size, hfr.defers, hfr.s0, hfr.s1, hfr.s4, h5⟩
  clear hfr h5
  obtain ⟨f, rfl⟩ := hc.open_
  clear hc
  conv => arg 2; whnf
  go_wp2
  exact ⟨rfl, rfl, rfl, rfl, rfl, rfl, rfl⟩

set_option maxRecDepth 100000 in
set_option maxHeartbeats 1000000 in
theorem bk_sh_go (g o nd cd b off n cl sh ts : Nat) (w : World) (Q : Exit → Act → World → Prop) (a : Act) (hfr : BkC g o nd cd b off n cl 0 sh ts a) (h1 : 1 ≤ sh) (h2 : sh ≤ 24) (hn : n ≤ 65536) (ht : ts < 16384) (hlt : ts < n) (h : ∀ a, BkC g o nd cd b off n cl 0 (sh - 1) (ts * 2) a → Q .normal a w) : Code.wp Tryd.prog bkShLoop Q a w := by
  obtain ⟨f, rfl⟩ := hfr.open_
  clear hfr
  conv => arg 2; whnf
  go_wp2
  exact ⟨rfl, rfl, rfl, rfl, rfl, congrArg (Value.int .u32) (by omega), congrArg (Value.int .i64) (by omega)⟩

set_option maxRecDepth 100000 in
set_option maxHeartbeats 1000000 in
theorem bk_sh_end1 (g o nd cd b off n cl sh ts : Nat) (w : World) (Q : Exit → Act → World → Prop) (a : Act) (hfr : BkC g o nd cd b off n cl 0 sh ts a) (hn : n ≤ 65536) (ht : ts < 16384) (hlt : n ≤ ts) (h : ∀ a, BkC g o nd cd b off n cl 0 sh ts a → Q (.exit 0) a w) : Code.wp Tryd.prog bkShLoop Q a w := by
  obtain ⟨f, rfl⟩ := hfr.open_
  clear hfr
  conv => arg 2; whnf
  go_wp2
  exact ⟨rfl, rfl, rfl, rfl, rfl, rfl, rfl⟩

set_option maxRecDepth 100000 in
set_option maxHeartbeats 1000000 in
theorem bk_sh_end2 (g o nd cd b off n cl sh ts : Nat) (w : World) (Q : Exit → Act → World → Prop) (a : Act) (hfr : BkC g o nd cd b off n cl 0 sh ts a) (hn : n ≤ 65536) (ht : 16384 ≤ ts) (h : ∀ a, BkC g o nd cd b off n cl 0 sh ts a → Q (.exit 0) a w) : Code.wp Tryd.prog bkShLoop Q a w := by
  obtain ⟨f, rfl⟩ := hfr.open_
  clear hfr
  conv => arg 2; whnf
  go_wp2
  exact ⟨rfl, rfl, rfl, rfl, rfl, rfl, rfl⟩

set_option maxRecDepth 100000 in
set_option maxHeartbeats 1000000 in
theorem bk_shift (g o nd cd b off n cl : Nat) (w : World) (Q : Exit → Act → World → Prop) (a : Act) (hfr : BkC g o nd cd b off n cl 0 24 256 a) (hn : n ≤ 65536) (h : ∀ a sh ts, sh ≤ 24 → BkC g o nd cd b off n cl 0 sh ts a → Q (.exit 0) a w) : Code.wp Tryd.prog (.loop bkShLoop) Q a w := by
  refine wp_loop (fun a w' => w' = w ∧ ∃ k, k ≤ 6 ∧ BkC g o nd cd b off n cl 0 (24 - k) (256 * 2 ^ k) a) (fun a _ => match a.tmps.getD 5 undef with | .int _ k => k.toNat | _ => 0)
    ⟨rfl, 0, by omega, by simpa using hfr⟩ ?_
  rintro a w' ⟨rfl, k, hk, hf⟩
  have h5 := hf.s5
  by_cases h1 : 256 * 2 ^ k < 16384
  · by_cases h2 : 256 * 2 ^ k < n
    · have hk6 : k < 6 := by
        rcases Nat.lt_or_ge k 6 with h | h
        · exact h
        · obtain rfl : k = 6 := by omega
          omega
      refine bk_sh_go g o nd cd b off n cl _ _ w' _ a hf (by omega) (by omega) hn h1 h2 ?_
      intro a' hf'
      refine ⟨⟨rfl, k + 1, by omega, ?_⟩, ?_⟩
      · rw [show 24 - (k + 1) = 24 - k - 1 from by omega, Nat.pow_succ, ← Nat.mul_assoc]
        exact hf'
      · rw [hf'.s5, h5]
        show ((24 - k - 1 : Nat) : Int).toNat < ((24 - k : Nat) : Int).toNat
        omega
    · exact bk_sh_end1 g o nd cd b off n cl _ _ w' _ a hf hn h1 (by omega) (fun a hf => h a _ _ (by omega) hf)
  · exact bk_sh_end2 g o nd cd b off n cl _ _ w' _ a hf hn (by omega) (fun a hf => h a _ _ (by omega) hf)

set_option maxRecDepth 100000 in
set_option maxHeartbeats 1000000 in
theorem bk_r6 (g o nd cd b off n cl sh ts : Nat) (w : World) (Q : Exit → Act → World → Prop) (a : Act) (hfr : BkC g o nd cd b off n cl 0 sh ts a)
    (h : ∀ a Z, BkY g o nd cd b off n cl w.heap.size 0 sh a → Z.size = 16384 → (∀ j, j < 16384 → Z[j]? = some (.int .u16 0)) → Q .normal a (w.alloc (.cells Z 44))) : Code.wp Tryd.prog bkR6 Q a w := by
  obtain ⟨f, rfl⟩ := hfr.open_
  clear hfr
  obtain ⟨Z, hz, hs, hc⟩ := table_zero
  have hne : ¬ Z = #[] := by rintro rfl; simp at hs
  have HS := hide hs
  have HC := hide hc
  clear hs hc
  conv => arg 2; whnf
  go_wp2
  exact h _ Z ⟨rfl, rfl, rfl, rfl, rfl, rfl, rfl⟩ HS.out HC.out

set_option maxRecDepth 100000 in
set_option maxHeartbeats 1000000 in
theorem bk_r7 (g o nd cd b off n cl tb sh : Nat) (w : World) (Q : Exit → Act → World → Prop) (a : Act) (hfr : BkY g o nd cd b off n cl tb 0 sh a) (hn : n ≤ 65536) (h : ∀ a, BkD g o nd cd b off n cl tb 0 sh a → Q .normal a w) : Code.wp Tryd.prog bkR7 Q a w := by
  obtain ⟨f, rfl⟩ := hfr.open_
  clear hfr
  conv => arg 2; whnf
  go_wp2
  exact ⟨rfl, rfl, rfl, rfl, rfl, rfl, rfl, rfl⟩

set_option maxRecDepth 100000 in
set_option maxHeartbeats 1000000 in
theorem bk_r8 (g o nd cd b off n cl tb sh : Nat) (w : World) (Q : Exit → Act → World → Prop) (a : Act) (hfr : BkD g o nd cd b off n cl tb 0 sh a)  (h : ∀ a, BkG g o nd cd b off n cl tb 0 sh 0 a → Q .normal a w) : Code.wp Tryd.prog bkR8 Q a w := by
  obtain ⟨f, rfl⟩ := hfr.open_
  clear hfr
  conv => arg 2; whnf
  go_wp2
  exact ⟨rfl, rfl, rfl, rfl, rfl, rfl, rfl, rfl, rfl⟩

set_option maxRecDepth 100000 in
set_option maxHeartbeats 1000000 in
theorem bk_r9 (g o nd cd b off n cl tb sh : Nat) (w : World) (Q : Exit → Act → World → Prop) (a : Act) (hfr : BkG g o nd cd b off n cl tb 0 sh 0 a)  (h : ∀ a, BkF g o nd cd b off n cl tb 0 sh 0 1 a → Q .normal a w) : Code.wp Tryd.prog bkR9 Q a w := by
  obtain ⟨f, rfl⟩ := hfr.open_
  clear hfr
  conv => arg 2; whnf
  go_wp2
  exact ⟨rfl, rfl, rfl, rfl, rfl, rfl, rfl, rfl, rfl, rfl⟩

set_option maxRecDepth 100000 in
set_option maxHeartbeats 1000000 in
theorem bk_r10 (g o nd cd b off n cl tb sh : Nat) (xs : Bs) (w : World) (Q : Exit → Act → World → Prop) (a : Act) (hfr : BkF g o nd cd b off n cl tb 0 sh 0 1 a) (hsrc : Src w g b off n xs) (hsh : sh ≤ 24) (hn0 : 17 ≤ n) (hn : n ≤ 65536) (hncl : n ≤ cl)
    (h : ∀ a nh k, BkH g o nd cd b off n cl tb 0 sh 0 1 nh a → nh < 4294967296 → Q .normal a (w.drewN k)) : Code.wp Tryd.prog bkR10 Q a w := by
  obtain ⟨f, rfl⟩ := hfr.open_
  have HL : Calls Tryd.prog 27 #[.slice (some ⟨b, off, none⟩) n cl, .int .i64 1] w (Quiet w (.int .u32 ((w4 xs 1 : Nat) : Int))) := load32_src hsrc 1 (by omega) hncl (by omega)
  have HL := hide HL
  have hu := w4_lt xs 1
  generalize w4 xs 1 = u at *
  have HHA := hide (fun w => hash_any u sh hu (by omega) w)
  have HLT := hide (hashV_lt u sh)
  generalize hashV u sh = nh at *
  clear hfr hsrc
  conv => arg 2; whnf
  go_wp2_with fail
  refine HL.out.mono ?_
  rintro e w' ⟨rfl, k, rfl⟩
  go_wp2_with fail
  refine (HHA.out _).mono ?_
  rintro e w' ⟨rfl, rfl⟩
  go_wp2
  exact h _ nh k ⟨rfl, rfl, rfl, rfl, rfl, rfl, rfl, rfl, rfl, rfl, rfl⟩ HLT.out


end Snap
end Go.Proofs.YtoihiaenlonncaaDoor

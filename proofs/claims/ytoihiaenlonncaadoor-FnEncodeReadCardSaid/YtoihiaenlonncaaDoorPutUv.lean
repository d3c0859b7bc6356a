/-
  binary.PutUvarint: it lays 'varL x' at the head of a row.
-/
import Derived.Test.YtoihiaenlonncaaDoorEmitLit2
import Derived.Lib.Varint
namespace Go.Proofs.YtoihiaenlonncaaDoor
open Go.RowKit
set_option linter.unusedVariables false
namespace Snap

set_option maxRecDepth 100000 in
set_option maxHeartbeats 2000000 in
theorem PutUvarint_any (g n c x : Nat) (hx : x ≤ 4294967295) (w : World) (hd : Dst w g n []) (hn : (varL x).length ≤ n) (hnb : n ≤ 4294967295) :
    Calls Tryd.prog 22 #[.slice (some ⟨g, 0, none⟩) n c, .int .u64 (x : Int)] w (Laid w g n [] (varL x)) := by
  have HD := hide hd
  clear hd
  go_enter Tryd.func22, Tryd.ntmps22
  go_wp2
  go_loopw [1, 5] (fun vx vi wr => ∃ (y : Nat) (pre : Bs), vx = .int .u64 (y : Int) ∧ vi = .int .i64 ((pre.length : Nat) : Int) ∧ y ≤ x ∧ varL x = pre ++ varL y ∧ Hid (Dst wr g n pre) ∧ Hid (w.grownBy wr (some g)))
    (fun vx _ _ => match vx with | .int _ k => k.toNat | _ => 0)
  case atStart => exact ⟨x, [], rfl, rfl, Nat.le_refl _, rfl, HD, hide (World.grownBy.refl _ _)⟩
  case round =>
    obtain ⟨y, pre, rfl, rfl, hy, hsplit, HP, HG⟩ := hrel
    have hpl : pre.length + (varL y).length = (varL x).length := by
      have h2 := congrArg List.length hsplit
      rw [List.length_append] at h2
      omega
    have hyp : 0 < (varL y).length := List.length_pos_iff.2 (varL_ne y)
    have hlt : pre.length < n := by omega
    have HS := hide hsplit
    obtain ⟨⟨v0, hc0⟩, hf0⟩ := HP.out.room pre.length hlt
    by_cases h128 : 128 ≤ y
    · have hor : bits .or .u8 ((y : Int) % 256) 128 = ((y % 128 + 128 : Nat) : Int) := by
        rw [Lib.u8_or128_any _ (by omega) (by omega)]
        omega
      have hp := HP.out.put hlt (UInt8.ofNat (y % 128 + 128)) ((y % 128 + 128 : Nat) : Int) (by rw [toNat_ofNat (by omega)]) pre.length rfl
      have hg := HG.out.trans (grownBy_put wr g pre.length (.int .u8 ((y % 128 + 128 : Nat) : Int)))
      obtain ⟨z, hz⟩ : ∃ z, z = y % 128 + 128 := ⟨_, rfl⟩
      rw [← hz] at hor hp hg
      obtain ⟨pl, hpl'⟩ : ∃ pl, pl = pre.length := ⟨_, rfl⟩
      rw [← hpl'] at hlt hc0 hf0 hp hg ⊢
      have HP2 := hide hp
      have HG2 := hide hg
      have HZ := hide hz
      have HPL := hide hpl'
      clear hp hg hz hpl hpl' hsplit HP HG
      go_wp2
      trace_state
      go_roundw
      case rel =>
        refine ⟨y / 128, pre ++ [UInt8.ofNat z], by go_num, ?_, by omega, ?_, HP2, HG2⟩
        · rw [List.length_append, ← HPL.out]; rfl
        · rw [HS.out, varL_large h128, HZ.out]; simp
      case measure =>
        show ((y : Int) / 128).toNat < (y : Int).toNat
        omega
    · have hsm : varL y = [UInt8.ofNat y] := varL_small (by omega)
      have hp := HP.out.put hlt (UInt8.ofNat y) (y : Int) (by rw [toNat_ofNat (by omega)]) pre.length rfl
      have hg := HG.out.trans (grownBy_put wr g pre.length (.int .u8 (y : Int)))
      have HSM := hide hsm
      obtain ⟨pl, hpl'⟩ : ∃ pl, pl = pre.length := ⟨_, rfl⟩
      rw [← hpl'] at hlt hc0 hf0 hp hg ⊢
      have HP2 := hide hp
      have HG2 := hide hg
      have HPL := hide hpl'
      clear hp hg hpl hpl' hsplit hsm HP HG
      go_wp2
      go_ret
      have hall : varL x = pre ++ [UInt8.ofNat y] := by rw [HS.out, HSM.out]
      refine ⟨?_, ?_, HG2.out⟩
      · rw [hall, List.length_append, ← HPL.out]; rfl
      · rw [hall]; exact HP2.out

end Snap
end Go.Proofs.YtoihiaenlonncaaDoor

/-
  The variables that the rows list, by their places there; and how an argument's reading is opened.
-/
import Derived.Test.YtoihiaenlonncaaDoorMem
import Derived.Test.YtoihiaenlonncaaDoorPost
import Derived.ChangeVars
import Derived.JoinedOf
import Derived.RowKitTokens
import Derived.LaidLaws
import Derived.Stop.LaidErr
namespace Go.Proofs.YtoihiaenlonncaaDoor
open Go.ChangeShapes Go.WideShapes Go.RowKit
namespace Snap

theorem own : ownKnob Tryd.prog.godebug = none := by kernel_rfl
theorem laidOut : laidOutB Tryd.prog = true := by kernel_rfl
theorem cells_u8 : Tryd.prog.cellsOf 5 = 1 := by kernel_rfl
theorem cells_err : Tryd.prog.cellsOf 66 = 1 := by kernel_rfl
theorem cells_str : Tryd.prog.cellsOf 9 = 1 := by kernel_rfl

/-- The name of a datum's dynamic type. -/
def ifaceName : DataW Unit → String
  | .iface n _ => n
  | _ => default

def nm_ErrTooLarge : String := ((Rows.fnEncodeHeadRow.laid[0]?).map (·.1)).getD default
theorem gl_ErrTooLarge : Tryd.prog.globalNamed nm_ErrTooLarge = some 0 := by kernel_rfl
theorem gt_ErrTooLarge : (Tryd.prog.globals[(0 : Nat)]?).map (·.type) = some 36 := by kernel_rfl

theorem errRow (u : TypeId) (h : Tryd.prog.typeName? 3 u = some (ifaceName Rows.laid_loop_example_pub_g01445_pub_snappy_ErrTooLarge)) : u = 49 :=
  typeName_ptr_named (nm := "errors.errorString") (by kernel_rfl) (by kernel_rfl) (by decide) u (h.trans (congrArg some (by decide)))

theorem var_below {n : String} {g : Nat} {cs : Array Value} {W W' : World} (hb : Below W.heap.size W W') (hg : Tryd.prog.globalNamed n = some g) (h : W.var? Tryd.prog n = some cs) : W'.var? Tryd.prog n = some cs := by
  unfold World.var? at h ⊢
  simp only [hg, Option.bind_some] at h ⊢
  have hlt : g < W.heap.size := by
    rcases Nat.lt_or_ge g W.heap.size with h' | h'
    · exact h'
    · simp [Array.getElem?_eq_none h'] at h
  rw [hb.block g hlt]
  exact h

theorem open_bytes {H : Type} {enc : TypeId × Value → H} {W : World} {base : Nat} {v : Value} {d : DataW H} {p : List MemPlace} (hv : Value.okWide Tryd.prog W .any base 22 v)
    (h : DataW.Trod enc Tryd.prog W 0 (fun _ => true) true 22 v d p) : ∃ A n c xs, v = .slice A n c ∧ Rd W W.heap.size A n xs ∧ (A = none → n = 0) ∧ n ≤ c := by
  obtain ⟨a0, len, cap, rfl⟩ := okWide_slice Tryd.underlying22 hv
  obtain ⟨fuel, hf⟩ := h
  rcases open_ints Tryd.underlying22 Tryd.underlying5 cells_u8 hf with ⟨hcs, _⟩ | ⟨a, len', cap', zs, hcs, _, hl, _, hz, _, hcell, hwz⟩
  · have e := List.cons.inj hcs
    obtain ⟨rfl, rfl, rfl⟩ := Value.slice.inj e.1
    exact ⟨none, 0, 0, [], rfl, Rd.nil _ _ _, fun _ => rfl, Nat.le_refl _⟩
  · have e := List.cons.inj hcs
    obtain ⟨rfl, rfl, rfl⟩ := Value.slice.inj e.1
    simp only [if_true] at hz
    refine ⟨some a, len, cap, (zs.take len).map fun z => UInt8.ofNat z.toNat, rfl, ⟨by rw [List.length_map, List.length_take]; omega, fun hn => ?_⟩, fun h => (by cases h), hl⟩
    obtain ⟨b, off, spot⟩ := a
    have hspot : spot = none := by simpa [Addr.add] using World.cell?_spot (hcell 0 (by omega))
    subst hspot
    refine ⟨b, off, rfl, ?_, fun j hj => ?_⟩
    · have := World.block_lt_of_cell? W _ (hcell 0 (by omega))
      simpa [Addr.add] using this
    · have h1 := hcell j (by omega)
      rw [Addr.add_lit] at h1
      rw [h1]
      have hw := hwz (zs.getD j 0) (by rw [List.getD_eq_getElem?_getD, List.getElem?_eq_getElem (by omega)]; exact List.getElem_mem _)
      obtain ⟨w0, w1⟩ := bounds_u8 hw
      have hlen : j < ((zs.take len).map fun z => UInt8.ofNat z.toNat).length := by rw [List.length_map, List.length_take]; omega
      have hx : ((zs.take len).map fun z => UInt8.ofNat z.toNat).getD j 0 = UInt8.ofNat (zs.getD j 0).toNat := by
        rw [List.getD_eq_getElem?_getD, List.getElem?_map, List.getElem?_take_of_lt hj, List.getElem?_eq_getElem (by omega), List.getD_eq_getElem?_getD, List.getElem?_eq_getElem (by omega)]
        rfl
      rw [hx]
      unfold bv
      rw [toNat_ofNat (by omega), Int.toNat_of_nonneg w0]


end Snap
end Go.Proofs.YtoihiaenlonncaaDoor

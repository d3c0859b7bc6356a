/-
  PROVED: the tied card of the law FnEncodeRead ('FnEncodeReadCardSaid'): for every input the law returns true, and each argument reads as it did. The variables that the row lists hold what the program's text lays (the card's tie, given with the seat).
-/
import Derived.Test.YtoihiaenlonncaaDoorFnEncodeReadWalk
import Derived.Test.YtoihiaenlonncaaDoorLaidC
import Derived.Test.YtoihiaenlonncaaDoorCards
import Derived.Test.YtoihiaenlonncaaDoorTie
import Derived.SevenTiedAt
namespace Go.Proofs.YtoihiaenlonncaaDoor.fnEncodeRead
open Go.ChangeShapes Go.WideShapes Go.ChangeAt Go.RowKit
set_option linter.unusedVariables false

theorem laid_is : Rows.fnEncodeReadRow.laid = [(Snap.nm_ErrTooLarge, Rows.laid_loop_example_pub_g01445_pub_snappy_ErrTooLarge)] := rfl

def laidL : List (String × DataW Unit) := [(Snap.nm_ErrTooLarge, Rows.laid_loop_example_pub_g01445_pub_snappy_ErrTooLarge)]

def text0 : ByteArray := { data := #[115, 110, 97, 112, 112, 121, 58, 32, 100, 101, 99, 111, 100, 101, 100, 32, 98, 108, 111, 99, 107, 32, 105, 115, 32, 116, 111, 111, 32, 108, 97, 114, 103, 101] }

noncomputable def low : Nat := (World.holding Tryd.prog default ⟨#[], #[], []⟩).heap.size

/-- A world in which the variables lie as their initialisers lay them. -/
noncomputable def laidWorld (os : Os) : World :=
  let w0 := World.holding Tryd.prog os ⟨#[.cells #[.string text0] 66], #[], []⟩
  { w0 with heap := w0.heap.modify 0 fun
      | .cells _ t frozen => .cells #[.iface 49 (.pointer (some ⟨low + 0, 0, none⟩))] t frozen
      | o => o }

theorem laidWorld_met (os : Os) (args : Array Value) : laidMet Tryd.prog laidL ((laidWorld os).forCall (fun _ _ => 0) ⟨#[], args, []⟩).memory :=
  laidMet_of_run (ps := [.cell 0 0, .cell (low + 0) 0]) 8 (by kernel_rfl) (by kernel_rfl) (by kernel_rfl)

set_option maxRecDepth 100000 in
theorem lifted (os : Os) (started : os.Started) (H : Type) (enc : TypeId × Value → H) :
    ReturnsInHanded {} Tryd.checked os 4 .any (fun w args => (Rows.fnEncodeReadSpec.pre enc Tryd.prog Tryd.f4 [] false w args ∧ laidMet Tryd.prog laidL w) ∧ sizedMet enc Tryd.prog Tryd.f4 (OpenSpec.ofChange Rows.fnEncodeReadSpec) false w args)
      (Rows.fnEncodeReadSpec.post enc Tryd.prog Tryd.f4 false true false false) := by
  refine returnsInHanded_of_change_and (C := Tryd.checked) (X := fun w _ => laidMet Tryd.prog laidL w) (fun _ _ _ hh h => h.of_heap hh) Snap.own started (by kernel_rfl) Tryd.func4
    (ChangeSpec.witness_at (enc := enc) (C := Tryd.checked) (os := os) (X := fun w _ => laidMet Tryd.prog laidL w) false (laidWorld os) #[.slice none 0 0] 8 rfl (by kernel_rfl) (by kernel_rfl) (by kernel_rfl) (by kernel_rfl) (by kernel_rfl) (laidWorld_met os _)) ?_
  intro W base args ds gs before hval0 hW _ _ hL _
  have hval : ∀ (j : Nat) t v, Tryd.f4.params[j]? = some t → args[j]? = some v → Value.okWide Tryd.prog W .any base t v := hval0
  have hW' := hW
  have hlt0 : ∀ x ∈ before, x.block < W.heap.size := fun x hx => hW.lt x hx
  obtain ⟨p, q, hA0, hV0, rfl, hfz, hnd⟩ := hW
  have hA : DataW.TrodAll enc Tryd.prog W 0 (fun _ => true) true Tryd.f4.params.toList args.toList ds p := hA0
  have hV : DataW.TrodVars enc Tryd.prog W (fun _ => true) [Snap.nm_ErrTooLarge] gs q := hV0
  rw [Tryd.params4] at hA hval
  obtain ⟨v0, vs0, d0, ds0, p0, q0, hargs, rfl, rfl, h0, r0⟩ := trodAll_cons hA
  obtain ⟨rfl, rfl, rfl⟩ := trodAll_nil r0
  obtain rfl : args = #[v0] := by cases args; simp_all
  have L0 : laidMet Tryd.prog laidL W := hL
  obtain ⟨a0, s0, hv0, _, _, _⟩ := laid_sentinel L0 Snap.gl_ErrTooLarge Snap.gt_ErrTooLarge Tryd.underlying36 Snap.errRow Tryd.underlying49 Tryd.underlying66 rfl rfl Tryd.underlying9 Snap.cells_err Snap.cells_str
  have vread : ∀ (W1 : World) (HV0 : W1.var? Tryd.prog Snap.nm_ErrTooLarge = some #[.iface 49 (.pointer (some a0))]) (sp : Nat → Bool), DataW.TrodVars enc Tryd.prog W1 sp [Snap.nm_ErrTooLarge] [tok enc (.iface 49 (.pointer (some a0)))] [.cell 0 0] :=
    fun W1 HV0 sp => ⟨0, 36, #[.iface 49 (.pointer (some a0))], 1, [], [], Snap.gl_ErrTooLarge, Snap.gt_ErrTooLarge, HV0, trod_held Tryd.underlying36 (show IsIface (.iface 49 (.pointer (some a0))) from trivial) 0, rfl, rfl⟩
  obtain ⟨rfl, rfl⟩ := hV.unique (vread W hv0 _)
  obtain ⟨A0, n0, c0, xs0, rfl, hx0, hn0, hc0⟩ := Snap.open_bytes (hval 0 22 v0 rfl rfl) h0
  refine (Snap.FnEncodeRead_total W A0 n0 c0 xs0 hx0 hn0 hc0).mono fun e W' ⟨he, hb⟩ => ?_
  subst he
  have m0 : ∀ x ∈ p0, x ∈ p0 ++ ([]) := fun x hx => (List.mem_append_left _ hx)
  exact ⟨_, rfl, Snap.post_of_below (pa := p0 ++ ([])) (pv := [.cell 0 0]) hW' (fun _ _ _ => trodAll_cons_mk (shut_bool Tryd.underlying4 _) trodAll_mk0)
    (fun sp hsp => (trodAll_cons_mk (WideElems.Trod_stays Snap.laidOut (by kernel_rfl) (of_decide_eq_true (by kernel_rfl)) h0 (fun x hx => hb.same (hlt0 x (List.mem_append_left _ (m0 x hx)))) (fun x hx => hsp x (List.mem_append_left _ (m0 x hx)))) trodAll_mk0))
    (fun sp _ => vread W' (Snap.var_below hb Snap.gl_ErrTooLarge hv0) sp) rfl hb (ok_one (by kernel_rfl) rfl (okWide_bool_mk Tryd.underlying4 _))⟩

theorem over : Rows.fnEncodeReadRow.holds Tryd.pinned (OpenSpec.ofChange Rows.fnEncodeReadSpec) :=
  OpenClaim.holds_of_wide 4 Tryd.f4 rfl rfl rfl rfl rfl rfl rfl ⟨rfl, rfl, rfl, rfl, rfl⟩ rfl rfl rfl rfl rfl (by kernel_rfl) Tryd.func4 (by kernel_rfl)
    (of_decide_eq_true (by kernel_rfl)) (by unfold Func.isWrapper; rw [if_neg (of_decide_eq_false (by kernel_rfl))]; exact ⟨rfl, rfl⟩)
    (fun os started H enc _ => lifted os started H enc)

/-- THE TIED CARD. -/
theorem proved : Rows.FnEncodeReadCardSaid :=
  Claim7.holds_tied_plain_at .later [] [.sentinel] true (true, "a0e306d2edf276dbd66e0a7497bbd18776bbdde9c8461353af56dc7f426f7991") false
    over (fun _ h => by cases h) (by kernel_rfl) (fun _ h => by cases h) fnEncodeRead_row_tie rfl ⟨rfl, rfl⟩ (by kernel_rfl) rfl
    (fun f fn hf hfn => by
      obtain rfl : f = 4 := Option.some.inj ((show Tryd.prog.funcNamed Rows.fnEncodeReadRow.func = some 4 by kernel_rfl).symm.trans hf) |>.symm
      obtain rfl : fn = Tryd.f4 := (Option.some.inj (Tryd.func4.symm.trans hfn)).symm
      exact ⟨by kernel_rfl, fun j t ht => by
        rw [Tryd.params4] at ht
        have hm := Array.mem_of_getElem? ht
        have hm2 : t = 22 := by simp at hm; first | omega | (rcases hm with h | h | h | h <;> simp [h]) | (rcases hm with h | h | h <;> simp [h])
        rcases hm2 with rfl
        · exact (show Tryd.prog.wantsStandIn 22 = false by kernel_rfl)⟩)
    (by kernel_rfl)
#print axioms proved
end Go.Proofs.YtoihiaenlonncaaDoor.fnEncodeRead

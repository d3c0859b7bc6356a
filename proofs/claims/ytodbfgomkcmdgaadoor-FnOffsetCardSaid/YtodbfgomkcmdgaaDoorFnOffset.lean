/-
  PROVED: the tied card of the law FnOffset ('FnOffsetCardSaid'): for every input the law returns true, and each argument reads as it did. The variables that the row lists hold what the program's text lays (the card's tie, given with the seat).
-/
import Derived.Test.YtodbfgomkcmdgaaDoorFnOffsetWalk
import Derived.Test.YtodbfgomkcmdgaaDoorLaidB
import Derived.Test.YtodbfgomkcmdgaaDoorCards
import Derived.Test.YtodbfgomkcmdgaaDoorTie
import Derived.SevenTiedAt
namespace Go.Proofs.YtodbfgomkcmdgaaDoor.fnOffset
open Go.ChangeShapes Go.WideShapes Go.ChangeAt Go.RowKit
set_option linter.unusedVariables false

theorem laid_is : Rows.fnOffsetRow.laid = [(Snap.nm_ErrCorrupt, Rows.laid_loop_example_pub_g01445_pub_snappy_ErrCorrupt), (Snap.nm_ErrTooLarge, Rows.laid_loop_example_pub_g01445_pub_snappy_ErrTooLarge), (Snap.nm_ErrUnsupported, Rows.laid_loop_example_pub_g01445_pub_snappy_ErrUnsupported), (Snap.nm_errUnsupportedLiteralLength, Rows.laid_loop_example_pub_g01445_pub_snappy_errUnsupportedLiteralLength)] := rfl

def laidL : List (String × DataW Unit) := [(Snap.nm_ErrCorrupt, Rows.laid_loop_example_pub_g01445_pub_snappy_ErrCorrupt), (Snap.nm_ErrTooLarge, Rows.laid_loop_example_pub_g01445_pub_snappy_ErrTooLarge), (Snap.nm_ErrUnsupported, Rows.laid_loop_example_pub_g01445_pub_snappy_ErrUnsupported), (Snap.nm_errUnsupportedLiteralLength, Rows.laid_loop_example_pub_g01445_pub_snappy_errUnsupportedLiteralLength)]

def text0 : ByteArray := { data := #[115, 110, 97, 112, 112, 121, 58, 32, 99, 111, 114, 114, 117, 112, 116, 32, 105, 110, 112, 117, 116] }
def text1 : ByteArray := { data := #[115, 110, 97, 112, 112, 121, 58, 32, 100, 101, 99, 111, 100, 101, 100, 32, 98, 108, 111, 99, 107, 32, 105, 115, 32, 116, 111, 111, 32, 108, 97, 114, 103, 101] }
def text2 : ByteArray := { data := #[115, 110, 97, 112, 112, 121, 58, 32, 117, 110, 115, 117, 112, 112, 111, 114, 116, 101, 100, 32, 105, 110, 112, 117, 116] }
def text3 : ByteArray := { data := #[115, 110, 97, 112, 112, 121, 58, 32, 117, 110, 115, 117, 112, 112, 111, 114, 116, 101, 100, 32, 108, 105, 116, 101, 114, 97, 108, 32, 108, 101, 110, 103, 116, 104] }

noncomputable def low : Nat := (World.holding Tryd.prog default ⟨#[], #[], []⟩).heap.size

/-- A world in which the variables lie as their initialisers lay them. -/
noncomputable def laidWorld (os : Os) : World :=
  let w0 := World.holding Tryd.prog os ⟨#[.cells #[.string text0] 92, .cells #[.string text1] 92, .cells #[.string text2] 92, .cells #[.string text3] 92], #[], []⟩
  { w0 with heap := (((w0.heap.modify 1 fun
      | .cells _ t frozen => .cells #[.iface 75 (.pointer (some ⟨low + 0, 0, none⟩))] t frozen
      | o => o).modify 2 fun
      | .cells _ t frozen => .cells #[.iface 75 (.pointer (some ⟨low + 1, 0, none⟩))] t frozen
      | o => o).modify 3 fun
      | .cells _ t frozen => .cells #[.iface 75 (.pointer (some ⟨low + 2, 0, none⟩))] t frozen
      | o => o).modify 0 fun
      | .cells _ t frozen => .cells #[.iface 75 (.pointer (some ⟨low + 3, 0, none⟩))] t frozen
      | o => o }

theorem laidWorld_met (os : Os) (args : Array Value) : laidMet Tryd.prog laidL ((laidWorld os).forCall (fun _ _ => 0) ⟨#[], args, []⟩).memory :=
  laidMet_of_run (ps := [.cell 1 0, .cell (low + 0) 0, .cell 2 0, .cell (low + 1) 0, .cell 3 0, .cell (low + 2) 0, .cell 0 0, .cell (low + 3) 0]) 8 (by kernel_rfl) (by kernel_rfl) (by kernel_rfl)

set_option maxRecDepth 100000 in
theorem lifted (os : Os) (started : os.Started) (H : Type) (enc : TypeId × Value → H) :
    ReturnsInHanded {} Tryd.checked os 10 .any (fun w args => (Rows.fnOffsetSpec.pre enc Tryd.prog Tryd.f10 [] false w args ∧ laidMet Tryd.prog laidL w) ∧ sizedMet enc Tryd.prog Tryd.f10 (OpenSpec.ofChange Rows.fnOffsetSpec) false w args)
      (Rows.fnOffsetSpec.post enc Tryd.prog Tryd.f10 false true false false) := by
  refine returnsInHanded_of_change_and (C := Tryd.checked) (X := fun w _ => laidMet Tryd.prog laidL w) (fun _ _ _ hh h => h.of_heap hh) Snap.own started (by kernel_rfl) Tryd.func10
    (ChangeSpec.witness_at (enc := enc) (C := Tryd.checked) (os := os) (X := fun w _ => laidMet Tryd.prog laidL w) false (laidWorld os) #[.slice none 0 0, .int .i64 0, .int .i64 0, .int .i64 0] 8 rfl (by kernel_rfl) (by kernel_rfl) (by kernel_rfl) (by kernel_rfl) (by kernel_rfl) (laidWorld_met os _)) ?_
  intro W base args ds gs before hval0 hW _ _ hL _
  have hval : ∀ (j : Nat) t v, Tryd.f10.params[j]? = some t → args[j]? = some v → Value.okWide Tryd.prog W .any base t v := hval0
  have hW' := hW
  have hlt0 : ∀ x ∈ before, x.block < W.heap.size := fun x hx => hW.lt x hx
  obtain ⟨p, q, hA0, hV0, rfl, hfz, hnd⟩ := hW
  have hA : DataW.TrodAll enc Tryd.prog W 0 (fun _ => true) true Tryd.f10.params.toList args.toList ds p := hA0
  have hV : DataW.TrodVars enc Tryd.prog W (fun _ => true) [Snap.nm_errUnsupportedLiteralLength, Snap.nm_ErrCorrupt, Snap.nm_ErrTooLarge, Snap.nm_ErrUnsupported] gs q := hV0
  rw [Tryd.params10] at hA hval
  obtain ⟨v0, vs0, d0, ds0, p0, q0, hargs, rfl, rfl, h0, r0⟩ := trodAll_cons hA
  obtain ⟨v1, vs1, d1, ds1, p1, q1, rfl, rfl, rfl, h1, r1⟩ := trodAll_cons r0
  obtain ⟨v2, vs2, d2, ds2, p2, q2, rfl, rfl, rfl, h2, r2⟩ := trodAll_cons r1
  obtain ⟨v3, vs3, d3, ds3, p3, q3, rfl, rfl, rfl, h3, r3⟩ := trodAll_cons r2
  obtain ⟨rfl, rfl, rfl⟩ := trodAll_nil r3
  obtain rfl : args = #[v0, v1, v2, v3] := by cases args; simp_all
  have L0 : laidMet Tryd.prog laidL W := hL
  obtain ⟨a0, s0, hv0, _, _, _⟩ := laid_sentinel L0 Snap.gl_ErrCorrupt Snap.gt_ErrCorrupt Tryd.underlying52 Snap.errRow Tryd.underlying75 Tryd.underlying92 rfl rfl Tryd.underlying9 Snap.cells_err Snap.cells_str
  have L1 := laidMet.tail L0
  obtain ⟨a1, s1, hv1, _, _, _⟩ := laid_sentinel L1 Snap.gl_ErrTooLarge Snap.gt_ErrTooLarge Tryd.underlying52 Snap.errRow Tryd.underlying75 Tryd.underlying92 rfl rfl Tryd.underlying9 Snap.cells_err Snap.cells_str
  have L2 := laidMet.tail L1
  obtain ⟨a2, s2, hv2, _, _, _⟩ := laid_sentinel L2 Snap.gl_ErrUnsupported Snap.gt_ErrUnsupported Tryd.underlying52 Snap.errRow Tryd.underlying75 Tryd.underlying92 rfl rfl Tryd.underlying9 Snap.cells_err Snap.cells_str
  have L3 := laidMet.tail L2
  obtain ⟨a3, s3, hv3, _, _, _⟩ := laid_sentinel L3 Snap.gl_errUnsupportedLiteralLength Snap.gt_errUnsupportedLiteralLength Tryd.underlying52 Snap.errRow Tryd.underlying75 Tryd.underlying92 rfl rfl Tryd.underlying9 Snap.cells_err Snap.cells_str
  have vread : ∀ (W1 : World) (HV0 : W1.var? Tryd.prog Snap.nm_ErrCorrupt = some #[.iface 75 (.pointer (some a0))]) (HV1 : W1.var? Tryd.prog Snap.nm_ErrTooLarge = some #[.iface 75 (.pointer (some a1))]) (HV2 : W1.var? Tryd.prog Snap.nm_ErrUnsupported = some #[.iface 75 (.pointer (some a2))]) (HV3 : W1.var? Tryd.prog Snap.nm_errUnsupportedLiteralLength = some #[.iface 75 (.pointer (some a3))]) (sp : Nat → Bool), DataW.TrodVars enc Tryd.prog W1 sp [Snap.nm_errUnsupportedLiteralLength, Snap.nm_ErrCorrupt, Snap.nm_ErrTooLarge, Snap.nm_ErrUnsupported] [tok enc (.iface 75 (.pointer (some a3))), tok enc (.iface 75 (.pointer (some a0))), tok enc (.iface 75 (.pointer (some a1))), tok enc (.iface 75 (.pointer (some a2)))] [.cell 0 0, .cell 1 0, .cell 2 0, .cell 3 0] :=
    fun W1 HV0 HV1 HV2 HV3 sp => ⟨0, 52, #[.iface 75 (.pointer (some a3))], 1, [], [.cell 1 0, .cell 2 0, .cell 3 0], Snap.gl_errUnsupportedLiteralLength, Snap.gt_errUnsupportedLiteralLength, HV3, trod_held Tryd.underlying52 (show IsIface (.iface 75 (.pointer (some a3))) from trivial) 0, ⟨1, 52, #[.iface 75 (.pointer (some a0))], 1, [], [.cell 2 0, .cell 3 0], Snap.gl_ErrCorrupt, Snap.gt_ErrCorrupt, HV0, trod_held Tryd.underlying52 (show IsIface (.iface 75 (.pointer (some a0))) from trivial) 0, ⟨2, 52, #[.iface 75 (.pointer (some a1))], 1, [], [.cell 3 0], Snap.gl_ErrTooLarge, Snap.gt_ErrTooLarge, HV1, trod_held Tryd.underlying52 (show IsIface (.iface 75 (.pointer (some a1))) from trivial) 0, ⟨3, 52, #[.iface 75 (.pointer (some a2))], 1, [], [], Snap.gl_ErrUnsupported, Snap.gt_ErrUnsupported, HV2, trod_held Tryd.underlying52 (show IsIface (.iface 75 (.pointer (some a2))) from trivial) 0, rfl, rfl⟩, rfl⟩, rfl⟩, rfl⟩
  obtain ⟨rfl, rfl⟩ := hV.unique (vread W hv0 hv1 hv2 hv3 _)
  obtain ⟨A0, n0, c0, xs0, rfl, hx0, hn0, hc0⟩ := Snap.open_bytes (hval 0 22 v0 rfl rfl) h0
  obtain ⟨i1, rfl, hi1⟩ := Snap.open_num (hval 1 3 v1 rfl rfl) h1
  obtain ⟨i2, rfl, hi2⟩ := Snap.open_num (hval 2 3 v2 rfl rfl) h2
  obtain ⟨i3, rfl, hi3⟩ := Snap.open_num (hval 3 3 v3 rfl rfl) h3
  have hE : Snap.Corrupt W a0 := by have h := World.var?_cell Snap.gl_ErrCorrupt hv0 0; simpa [Snap.Corrupt] using h
  refine (Snap.FnOffset_total W A0 n0 c0 xs0 hx0 hn0 hc0 i1 hi1 i2 hi2 i3 hi3 a0 hE).mono fun e W' ⟨he, hb⟩ => ?_
  subst he
  have m0 : ∀ x ∈ p0, x ∈ p0 ++ (p1 ++ (p2 ++ (p3 ++ ([])))) := fun x hx => (List.mem_append_left _ hx)
  have m1 : ∀ x ∈ p1, x ∈ p0 ++ (p1 ++ (p2 ++ (p3 ++ ([])))) := fun x hx => (List.mem_append_right _ (List.mem_append_left _ hx))
  have m2 : ∀ x ∈ p2, x ∈ p0 ++ (p1 ++ (p2 ++ (p3 ++ ([])))) := fun x hx => (List.mem_append_right _ (List.mem_append_right _ (List.mem_append_left _ hx)))
  have m3 : ∀ x ∈ p3, x ∈ p0 ++ (p1 ++ (p2 ++ (p3 ++ ([])))) := fun x hx => (List.mem_append_right _ (List.mem_append_right _ (List.mem_append_right _ (List.mem_append_left _ hx))))
  exact ⟨_, rfl, Snap.post_of_below (pa := p0 ++ (p1 ++ (p2 ++ (p3 ++ ([]))))) (pv := [.cell 0 0, .cell 1 0, .cell 2 0, .cell 3 0]) hW' (fun _ _ _ => trodAll_cons_mk (shut_bool Tryd.underlying4 _) trodAll_mk0)
    (fun sp hsp => (trodAll_cons_mk (WideElems.Trod_stays Snap.laidOut (by kernel_rfl) (of_decide_eq_true (by kernel_rfl)) h0 (fun x hx => hb.same (hlt0 x (List.mem_append_left _ (m0 x hx)))) (fun x hx => hsp x (List.mem_append_left _ (m0 x hx)))) (trodAll_cons_mk (WideElems.Trod_stays Snap.laidOut (by kernel_rfl) (of_decide_eq_true (by kernel_rfl)) h1 (fun x hx => hb.same (hlt0 x (List.mem_append_left _ (m1 x hx)))) (fun x hx => hsp x (List.mem_append_left _ (m1 x hx)))) (trodAll_cons_mk (WideElems.Trod_stays Snap.laidOut (by kernel_rfl) (of_decide_eq_true (by kernel_rfl)) h2 (fun x hx => hb.same (hlt0 x (List.mem_append_left _ (m2 x hx)))) (fun x hx => hsp x (List.mem_append_left _ (m2 x hx)))) (trodAll_cons_mk (WideElems.Trod_stays Snap.laidOut (by kernel_rfl) (of_decide_eq_true (by kernel_rfl)) h3 (fun x hx => hb.same (hlt0 x (List.mem_append_left _ (m3 x hx)))) (fun x hx => hsp x (List.mem_append_left _ (m3 x hx)))) trodAll_mk0)))))
    (fun sp _ => vread W' (Snap.var_below hb Snap.gl_ErrCorrupt hv0) (Snap.var_below hb Snap.gl_ErrTooLarge hv1) (Snap.var_below hb Snap.gl_ErrUnsupported hv2) (Snap.var_below hb Snap.gl_errUnsupportedLiteralLength hv3) sp) rfl hb (ok_one (by kernel_rfl) rfl (okWide_bool_mk Tryd.underlying4 _))⟩

theorem over : Rows.fnOffsetRow.holds Tryd.pinned (OpenSpec.ofChange Rows.fnOffsetSpec) :=
  OpenClaim.holds_of_wide 10 Tryd.f10 rfl rfl rfl rfl rfl rfl rfl ⟨rfl, rfl, rfl, rfl, rfl⟩ rfl rfl rfl rfl rfl (by kernel_rfl) Tryd.func10 (by kernel_rfl)
    (of_decide_eq_true (by kernel_rfl)) (by unfold Func.isWrapper; rw [if_neg (of_decide_eq_false (by kernel_rfl))]; exact ⟨rfl, rfl⟩)
    (fun os started H enc _ => lifted os started H enc)

/-- THE TIED CARD. -/
theorem proved : Rows.FnOffsetCardSaid :=
  Claim7.holds_tied_plain_at .later [] [.sentinel, .sentinel, .sentinel, .sentinel] true (true, "40e56dbd76d861bb4263d74d919ab16ad92233b95abc4c70f783fcee5adeed5c") true
    over (fun _ h => by cases h) (by kernel_rfl) (fun _ h => by cases h) fnOffset_row_tie rfl ⟨rfl, rfl⟩ (by kernel_rfl) rfl
    (fun f fn hf hfn => by
      obtain rfl : f = 10 := Option.some.inj ((show Tryd.prog.funcNamed Rows.fnOffsetRow.func = some 10 by kernel_rfl).symm.trans hf) |>.symm
      obtain rfl : fn = Tryd.f10 := (Option.some.inj (Tryd.func10.symm.trans hfn)).symm
      exact ⟨by kernel_rfl, fun j t ht => by
        rw [Tryd.params10] at ht
        have hm := Array.mem_of_getElem? ht
        have hm2 : t = 22 ∨ t = 3 := by simp at hm; first | omega | (rcases hm with h | h | h | h <;> simp [h]) | (rcases hm with h | h | h <;> simp [h])
        rcases hm2 with rfl | rfl
        · exact (show Tryd.prog.wantsStandIn 22 = false by kernel_rfl)
        · exact (show Tryd.prog.wantsStandIn 3 = false by kernel_rfl)⟩)
    (by kernel_rfl)
#print axioms proved
end Go.Proofs.YtodbfgomkcmdgaaDoor.fnOffset

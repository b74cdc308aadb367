/- FnDecisionLook: whatever the grammar and the rule, FnDecisionLook returns true and leaves its arguments as they were: the row, then the card. -/
import Derived.Test.YtemdillhbnmjkaaGreatDoorQ41
import Derived.Test.YtemdillhbnmjkaaGreatDoorQ44
import Derived.Test.YtemdillhbnmjkaaGreatDoorFnDecisionLookFacts
import Derived.Test.YtemdillhbnmjkaaGreatDoorTie
import Derived.Test.YtemdillhbnmjkaaGreatDoorCards
namespace Go.Proofs.YtemdillhbnmjkaaGreatDoor
open Go.ChangeShapes Go.WideShapes Go.ChangeAt Go.RowKit

abbrev LaidOf2 : List (String × DataW Unit) := [("math/bits.deBruijn32tab", Rows.laid_math_bits_deBruijn32tab), ("math/bits.deBruijn64tab", Rows.laid_math_bits_deBruijn64tab), ("internal/strconv.uint64pow10", Rows.laid_internal_strconv_uint64pow10)]
theorem door_met2 (os : Os) (args : Array Value) : laidMetH Tryz.prog LaidOf2 ((World.doorLaid Tryz.prog 400 os).forCall (fun _ _ => 0) ⟨#[], args, []⟩).memory :=
  laidMetH_of_parts3 (fuel := 8) (laidMet_of_run' 8 (by kernel_rfl) (by kernel_rfl)) (by kernel_rfl) (by kernel_rfl)

set_option maxRecDepth 100000 in
theorem fnDecisionLook_lifted (os : Os) (started : os.Started) (H : Type) (enc : TypeId × Value → H) :
    ReturnsInHanded {} Tryz.checked os 4 .any (fun w args => (Rows.fnDecisionLookSpec.pre enc Tryz.prog Tryz.f4 [] false w args ∧ laidMetH Tryz.prog LaidOf2 w) ∧ sizedMet enc Tryz.prog Tryz.f4 (OpenSpec.ofChange Rows.fnDecisionLookSpec) false w args)
      (Rows.fnDecisionLookSpec.post enc Tryz.prog Tryz.f4 false true false false) := by
  refine returnsInHanded_of_change_and (C := Tryz.checked) (X := fun w _ => laidMetH Tryz.prog LaidOf2 w) (fun _ _ _ hh h => h.of_heap hh) ownNone started (by kernel_rfl) Tryz.func4
    (ChangeSpec.witness_shaped (enc := enc) (C := Tryz.checked) (os := os) (X := fun w _ => laidMetH Tryz.prog LaidOf2 w) false (World.doorLaid Tryz.prog 400 os) #[.slice none 0 0, .int .i64 0] 8 rfl (World.shaped_of_RefB (by kernel_rfl) (by kernel_rfl)) (by kernel_rfl) (by kernel_rfl) (by kernel_rfl) (door_met2 os _)) ?_
  intro W base args ds gs before hval0 hW _ _ hL _
  have hval : ∀ (j : Nat) t v, Tryz.f4.params[j]? = some t → args[j]? = some v → Value.okWide Tryz.prog W .any base t v := hval0
  have hW' := hW
  obtain ⟨p, q, hA0, hV, rfl, hfz, hnd⟩ := hW
  have hA : DataW.TrodAll enc Tryz.prog W 0 (fun _ => true) true Tryz.f4.params.toList args.toList ds p := hA0
  rw [Tryz.params4] at hA hval
  obtain ⟨v0, v1, d0, d1, p0, p1, rfl, rfl, rfl, h0, h1⟩ := trodAll_two hA
  obtain ⟨rfl, rfl⟩ := trodVars_none hV
  obtain ⟨n1, rfl, rfl, rfl, w1⟩ := open_int Tryz.underlying3 (hval 1 3 v1 rfl rfl) h1
  obtain ⟨g, hg⟩ := open_in3 (hval 0 22 v0 rfl rfl) h0
  clear hA0 hval0
  simp only [List.append_nil] at hW'
  refine (fnDec_any W v0 g n1 hg).mono fun e W' ⟨he, hc⟩ => ?_
  subst he
  have hb : Below W.heap.size W W' := hc.toBelow (fun k hk => ⟨hk, fun h => h⟩)
  have hlt : ∀ x ∈ p0, x.block < W.heap.size := fun x hx => hW'.lt x hx
  refine ⟨_, rfl, post_of_below (pa := p0) (pv := []) hW' (fun _ _ _ => trodAll_mk1 (shut_bool Tryz.underlying4 _)) (fun sp hsp => ?_) (fun _ _ => rfl) (by simp) hb (ok_one (by kernel_rfl) rfl (okWide_bool_mk Tryz.underlying4 _))⟩
  have e0 : DataW.Trod enc Tryz.prog W' 0 sp true 22 v0 d0 p0 := WideElems.Trod_stays laidOut (by kernel_rfl) (of_decide_eq_true (by kernel_rfl)) h0 (fun x hx => hb.same (hlt x hx)) (fun x hx => hsp x hx)
  have e1 := trodAll_mk2 (enc := enc) (P := Tryz.prog) (w := W') (base := 0) (spare := sp) (held := true) e0 (shut_int Tryz.underlying3 w1)
  simp only [List.append_nil] at e1
  exact e1

theorem fnDecisionLook_holds : Rows.FnDecisionLookSaid :=
  OpenClaim.holds_of_wide 4 Tryz.f4 rfl rfl rfl rfl rfl rfl rfl ⟨rfl, rfl, rfl, rfl, rfl⟩ rfl rfl rfl rfl rfl fnDecisionLook_named Tryz.func4 fnDecisionLook_joined fnDecisionLook_instance fnDecisionLook_wrapper
    (fun os started H enc _ => fnDecisionLook_lifted os started H enc)
theorem fnDecisionLook_card : Rows.FnDecisionLookCardSaid :=
  Claim7.holds_tied_plain_at .later [] [.data, .data, .data] true (true, "254168e948f71bdb99aab8c8aeb91b1c3d42739e97c4c93367bd233db88e763b") true
    fnDecisionLook_holds (fun _ h => by cases h) (by kernel_rfl) (fun _ h => by cases h) fnDecisionLook_row_tie rfl ⟨rfl, rfl⟩ (by kernel_rfl) rfl
    (fun f fn hf hfn => by
      obtain rfl : f = 4 := Option.some.inj ((show Tryz.prog.funcNamed "loop.example/pub-predictionsofgrammars/laws.FnDecisionLook" = some 4 by kernel_rfl).symm.trans hf) |>.symm
      obtain rfl : fn = Tryz.f4 := (Option.some.inj (Tryz.func4.symm.trans hfn)).symm
      exact ⟨by kernel_rfl, fun j t ht => by
        rw [Tryz.params4] at ht
        have hm : t ∈ [22, 3] := by simpa using Array.mem_of_getElem? ht
        have hall : ([22, 3].all fun u => !Tryz.prog.wantsStandIn u) = true := by kernel_rfl
        exact (show Tryz.prog.wantsStandIn t = false by simpa using List.all_eq_true.1 hall t (by simp at hm ⊢; omega))⟩)
    (by kernel_rfl)
#print axioms fnDecisionLook_card
end Go.Proofs.YtemdillhbnmjkaaGreatDoor

/- FnExpected: whatever the grammar, the tokens and the decision, FnExpected returns true and leaves its arguments as they were: the row, then the card. -/
import Derived.Test.YtemdillhbnmjkaaGreatDoorQ41
import Derived.Test.YtemdillhbnmjkaaGreatDoorQ53
import Derived.Test.YtemdillhbnmjkaaGreatDoorFnExpectedFacts
import Derived.Test.YtemdillhbnmjkaaGreatDoorTie
import Derived.Test.YtemdillhbnmjkaaGreatDoorCards
namespace Go.Proofs.YtemdillhbnmjkaaGreatDoor
open Go.ChangeShapes Go.WideShapes Go.ChangeAt Go.RowKit

set_option maxRecDepth 100000 in
theorem open_in1 {H : Type} {enc : TypeId × Value → H} {w : World} {v : Value} {d : DataW H} {p : List MemPlace} {r : Reach} {b0 : Nat} (hval : Value.okWide Tryz.prog w r b0 36 v) (h : DataW.Trod enc Tryz.prog w 0 (fun _ => true) true 36 v d p) : ∃ ts, Rd1 w v ts ∧ ts.length ≤ maxLen := by
  obtain ⟨A, l, c, rfl⟩ := okWide_slice Tryz.underlying36 hval
  obtain ⟨fuel, h⟩ := h
  have h' : DataW.trod enc Tryz.prog w 0 (fun _ => true) true fuel 36 [.slice A l c] = some (d, p) := h
  have s1 : ∀ n u d pl, DataW.trod enc Tryz.prog w 0 (fun _ => true) true n 3 [u] = some (d, pl) → ∃ y, Rd0 w u y ∧ InI y := by
    intro n u d pl hu
    obtain ⟨k, e1, _, e3⟩ := DataW.trod_int Tryz.underlying3 hu
    simp at e1
    exact ⟨k, e1, wf_in e3⟩
  obtain ⟨ys, e1, e2, _⟩ := open_rd Tryz.underlying36 cells3 h' s1
  exact ⟨ys, e1, e2⟩
abbrev LaidOf3 : List (String × DataW Unit) := [("math/bits.deBruijn32tab", Rows.laid_math_bits_deBruijn32tab), ("math/bits.deBruijn64tab", Rows.laid_math_bits_deBruijn64tab), ("internal/strconv.uint64pow10", Rows.laid_internal_strconv_uint64pow10)]
theorem door_met3 (os : Os) (args : Array Value) : laidMetH Tryz.prog LaidOf3 ((World.doorLaid Tryz.prog 400 os).forCall (fun _ _ => 0) ⟨#[], args, []⟩).memory :=
  laidMetH_of_parts3 (fuel := 8) (laidMet_of_run' 8 (by kernel_rfl) (by kernel_rfl)) (by kernel_rfl) (by kernel_rfl)

set_option maxRecDepth 100000 in
theorem fnExpected_lifted (os : Os) (started : os.Started) (H : Type) (enc : TypeId × Value → H) :
    ReturnsInHanded {} Tryz.checked os 5 .any (fun w args => (Rows.fnExpectedSpec.pre enc Tryz.prog Tryz.f5 [] false w args ∧ laidMetH Tryz.prog LaidOf3 w) ∧ sizedMet enc Tryz.prog Tryz.f5 (OpenSpec.ofChange Rows.fnExpectedSpec) false w args)
      (Rows.fnExpectedSpec.post enc Tryz.prog Tryz.f5 false true false false) := by
  refine returnsInHanded_of_change_and (C := Tryz.checked) (X := fun w _ => laidMetH Tryz.prog LaidOf3 w) (fun _ _ _ hh h => h.of_heap hh) ownNone started (by kernel_rfl) Tryz.func5
    (ChangeSpec.witness_shaped (enc := enc) (C := Tryz.checked) (os := os) (X := fun w _ => laidMetH Tryz.prog LaidOf3 w) false (World.doorLaid Tryz.prog 400 os) #[.slice none 0 0, .slice none 0 0, .int .i64 0] 8 rfl (World.shaped_of_RefB (by kernel_rfl) (by kernel_rfl)) (by kernel_rfl) (by kernel_rfl) (by kernel_rfl) (door_met3 os _)) ?_
  intro W base args ds gs before hval0 hW _ _ hL _
  have hval : ∀ (j : Nat) t v, Tryz.f5.params[j]? = some t → args[j]? = some v → Value.okWide Tryz.prog W .any base t v := hval0
  have hW' := hW
  obtain ⟨p, q, hA0, hV, rfl, hfz, hnd⟩ := hW
  have hA : DataW.TrodAll enc Tryz.prog W 0 (fun _ => true) true Tryz.f5.params.toList args.toList ds p := hA0
  rw [Tryz.params5] at hA hval
  obtain ⟨v0, v1, v2, d0, d1, d2, p0, p1, p2, rfl, rfl, rfl, h0, h1, h2⟩ := trodAll_three hA
  obtain ⟨rfl, rfl⟩ := trodVars_none hV
  obtain ⟨n1, rfl, rfl, rfl, w1⟩ := open_int Tryz.underlying3 (hval 2 3 v2 rfl rfl) h2
  obtain ⟨g, hg⟩ := open_in3 (hval 0 22 v0 rfl rfl) h0
  obtain ⟨ts, ht, htl⟩ := open_in1 (hval 1 36 v1 rfl rfl) h1
  clear hA0 hval0
  simp only [List.append_nil] at hW'
  refine (fnExp_any W v0 v1 g ts n1 hg ht htl).mono fun e W' ⟨he, hc⟩ => ?_
  subst he
  have hb : Below W.heap.size W W' := hc.toBelow (fun k hk => ⟨hk, fun h => h⟩)
  have hlt : ∀ x ∈ p0 ++ p1, x.block < W.heap.size := fun x hx => hW'.lt x hx
  refine ⟨_, rfl, post_of_below (pa := p0 ++ p1) (pv := []) hW' (fun _ _ _ => trodAll_mk1 (shut_bool Tryz.underlying4 _)) (fun sp hsp => ?_) (fun _ _ => rfl) (by simp) hb (ok_one (by kernel_rfl) rfl (okWide_bool_mk Tryz.underlying4 _))⟩
  have e0 : DataW.Trod enc Tryz.prog W' 0 sp true 22 v0 d0 p0 := WideElems.Trod_stays laidOut (by kernel_rfl) (of_decide_eq_true (by kernel_rfl)) h0 (fun x hx => hb.same (hlt x (List.mem_append_left _ hx))) (fun x hx => hsp x (List.mem_append_left _ hx))
  have e2 : DataW.Trod enc Tryz.prog W' 0 sp true 36 v1 d1 p1 := WideElems.Trod_stays laidOut (by kernel_rfl) (of_decide_eq_true (by kernel_rfl)) h1 (fun x hx => hb.same (hlt x (List.mem_append_right _ hx))) (fun x hx => hsp x (List.mem_append_right _ hx))
  have e1 := trodAll_mk3 (enc := enc) (P := Tryz.prog) (w := W') (base := 0) (spare := sp) (held := true) e0 e2 (shut_int Tryz.underlying3 w1)
  simp only [List.append_nil] at e1
  exact e1

theorem fnExpected_holds : Rows.FnExpectedSaid :=
  OpenClaim.holds_of_wide 5 Tryz.f5 rfl rfl rfl rfl rfl rfl rfl ⟨rfl, rfl, rfl, rfl, rfl⟩ rfl rfl rfl rfl rfl fnExpected_named Tryz.func5 fnExpected_joined fnExpected_instance fnExpected_wrapper
    (fun os started H enc _ => fnExpected_lifted os started H enc)
theorem fnExpected_card : Rows.FnExpectedCardSaid :=
  Claim7.holds_tied_plain_at .later [] [.data, .data, .data] true (true, "254168e948f71bdb99aab8c8aeb91b1c3d42739e97c4c93367bd233db88e763b") true
    fnExpected_holds (fun _ h => by cases h) (by kernel_rfl) (fun _ h => by cases h) fnExpected_row_tie rfl ⟨rfl, rfl⟩ (by kernel_rfl) rfl
    (fun f fn hf hfn => by
      obtain rfl : f = 5 := Option.some.inj ((show Tryz.prog.funcNamed "loop.example/pub-predictionsofgrammars/laws.FnExpected" = some 5 by kernel_rfl).symm.trans hf) |>.symm
      obtain rfl : fn = Tryz.f5 := (Option.some.inj (Tryz.func5.symm.trans hfn)).symm
      exact ⟨by kernel_rfl, fun j t ht => by
        rw [Tryz.params5] at ht
        have hm : t ∈ [22, 36, 3] := by simpa using Array.mem_of_getElem? ht
        have hall : ([22, 36, 3].all fun u => !Tryz.prog.wantsStandIn u) = true := by kernel_rfl
        exact (show Tryz.prog.wantsStandIn t = false by simpa using List.all_eq_true.1 hall t (by simp at hm ⊢; omega))⟩)
    (by kernel_rfl)
#print axioms fnExpected_card
end Go.Proofs.YtemdillhbnmjkaaGreatDoor

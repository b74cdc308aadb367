/- Deserializing: the network is checked. Printed by gen_e9.py. -/
import Derived.Test.YtemdillhbnmjkaaGreatDoorQ11
namespace Go.Proofs.YtemdillhbnmjkaaGreatDoor
open Go.RowKit
set_option maxHeartbeats 4000000 in
set_option maxRecDepth 100000 in
theorem verify_any (w0 w : World) (bd g ba po : Nat) (A : AF) (ds : List Ds) (bs : List Nat) (R : Nat) (X : List (List Value)) (ss : List St) (T : List (List TD)) (rest : List Int)
    (h : EN w0 w bd g ba (.pointer (some ⟨po, 0, none⟩)) A ds bs R X ss T rest) (hX : XOk ds bs R X) (hT : TOk ds T) (hn : ds.length < 1000) (h0 : 0 < ds.length)
    (co : w.cell? ⟨po, 1, none⟩ = some (.bool true)) :
    Calls Tryz.prog 92 #[.pointer (some ⟨bd, 0, none⟩), .pointer (some ⟨ba, 0, none⟩)] w fun e w' => e = .returned (.tuple #[]) ∧ w = w' := by
  obtain ⟨gv, cap, _, ca, cv⟩ := h.st h0
  obtain ⟨nn, cc, pp, arr, hbd, _⟩ := h.rd.ex
  have c00 : w.cell? ⟨bd, 0, none⟩ = some (.pointer (some ⟨po, 0, none⟩)) := by rw [hbd.cell]; rfl
  have H := Lib.hid h
  have HX := Lib.hid hX
  have HT := Lib.hid hT
  have HV := Lib.hid cv
  clear h hX hT cv hbd
  go_enter Tryz.func92, Tryz.ntmps92
  go_wp2_with (first | (go_at_call 123; refine (verifyOpt _ _ co).mono ?_; rintro e w' ⟨rfl, rfl⟩))
  clear co c00
  go_loop [34] (fun x => ∃ m : Nat, m ≤ ds.length ∧ x = .int .i64 (m : Int)) (fun x => ds.length - (intOf x).toNat)
  case atStart => exact ⟨0, Nat.zero_le _, rfl⟩
  case round =>
    obtain ⟨m, hm, rfl⟩ := hrel
    by_cases hlt : m < ds.length
    · obtain ⟨d, s, b, q1, q2, q3, q4, q5, q6, q7⟩ := H.out.dvAt hlt
      have cx := HV.out m hlt
      rw [q7] at cx
      have hblk := H.out.net.core.sts.at_ m s b q2 q3
      obtain ⟨ts, hts⟩ : ∃ ts, T[m]? = some ts := ⟨_, List.getElem?_eq_getElem (by rw [H.out.net.tlen]; exact hlt)⟩
      have hrow := H.out.net.row m s ts q2 hts
      obtain ⟨tb, e1, e2, e3⟩ := hrow.ex
      obtain ⟨A1, c1, esl⟩ := Own.slice e2
      have c6 : w.cell? ⟨b, 6, none⟩ = some (.slice A1 ts.length c1) := by rw [hblk.cell, St.c6, esl]
      have c2 : w.cell? ⟨b, 2, none⟩ = some (.bool s.eps) := by rw [hblk.cell, St.c2]
      have hx : X[m]? = some s.extra := by rw [← H.out.extra, List.getElem?_map, q2]; rfl
      have hxo := HX.out m d _ q1 hx
      obtain ⟨⟨o1, o2⟩, o3⟩ := HT.out m ts d hts q1
      have hbe : s.eps = true ∨ ts.length ≤ 1 := by
        rcases o1 with h1 | h1
        · by_cases hz : ts = []
          · right; rw [hz]; simp
          · left; rw [hrow.eps hz]; exact h1
        · exact .inr h1
      have ext : ∀ i v, s.extra[i]? = some v → w.cell? ⟨b, 7 + i, none⟩ = some v := fun i v hv => by rw [hblk.cell, St.c7]; exact hv
      obtain ⟨len, hlen⟩ : ∃ l, ts.length = l := ⟨_, rfl⟩
      rw [hlen] at c6 hbe o2 o3
      obtain ⟨ev, hev⟩ : ∃ v, s.eps = v := ⟨_, rfl⟩
      rw [hev] at hbe c2
      unfold xok at hxo
      clear q2 q3 q4 q5 q6 q7 hts hrow e1 e2 e3 esl hx hblk hlen hev tb o1
      generalize d.k = k at *
      cases k
      case basic =>
        simp only at hxo o2
        have t288 := fun x w => tt_basic_288 x w
        have t297 := fun x w => tt_basic_297 x w
        have t294 := fun x w => tt_basic_294 x w
        have t252 := fun x w => tt_basic_252 x w
        have t271 := fun x w => tt_basic_271 x w
        have t265 := fun x w => tt_basic_265 x w
        have t199 := fun x w => tt_basic_199 x w
        have t256 := fun x w => tt_basic_256 x w
        have t267 := fun x w => tt_basic_267 x w
        clear ext hxo
        have o4 := o2 trivial
        clear o2
        have o5 : decide ((len : Int) ≤ 1) = true := by simp; omega
        cases ev
        · as_aux_lemma =>
          have o5 : decide ((len : Int) ≤ 1) = true := by rcases hbe with h | h; cases h; simp; omega
          go_wp2_with (first | (go_at_call 219; refine (epsOnly_s _ _ _ c2).mono ?_; rintro e w' ⟨rfl, rfl⟩) | (go_at_call 121; refine (getTrans_s _ _ _ c6 ⟨_, _, _, rfl⟩).mono ?_; rintro e w' ⟨rfl, rfl⟩) | (go_at_call 124; refine (check_true _ _ _ _ (by first | rfl | assumption)).mono ?_; rintro e w' ⟨rfl, rfl⟩))
          all_goals (go_round; exact ⟨m + 1, by omega, by go_num⟩; simp [intOf]; omega)
        · as_aux_lemma =>
          clear hbe
          go_wp2_with (first | (go_at_call 219; refine (epsOnly_s _ _ _ c2).mono ?_; rintro e w' ⟨rfl, rfl⟩) | (go_at_call 121; refine (getTrans_s _ _ _ c6 ⟨_, _, _, rfl⟩).mono ?_; rintro e w' ⟨rfl, rfl⟩) | (go_at_call 124; refine (check_true _ _ _ _ (by first | rfl | assumption)).mono ?_; rintro e w' ⟨rfl, rfl⟩))
          all_goals (go_round; exact ⟨m + 1, by omega, by go_num⟩; simp [intOf]; omega)
      case rstart =>
        simp only at hxo o2
        have t288 := fun x w => tt_rstart_288 x w
        have t297 := fun x w => tt_rstart_297 x w
        have t294 := fun x w => tt_rstart_294 x w
        have t252 := fun x w => tt_rstart_252 x w
        have t271 := fun x w => tt_rstart_271 x w
        have t265 := fun x w => tt_rstart_265 x w
        have t199 := fun x w => tt_rstart_199 x w
        have t256 := fun x w => tt_rstart_256 x w
        have t267 := fun x w => tt_rstart_267 x w
        have c7 := ext 0 _ (by rw [hxo]; rfl)
        clear ext hxo
        clear o2
        cases ev
        · as_aux_lemma =>
          have o5 : decide ((len : Int) ≤ 1) = true := by rcases hbe with h | h; cases h; simp; omega
          go_wp2_with (first | (go_at_call 219; refine (epsOnly_s _ _ _ c2).mono ?_; rintro e w' ⟨rfl, rfl⟩) | (go_at_call 121; refine (getTrans_s _ _ _ c6 ⟨_, _, _, rfl⟩).mono ?_; rintro e w' ⟨rfl, rfl⟩) | (go_at_call 124; refine (check_true _ _ _ _ (by first | rfl | assumption)).mono ?_; rintro e w' ⟨rfl, rfl⟩))
          all_goals (go_round; exact ⟨m + 1, by omega, by go_num⟩; simp [intOf]; omega)
        · as_aux_lemma =>
          clear hbe
          go_wp2_with (first | (go_at_call 219; refine (epsOnly_s _ _ _ c2).mono ?_; rintro e w' ⟨rfl, rfl⟩) | (go_at_call 121; refine (getTrans_s _ _ _ c6 ⟨_, _, _, rfl⟩).mono ?_; rintro e w' ⟨rfl, rfl⟩) | (go_at_call 124; refine (check_true _ _ _ _ (by first | rfl | assumption)).mono ?_; rintro e w' ⟨rfl, rfl⟩))
          all_goals (go_round; exact ⟨m + 1, by omega, by go_num⟩; simp [intOf]; omega)
      case bstart =>
        simp only at hxo o2
        have t288 := fun x w => tt_bstart_288 x w
        have t297 := fun x w => tt_bstart_297 x w
        have t294 := fun x w => tt_bstart_294 x w
        have t252 := fun x w => tt_bstart_252 x w
        have t271 := fun x w => tt_bstart_271 x w
        have t265 := fun x w => tt_bstart_265 x w
        have t199 := fun x w => tt_bstart_199 x w
        have t256 := fun x w => tt_bstart_256 x w
        have t267 := fun x w => tt_bstart_267 x w
        obtain ⟨nd, _, hxo⟩ := hxo
        have c9 := ext 2 _ (by rw [hxo]; rfl)
        clear ext hxo
        clear o2
        cases ev
        · as_aux_lemma =>
          have o5 : decide ((len : Int) ≤ 1) = true := by rcases hbe with h | h; cases h; simp; omega
          go_wp2_with (first | (go_at_call 219; refine (epsOnly_s _ _ _ c2).mono ?_; rintro e w' ⟨rfl, rfl⟩) | (go_at_call 121; refine (getTrans_s _ _ _ c6 ⟨_, _, _, rfl⟩).mono ?_; rintro e w' ⟨rfl, rfl⟩) | (go_at_call 241; refine (getEnd_s _ _ _ c9).mono ?_; rintro e w' ⟨rfl, rfl⟩) | (go_at_call 124; refine (check_true _ _ _ _ (by first | rfl | assumption)).mono ?_; rintro e w' ⟨rfl, rfl⟩))
          all_goals (go_round; exact ⟨m + 1, by omega, by go_num⟩; simp [intOf]; omega)
        · as_aux_lemma =>
          clear hbe
          go_wp2_with (first | (go_at_call 219; refine (epsOnly_s _ _ _ c2).mono ?_; rintro e w' ⟨rfl, rfl⟩) | (go_at_call 121; refine (getTrans_s _ _ _ c6 ⟨_, _, _, rfl⟩).mono ?_; rintro e w' ⟨rfl, rfl⟩) | (go_at_call 241; refine (getEnd_s _ _ _ c9).mono ?_; rintro e w' ⟨rfl, rfl⟩) | (go_at_call 124; refine (check_true _ _ _ _ (by first | rfl | assumption)).mono ?_; rintro e w' ⟨rfl, rfl⟩))
          all_goals (go_round; exact ⟨m + 1, by omega, by go_num⟩; simp [intOf]; omega)
      case rstop =>
        simp only at hxo o2
        have t288 := fun x w => tt_rstop_288 x w
        have t297 := fun x w => tt_rstop_297 x w
        have t294 := fun x w => tt_rstop_294 x w
        have t252 := fun x w => tt_rstop_252 x w
        have t271 := fun x w => tt_rstop_271 x w
        have t265 := fun x w => tt_rstop_265 x w
        have t199 := fun x w => tt_rstop_199 x w
        have t256 := fun x w => tt_rstop_256 x w
        have t267 := fun x w => tt_rstop_267 x w
        clear ext hxo
        clear o2
        cases ev
        · as_aux_lemma =>
          have o5 : decide ((len : Int) ≤ 1) = true := by rcases hbe with h | h; cases h; simp; omega
          go_wp2_with (first | (go_at_call 219; refine (epsOnly_s _ _ _ c2).mono ?_; rintro e w' ⟨rfl, rfl⟩) | (go_at_call 121; refine (getTrans_s _ _ _ c6 ⟨_, _, _, rfl⟩).mono ?_; rintro e w' ⟨rfl, rfl⟩) | (go_at_call 124; refine (check_true _ _ _ _ (by first | rfl | assumption)).mono ?_; rintro e w' ⟨rfl, rfl⟩))
          all_goals (go_round; exact ⟨m + 1, by omega, by go_num⟩; simp [intOf]; omega)
        · as_aux_lemma =>
          clear hbe
          go_wp2_with (first | (go_at_call 219; refine (epsOnly_s _ _ _ c2).mono ?_; rintro e w' ⟨rfl, rfl⟩) | (go_at_call 121; refine (getTrans_s _ _ _ c6 ⟨_, _, _, rfl⟩).mono ?_; rintro e w' ⟨rfl, rfl⟩) | (go_at_call 124; refine (check_true _ _ _ _ (by first | rfl | assumption)).mono ?_; rintro e w' ⟨rfl, rfl⟩))
          all_goals (go_round; exact ⟨m + 1, by omega, by go_num⟩; simp [intOf]; omega)
      case bend =>
        simp only at hxo o2
        have t288 := fun x w => tt_bend_288 x w
        have t297 := fun x w => tt_bend_297 x w
        have t294 := fun x w => tt_bend_294 x w
        have t252 := fun x w => tt_bend_252 x w
        have t271 := fun x w => tt_bend_271 x w
        have t265 := fun x w => tt_bend_265 x w
        have t199 := fun x w => tt_bend_199 x w
        have t256 := fun x w => tt_bend_256 x w
        have t267 := fun x w => tt_bend_267 x w
        have c7 := ext 0 _ (by rw [hxo]; rfl)
        unfold dv at c7
        clear ext hxo
        clear o2
        cases ev
        · as_aux_lemma =>
          have o5 : decide ((len : Int) ≤ 1) = true := by rcases hbe with h | h; cases h; simp; omega
          go_wp2_with (first | (go_at_call 219; refine (epsOnly_s _ _ _ c2).mono ?_; rintro e w' ⟨rfl, rfl⟩) | (go_at_call 121; refine (getTrans_s _ _ _ c6 ⟨_, _, _, rfl⟩).mono ?_; rintro e w' ⟨rfl, rfl⟩) | (go_at_call 124; refine (check_true _ _ _ _ (by first | rfl | assumption)).mono ?_; rintro e w' ⟨rfl, rfl⟩))
          all_goals (go_round; exact ⟨m + 1, by omega, by go_num⟩; simp [intOf]; omega)
        · as_aux_lemma =>
          clear hbe
          go_wp2_with (first | (go_at_call 219; refine (epsOnly_s _ _ _ c2).mono ?_; rintro e w' ⟨rfl, rfl⟩) | (go_at_call 121; refine (getTrans_s _ _ _ c6 ⟨_, _, _, rfl⟩).mono ?_; rintro e w' ⟨rfl, rfl⟩) | (go_at_call 124; refine (check_true _ _ _ _ (by first | rfl | assumption)).mono ?_; rintro e w' ⟨rfl, rfl⟩))
          all_goals (go_round; exact ⟨m + 1, by omega, by go_num⟩; simp [intOf]; omega)
    · obtain rfl : m = ds.length := by omega
      go_wp2
      go_end0
      exact ⟨rfl, rfl⟩
end Go.Proofs.YtemdillhbnmjkaaGreatDoor

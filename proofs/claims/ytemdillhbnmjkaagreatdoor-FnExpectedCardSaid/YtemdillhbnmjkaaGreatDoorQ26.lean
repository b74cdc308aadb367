/- The search: behind a rule's end with all that may follow it anywhere (51). · The search: its contract (51). -/
import Derived.Test.YtemdillhbnmjkaaGreatDoorQ25
import Derived.Test.YtemdillhbnmjkaaGreatDoorQ24
namespace Go.Proofs.YtemdillhbnmjkaaGreatDoor
open Go.RowKit

theorem GrowTo_wideB {N : Pl.NetG} {bot : Bool} {s r i : Nat} {V V' : List Pl.Cfg} {L L' : Int → Prop} (h : Pl.GrowTo N bot s [] i V V' L L') (hb : bot = true) (hi : (N.trs s).length ≤ i) (hs : N.stop s = some r) (he : ∀ d ∈ N.trs s, ∃ f, d = .eps f) : Pl.Grow N bot [] [(s, [])] V V' L L' := by
  subst hb
  exact Pl.GrowTo.wide h hi hs he
set_option maxHeartbeats 4000000 in
set_option maxRecDepth 100000 in
theorem look1_wide (E : Env) (F : E.Fits) (s r : Nat) (V : List Pl.Cfg) (C : Nat) (hb : E.bot = true) (hst : E.N.stop s = some r) (hall : (s, []) ∈ E.All) (hin : (s, []) ∉ V)
    (heps : ∀ to V', TD.eps to ∈ E.row s → (∀ c ∈ (s, []) :: V, c ∈ V') → E.L1 to [] V' C) : E.L1 s [] V C := by
  intro w v m hA hv
  obtain ⟨hr, hsr, hd⟩ := F.stop hst
  have hs := (List.getElem?_eq_some_iff.1 hd).1
  obtain ⟨sb, A, cp, tb, hS⟩ := F.net.state hd
  have hdv := hS.val
  simp only at hdv
  have hwd := fun d h => F.wide s r d hb hst h
  obtain ⟨b, hvb, hbb⟩ : ∃ b : Nat, v = .pointer (some ⟨b, 0, none⟩) ∧ Blk w b c0cell 203 := by
    have h0 := hv
    unfold PCv at h0
    rwa [if_pos hb] at h0
  subst hvb
  have hcon := contains_any (E.beg w s (.pointer (some ⟨b, 0, none⟩))) E.bot E.ds E.bs E.B E.jb (w.heap.size + 3) V (s, []) ((F.net.stNum.chg hA.base).chg (E.beg_no ..)) (E.beg_cfg w s [] _ hs hv) (hA.busy.no (E.beg_no ..))
  rw [decide_eq_false hin] at hcon
  have hput := fun n => E.put F w s [] (some ⟨b, 0, none⟩) V C m n hs hA hv hin hall
  unfold Env.beg at hcon hput
  rw [hdv] at hcon hput ⊢
  have hlen := F.rowlen s
  have hlenS := E.trs_len s
  have HRow := Lib.hid (F.row s)
  unfold Env.row at *
  have hbot : (!E.bot) = false := by rw [hb]; rfl
  have HC := Lib.hid hcon
  have HP := Lib.hid hput
  have HF := Lib.hid F
  have HS := Lib.hid hS
  have HStop := Lib.hid hst
  have HEps := Lib.hid heps
  have HWd := Lib.hid hwd
  have HBot := Lib.hid hb
  have HLen := Lib.hid hlenS
  clear hcon hA hput hv F hin hd hS hst hall heps hwd hlenS hbb hb
  generalize hts : (E.T[s]?).getD [] = ts at *
  go_enter_defers Tryz.func51, Tryz.ntmps51
  go_wp2_with (first | (go_at_call 66; refine (newCfg_any _ _ _ _).mono ?_; rintro e w' ⟨rfl, rfl⟩))
  refine HC.out.mono ?_
  rintro e w' ⟨rfl, n, rfl⟩
  go_wp2_with fail
  refine (HP.out n).mono ?_
  rintro e w2 ⟨rfl, hA2, hv2, hs2, hc2, ht2⟩
  have x0 : w2.cell? ⟨w.heap.size, 0, none⟩ = some (.iface SK.rstop.ptr (.pointer (some ⟨sb, 0, none⟩))) := by rw [hs2.cell]; rfl
  have hta := fun w => ta_rstop ⟨sb, 0, none⟩ w
  have b1 : w2.cell? ⟨b, 1, none⟩ = some (.int .i64 0) := by
    have h0 := hv2
    unfold PCv at h0
    rw [if_pos HBot.out] at h0
    obtain ⟨b', he, hb'⟩ := h0
    simp at he
    subst he
    rw [hb'.cell]; rfl
  have y6 := Chg.keep hA2.base HS.out.trans (fun h => h)
  have HA2 := Lib.hid hA2
  have HT2 := Lib.hid ht2
  have HV2 := Lib.hid hv2
  have HS2 := Lib.hid hs2
  have HC2 := Lib.hid hc2
  clear hA2 hv2 hs2 hc2 ht2
  go_wp2_with (first | (go_at_call 121; refine (getT_s _ _ _ y6 ⟨_, _, _, rfl⟩).mono ?_; rintro e w' ⟨rfl, rfl⟩) | (go_at_call 69; refine (pcEmpty_t _ _ b1).mono ?_; rintro e w' ⟨rfl, rfl⟩))
  go_loopw [27] (fun i wr => ∃ j m' V', j ≤ ts.length ∧ i = .int .i64 (j : Int) ∧ E.Lp w2 s [] V m C j wr m' V') (fun i _ => ts.length - (intOf i).toNat)
  case atStart => exact ⟨0, m, _, Nat.zero_le _, rfl, HA2.out, Pl.GrowTo.zero, TC.refl _ _ _ _⟩
  case round =>
    obtain ⟨j, m', V', hj, rfl, hlp⟩ := hrel
    have hsub := hlp.sub
    obtain ⟨hA3, hG3, hT3⟩ := hlp
    have hv3 := TC.pc hT3 HV2.out (by decide)
    have hs3 := TC.blk hT3 HS2.out (by decide)
    have hc3 := TC.blk hT3 HC2.out (by decide)
    have x0 : wr.cell? ⟨w.heap.size, 0, none⟩ = some (.iface SK.rstop.ptr (.pointer (some ⟨sb, 0, none⟩))) := by rw [hs3.cell]; rfl
    have x1 : wr.cell? ⟨w.heap.size + 1, 0, none⟩ = some (.pointer (some ⟨E.cb, 0, none⟩)) := by rw [hc3.cell]; rfl
    have HSub := Lib.hid hsub
    have HA3 := Lib.hid hA3
    have HG3 := Lib.hid hG3
    have HT3 := Lib.hid hT3
    have HV3 := Lib.hid hv3
    clear hsub hA3 hG3 hT3 hv3 hs3 hc3 y6
    have y6 := Chg.keep HA3.out.base HS.out.trans (fun h => h)
    by_cases hlt : j < ts.length
    · obtain ⟨d, hd⟩ : ∃ d, ts[j]? = some d := ⟨_, List.getElem?_eq_getElem hlt⟩
      obtain ⟨g, t, rfl, ht1, ht2⟩ := HS.out.trans_at hd
      have htr := E.trs_at s j d (by unfold Env.row; rw [hts]; exact hd)
      have hdm := List.mem_of_getElem? hd
      have hok := HRow.out d (by first | exact hdm | (rw [hts]; exact hdm))
      have z0 := Chg.keep HA3.out.base ht1 (fun h => h)
      have ht3 := TrAt.no ht2 HA3.out.base
      cases d with
      | eps to =>
        have hto : to < E.ds.length := hok
        obtain ⟨K2, sb2, hval⟩ := HF.out.ptr hto
        obtain ⟨o, hblk⟩ := ht3
        have z1 : wr.cell? ⟨g, j, none⟩ = some (.iface TK.eps.ptr (.pointer (some ⟨t, 0, none⟩))) := z0
        have c0 : wr.cell? ⟨t, 0, none⟩ = some (dv E.ds E.bs to) := by rw [hblk.cell]; rfl
        have c1 : wr.cell? ⟨t, 1, none⟩ = some (.bool true) := by rw [hblk.cell]; rfl
        have hl := HEps.out to V' (by first | exact hdm | (rw [hts]; exact hdm)) HSub.out wr.drew _ m' (HA3.out.no (Chg.refl No wr).drew) (PCv.chg (Chg.refl No wr).drew (fun _ h => h.elim) HV3.out)
        rw [hval] at c0 hl
        rw [hbot] at hl
        have HL := Lib.hid hl
        have Htr := Lib.hid htr
        have hta1 := fun w => ta_norule .eps (by decide) ⟨t, 0, none⟩ w
        have hta2 := fun w => ta_209 .eps (by decide) ⟨t, 0, none⟩ w
        clear hl htr hok hdm hblk ht1 ht2 z0 hd
        go_wp2_with (first | (go_at_call 121; refine (getT_s _ _ _ y6 ⟨_, _, _, rfl⟩).mono ?_; rintro e w' ⟨rfl, rfl⟩) | (go_at_call 213; refine (isEps_any _ _ _ c1).mono ?_; rintro e w' ⟨rfl, rfl⟩))
        refine wp_tail 10 (by kernel_rfl) ?_
        simp only [List.take_succ_cons, List.take_zero, List.drop_succ_cons, List.drop_zero]
        repeat (first | still_step | still_call ((getTarget_s wr.drew t _ c0 ⟨_, _, rfl⟩)))
        refine wpStill_nil ?_
        go_wp2_with fail
        refine HL.out.mono ?_
        rintro e w5 ⟨rfl, m5, V5, h6, h7, h8⟩
        have H6 := Lib.hid h6
        have H7 := Lib.hid h7
        have H8 := Lib.hid h8
        clear h6 h7 h8
        go_wp2
        go_roundw
        case rel => exact ⟨j + 1, m5, V5, by omega, by go_num, H6.out, HG3.out.next Htr.out H7.out, (HT3.out.trans (TC.no (Chg.refl No wr).drew)).trans H8.out⟩
        case measure => simp [intOf]; omega
      | rule st f q =>
        obtain ⟨f', he, _⟩ := HWd.out _ (List.mem_of_getElem? htr)
        cases he
      | atom to tok =>
        obtain ⟨f', he, _⟩ := HWd.out _ (List.mem_of_getElem? htr)
        cases he
    · have hjj : j = ts.length := by omega
      have hp : E.Post w s [] V m C (.returned (.tuple #[])) wr := ⟨rfl, m', V', HA3.out, (by have h9 := GrowTo_wideB HG3.out HBot.out (by have := HLen.out; omega) HStop.out (fun d hd => by obtain ⟨f', he, _⟩ := HWd.out d hd; exact ⟨f', he⟩); exact h9), HT2.out.trans HT3.out⟩
      have Hp := Lib.hid hp
      clear hp
      go_wp2
      simp [bodyPostD, Leaves, results, Tryz.results51, go_sem]
      exact Hp.out
end Go.Proofs.YtemdillhbnmjkaaGreatDoor
namespace Go.Proofs.YtemdillhbnmjkaaGreatDoor
open Go.RowKit

theorem cbit_low : ∀ r, r < 6 → ∀ x, x < 6 → (63 - 2 ^ r : Nat).testBit x = (x != r) := by decide
theorem cbit_high {C x : Nat} (h : C < 64) (hx : 6 ≤ x) : C.testBit x = false :=
  Nat.testBit_lt_two_pow (Nat.lt_of_lt_of_le h (show 2 ^ 6 ≤ 2 ^ x from Nat.pow_le_pow_right (by omega) hx))
theorem cbit_and {C r : Nat} (h : C < 64) (hr : r < 6) : (C &&& (63 - 2 ^ r)) < 64 ∧ ∀ x, (C &&& (63 - 2 ^ r)).testBit x = (C.testBit x && x != r) := by
  refine ⟨Nat.lt_of_le_of_lt Nat.and_le_left h, fun x => ?_⟩
  rw [Nat.testBit_and]
  rcases Nat.lt_or_ge x 6 with hx | hx
  · rw [cbit_low r hr x hx]
  · rw [cbit_high h hx]; rfl
theorem cbit_or {C r : Nat} (h : C < 64) (hr : r < 6) : (C ||| 2 ^ r) < 64 ∧ ∀ x, (C ||| 2 ^ r).testBit x = (C.testBit x || x == r) := by
  refine ⟨Nat.or_lt_two_pow (n := 6) h (show 2 ^ r < 2 ^ 6 from Nat.pow_lt_pow_right (by omega) hr), fun x => ?_⟩
  rw [Nat.testBit_or, Nat.testBit_two_pow]
  congr 1
  rw [Bool.eq_iff_iff]
  simp
  exact ⟨fun h => h.symm, fun h => h.symm⟩

theorem Env.eps_mem {E : Env} {s to : Nat} (h : TD.eps to ∈ E.row s) : Pl.Tr.eps to ∈ E.N.trs s := List.mem_map.2 ⟨_, h, rfl⟩
theorem Env.rule_mem {E : Env} {s st f : Nat} {q : Int} (h : TD.rule st f q ∈ E.row s) : Pl.Tr.call q.toNat st f ∈ E.N.trs s := List.mem_map.2 ⟨_, h, rfl⟩

theorem look1_ok (E : Env) (F : E.Fits) (n : Nat)
    (IH : ∀ s V C, Pl.cnt E.ds.length V < n → s < E.ds.length → (s, []) ∈ E.All → C < 64 → Pl.Ok E.N E.bot (fun x => C.testBit x) s [] → E.L1 s [] V C) {Cf : Nat → Bool} {s : Nat} {k : List Nat} (h : Pl.Ok E.N E.bot Cf s k) :
    ∀ (C : Nat) (V : List Pl.Cfg), (∀ x, Cf x = C.testBit x) → C < 64 → s < E.ds.length → (∀ f ∈ k, f < E.ds.length) → (s, k) ∈ E.All → Pl.cnt E.ds.length V ≤ n → E.L1 s k V C := by
  induction h with
  | @fin Cf s r h1 h2 =>
    intro C V hC hC6 hs hk hA hc
    by_cases hin : (s, []) ∈ V
    · exact look1_seen E F _ _ V C hs hin
    · exact look1_fin E F s r V C h2 h1 hA hin
  | @wide Cf s r h1 h2 h3 =>
    intro C V hC hC6 hs hk hA hc
    by_cases hin : (s, []) ∈ V
    · exact look1_seen E F _ _ V C hs hin
    · refine look1_wide E F s r V C h2 h1 hA hin (fun to V' hto hV' => ?_)
      have hm := Env.eps_mem hto
      obtain ⟨f, he, hok⟩ := F.wide s r _ h2 h1 hm
      cases he
      refine IH to V' C ?_ (F.row s _ hto) (F.closed _ hA _ (.wide h1 h2 hm)) hC6 ?_
      · exact Nat.lt_of_lt_of_le (Nat.lt_of_le_of_lt (Pl.cnt_mono hV') (Pl.cnt_lt hs hin)) hc
      · rw [h2]
        exact hok.mono (fun x _ => by rw [← hC]; exact h3 x)
  | @pop Cf s r f k h1 _ ih =>
    intro C V hC hC6 hs hk hA hc
    by_cases hin : (s, f :: k) ∈ V
    · exact look1_seen E F _ _ V C hs hin
    · have hr6 : r < 6 := Nat.lt_of_lt_of_le (F.stop h1).1 F.r6
      obtain ⟨b1, b2⟩ := cbit_and hC6 hr6
      refine look1_pop E F s r f k V C h1 (hk f (by simp)) hA hin (ih _ _ (fun x => by simp only [b2, hC]) b1 (hk f (by simp)) (fun f' hf => hk f' (by simp [hf])) (F.closed _ hA _ (.pop h1)) ?_)
      exact Nat.le_trans (Pl.cnt_mono (fun c hc => by simp [hc])) hc
  | @node Cf s k h1 _ h3 _ ih1 ih2 =>
    intro C V hC hC6 hs hk hA hc
    by_cases hin : (s, k) ∈ V
    · exact look1_seen E F _ _ V C hs hin
    · have hV : ∀ V', (∀ c ∈ (s, k) :: V, c ∈ V') → Pl.cnt E.ds.length V' ≤ n := fun V' h => Nat.le_trans (Pl.cnt_mono (fun c hc => h c (by simp [hc]))) hc
      refine look1_node E F s k V C _ (List.getElem?_eq_getElem hs) h1 hA hin (fun to V' hto hV' => ?_) (fun st f q V' hto hV' => ?_)
      · have hm := Env.eps_mem hto
        exact ih1 to hm C V' hC hC6 (F.row s _ hto) hk (F.closed _ hA _ (.eps h1 hm)) (hV V' hV')
      · have hm := Env.rule_mem hto
        obtain ⟨r1, rfl, r2⟩ := F.row s _ hto
        have hst6 : st < 6 := Nat.lt_of_lt_of_le r1 F.r6
        obtain ⟨b1, b2⟩ := cbit_or hC6 hst6
        have hq := h3 _ _ _ hm
        rw [Int.toNat_natCast] at hm hq
        refine ⟨by rw [← hC]; exact hq, ih2 _ _ _ hm _ V' (fun x => by simp only [b2, hC]) b1 (by have := F.rn; omega) (fun f' hf => ?_) (F.closed _ hA _ (.call h1 hm)) (hV V' hV')⟩
        simp at hf
        rcases hf with rfl | hf
        · exact r2
        · exact hk f' hf

theorem look1_all (E : Env) (F : E.Fits) {s : Nat} {k : List Nat} {V : List Pl.Cfg} {C : Nat} (hs : s < E.ds.length) (hk : ∀ f ∈ k, f < E.ds.length) (hA : (s, k) ∈ E.All) (hC : C < 64) (h : Pl.Ok E.N E.bot (fun x => C.testBit x) s k) : E.L1 s k V C := by
  have key : ∀ n s V C, Pl.cnt E.ds.length V < n → s < E.ds.length → (s, []) ∈ E.All → C < 64 → Pl.Ok E.N E.bot (fun x => C.testBit x) s [] → E.L1 s [] V C := by
    intro n
    induction n with
    | zero => intro s V C h; omega
    | succ n ih =>
      intro s V C h1 h2 h3 h4 h5
      exact look1_ok E F n ih h5 C V (fun _ => rfl) h4 h2 (by simp) h3 (by omega)
  exact look1_ok E F _ (key _) h C V (fun _ => rfl) hC hs hk hA (Nat.le_refl _)
end Go.Proofs.YtemdillhbnmjkaaGreatDoor

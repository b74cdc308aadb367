/- The search: the transitions of a state (51). -/
import Derived.Test.YtemdillhbnmjkaaGreatDoorQ23
import Derived.LoopTactic
namespace Go.Proofs.YtemdillhbnmjkaaGreatDoor
open Go.RowKit

theorem ta_209 (k : TK) (hk : k ≠ .rule) (a : Addr) (w : World) : (Instr.typeAssert (.iface k.ptr (.pointer (some a))) 179 209 true).run Tryz.prog w = .ok (.tuple #[.nilIface, .bool false]) w := by
  have h1 : (Instr.typeAssert (.iface TK.eps.ptr (.pointer (some a))) 179 209 true).run Tryz.prog w = .ok (.tuple #[.nilIface, .bool false]) w :=
    run_typeAssert_lacksB Tryz.underlying209 (show (Tryz.prog.info? TK.eps.ptr).map (fun i => (lacking _ i.methods).isEmpty) = some false by kernel_rfl) (by kernel_rfl) _ _ _
  have h2 : (Instr.typeAssert (.iface TK.atom.ptr (.pointer (some a))) 179 209 true).run Tryz.prog w = .ok (.tuple #[.nilIface, .bool false]) w :=
    run_typeAssert_lacksB Tryz.underlying209 (show (Tryz.prog.info? TK.atom.ptr).map (fun i => (lacking _ i.methods).isEmpty) = some false by kernel_rfl) (by kernel_rfl) _ _ _
  cases k
  · exact h1
  · exact h2
  · exact absurd rfl hk
theorem ta_211 (a : Addr) (w : World) : (Instr.typeAssert (.iface TK.atom.ptr (.pointer (some a))) 179 211 true).run Tryz.prog w = .ok (.tuple #[.pointer none, .bool false]) w := by kernel_rfl
theorem ta_213 (a : Addr) (w : World) : (Instr.typeAssert (.iface TK.atom.ptr (.pointer (some a))) 179 213 true).run Tryz.prog w = .ok (.tuple #[.pointer none, .bool false]) w := by kernel_rfl
theorem ta_st (k : SK) (hk : k ≠ .rstop) (a : Addr) (w : World) : (Instr.typeAssert (.iface k.ptr (.pointer (some a))) 109 199 true).run Tryz.prog w = .ok (.tuple #[.pointer none, .bool false]) w := by
  cases k
  · exact tt_basic_199 a w
  · exact tt_rstart_199 a w
  · exact tt_bstart_199 a w
  · exact absurd rfl hk
  · exact tt_bend_199 a w
theorem getT_s (w : World) (b : Nat) (v : Value) (c : w.cell? ⟨b, 6, none⟩ = some v) (hv : ∃ A n c, v = .slice A n c) : Calls Tryz.prog 121 #[.pointer (some ⟨b, 0, none⟩)] w fun e w' => e = .returned v ∧ w = w' :=
  (getTrans_s w b v c hv).mono fun _ _ h => ⟨h.1, h.2.symm⟩
theorem getTg_s (w : World) (t : Nat) (v : Value) (c : w.cell? ⟨t, 0, none⟩ = some v) (hv : ∃ T u, v = .iface T u) : Calls Tryz.prog 77 #[.pointer (some ⟨t, 0, none⟩)] w fun e w' => e = .returned v ∧ w = w' :=
  (getTarget_s w t v c hv).mono fun _ _ h => ⟨h.1, h.2.symm⟩
theorem ruleIx_s (w : World) (b : Nat) (r : Int) (c : w.cell? ⟨b, 3, none⟩ = some (.int .i64 r)) : Calls Tryz.prog 221 #[.pointer (some ⟨b, 0, none⟩)] w fun e w' => e = .returned (.int .i64 r) ∧ w = w' :=
  (ruleIndex_s w b r c).mono fun _ _ h => ⟨h.1, h.2.symm⟩
theorem getLabel_s (w : World) (t : Nat) (p : Option Addr) (c : w.cell? ⟨t, 3, none⟩ = some (.pointer p)) : Calls Tryz.prog 214 #[.pointer (some ⟨t, 0, none⟩)] w fun e w' => e = .returned (.pointer p) ∧ w = w' := by
  go_enter Tryz.func214, Tryz.ntmps214
  go_wp2
  go_ret
  exact ⟨rfl, rfl⟩

theorem Env.trs_at (E : Env) (s i : Nat) (d : TD) (h : (E.row s)[i]? = some d) : (E.N.trs s)[i]? = some (trOf d) := by
  unfold Env.N netG; simp only; unfold Env.row at h; rw [List.getElem?_map, h]; rfl
theorem Env.trs_len (E : Env) (s : Nat) : (E.N.trs s).length = (E.row s).length := by
  unfold Env.N netG; simp [Env.row]

/-- what the visit of a state's transitions has come to -/
structure Env.Lp (E : Env) (w2 : World) (s : Nat) (k : List Nat) (V : List Pl.Cfg) (m C i : Nat) (wr : World) (m' : Nat) (V' : List Pl.Cfg) : Prop where
  at_ : E.At wr m' V' C
  grow : Pl.GrowTo E.N E.bot s k i V V' (fun t => Pl.has m t = true) (fun t => Pl.has m' t = true)
  tc : TC TsA true E.B w2 wr
theorem Env.Lp.sub {E : Env} {w2 : World} {s : Nat} {k : List Nat} {V : List Pl.Cfg} {m C i : Nat} {wr : World} {m' : Nat} {V' : List Pl.Cfg} (h : E.Lp w2 s k V m C i wr m' V') : ∀ c ∈ (s, k) :: V, c ∈ V' := Pl.Grow.sub h.grow

set_option maxHeartbeats 4000000 in
set_option maxRecDepth 100000 in
theorem look1_node (E : Env) (F : E.Fits) (s : Nat) (k : List Nat) (V : List Pl.Cfg) (C : Nat) (d : Ds) (hd : E.ds[s]? = some d) (hst : E.N.stop s = none) (hall : (s, k) ∈ E.All) (hin : (s, k) ∉ V)
    (heps : ∀ to V', TD.eps to ∈ E.row s → (∀ c ∈ (s, k) :: V, c ∈ V') → E.L1 to k V' C)
    (hcall : ∀ st f q V', TD.rule st f q ∈ E.row s → (∀ c ∈ (s, k) :: V, c ∈ V') → C.testBit st = false ∧ E.L1 st (f :: f :: k) V' (C ||| 2 ^ st)) : E.L1 s k V C := by
  intro w v m hA hv
  have hs := (List.getElem?_eq_some_iff.1 hd).1
  obtain ⟨sb, A, cp, tb, hS⟩ := F.net.state hd
  have hdv := hS.val
  have hk := F.noStop hst hd
  generalize d.k = K at *
  obtain ⟨q, rfl⟩ := hv.ptr
  have hcon := contains_any (E.beg w s (.pointer q)) E.bot E.ds E.bs E.B E.jb (w.heap.size + 3) V (s, k) ((F.net.stNum.chg hA.base).chg (E.beg_no ..)) (E.beg_cfg w s k _ hs hv) (hA.busy.no (E.beg_no ..))
  rw [decide_eq_false hin] at hcon
  have hput := fun n => E.put F w s k q V C m n hs hA hv hin hall
  unfold Env.beg at hcon hput
  rw [hdv] at hcon hput ⊢
  have hlen := F.rowlen s
  have hlenS := E.trs_len s
  have HRow := Lib.hid (F.row s)
  unfold Env.row at *
  have HC := Lib.hid hcon
  have HP := Lib.hid hput
  have HF := Lib.hid F
  have HS := Lib.hid hS
  have HStop := Lib.hid hst
  have HEps := Lib.hid heps
  have HCall := Lib.hid hcall
  have HLen := Lib.hid hlenS
  clear hcon hA hput hv F hin hd hS hst hall heps hcall hlenS
  generalize hts : (E.T[s]?).getD [] = ts at *
  go_enter_defers Tryz.func51, Tryz.ntmps51
  go_wp2_with (first | (go_at_call 66; refine (newCfg_any _ _ _ _).mono ?_; rintro e w' ⟨rfl, rfl⟩))
  refine HC.out.mono ?_
  rintro e w' ⟨rfl, n, rfl⟩
  go_wp2_with fail
  refine (HP.out n).mono ?_
  rintro e w2 ⟨rfl, hA2, hv2, hs2, hc2, ht2⟩
  have x0 : w2.cell? ⟨w.heap.size, 0, none⟩ = some (.iface K.ptr (.pointer (some ⟨sb, 0, none⟩))) := by rw [hs2.cell]; rfl
  have hta := fun w => ta_st K hk ⟨sb, 0, none⟩ w
  have y6 := Chg.keep hA2.base HS.out.trans (fun h => h)
  have HA2 := Lib.hid hA2
  have HT2 := Lib.hid ht2
  have HV2 := Lib.hid hv2
  have HS2 := Lib.hid hs2
  have HC2 := Lib.hid hc2
  clear hA2 hv2 hs2 hc2 ht2
  go_wp2_with (first | (go_at_call 121; refine (getT_s _ _ _ y6 ⟨_, _, _, rfl⟩).mono ?_; rintro e w' ⟨rfl, rfl⟩))
  go_loopw [27] (fun i wr => ∃ j m' V', j ≤ ts.length ∧ i = .int .i64 (j : Int) ∧ E.Lp w2 s k V m C j wr m' V') (fun i _ => ts.length - (intOf i).toNat)
  case atStart => exact ⟨0, m, _, Nat.zero_le _, rfl, HA2.out, Pl.GrowTo.zero, TC.refl _ _ _ _⟩
  case round =>
    obtain ⟨j, m', V', hj, rfl, hlp⟩ := hrel
    have hsub := hlp.sub
    obtain ⟨hA3, hG3, hT3⟩ := hlp
    have hv3 := TC.pc hT3 HV2.out (by decide)
    have hs3 := TC.blk hT3 HS2.out (by decide)
    have hc3 := TC.blk hT3 HC2.out (by decide)
    have x0 : wr.cell? ⟨w.heap.size, 0, none⟩ = some (.iface K.ptr (.pointer (some ⟨sb, 0, none⟩))) := by rw [hs3.cell]; rfl
    have x1 : wr.cell? ⟨w.heap.size + 1, 0, none⟩ = some (.pointer (some ⟨E.cb, 0, none⟩)) := by rw [hc3.cell]; rfl
    have HSub := Lib.hid hsub
    have HA3 := Lib.hid hA3
    have HG3 := Lib.hid hG3
    have HT3 := Lib.hid hT3
    have HV3 := Lib.hid hv3
    clear hsub hA3 hG3 hT3 hv3 hs3 hc3 y6
    have y6 := Chg.keep HA3.out.base HS.out.trans (fun h => h)
    by_cases hlt : j < ts.length
    · obtain ⟨d, hd⟩ : ∃ d, ts[j]? = some d := ⟨_, List.getElem?_eq_getElem hlt⟩
      obtain ⟨g, t, rfl, ht1, ht2⟩ := HS.out.trans_at hd
      have htr := E.trs_at s j d (by unfold Env.row; rw [hts]; exact hd)
      have hdm := List.mem_of_getElem? hd
      have hok := HRow.out d (by first | exact hdm | (rw [hts]; exact hdm))
      have z0 := Chg.keep HA3.out.base ht1 (fun h => h)
      have ht3 := TrAt.no ht2 HA3.out.base
      cases d with
      | eps to =>
        have hto : to < E.ds.length := hok
        obtain ⟨K2, sb2, hval⟩ := HF.out.ptr hto
        obtain ⟨o, hblk⟩ := ht3
        have z1 : wr.cell? ⟨g, j, none⟩ = some (.iface TK.eps.ptr (.pointer (some ⟨t, 0, none⟩))) := z0
        have c0 : wr.cell? ⟨t, 0, none⟩ = some (dv E.ds E.bs to) := by rw [hblk.cell]; rfl
        have c1 : wr.cell? ⟨t, 1, none⟩ = some (.bool true) := by rw [hblk.cell]; rfl
        have hl := HEps.out to V' (by first | exact hdm | (rw [hts]; exact hdm)) HSub.out wr.drew _ m' (HA3.out.no (Chg.refl No wr).drew) (PCv.chg (Chg.refl No wr).drew (fun _ h => h.elim) HV3.out)
        rw [hval] at c0 hl
        have HL := Lib.hid hl
        have Htr := Lib.hid htr
        have hta1 := fun w => ta_norule .eps (by decide) ⟨t, 0, none⟩ w
        have hta2 := fun w => ta_209 .eps (by decide) ⟨t, 0, none⟩ w
        clear hl htr hok hdm hblk ht1 ht2 z0 hd
        go_wp2_with (first | (go_at_call 121; refine (getT_s _ _ _ y6 ⟨_, _, _, rfl⟩).mono ?_; rintro e w' ⟨rfl, rfl⟩) | (go_at_call 213; refine (isEps_any _ _ _ c1).mono ?_; rintro e w' ⟨rfl, rfl⟩))
        refine wp_tail 10 (by kernel_rfl) ?_
        simp only [List.take_succ_cons, List.take_zero, List.drop_succ_cons, List.drop_zero]
        repeat (first | still_step | still_call ((getTarget_s wr.drew t _ c0 ⟨_, _, rfl⟩)))
        refine wpStill_nil ?_
        go_wp2_with fail
        refine HL.out.mono ?_
        rintro e w5 ⟨rfl, m5, V5, h6, h7, h8⟩
        have H6 := Lib.hid h6
        have H7 := Lib.hid h7
        have H8 := Lib.hid h8
        clear h6 h7 h8
        go_wp2
        go_roundw
        case rel => exact ⟨j + 1, m5, V5, by omega, by go_num, H6.out, HG3.out.next Htr.out H7.out, (HT3.out.trans (TC.no (Chg.refl No wr).drew)).trans H8.out⟩
        case measure => simp [intOf]; omega
      | rule st f q =>
        obtain ⟨hst', rfl, hf⟩ := hok
        have hst6 : st < 6 := Nat.lt_of_lt_of_le hst' HF.out.r6
        have hf' : f < 1000 := Nat.lt_trans hf HF.out.n
        obtain ⟨hbit, hl1⟩ := HCall.out st f _ V' (by first | exact hdm | (rw [hts]; exact hdm)) HSub.out
        obtain ⟨sbS, AS, cpS, tbS, hS'⟩ := HF.out.net.state (HF.out.rules.start st hst')
        obtain ⟨fb, Af, cpf, tbf, hFf⟩ := HF.out.net.state (List.getElem?_eq_getElem hf)
        have HT0 := Lib.hid ht2
        obtain ⟨po, hblk⟩ := ht3
        have z1 : wr.cell? ⟨g, j, none⟩ = some (.iface 191 (.pointer (some ⟨t, 0, none⟩))) := z0
        have c0 : wr.cell? ⟨t, 0, none⟩ = some (dv E.ds E.bs st) := by rw [hblk.cell]; rfl
        have c5 : wr.cell? ⟨t, 1 + 4, none⟩ = some (dv E.ds E.bs f) := by rw [hblk.cell]; rfl
        rw [hS'.val] at c0
        rw [hFf.val] at c5
        have sr : wr.cell? ⟨sbS, 3, none⟩ = some (.int .i64 (st : Int)) := Chg.keep HA3.out.base hS'.rule (fun h => h)
        have fn := Chg.keep HA3.out.base hFf.num (fun h => h)
        simp only at c0
        generalize (E.ds[f]).k = K2 at *
        have HH := Lib.hid (fun n => has_any (wr.drewN n) E.B E.cb C st hst6 (HA3.out.no ((Chg.refl No wr).drewN n)).bits)
        rw [hbit] at HH
        have HSg := Lib.hid (fun n => single_any (wr.drewN n) E.bot k _ f (PCv.chg ((Chg.refl No wr).drewN n) (fun _ h => h.elim) HV3.out) hf')
        have HL := Lib.hid (fun n w5 (h : Chg No (wr.drewN n) w5) v (hv : PCv w5 E.bot (f :: k) v) => look3_any E HF.out st f t k V' C hst' hf hbit HT0.out hl1 w5 v m' ((HA3.out.no ((Chg.refl No wr).drewN n)).no h) hv)
        have Htr := Lib.hid htr
        have hta1 := fun w => ta_rule ⟨t, 0, none⟩ w
        have SR := Lib.hid sr
        have FN := Lib.hid (fun n => (show (wr.drewN n).cell? ⟨fb, 4, none⟩ = some (.int .i64 (f : Int)) from fn))
        have C0 := Lib.hid c0
        clear htr hdm hblk ht1 ht2 z0 hd hS' hFf hl1 hbit sr fn
        go_wp2_with (first | (go_at_call 121; refine (getT_s _ _ _ y6 ⟨_, _, _, rfl⟩).mono ?_; rintro e w' ⟨rfl, rfl⟩))
        go_quiet (first | (go_at_call 77; exact qof (getTg_s _ t _ C0.out ⟨_, _, rfl⟩)) | (go_at_call 221; exact qof (ruleIx_s _ sbS _ SR.out)) | (go_at_call 70; exact qofn (HH.out _)))
        go_wp2_with (first | (go_at_call 222; refine (stateNum_s _ _ _ (FN.out _)).mono ?_; rintro e w' ⟨rfl, rfl⟩))
        refine (HSg.out _).mono ?_
        rintro e w5 ⟨rfl, h1, h2⟩
        have hl := HL.out _ w5 h2 _ h1
        have HL5 := Lib.hid hl
        have H2 := Lib.hid h2
        have x5 : w5.cell? ⟨w.heap.size + 1, 0, none⟩ = some (.pointer (some ⟨E.cb, 0, none⟩)) := Chg.keep (((Chg.refl No wr).drewN _).trans h2) x1 (fun h => h)
        clear hl h1 h2
        go_wp2_with fail
        refine HL5.out.mono ?_
        rintro e w6 ⟨rfl, m6, V6, h6, h7, h8⟩
        have H6 := Lib.hid h6
        have H7 := Lib.hid h7
        have H8 := Lib.hid h8
        clear h6 h7 h8
        go_wp2
        go_roundw
        case rel => exact ⟨j + 1, m6, V6, by omega, by go_num, H6.out, HG3.out.next Htr.out H7.out, (HT3.out.trans (TC.no ((Chg.refl No wr).drewN _))).trans ((TC.no H2.out).trans H8.out)⟩
        case measure => simp [intOf]; omega
      | atom to tok =>
        obtain ⟨hto, htok⟩ := hok
        obtain ⟨p3, g3, cc3, hb1, hb2, hb3⟩ := ht3
        obtain ⟨p4, g4, cc4, hb4, hb5, hb6⟩ := ht2
        have e34 : p4 = p3 ∧ g4 = g3 := by
          have h1 := (hb1.uniq (hb4.chg HA3.out.base (fun h => h))).1
          simp at h1
          obtain ⟨rfl⟩ := h1
          have h2 := (hb2.uniq (hb5.chg HA3.out.base (fun h => h))).1
          simp at h2
          exact ⟨rfl, h2.1.symm⟩
        obtain ⟨rfl, rfl⟩ := e34
        have hpB : p4 < E.B := hb5.lt
        have hgB : g4 < E.B := hb6.lt rfl
        have z1 : wr.cell? ⟨g, j, none⟩ = some (.iface TK.atom.ptr (.pointer (some ⟨t, 0, none⟩))) := z0
        have c1 : wr.cell? ⟨t, 1, none⟩ = some (.bool false) := by rw [hb1.cell]; rfl
        have c3 : wr.cell? ⟨t, 3, none⟩ = some (.pointer (some ⟨p4, 0, none⟩)) := by rw [hb1.cell]; rfl
        have HL := Lib.hid (addSet_any wr E.B E.p p4 g4 cc3 m' (.bool false) tok htok HA3.out.look HA3.out.lt hb2 hb3 hpB hgB)
        have HOr := Lib.hid (has_or HA3.out.look.1 htok)
        have Htr := Lib.hid htr
        have hta1 := fun w => ta_norule .atom (by decide) ⟨t, 0, none⟩ w
        have hta2 := fun w => ta_209 .atom (by decide) ⟨t, 0, none⟩ w
        have hta3 := fun w => ta_211 ⟨t, 0, none⟩ w
        have hta4 := fun w => ta_213 ⟨t, 0, none⟩ w
        clear htr hdm hb1 hb2 hb3 hb4 hb5 hb6 ht1 z0 hd hpB hgB htok
        go_wp2_with (first | (go_at_call 121; refine (getT_s _ _ _ y6 ⟨_, _, _, rfl⟩).mono ?_; rintro e w' ⟨rfl, rfl⟩) | (go_at_call 213; refine (isEps_any _ _ _ c1).mono ?_; rintro e w' ⟨rfl, rfl⟩) | (go_at_call 214; refine (getLabel_s _ _ _ c3).mono ?_; rintro e w' ⟨rfl, rfl⟩))
        refine HL.out.mono ?_
        rintro e w5 ⟨rfl, h6, h7⟩
        have H6 := Lib.hid h6
        have H7 := Lib.hid h7
        clear h6 h7
        go_wp2
        go_roundw
        case rel => exact ⟨j + 1, _, V', by omega, by go_num, HA3.out.addTok H7.out H6.out, HG3.out.next Htr.out (Pl.Grow.tok HOr.out), HT3.out.trans (TC.mono H7.out TsL_sub (fun h => by cases h))⟩
        case measure => simp [intOf]; omega
    · have hjj : j = ts.length := by omega
      have hp : E.Post w s k V m C (.returned (.tuple #[])) wr := ⟨rfl, m', V', HA3.out, HG3.out.done (by have := HLen.out; omega) HStop.out, HT2.out.trans HT3.out⟩
      have Hp := Lib.hid hp
      clear hp
      go_wp2
      simp [bodyPostD, Leaves, results, Tryz.results51, go_sem]
      exact Hp.out
end Go.Proofs.YtemdillhbnmjkaaGreatDoor

/- The search: behind a rule's end (51). -/
import Derived.Test.YtemdillhbnmjkaaGreatDoorQ23
import Derived.Deep.RegionHeld3
import Derived.LoopTactic
namespace Go.Proofs.YtemdillhbnmjkaaGreatDoor
open Go.RowKit

theorem stBox1 (w : World) (n : Nat) (u : Value) {o : Obj} : Chg No w (((w.drewN n).alloc o).setCell ⟨w.heap.size, 0, none⟩ u) := Chg.setCell (((Chg.refl No w).drewN _).alloc _) (fun h => absurd h (Nat.lt_irrefl _)) _
theorem stBox2 (w : World) (n : Nat) (u : Value) {o : Obj} : Chg No w (((w.alloc o).drewN n).setCell ⟨w.heap.size, 0, none⟩ u) := Chg.setCell (((Chg.refl No w).alloc _).drewN _) (fun h => absurd h (Nat.lt_irrefl _)) _
theorem bit_restore : ∀ C, C < 64 → ∀ r, r < 6 → (if C.testBit r = true then (C &&& (63 - 2 ^ r)) ||| 2 ^ r else C &&& (63 - 2 ^ r)) = C := by decide +kernel
theorem stBlk1 (w : World) (n : Nat) (x : Bool) : Blk (((w.drewN n).alloc (.cells #[.bool false] 4)).setCell ⟨w.heap.size, 0, none⟩ (.bool x)) w.heap.size #[.bool x] 4 := by
  simpa using (Blk.at_new (w := w.drewN n) (n := w.heap.size) rfl #[.bool false] 4).set 0 (.bool x)
theorem stBlk2 (w : World) (n : Nat) (x : Bool) : Blk (((w.alloc (.cells #[.bool false] 4)).drewN n).setCell ⟨w.heap.size, 0, none⟩ (.bool x)) w.heap.size #[.bool x] 4 := by
  simpa using ((Blk.new w #[.bool false] 4).drewN n).set 0 (.bool x)
set_option maxHeartbeats 2000000 in
set_option maxRecDepth 100000 in
theorem look1_pop (E : Env) (F : E.Fits) (s r f : Nat) (k : List Nat) (V : List Pl.Cfg) (C : Nat) (hst : E.N.stop s = some r) (hf : f < E.ds.length) (hall : (s, f :: k) ∈ E.All) (hin : (s, f :: k) ∉ V)
    (hpop : E.L1 f k ((s, f :: k) :: V) (C &&& (63 - 2 ^ r))) : E.L1 s (f :: k) V C := by
  intro w v m hA hv
  obtain ⟨hr, hsr, hd⟩ := F.stop hst
  have hr6 : r < 6 := Nat.lt_of_lt_of_le hr F.r6
  have hs := (List.getElem?_eq_some_iff.1 hd).1
  obtain ⟨sb, A, cp, tb, hS⟩ := F.net.state hd
  have hdv := hS.val
  obtain ⟨b, v', rfl, hb0, hv'⟩ := id hv
  have hcon := contains_any (E.beg w s (.pointer (some ⟨b, 0, none⟩))) E.bot E.ds E.bs E.B E.jb (w.heap.size + 3) V (s, f :: k) ((F.net.stNum.chg hA.base).chg (E.beg_no ..)) (E.beg_cfg w s (f :: k) _ hs hv) (hA.busy.no (E.beg_no ..))
  rw [decide_eq_false hin] at hcon
  have hput := fun n => E.put F w s (f :: k) (some ⟨b, 0, none⟩) V C m n hs hA hv hin hall
  unfold Env.beg at hcon hput
  simp only at hdv
  rw [hdv] at hcon hput ⊢
  have HC := Lib.hid hcon
  have HP := Lib.hid hput
  have HF := Lib.hid F
  have HSR := Lib.hid hS.rule
  have Hpop := Lib.hid hpop
  have HStop := Lib.hid hst
  have HB0 := Lib.hid hb0
  clear hcon hA hput hv hv' hb0 F hin hd hS hst hall hpop
  have hmf : ∀ (fn : Fn) (first cap : Array Value) (w : World), (Instr.makeFunc fn first cap).run Tryz.prog w = .ok (.func fn first cap) w := fun _ _ _ _ => rfl
  go_enter_defers Tryz.func51, Tryz.ntmps51
  go_wp2_with (first | (go_at_call 66; refine (newCfg_any _ _ _ _).mono ?_; rintro e w' ⟨rfl, rfl⟩))
  refine HC.out.mono ?_
  rintro e w' ⟨rfl, n, rfl⟩
  go_wp2_with fail
  refine (HP.out n).mono ?_
  rintro e w2 ⟨rfl, hA2, hv2, hs2, hc2, ht2⟩
  have x0 : w2.cell? ⟨w.heap.size, 0, none⟩ = some (.iface SK.rstop.ptr (.pointer (some ⟨sb, 0, none⟩))) := by rw [hs2.cell]; rfl
  have x1 : w2.cell? ⟨w.heap.size + 1, 0, none⟩ = some (.pointer (some ⟨E.cb, 0, none⟩)) := by rw [hc2.cell]; rfl
  have b1 : w2.cell? ⟨b, 1, none⟩ = some (.int .i64 1) := by
    obtain ⟨b', v2, he, hb', _⟩ := id hv2
    simp at he
    subst he
    rw [hb'.cell]; rfl
  have hta := fun w => ta_rstop ⟨sb, 0, none⟩ w
  have cr := Chg.keep hA2.base HSR.out (fun h => h)
  have hx0lt := hs2.lt
  have hx1lt := hc2.lt
  have HA2 := Lib.hid hA2
  have HT2 := Lib.hid ht2
  have HV2 := Lib.hid hv2
  have HS2 := Lib.hid hs2
  have HC2 := Lib.hid hc2
  have HH := Lib.hid (fun n => has_any (w2.drewN n) E.B E.cb C r hr6 (hA2.no ((Chg.refl No w2).drewN n)).bits)
  clear hA2 hv2 hs2 hc2 ht2
  go_wp2_with (first | (go_at_call 69; refine (pcEmpty_f _ _ b1).mono ?_; rintro e w' ⟨rfl, rfl⟩))
  have n0 : w2.heap.size ≠ w.heap.size := by omega
  have n1 : w2.heap.size ≠ w.heap.size + 1 := by omega
  have z0 : ∀ n, ((w2.alloc (.cells #[.bool false] 4)).drewN n).cell? ⟨w2.heap.size, 0, none⟩ = some (.bool false) := fun n => by rw [((Blk.new w2 #[.bool false] 4).drewN n).cell]; rfl
  have z1 : ∀ n, ((w2.alloc (.cells #[.bool false] 4)).drewN n).frozen? ⟨w2.heap.size, 0, none⟩ = false := fun n => ((Blk.new w2 #[.bool false] 4).drewN n).fz 0
  have z2 : ∀ n, ((w2.drewN n).alloc (.cells #[.bool false] 4)).cell? ⟨w2.heap.size, 0, none⟩ = some (.bool false) := fun n => by rw [(Blk.at_new (w := w2.drewN n) (n := w2.heap.size) rfl #[.bool false] 4).cell]; rfl
  have z3 : ∀ n, ((w2.drewN n).alloc (.cells #[.bool false] 4)).frozen? ⟨w2.heap.size, 0, none⟩ = false := fun n => (Blk.at_new (w := w2.drewN n) (n := w2.heap.size) rfl #[.bool false] 4).fz 0
  go_region_held3 (fun w' => Chg No w2 w' ∧ w'.cell? ⟨w.heap.size, 0, none⟩ = some (.iface SK.rstop.ptr (.pointer (some ⟨sb, 0, none⟩))) ∧ w'.cell? ⟨w.heap.size + 1, 0, none⟩ = some (.pointer (some ⟨E.cb, 0, none⟩)))
    (refine ⟨?_, ?_, ?_⟩ <;> first | with_reducible assumption | with_reducible exact (Chg.refl No w2).drew | with_reducible exact ((Chg.refl No w2).alloc _).drew | with_reducible exact (Chg.refl No w2).drewN _ | with_reducible exact ((Chg.refl No w2).alloc _).drewN _ | with_reducible exact ((Chg.refl No w2).drewN _).alloc _ | exact stBox1 _ _ _ | exact stBox2 _ _ _ | go_keep)
    (first | (go_at_call 221; refine (ruleIndex_s _ _ _ (Chg.keep (‹Chg No w2 _ ∧ _ ∧ _›).1 cr (fun h => h))).mono ?_; rintro e w' ⟨rfl, rfl⟩) | (go_at_call 70; refine (has_any _ E.B E.cb C r hr6 (HA2.out.no (‹Chg No w2 _ ∧ _ ∧ _›).1).bits).mono ?_; rintro e w' ⟨rfl, n, rfl⟩))
  all_goals
    refine at_world (S := fun wz => Chg No w2 wz ∧ Blk wz w2.heap.size #[.bool (C.testBit r)] 4) ⟨(‹Chg No w2 _ ∧ _ ∧ _›).1, by first | exact stBlk1 _ _ _ | exact stBlk2 _ _ _⟩ ?_
    rintro wz ⟨hz1, hz2⟩
    have hA3 := HA2.out.no hz1
    have hs3 := HS2.out.chg hz1 (fun h => h)
    have hc3 := HC2.out.chg hz1 (fun h => h)
    have hv3 := PCv.chg hz1 (fun _ h => h.elim) HV2.out
    have x0 : wz.cell? ⟨w.heap.size, 0, none⟩ = some (.iface SK.rstop.ptr (.pointer (some ⟨sb, 0, none⟩))) := by rw [hs3.cell]; rfl
    have x1 : wz.cell? ⟨w.heap.size + 1, 0, none⟩ = some (.pointer (some ⟨E.cb, 0, none⟩)) := by rw [hc3.cell]; rfl
    have cr3 := Chg.keep hA3.base HSR.out (fun h => h)
    have HB3 := Lib.hid (remBit_any wz.drew E.B E.cb C r hr6 (hA3.no (Chg.refl No wz).drew).bits)
    have HA3 := Lib.hid hA3
    have HS3 := Lib.hid hs3
    have HC3 := Lib.hid hc3
    have HV3 := Lib.hid hv3
    have HZ1 := Lib.hid hz1
    have HZ2 := Lib.hid hz2
    clear hA3 hs3 hc3 hv3 hz1 hz2
    go_wp2
    refine wp_tail 3 (by kernel_rfl) ?_
    simp only [List.take_succ_cons, List.take_zero, List.drop_succ_cons, List.drop_zero]
    repeat (first | still_step | still_call (ruleIndex_s wz.drew sb _ cr3))
    refine wpStill_nil ?_
    go_wp2_with fail
    refine HB3.out.mono ?_
    rintro e w4 ⟨rfl, h4, h5⟩
    have hA4 := (HA3.out.no (Chg.refl No wz).drew).withBits h5 h4
    have hs4 := TC.blk h5 HS3.out.drew (by decide)
    have hc4 := TC.blk h5 HC3.out.drew (by decide)
    have hz4 := TC.blk h5 HZ2.out.drew (by decide)
    have hv4 : PCv w4 E.bot (f :: k) _ := TC.pc h5 (PCv.chg (Chg.refl No wz).drew (fun _ h => h.elim) HV3.out) (by decide)
    have ht4 : TC TsA true E.B w w4 := (HT2.out.trans (TC.no HZ1.out.drew)).trans (TC.mono h5 TsB_sub (fun h => by cases h))
    have HA4 := Lib.hid hA4
    have HS4 := Lib.hid hs4
    have HC4 := Lib.hid hc4
    have HZ4 := Lib.hid hz4
    have HV4 := Lib.hid hv4
    have HT4 := Lib.hid ht4
    clear hA4 hs4 hc4 hz4 hv4 ht4 h4 h5 x0 x1 cr3
    have f0 : (0 : Int) ≤ ↑f := by omega
    have f1 : (f : Int) < ↑E.ds.length := by omega
    go_wp2
    go_loopw [24] (fun i wr => (i = .int .i64 0 ∧ wr = w4) ∨ (i = .int .i64 1 ∧ ∃ m' V', E.At wr m' V' (C &&& (63 - 2 ^ r)) ∧ Pl.Grow E.N E.bot [] [(f, k)] ((s, f :: k) :: V) V' (fun t => Pl.has m t = true) (fun t => Pl.has m' t = true) ∧ TC TsA true E.B w4 wr)) (fun i _ => 1 - (intOf i).toNat)
    case atStart => exact .inl ⟨rfl, rfl⟩
    case round =>
      rcases hrel with ⟨rfl, rfl⟩ | ⟨rfl, m', V', h6, h7, h8⟩
      · obtain ⟨K2, sb2, hfv⟩ := HF.out.ptr hf
        obtain ⟨g, cpg, hst, hsa⟩ := HF.out.net.states HF.out.n0
        have a0 : wr.cell? ⟨E.la, 0, none⟩ = some (.pointer (some ⟨E.ba, 0, none⟩)) := Chg.keep HA4.out.base (by rw [HF.out.la.cell]; rfl) (fun h => h)
        have a1 : wr.cell? ⟨E.ba, 9, none⟩ = some (.slice (some ⟨g, 0, none⟩) E.ds.length cpg) := Chg.keep HA4.out.base hst (fun h => h)
        have a2 : wr.cell? ⟨g, f, none⟩ = some (dv E.ds E.bs f) := Chg.keep HA4.out.base (hsa f hf) (fun h => h)
        rw [hfv] at a2
        have hb4 : ∃ v2, Blk wr b (ccell E.bot f k v2) 203 := by
          obtain ⟨b', v2, he, hb', _⟩ := id HV4.out
          simp at he
          subst he
          exact ⟨v2, hb'⟩
        obtain ⟨v2, hb4⟩ := hb4
        have c1 : wr.cell? ⟨b, 1, none⟩ = some (.int .i64 1) := by rw [hb4.cell]; rfl
        have c3 : wr.cell? ⟨b, 3, none⟩ = some (.int .i64 (f : Int)) := by rw [hb4.cell]; rfl
        have x1 : wr.cell? ⟨w.heap.size + 1, 0, none⟩ = some (.pointer (some ⟨E.cb, 0, none⟩)) := by rw [HC4.out.cell]; rfl
        have HL := Lib.hid (fun n => look2_any E HF.out f k ((s, f :: k) :: V) (C &&& (63 - 2 ^ r)) hf Hpop.out (wr.drewN n) (.pointer (some ⟨b, 0, none⟩)) m K2 sb2 (HA4.out.no ((Chg.refl No wr).drewN n)) (PCv.chg ((Chg.refl No wr).drewN n) (fun _ h => h.elim) HV4.out))
        clear hst hsa hb4
        go_wp2_with (first | (go_at_call 74; refine (pcLen_s _ _ c1).mono ?_; rintro e w' ⟨rfl, rfl⟩))
        go_quiet ((go_at_call 75; exact qof (pcRet_s _ _ _ _ c1 c3)))
        go_wp2_with fail
        refine (HL.out _).mono ?_
        rintro e w5 ⟨rfl, m', V', h6, h7, h8⟩
        have H6 := Lib.hid h6
        have H7 := Lib.hid h7
        have H8 := Lib.hid h8
        clear h6 h7 h8
        go_wp2
        go_roundw
        case rel => exact .inr ⟨rfl, m', V', H6.out, H7.out, (TC.no ((Chg.refl No wr).drewN _)).trans H8.out⟩
        case measure => simp [intOf]
      · have hv5 : PCv wr E.bot (f :: k) _ := TC.pc h8 HV4.out (by decide)
        have c1 : wr.cell? ⟨b, 1, none⟩ = some (.int .i64 1) := by
          obtain ⟨b', v2, he, hb', _⟩ := id hv5
          simp at he
          subst he
          rw [hb'.cell]; rfl
        have hs5 := TC.blk h8 HS4.out (by decide)
        have hc5 := TC.blk h8 HC4.out (by decide)
        have hz5 := TC.blk h8 HZ4.out (by decide)
        have x0 : wr.cell? ⟨w.heap.size, 0, none⟩ = some (.iface SK.rstop.ptr (.pointer (some ⟨sb, 0, none⟩))) := by rw [hs5.cell]; rfl
        have x1 : wr.cell? ⟨w.heap.size + 1, 0, none⟩ = some (.pointer (some ⟨E.cb, 0, none⟩)) := by rw [hc5.cell]; rfl
        have x2 : wr.cell? ⟨w2.heap.size, 0, none⟩ = some (.bool (C.testBit r)) := by rw [hz5.cell]; rfl
        have cr5 := Chg.keep h6.base HSR.out (fun h => h)
        have HU := Lib.hid (redo_any .returning wr E.B w2.heap.size (w.heap.size + 1) w.heap.size sb E.cb (C &&& (63 - 2 ^ r)) r SK.rstop (C.testBit r) hr6 x2 x1 x0 cr5 h6.bits h6.lt)
        have H6 := Lib.hid h6
        have H7 := Lib.hid h7
        have H8 := Lib.hid h8
        clear h6 h7 h8 hv5 hs5 hc5 hz5 x0 x1 x2 cr5
        go_wp2_with (first | (go_at_call 74; refine (pcLen_s _ _ c1).mono ?_; rintro e w' ⟨rfl, rfl⟩))
        show Leaves _ _ _ _ _ _ _
        refine leaves_cons (f := 71) (args := #[.pointer (some ⟨w2.heap.size, 0, none⟩), .pointer (some ⟨w.heap.size + 1, 0, none⟩), .pointer (some ⟨w.heap.size, 0, none⟩)]) (by simp) (by simp [go_sem]) ?_
        refine HU.out.mono ?_
        rintro e u' w5 ⟨rfl, rfl, h8, h9⟩
        rw [bit_restore C HA2.out.bits.1 r hr6] at h8
        have hp : E.Post w s (f :: k) V m C (.returned (.tuple #[])) w5 := ⟨rfl, m', V', H6.out.withBits h9 h8, H7.out.pop HStop.out, HT4.out.trans (H8.out.trans (TC.mono h9 TsB_sub (fun h => by cases h)))⟩
        simp [Leaves, settle, results, Tryz.results51, go_sem]
        exact hp
end Go.Proofs.YtemdillhbnmjkaaGreatDoor

/- An interval is put into a row of intervals, whatever it covers (99). · Sets of tokens: whether one has a token (59). -/
import Derived.Test.YtemdillhbnmjkaaGreatDoorQ21
import Derived.Test.YtemdillhbnmjkaaGreatDoorQ42
namespace Go.Proofs.YtemdillhbnmjkaaGreatDoor
open Go.RowKit

theorem addI_in {i j v : Pl.Iv} (r : List Pl.Iv) (h1 : ¬ v.2 < i.1) (h2 : ¬ v.2 = i.1) (h3 : v.1 ≤ i.2) (h4 : j.2 ≤ max i.2 v.2) : Pl.addI (i :: j :: r) v = (min i.1 v.1, max i.2 v.2) :: r := by
  unfold Pl.addI
  rw [if_neg h1, if_neg h2, if_pos h3]
  simp only
  rw [if_pos h4]
set_option maxHeartbeats 4000000 in
set_option maxRecDepth 100000 in
theorem addI_gen (w : World) (p g c : Nat) (ro : Bool) (a b : Int) (l : List Pl.Iv) (hp : Blk w p #[.slice (some ⟨g, 0, none⟩) l.length c, .bool ro] 145) (hl : Own w 104 2 (.slice (some ⟨g, 0, none⟩) l.length c) l.length (l.flatMap iv2))
    (hln : l.length < 1000) (hb : ∀ i ∈ l, -1000 ≤ i.1 ∧ i.1 ≤ 1000 ∧ -1000 ≤ i.2 ∧ i.2 ≤ 1000) (_ : -1000 ≤ a) (_ : a ≤ 1000) (_ : -1000 ≤ b) (_ : b ≤ 1000) :
    Calls Tryz.prog 99 #[.pointer (some ⟨p, 0, none⟩), .agg #[.int .i64 a, .int .i64 b]] w fun e w' => e = .returned (.tuple #[]) ∧
      ∃ g' c', Blk w' p #[.slice (some ⟨g', 0, none⟩) (Pl.addI l (a, b)).length c', .bool ro] 145 ∧ Own w' 104 2 (.slice (some ⟨g', 0, none⟩) (Pl.addI l (a, b)).length c') (Pl.addI l (a, b)).length ((Pl.addI l (a, b)).flatMap iv2) ∧
        Chg (fun k => k = p ∨ k = g) w w' ∧ (g' = g ∨ w.heap.size ≤ g') := by
  have c0 : w.cell? ⟨p, 0, none⟩ = some (.slice (some ⟨g, 0, none⟩) l.length c) := by rw [hp.cell]; rfl
  have hplt := hp.lt
  have heq := fun (w : World) (x : Option Addr) (l c : Nat) => Lib.run_eql_slice_nil (P := Tryz.prog) w 102 104 x l c 0 0 Tryz.underlying102
  have HP := Lib.hid hp
  have HL := Lib.hid hl
  have HB := Lib.hid hb
  clear hp hl hb
  go_enter Tryz.func99, Tryz.ntmps99
  go_wp2
  go_loopw [32] (fun i wr => ∃ k : Nat, k ≤ l.length ∧ i = .int .i64 (k : Int) ∧ Chg No (w.alloc (.cells #[.int .i64 a, .int .i64 b] 104)) wr ∧ ∀ i ∈ l.take k, Pass (a, b) i) (fun i _ => l.length - (intOf i).toNat)
  case atStart => exact ⟨0, Nat.zero_le _, rfl, Chg.refl _ _, by simp⟩
  case round =>
    obtain ⟨k, hk, rfl, hch, hpass⟩ := hrel
    have hpr := ((HP.out.alloc (.cells #[.int .i64 a, .int .i64 b] 104)).chg hch (fun h => h))
    have hlr := ((HL.out.no ((Chg.refl No w).alloc (.cells #[.int .i64 a, .int .i64 b] 104))).no hch)
    have hbr := (Blk.new w #[.int .i64 a, .int .i64 b] 104).chg hch (fun h => h)
    have p0 : wr.cell? ⟨p, 0, none⟩ = some (.slice (some ⟨g, 0, none⟩) l.length c) := by rw [hpr.cell]; rfl
    have p0f := hpr.fz 0
    have x0 : wr.cell? ⟨w.heap.size, 0, none⟩ = some (.int .i64 a) := by rw [hbr.cell]; rfl
    have x1 : wr.cell? ⟨w.heap.size, 1, none⟩ = some (.int .i64 b) := by rw [hbr.cell]; rfl
    have xlt := hbr.lt
    have plt := hpr.lt
    have HCh := Lib.hid hch
    have HPass := Lib.hid hpass
    have HPr := Lib.hid hpr
    have HLr := Lib.hid hlr
    have HBr := Lib.hid hbr
    clear hch hpass hpr hlr hbr
    by_cases hlt : k < l.length
    · obtain ⟨i, hi⟩ : ∃ i, l[k]? = some i := ⟨_, List.getElem?_eq_getElem hlt⟩
      have him := HB.out i (List.mem_of_getElem? hi)
      obtain ⟨i1, i2⟩ := i
      simp only at him
      obtain ⟨b1, b2, b3, b4⟩ := him
      have y0 : wr.cell? ⟨g, k * 2, none⟩ = some (.int .i64 i1) := HLr.out.cellAt (ivs_at hi).1
      have y1 : wr.cell? ⟨g, k * 2 + 1, none⟩ = some (.int .i64 i2) := HLr.out.cellAt (ivs_at hi).2
      have glt := World.block_lt_of_cell? wr _ y0
      simp only at glt
      have HI := Lib.hid hi
      clear hi
      have hp1 := HPr.out.alloc (.cells #[.int .i64 i1, .int .i64 i2] 104)
      have hl1 := HLr.out.no ((Chg.refl No wr).alloc (.cells #[.int .i64 i1, .int .i64 i2] 104))
      have hb1 := HBr.out.alloc (.cells #[.int .i64 i1, .int .i64 i2] 104)
      have he1 := Blk.new wr #[.int .i64 i1, .int .i64 i2] 104
      have hc1 := HCh.out.alloc (.cells #[.int .i64 i1, .int .i64 i2] 104)
      have hdrop : l.drop k = (i1, i2) :: l.drop (k + 1) := by rw [List.drop_eq_getElem_cons hlt]; have := HI.out; rw [List.getElem?_eq_getElem hlt] at this; simp at this; rw [this]
      have hadd := addI_pass (a, b) l k HPass.out
      rw [hdrop] at hadd
      have HP1 := Lib.hid hp1
      have HL1 := Lib.hid hl1
      have HB1 := Lib.hid hb1
      have HE1 := Lib.hid he1
      have HC1 := Lib.hid hc1
      have HD := Lib.hid hdrop
      have HA := Lib.hid hadd
      clear hp1 hl1 hb1 he1 hc1 hdrop hadd
      by_cases h1 : b < i1
      · go_wp2
        clear p0 x0 x1 y0 y1 p0f
        generalize wr.alloc (.cells #[.int .i64 i1, .int .i64 i2] 104) = wx at *
        have p0 : wx.cell? ⟨p, 0, none⟩ = some (.slice (some ⟨g, 0, none⟩) l.length c) := by rw [HP1.out.cell]; rfl
        have x0 : wx.cell? ⟨w.heap.size, 0, none⟩ = some (.int .i64 a) := by rw [HB1.out.cell]; rfl
        have x1 : wx.cell? ⟨w.heap.size, 1, none⟩ = some (.int .i64 b) := by rw [HB1.out.cell]; rfl
        have plt := HP1.out.lt
        have xlt := HB1.out.lt
        have hlc : l.length ≤ c := by
          rcases HL1.out.2 with ⟨h2, _⟩ | ⟨g', cap, cur, hv, hb, hg, h1, h2, h3, h4⟩
          · cases h2
          · simp at hv; omega
        have k0 : (0 : Int) ≤ ↑k := by omega
        have k1 : (k : Int) ≤ ↑l.length := by omega
        have k2 : (k : Int) ≤ ↑c := by omega
        have k3 : (l.length : Int) ≤ ↑c := by omega
        have k4 : ¬ c = k := by omega
        go_region_law
          (first
            | (refine step_app et102 rfl _ _ rfl (.slice (some ⟨wx.heap.size, 0, none⟩) 1 1) 1 [.int .i64 a, .int .i64 b] rfl ?_ ⟨g, k * 2, none⟩ (l.length - k) (c - k) rfl ((l.drop k).flatMap iv2) ?_ ?_ ?_ (ivs_one _) ?_ ?_ ?_; exact (Own.one wx [.int .i64 a, .int .i64 b] 104 2 rfl).no (Chg.refl No _).drew; exact ivs_cells (HL1.out.no ((Chg.refl No wx).alloc _).drew); rw [ivs_len, List.length_drop]; omega; omega; omega; omega; intro g1 c1 w1 e1 e2 e3; have hgne : g1 ≠ g := (by have := HL1.out.lt (k := g) rfl; rcases e3 with e3 | e3; (simp [Value.ownBlock] at e3; omega); (simp at e3; omega)); have hP2 := (HP1.out.alloc (.cells #[.int .i64 a, .int .i64 b] 104)).drew.chg (Chg.grownBy e2) (fun e => by simp [Value.ownBlock] at e; omega); have hL2 := (HL1.out.no ((Chg.refl No wx).alloc (.cells #[.int .i64 a, .int .i64 b] 104)).drew).chg (Chg.grownBy e2) (fun k hk e => by simp [Value.ownBlock] at hk e; have := HL1.out.lt (k := g) rfl; omega); have hB2 := (HB1.out.alloc (.cells #[.int .i64 a, .int .i64 b] 104)).drew.chg (Chg.grownBy e2) (fun e => by simp [Value.ownBlock] at e; omega); have q1 : w1.cell? ⟨w.heap.size, 0, none⟩ = some (.int .i64 a) := (by rw [hB2.cell]; rfl); have q2 : w1.cell? ⟨w.heap.size, 1, none⟩ = some (.int .i64 b) := (by rw [hB2.cell]; rfl); have HB2 := Lib.hid hB2; clear hB2; have q0 : w1.cell? ⟨p, 0, none⟩ = some (.slice (some ⟨g, 0, none⟩) l.length c) := (by rw [hP2.cell]; rfl); have HX := Lib.hid e1; have HG := Lib.hid e2; have HP2 := Lib.hid hP2; have HL2 := Lib.hid hL2; have Hgne := Lib.hid hgne; clear e1 e2 e3 hP2 hL2 hgne)
            | (refine step_app et102 rfl _ _ rfl (.slice (some ⟨g, 0, none⟩) k c) k ((l.take k).flatMap iv2) rfl ?_ ⟨g1, 0, none⟩ (1 + (l.length - k)) c1 rfl ([.int .i64 a, .int .i64 b] ++ (l.drop k).flatMap iv2) ?_ ?_ ?_ ?_ ?_ ?_ ?_; (rw [← ivs_take]; exact HL2.out.front hk); exact HX.out.cellsAt; (rw [List.length_append, ivs_len, List.length_drop]; simp; omega); omega; (intro u hu; rw [List.mem_append] at hu; rcases hu with hu | hu; (simp at hu; rcases hu with rfl | rfl <;> rfl); exact ivs_one _ u hu); omega; omega; intro g2 c2 w2 e1 e2 e3; have hP3 := HP2.out.chg (Chg.grownBy e2) (fun e => HL2.out.ne HP2.out (by decide) e.symm); have hB3 := HB2.out.chg (Chg.grownBy e2) (fun e => by simp [Value.ownBlock] at e; have := HL.out.lt (k := g) rfl; omega); have r1 : w2.cell? ⟨w.heap.size, 0, none⟩ = some (.int .i64 a) := (by rw [hB3.cell]; rfl); have r2 : w2.cell? ⟨w.heap.size, 1, none⟩ = some (.int .i64 b) := (by rw [hB3.cell]; rfl); clear hB3; have r0 : w2.cell? ⟨p, 0, none⟩ = some (.slice (some ⟨g, 0, none⟩) l.length c) := (by rw [hP3.cell]; rfl); have f0 := hP3.fz 0; have HY := Lib.hid e1; have HG2 := Lib.hid e2; have HP3 := Lib.hid hP3; have HE3 := Lib.hid e3; clear e1 e2 e3 hP3))
        all_goals
          go_wp2
          refine bodyPost_ret (results_none rfl _ _ _) rfl ⟨rfl, ?_⟩
          rw [HA.out, show Pl.addI ((i1, i2) :: l.drop (k + 1)) (a, b) = (a, b) :: l.drop k by rw [HD.out]; simp [Pl.addI, h1]]
          refine fin_store HP3.out ?_ ?_ ?_ ?_
          · rw [List.flatMap_append, List.flatMap_cons]; exact HY.out
          · refine Chg.grown ?_ HG2.out ?_
            · refine Chg.grown (((Chg.mono (((Chg.refl No w).alloc _).trans HC1.out) (fun _ _ h => h.elim)).alloc _).drew) HG.out ?_
              intro k hk hlt; simp [Value.ownBlock] at hk; omega
            · intro k hk hlt; simp [Value.ownBlock] at hk; exact .inr hk.symm
          · rcases HE3.out with h | h
            · simp [Value.ownBlock] at h; exact .inl h.symm
            · have := HG.out.size; simp at this; omega
          · rw [List.length_append, List.length_take, List.length_cons, List.length_drop]; omega
      · by_cases h2 : b = i1
        · subst h2
          go_wp2
          clear p0 x0 x1 y0 y1 p0f
          generalize wr.alloc (.cells #[.int .i64 b, .int .i64 i2] 104) = wx at *
          have p0 : wx.cell? ⟨p, 0, none⟩ = some (.slice (some ⟨g, 0, none⟩) l.length c) := by rw [HP1.out.cell]; rfl
          have x0 : wx.cell? ⟨w.heap.size, 0, none⟩ = some (.int .i64 a) := by rw [HB1.out.cell]; rfl
          have y0 : wx.cell? ⟨g, k * 2, none⟩ = some (.int .i64 b) := HL1.out.cellAt (ivs_at HI.out).1
          have yf := HL1.out.fz (k * 2)
          have plt := HP1.out.lt
          have xlt := HB1.out.lt
          have gp : p ≠ g := fun e => HL1.out.ne HP1.out (by decide) (by rw [e]; rfl)
          have gx : w.heap.size ≠ g := by have := HL.out.lt (k := g) rfl; omega
          refine wp_tail 9 (by kernel_rfl) ?_
          simp only [List.take_succ_cons, List.take_zero, List.drop_succ_cons, List.drop_zero]
          repeat still_step
          refine wpStill_nil ?_
          go_wp2
          refine bodyPost_ret (results_none rfl _ _ _) rfl ⟨rfl, ?_⟩
          rw [HA.out, show Pl.addI ((b, i2) :: l.drop (k + 1)) (a, b) = (a, i2) :: l.drop (k + 1) by simp [Pl.addI], ← set_split hlt, List.length_set, ← ivs_set l k (b, i2) a HI.out]
          refine ⟨g, c, ?_, ?_, ?_, .inl rfl⟩
          · exact HP1.out.drew.other gp _
          · exact (HL1.out.no (Chg.refl No wx).drew).set2 _
          · exact Chg.setCell (p := ⟨g, k * 2, none⟩) ((Chg.mono (((Chg.refl No w).alloc _).trans HC1.out) (fun _ _ h => h.elim)).drew) (fun _ => .inr rfl) _
        · by_cases h3 : a ≤ i2
          · go_wp2
            clear p0 x0 x1 y0 y1 p0f
            generalize hq : wr.heap.size = q at *
            generalize wr.alloc (.cells #[.int .i64 i1, .int .i64 i2] 104) = wx at *
            have p0 : wx.cell? ⟨p, 0, none⟩ = some (.slice (some ⟨g, 0, none⟩) l.length c) := by rw [HP1.out.cell]; rfl
            have x0 : wx.cell? ⟨w.heap.size, 0, none⟩ = some (.int .i64 a) := by rw [HB1.out.cell]; rfl
            have x1 : wx.cell? ⟨w.heap.size, 1, none⟩ = some (.int .i64 b) := by rw [HB1.out.cell]; rfl
            have e0 : wx.cell? ⟨q, 0, none⟩ = some (.int .i64 i1) := by rw [HE1.out.cell]; rfl
            have e1 : wx.cell? ⟨q, 1, none⟩ = some (.int .i64 i2) := by rw [HE1.out.cell]; rfl
            have y0 : wx.cell? ⟨g, k * 2, none⟩ = some (.int .i64 i1) := HL1.out.cellAt (ivs_at HI.out).1
            have yf := HL1.out.fz (k * 2)
            have y1 : wx.cell? ⟨g, k * 2 + 1, none⟩ = some (.int .i64 i2) := HL1.out.cellAt (ivs_at HI.out).2
            have yf1 := HL1.out.fz (k * 2 + 1)
            have plt := HP1.out.lt
            have xlt := HB1.out.lt
            have glt : g < wx.heap.size := HL1.out.lt (k := g) rfl
            have z0 := fun o => (show (wx.alloc o).drew.cell? ⟨g, k * 2, none⟩ = some (.int .i64 i1) from (HL1.out.no ((Chg.refl No wx).alloc o)).cellAt (ivs_at HI.out).1)
            have z1 := fun o => (show (wx.alloc o).drew.cell? ⟨g, k * 2 + 1, none⟩ = some (.int .i64 i2) from (HL1.out.no ((Chg.refl No wx).alloc o)).cellAt (ivs_at HI.out).2)
            have z2 := fun o => (show (wx.alloc o).drew.frozen? ⟨g, k * 2, none⟩ = false from (HL1.out.no ((Chg.refl No wx).alloc o)).fz _)
            have z3 := fun o => (show (wx.alloc o).drew.frozen? ⟨g, k * 2 + 1, none⟩ = false from (HL1.out.no ((Chg.refl No wx).alloc o)).fz _)
            have gp : g ≠ p := fun e => HL1.out.ne HP1.out (by decide) (by rw [← e]; rfl)
            have gx : g ≠ w.heap.size := by have := HL.out.lt (k := g) rfl; omega
            have gq : g ≠ q := by have := HLr.out.lt (k := g) rfl; omega
            go_region_held3 (fun w' => w'.cell? ⟨p, 0, none⟩ = some (.slice (some ⟨g, 0, none⟩) l.length c) ∧ w'.cell? ⟨w.heap.size, 0, none⟩ = some (.int .i64 a) ∧ w'.cell? ⟨w.heap.size, 1, none⟩ = some (.int .i64 b) ∧ w'.cell? ⟨q, 0, none⟩ = some (.int .i64 i1) ∧ w'.cell? ⟨q, 1, none⟩ = some (.int .i64 i2))
              (first | (refine ⟨?_, ?_, ?_, ?_, ?_⟩ <;> first | assumption | go_keep) | go_keep)
              (first | (go_at_call 126; refine (intMin_any _ _ _).mono ?_; rintro e w' ⟨rfl, rfl⟩) | (go_at_call 127; refine (intMax_any _ _ _).mono ?_; rintro e w' ⟨rfl, rfl⟩) | (go_at_call 100; refine (newInterval_any _ _ _).mono ?_; rintro e w' ⟨rfl, rfl⟩))
            all_goals
              have hL2 := ((HL1.out.set2 (i := k * 2) (.int .i64 (min i1 a))).set2 (i := k * 2 + 1) (.int .i64 (max i2 b))).no ((Chg.refl No _).alloc (.cells #[.int .i64 (min i1 a), .int .i64 (max i2 b)] 104)).drew
              rw [ivs_both HI.out] at hL2
              have hP2 := ((((HP1.out.other (a := ⟨g, k * 2, none⟩) (Ne.symm gp) (.int .i64 (min i1 a))).other (a := ⟨g, k * 2 + 1, none⟩) (Ne.symm gp) (.int .i64 (max i2 b))).alloc (.cells #[.int .i64 (min i1 a), .int .i64 (max i2 b)] 104))).drew
              have hC2 := (((((Chg.mono (S' := fun k => k = p ∨ k = g) (((Chg.refl No w).alloc _).trans HC1.out) (fun _ _ h => h.elim)).setCell (p := ⟨g, k * 2, none⟩) (fun _ => .inr rfl) (.int .i64 (min i1 a))).setCell (p := ⟨g, k * 2 + 1, none⟩) (fun _ => .inr rfl) (.int .i64 (max i2 b))).alloc (.cells #[.int .i64 (min i1 a), .int .i64 (max i2 b)] 104))).drew
              generalize (((wx.setCell ⟨g, k * 2, none⟩ (.int .i64 (min i1 a))).setCell ⟨g, k * 2 + 1, none⟩ (.int .i64 (max i2 b))).alloc (.cells #[.int .i64 (min i1 a), .int .i64 (max i2 b)] 104)).drew = wy at *
              clear p0 x0 x1 e0 e1 y0 y1 yf yf1 z0 z1 z2 z3 plt xlt glt
              have hkl : (l.set k (min i1 a, max i2 b))[k]? = some (min i1 a, max i2 b) := by rw [List.getElem?_set_self hlt]
              have p0 : wy.cell? ⟨p, 0, none⟩ = some (.slice (some ⟨g, 0, none⟩) l.length c) := by rw [hP2.cell]; rfl
              have y0 : wy.cell? ⟨g, k * 2, none⟩ = some (.int .i64 (min i1 a)) := hL2.cellAt (ivs_at hkl).1
              have y1 : wy.cell? ⟨g, k * 2 + 1, none⟩ = some (.int .i64 (max i2 b)) := hL2.cellAt (ivs_at hkl).2
              have plt := hP2.lt
              have glt : g < wy.heap.size := hL2.lt (k := g) rfl
              have HP2 := Lib.hid hP2
              have HL2 := Lib.hid hL2
              have HC2 := Lib.hid hC2
              clear hP2 hL2 hC2
              by_cases h4 : k + 1 < l.length
              · obtain ⟨j, hj⟩ : ∃ j, l[k + 1]? = some j := ⟨_, List.getElem?_eq_getElem h4⟩
                obtain ⟨j1, j2⟩ := j
                by_cases hM : max i2 b < j2
                · have hjl : (l.set k (min i1 a, max i2 b))[k + 1]? = some (j1, j2) := by rw [List.getElem?_set_ne (by omega)]; exact hj
                  have w0 : wy.cell? ⟨g, (k + 1) * 2, none⟩ = some (.int .i64 j1) := HL2.out.cellAt (ivs_at hjl).1
                  have w1 : wy.cell? ⟨g, (k + 1) * 2 + 1, none⟩ = some (.int .i64 j2) := HL2.out.cellAt (ivs_at hjl).2
                  have hM' : ¬ j2 ≤ max i2 b := by omega
                  have hdj : l.drop (k + 1) = (j1, j2) :: l.drop (k + 1 + 1) := by rw [List.drop_eq_getElem_cons h4]; have := hj; rw [List.getElem?_eq_getElem h4] at this; simp at this; rw [this]
                  have HDJ := Lib.hid hdj
                  have HJ := Lib.hid hj
                  have HJL := Lib.hid hjl
                  have HKL := Lib.hid hkl
                  clear hj hjl hdj
                  by_cases h5 : j1 ≤ max i2 b
                  · go_wp2
                    have hp3 := (HP2.out.alloc (.cells #[.int .i64 (min i1 a), .int .i64 (max i2 b)] 104)).alloc (.cells #[.int .i64 j1, .int .i64 j2] 104)
                    have hl3 := HL2.out.no (((Chg.refl No wy).alloc (.cells #[.int .i64 (min i1 a), .int .i64 (max i2 b)] 104)).alloc (.cells #[.int .i64 j1, .int .i64 j2] 104))
                    have hc3 := ((HC2.out.alloc (.cells #[.int .i64 (min i1 a), .int .i64 (max i2 b)] 104)).alloc (.cells #[.int .i64 j1, .int .i64 j2] 104))
                    have hx3 := (Blk.new wy #[.int .i64 (min i1 a), .int .i64 (max i2 b)] 104).alloc (.cells #[.int .i64 j1, .int .i64 j2] 104)
                    have hy3 := Blk.at_new (w := wy.alloc (.cells #[.int .i64 (min i1 a), .int .i64 (max i2 b)] 104)) (n := wy.heap.size + 1) (by simp) #[.int .i64 j1, .int .i64 j2] 104
                    clear p0 y0 y1 w0 w1
                    have hgx : g ≠ wy.heap.size := by omega
                    have hgy : g ≠ wy.heap.size + 1 := by omega
                    generalize wy.heap.size + 1 = qy at *
                    generalize wy.heap.size = qx at *
                    generalize (wy.alloc (.cells #[.int .i64 (min i1 a), .int .i64 (max i2 b)] 104)).alloc (.cells #[.int .i64 j1, .int .i64 j2] 104) = wz at *
                    clear plt glt
                    have hkl2 : (l.set k (min i1 a, j2))[k]? = some (min i1 a, j2) := by rw [List.getElem?_set_self hlt]
                    have p0 : wz.cell? ⟨p, 0, none⟩ = some (.slice (some ⟨g, 0, none⟩) l.length c) := by rw [hp3.cell]; rfl
                    have x0 : wz.cell? ⟨qx, 0, none⟩ = some (.int .i64 (min i1 a)) := by rw [hx3.cell]; rfl
                    have y1 : wz.cell? ⟨qy, 1, none⟩ = some (.int .i64 j2) := by rw [hy3.cell]; rfl
                    have z0 := fun o => (show (wz.alloc o).drew.cell? ⟨g, k * 2, none⟩ = some (.int .i64 (min i1 a)) from (hl3.no ((Chg.refl No wz).alloc o)).cellAt (ivs_at hkl).1)
                    have z1 := fun o => (show (wz.alloc o).drew.cell? ⟨g, k * 2 + 1, none⟩ = some (.int .i64 (max i2 b)) from (hl3.no ((Chg.refl No wz).alloc o)).cellAt (ivs_at hkl).2)
                    have z2 := fun o => (show (wz.alloc o).drew.frozen? ⟨g, k * 2, none⟩ = false from (hl3.no ((Chg.refl No wz).alloc o)).fz _)
                    have z3 := fun o => (show (wz.alloc o).drew.frozen? ⟨g, k * 2 + 1, none⟩ = false from (hl3.no ((Chg.refl No wz).alloc o)).fz _)
                    have t0 : wz.cell? ⟨g, k * 2, none⟩ = some (.int .i64 (min i1 a)) := hl3.cellAt (ivs_at hkl).1
                    have t1 : wz.cell? ⟨g, k * 2 + 1, none⟩ = some (.int .i64 (max i2 b)) := hl3.cellAt (ivs_at hkl).2
                    have t2 := hl3.fz (k * 2)
                    have t3 := hl3.fz (k * 2 + 1)
                    have glt : g < wz.heap.size := hl3.lt (k := g) rfl
                    have plt := hp3.lt
                    have xlt := hx3.lt
                    have ylt := hy3.lt
                    have HP3 := Lib.hid hp3
                    have HL3 := Lib.hid hl3
                    have HC3 := Lib.hid hc3
                    clear hp3 hl3 hc3 hx3 hy3
                    go_region_held3 (fun w' => w'.cell? ⟨p, 0, none⟩ = some (.slice (some ⟨g, 0, none⟩) l.length c) ∧ w'.cell? ⟨qx, 0, none⟩ = some (.int .i64 (min i1 a)) ∧ w'.cell? ⟨qy, 1, none⟩ = some (.int .i64 j2))
                      (first | (refine ⟨?_, ?_, ?_⟩ <;> first | assumption | go_keep) | go_keep)
                      (first | (go_at_call 100; refine (newInterval_any _ _ _).mono ?_; rintro e w' ⟨rfl, rfl⟩))
                    all_goals
                      have hL4 := ((HL3.out.set2 (i := k * 2) (.int .i64 (min i1 a))).set2 (i := k * 2 + 1) (.int .i64 j2)).no ((Chg.refl No _).alloc (.cells #[.int .i64 (min i1 a), .int .i64 j2] 104)).drew
                      rw [ivs_both HKL.out, List.set_set] at hL4
                      have hP4 := ((((HP3.out.other (a := ⟨g, k * 2, none⟩) (Ne.symm gp) (.int .i64 (min i1 a))).other (a := ⟨g, k * 2 + 1, none⟩) (Ne.symm gp) (.int .i64 j2)).alloc (.cells #[.int .i64 (min i1 a), .int .i64 j2] 104))).drew
                      have hC4 := ((((HC3.out.setCell (p := ⟨g, k * 2, none⟩) (fun _ => .inr rfl) (.int .i64 (min i1 a))).setCell (p := ⟨g, k * 2 + 1, none⟩) (fun _ => .inr rfl) (.int .i64 j2)).alloc (.cells #[.int .i64 (min i1 a), .int .i64 j2] 104))).drew
                      generalize (((wz.setCell ⟨g, k * 2, none⟩ (.int .i64 (min i1 a))).setCell ⟨g, k * 2 + 1, none⟩ (.int .i64 j2)).alloc (.cells #[.int .i64 (min i1 a), .int .i64 j2] 104)).drew = wv at *
                      clear p0 x0 y1 z0 z1 z2 z3 t0 t1 t2 t3 plt xlt ylt glt
                      have p0 : wv.cell? ⟨p, 0, none⟩ = some (.slice (some ⟨g, 0, none⟩) l.length c) := by rw [hP4.cell]; rfl
                      have plt := hP4.lt
                      have hlc : l.length ≤ c := by
                        rcases hL4.2 with ⟨h2, _⟩ | ⟨g', cap, cur, hv, hb, hg, h1, h2, h3, h4⟩
                        · cases h2
                        · simp at hv; omega
                      have HP4 := Lib.hid hP4
                      have HL4 := Lib.hid hL4
                      have HC4 := Lib.hid hC4
                      clear hP4 hL4 hC4
                      have hdrop2 : (l.set k (min i1 a, j2)).drop (k + 2) = l.drop (k + 1 + 1) := by rw [List.drop_set, if_pos (by omega)]
                      have htake2 : (l.set k (min i1 a, j2)).take (k + 1) = l.take k ++ [(min i1 a, j2)] := by rw [set_split hlt, List.take_append, List.length_take, Nat.min_eq_left (by omega), List.take_of_length_le (by rw [List.length_take]; omega), show k + 1 - k = 1 by omega]; rfl
                      have HD2 := Lib.hid hdrop2
                      have HT2 := Lib.hid htake2
                      clear hdrop2 htake2
                      have k0 : (0 : Int) ≤ ↑k + 1 := by omega
                      have k1 : (k : Int) + 1 ≤ ↑c := by omega
                      have k2 : (0 : Int) ≤ ↑k + 2 := by omega
                      have k3 : (k : Int) + 2 ≤ ↑l.length := by omega
                      have k4 : (l.length : Int) ≤ ↑c := by omega
                      have k5 : IntKind.i64.wrap ((k : Int) + 1) = ↑k + 1 := by rw [IntKind.wrap_i64]; omega
                      have k6 : IntKind.i64.wrap ((k : Int) + 2) = ↑k + 2 := by rw [IntKind.wrap_i64]; omega
                      have k7 : ((k : Int) + 1).toNat = k + 1 := by omega
                      have k8 : ((k : Int) + 2).toNat = k + 2 := by omega
                      go_wp2
                      by_cases hc : c = k + 2
                      · subst hc
                        go_region_law (refine step_app et102 rfl _ _ rfl (.slice (some ⟨g, 0, none⟩) (k + 1) (k + 2)) (k + 1) (((l.set k (min i1 a, j2)).take (k + 1)).flatMap iv2) rfl ?_ ⟨g, 0, none⟩ 0 0 rfl [] ?_ rfl ?_ ?_ ?_ ?_ ?_; (rw [← ivs_take]; exact HL4.out.front (by omega)); (intro j u hu; simp at hu); omega; (intro u hu; simp at hu); omega; omega; intro g2 c2 w2 e1 e2 e3; have hP3 := HP4.out.drew.chg (Chg.grownBy e2) (fun e => HL4.out.ne HP4.out (by decide) e.symm); have r0 : w2.cell? ⟨p, 0, none⟩ = some (.slice (some ⟨g, 0, none⟩) l.length (k + 2)) := (by rw [hP3.cell]; rfl); have f0 := hP3.fz 0; have HY := Lib.hid e1; have HG2 := Lib.hid e2; have HP5 := Lib.hid hP3; have HE3 := Lib.hid e3; clear e1 e2 e3 hP3)
                        all_goals
                          go_wp2
                          refine bodyPost_ret (results_none rfl _ _ _) rfl ⟨rfl, ?_⟩
                          rw [HA.out, HDJ.out, addI_join (i := (i1, i2)) (j := (j1, j2)) (v := (a, b)) _ (by show ¬ b < i1; omega) h2 h3 (by show ¬ j2 ≤ max i2 b; omega) (by show j1 ≤ max i2 b; omega)]
                          refine fin_store HP5.out ?_ ?_ ?_ ?_
                          · rw [show l.take k ++ (min (i1, i2).1 (a, b).1, (j1, j2).2) :: l.drop (k + 1 + 1) = (l.take k ++ [(min i1 a, j2)]) ++ l.drop (k + 1 + 1) by simp, List.flatMap_append, ← HT2.out, List.drop_eq_nil_of_le (by omega)]; exact HY.out
                          · refine Chg.grown HC4.out.drew HG2.out ?_
                            intro k hk hlt; simp [Value.ownBlock] at hk; exact .inr hk.symm
                          · rcases HE3.out with h | h
                            · simp [Value.ownBlock] at h; exact .inl h.symm
                            · have := HC4.out.size; simp at h; omega
                          · rw [List.length_append, List.length_take, List.length_cons, List.length_drop]; omega
                      · have hc' : ¬ c = k + 2 := hc
                        go_region_law (refine step_app et102 rfl _ _ rfl (.slice (some ⟨g, 0, none⟩) (k + 1) c) (k + 1) (((l.set k (min i1 a, j2)).take (k + 1)).flatMap iv2) rfl ?_ ⟨g, (k + 2) * 2, none⟩ (l.length - (k + 2)) (c - (k + 2)) rfl (((l.set k (min i1 a, j2)).drop (k + 2)).flatMap iv2) ?_ ?_ ?_ (ivs_one _) ?_ ?_ ?_; (rw [← ivs_take]; exact HL4.out.front (by omega)); exact ivs_cells HL4.out; (rw [ivs_len, List.length_drop, List.length_set]; omega); omega; omega; omega; intro g2 c2 w2 e1 e2 e3; have hP3 := HP4.out.drew.chg (Chg.grownBy e2) (fun e => HL4.out.ne HP4.out (by decide) e.symm); have r0 : w2.cell? ⟨p, 0, none⟩ = some (.slice (some ⟨g, 0, none⟩) l.length c) := (by rw [hP3.cell]; rfl); have f0 := hP3.fz 0; have HY := Lib.hid e1; have HG2 := Lib.hid e2; have HP5 := Lib.hid hP3; have HE3 := Lib.hid e3; clear e1 e2 e3 hP3)
                        all_goals
                          go_wp2
                          refine bodyPost_ret (results_none rfl _ _ _) rfl ⟨rfl, ?_⟩
                          rw [HA.out, HDJ.out, addI_join (i := (i1, i2)) (j := (j1, j2)) (v := (a, b)) _ (by show ¬ b < i1; omega) h2 h3 (by show ¬ j2 ≤ max i2 b; omega) (by show j1 ≤ max i2 b; omega)]
                          refine fin_store HP5.out ?_ ?_ ?_ ?_
                          · rw [show l.take k ++ (min (i1, i2).1 (a, b).1, (j1, j2).2) :: l.drop (k + 1 + 1) = (l.take k ++ [(min i1 a, j2)]) ++ l.drop (k + 1 + 1) by simp, List.flatMap_append, ← HT2.out, ← HD2.out]; exact HY.out
                          · refine Chg.grown HC4.out.drew HG2.out ?_
                            intro k hk hlt; simp [Value.ownBlock] at hk; exact .inr hk.symm
                          · rcases HE3.out with h | h
                            · simp [Value.ownBlock] at h; exact .inl h.symm
                            · have := HC4.out.size; simp at h; omega
                          · rw [List.length_append, List.length_take, List.length_cons, List.length_drop]; omega
                  · go_wp2
                    refine bodyPost_ret (results_none rfl _ _ _) rfl ⟨rfl, ?_⟩
                    rw [HA.out, HDJ.out, addI_sep (i := (i1, i2)) (j := (j1, j2)) (v := (a, b)) _ (by show ¬ b < i1; omega) h2 h3 (by show ¬ j2 ≤ max i2 b; omega) (by show ¬ j1 ≤ max i2 b; omega), ← HDJ.out, ← set_split hlt, List.length_set]
                    exact ⟨g, c, (HP2.out.alloc _).alloc _, HL2.out.no (((Chg.refl No wy).alloc _).alloc _), (HC2.out.alloc _).alloc _, .inl rfl⟩
                · have hjl : (l.set k (min i1 a, max i2 b))[k + 1]? = some (j1, j2) := by rw [List.getElem?_set_ne (by omega)]; exact hj
                  have w0 : wy.cell? ⟨g, (k + 1) * 2, none⟩ = some (.int .i64 j1) := HL2.out.cellAt (ivs_at hjl).1
                  have w1 : wy.cell? ⟨g, (k + 1) * 2 + 1, none⟩ = some (.int .i64 j2) := HL2.out.cellAt (ivs_at hjl).2
                  have hM' : j2 ≤ max i2 b := by omega
                  have hdj : l.drop (k + 1) = (j1, j2) :: l.drop (k + 1 + 1) := by rw [List.drop_eq_getElem_cons h4]; have := hj; rw [List.getElem?_eq_getElem h4] at this; simp at this; rw [this]
                  have HDJ := Lib.hid hdj
                  have HJ := Lib.hid hj
                  have HJL := Lib.hid hjl
                  have HKL := Lib.hid hkl
                  clear hj hjl hdj
                  go_wp2
                  have hP4 := (HP2.out.alloc (.cells #[.int .i64 (min i1 a), .int .i64 (max i2 b)] 104)).alloc (.cells #[.int .i64 j1, .int .i64 j2] 104)
                  have hL4 := HL2.out.no (((Chg.refl No wy).alloc (.cells #[.int .i64 (min i1 a), .int .i64 (max i2 b)] 104)).alloc (.cells #[.int .i64 j1, .int .i64 j2] 104))
                  have hC4 := ((HC2.out.alloc (.cells #[.int .i64 (min i1 a), .int .i64 (max i2 b)] 104)).alloc (.cells #[.int .i64 j1, .int .i64 j2] 104))
                  clear p0 y0 y1 w0 w1 plt glt
                  generalize (wy.alloc (.cells #[.int .i64 (min i1 a), .int .i64 (max i2 b)] 104)).alloc (.cells #[.int .i64 j1, .int .i64 j2] 104) = wv at *
                  have p0 : wv.cell? ⟨p, 0, none⟩ = some (.slice (some ⟨g, 0, none⟩) l.length c) := by rw [hP4.cell]; rfl
                  have plt := hP4.lt
                  have hlc : l.length ≤ c := by
                    rcases hL4.2 with ⟨h2, _⟩ | ⟨g', cap, cur, hv, hb, hg, h1, h2, h3, h4⟩
                    · cases h2
                    · simp at hv; omega
                  have HP4 := Lib.hid hP4
                  have HL4 := Lib.hid hL4
                  have HC4 := Lib.hid hC4
                  clear hP4 hL4 hC4
                  have hdrop2 : (l.set k (min i1 a, max i2 b)).drop (k + 2) = l.drop (k + 1 + 1) := by rw [List.drop_set, if_pos (by omega)]
                  have htake2 : (l.set k (min i1 a, max i2 b)).take (k + 1) = l.take k ++ [(min i1 a, max i2 b)] := by rw [set_split hlt, List.take_append, List.length_take, Nat.min_eq_left (by omega), List.take_of_length_le (by rw [List.length_take]; omega), show k + 1 - k = 1 by omega]; rfl
                  have HD2 := Lib.hid hdrop2
                  have HT2 := Lib.hid htake2
                  clear hdrop2 htake2
                  have k0 : (0 : Int) ≤ ↑k + 1 := by omega
                  have k1 : (k : Int) + 1 ≤ ↑c := by omega
                  have k2 : (0 : Int) ≤ ↑k + 2 := by omega
                  have k3 : (k : Int) + 2 ≤ ↑l.length := by omega
                  have k4 : (l.length : Int) ≤ ↑c := by omega
                  have k5 : IntKind.i64.wrap ((k : Int) + 1) = ↑k + 1 := by rw [IntKind.wrap_i64]; omega
                  have k6 : IntKind.i64.wrap ((k : Int) + 2) = ↑k + 2 := by rw [IntKind.wrap_i64]; omega
                  have k7 : ((k : Int) + 1).toNat = k + 1 := by omega
                  have k8 : ((k : Int) + 2).toNat = k + 2 := by omega
                  by_cases hc : c = k + 2
                  · subst hc
                    go_region_law (refine step_app et102 rfl _ _ rfl (.slice (some ⟨g, 0, none⟩) (k + 1) (k + 2)) (k + 1) (((l.set k (min i1 a, max i2 b)).take (k + 1)).flatMap iv2) rfl ?_ ⟨g, 0, none⟩ 0 0 rfl [] ?_ rfl ?_ ?_ ?_ ?_ ?_; (rw [← ivs_take]; exact HL4.out.front (by omega)); (intro j u hu; simp at hu); omega; (intro u hu; simp at hu); omega; omega; intro g2 c2 w2 e1 e2 e3; have hP3 := HP4.out.drew.chg (Chg.grownBy e2) (fun e => HL4.out.ne HP4.out (by decide) e.symm); have r0 : w2.cell? ⟨p, 0, none⟩ = some (.slice (some ⟨g, 0, none⟩) l.length (k + 2)) := (by rw [hP3.cell]; rfl); have f0 := hP3.fz 0; have HY := Lib.hid e1; have HG2 := Lib.hid e2; have HP5 := Lib.hid hP3; have HE3 := Lib.hid e3; clear e1 e2 e3 hP3)
                    all_goals
                      go_wp2
                      refine bodyPost_ret (results_none rfl _ _ _) rfl ⟨rfl, ?_⟩
                      rw [HA.out, HDJ.out, addI_in (i := (i1, i2)) (j := (j1, j2)) (v := (a, b)) _ (by show ¬ b < i1; omega) h2 h3 (by show j2 ≤ max i2 b; omega)]
                      refine fin_store HP5.out ?_ ?_ ?_ ?_
                      · rw [show l.take k ++ (min (i1, i2).1 (a, b).1, max (i1, i2).2 (a, b).2) :: l.drop (k + 1 + 1) = (l.take k ++ [(min i1 a, max i2 b)]) ++ l.drop (k + 1 + 1) by simp, List.flatMap_append, ← HT2.out, List.drop_eq_nil_of_le (by omega)]; exact HY.out
                      · refine Chg.grown HC4.out.drew HG2.out ?_
                        intro k hk hlt; simp [Value.ownBlock] at hk; exact .inr hk.symm
                      · rcases HE3.out with h | h
                        · simp [Value.ownBlock] at h; exact .inl h.symm
                        · have := HC4.out.size; simp at h; omega
                      · rw [List.length_append, List.length_take, List.length_cons, List.length_drop]; omega
                  · have hc' : ¬ c = k + 2 := hc
                    go_region_law (refine step_app et102 rfl _ _ rfl (.slice (some ⟨g, 0, none⟩) (k + 1) c) (k + 1) (((l.set k (min i1 a, max i2 b)).take (k + 1)).flatMap iv2) rfl ?_ ⟨g, (k + 2) * 2, none⟩ (l.length - (k + 2)) (c - (k + 2)) rfl (((l.set k (min i1 a, max i2 b)).drop (k + 2)).flatMap iv2) ?_ ?_ ?_ (ivs_one _) ?_ ?_ ?_; (rw [← ivs_take]; exact HL4.out.front (by omega)); exact ivs_cells HL4.out; (rw [ivs_len, List.length_drop, List.length_set]; omega); omega; omega; omega; intro g2 c2 w2 e1 e2 e3; have hP3 := HP4.out.drew.chg (Chg.grownBy e2) (fun e => HL4.out.ne HP4.out (by decide) e.symm); have r0 : w2.cell? ⟨p, 0, none⟩ = some (.slice (some ⟨g, 0, none⟩) l.length c) := (by rw [hP3.cell]; rfl); have f0 := hP3.fz 0; have HY := Lib.hid e1; have HG2 := Lib.hid e2; have HP5 := Lib.hid hP3; have HE3 := Lib.hid e3; clear e1 e2 e3 hP3)
                    all_goals
                      go_wp2
                      refine bodyPost_ret (results_none rfl _ _ _) rfl ⟨rfl, ?_⟩
                      rw [HA.out, HDJ.out, addI_in (i := (i1, i2)) (j := (j1, j2)) (v := (a, b)) _ (by show ¬ b < i1; omega) h2 h3 (by show j2 ≤ max i2 b; omega)]
                      refine fin_store HP5.out ?_ ?_ ?_ ?_
                      · rw [show l.take k ++ (min (i1, i2).1 (a, b).1, max (i1, i2).2 (a, b).2) :: l.drop (k + 1 + 1) = (l.take k ++ [(min i1 a, max i2 b)]) ++ l.drop (k + 1 + 1) by simp, List.flatMap_append, ← HT2.out, ← HD2.out]; exact HY.out
                      · refine Chg.grown HC4.out.drew HG2.out ?_
                        intro k hk hlt; simp [Value.ownBlock] at hk; exact .inr hk.symm
                      · rcases HE3.out with h | h
                        · simp [Value.ownBlock] at h; exact .inl h.symm
                        · have := HC4.out.size; simp at h; omega
                      · rw [List.length_append, List.length_take, List.length_cons, List.length_drop]; omega
              · have hnil : l.drop (k + 1) = [] := List.drop_eq_nil_of_le (by omega)
                go_wp2
                refine bodyPost_ret (results_none rfl _ _ _) rfl ⟨rfl, ?_⟩
                rw [HA.out, hnil, addI_end (i := (i1, i2)) (v := (a, b)) (by show ¬ b < i1; omega) h2 h3, ← hnil, ← set_split hlt, List.length_set]
                exact ⟨g, c, HP2.out, HL2.out, HC2.out, .inl rfl⟩
          · go_wp2
            go_roundw
            case rel =>
              refine ⟨k + 1, by omega, by go_num, HCh.out.alloc _, ?_⟩
              intro j hj
              rw [List.take_add_one, HI.out] at hj
              simp at hj
              rcases hj with hj | rfl
              · exact HPass.out j hj
              · exact ⟨h1, h2, h3⟩
            case measure => simp [intOf]; omega
    · have hkk : k = l.length := by omega
      subst hkk
      clear hlt hk
      have hall := addI_pass (a, b) l l.length HPass.out
      rw [List.take_length, List.drop_length] at hall
      have glt := HLr.out.lt (k := g) rfl
      have gx : g ≠ w.heap.size := by have := HL.out.lt (k := g) rfl; omega
      have HAll := Lib.hid hall
      clear hall
      go_wp2
      go_region_law (refine step_app et102 rfl _ _ rfl (.slice (some ⟨g, 0, none⟩) l.length c) l.length (l.flatMap iv2) rfl ?_ ⟨wr.heap.size, 0, none⟩ 1 1 rfl [.int .i64 a, .int .i64 b] ?_ rfl ?_ ?_ ?_ ?_ ?_; exact HLr.out.no ((Chg.refl No wr).alloc _).drew; exact cells_one ((Blk.new wr #[.int .i64 a, .int .i64 b] 104).drew); omega; simp [Value.oneCell']; omega; omega; intro g2 c2 w2 e1 e2 e3; have hP3 := ((HPr.out.alloc (.cells #[.int .i64 a, .int .i64 b] 104)).drew).chg (Chg.grownBy e2) (fun e => HLr.out.ne HPr.out (by decide) e.symm); have r0 : w2.cell? ⟨p, 0, none⟩ = some (.slice (some ⟨g, 0, none⟩) l.length c) := (by rw [hP3.cell]; rfl); have f0 := hP3.fz 0; have HY := Lib.hid e1; have HG2 := Lib.hid e2; have HP3 := Lib.hid hP3; have HE3 := Lib.hid e3; clear e1 e2 e3 hP3)
      all_goals
        go_wp2
        go_end0
        refine ⟨rfl, ?_⟩
        rw [HAll.out, show Pl.addI [] (a, b) = [(a, b)] from rfl]
        refine fin_store HP3.out ?_ ?_ ?_ ?_
        · rw [List.flatMap_append]; exact HY.out
        · refine Chg.grown (((Chg.mono (((Chg.refl No w).alloc _).trans HCh.out) (fun _ _ h => h.elim)).alloc _).drew) HG2.out ?_
          intro k hk hlt; simp [Value.ownBlock] at hk; exact .inr hk.symm
        · rcases HE3.out with h | h
          · simp [Value.ownBlock] at h; exact .inl h.symm
          · have := HCh.out.size; simp at this h; omega
        · rw [List.length_append]; rfl
end Go.Proofs.YtemdillhbnmjkaaGreatDoor
namespace Go.Proofs.YtemdillhbnmjkaaGreatDoor
open Go.RowKit

/-- the set m lies at block p; v is its row -/
def SetG (w : World) (p m : Nat) (v : Value) : Prop :=
  m < 64 ∧ (∃ ro, Blk w p #[v, .bool ro] 145) ∧ ((v = .slice none 0 0 ∧ m = 0) ∨ ∃ g c, v = .slice (some ⟨g, 0, none⟩) (Pl.canon m).length c ∧ Own w 104 2 v (Pl.canon m).length ((Pl.canon m).flatMap iv2))
theorem LookS.setG {w : World} {B p m : Nat} (h : LookS w B p m) : ∃ v, SetG w p m v ∧ B ≤ p ∧ ∀ k, v.ownBlock = some k → B ≤ k := by
  obtain ⟨h1, h2, v, ro, h3, h4⟩ := h
  refine ⟨v, ⟨h1, ⟨ro, h3⟩, ?_⟩, h2, fun k hk => ?_⟩
  · rcases h4 with h4 | ⟨g, c, e, h5, _⟩
    · exact .inl h4
    · exact .inr ⟨g, c, e, h5⟩
  · rcases h4 with ⟨rfl, _⟩ | ⟨g, c, rfl, _, h6⟩
    · cases hk
    · simp [Value.ownBlock] at hk; omega
theorem SetG.lookS {w : World} {p m : Nat} {v : Value} (h : SetG w p m v) : LookS w 0 p m := by
  obtain ⟨h1, ⟨ro, h3⟩, h4⟩ := h
  refine ⟨h1, Nat.zero_le _, v, ro, h3, ?_⟩
  rcases h4 with h4 | ⟨g, c, e, h5⟩
  · exact .inl h4
  · exact .inr ⟨g, c, e, h5, Nat.zero_le _⟩
theorem SetG.chg {S : Nat → Prop} {w w' : World} {p m : Nat} {v : Value} (h : SetG w p m v) (hc : Chg S w w') (h1 : ¬ S p) (h2 : ∀ k, v.ownBlock = some k → ¬ S k) : SetG w' p m v := by
  obtain ⟨a, ⟨ro, b⟩, c⟩ := h
  refine ⟨a, ⟨ro, b.chg hc h1⟩, ?_⟩
  rcases c with c | ⟨g, x, e, h5⟩
  · exact .inl c
  · exact .inr ⟨g, x, e, h5.chg hc h2⟩
theorem SetG.no {w w' : World} {p m : Nat} {v : Value} (h : SetG w p m v) (hc : Chg No w w') : SetG w' p m v := h.chg hc (fun h => h) (fun _ _ h => h)
theorem SetG.lt {w : World} {p m : Nat} {v : Value} (h : SetG w p m v) : p < w.heap.size ∧ ∀ k, v.ownBlock = some k → k < w.heap.size := by
  obtain ⟨a, ⟨ro, b⟩, c⟩ := h
  refine ⟨b.lt, fun k hk => ?_⟩
  rcases c with ⟨rfl, _⟩ | ⟨g, x, rfl, h5⟩
  · cases hk
  · exact h5.lt hk
theorem canon_two : ∀ m, m < 64 → ∀ i ∈ Pl.canon m, i.1 ≤ -2 → Pl.has m (-2) = true := by decide +kernel
theorem canon_two' : ∀ m, m < 64 → (∀ i ∈ Pl.canon m, ¬ i.1 ≤ -2) → Pl.has m (-2) = false := by decide +kernel

set_option maxHeartbeats 1000000 in
set_option maxRecDepth 100000 in
theorem has2_any (w : World) (B p m : Nat) (h : LookS w B p m) : Calls Tryz.prog 59 #[.pointer (some ⟨p, 0, none⟩), .int .i64 (-2)] w fun e w' => e = .returned (.bool (Pl.has m (-2))) ∧ Chg No w w' := by
  have hm := h.1
  obtain ⟨hlen, hb, _⟩ := Pl.canon_facts m hm
  obtain ⟨A, c, h1, h2, h3⟩ := h.lies
  have H0 := Lib.hid (canon_two m hm)
  have H1 := Lib.hid (canon_two' m hm)
  have HB := Lib.hid hb
  have HR := Lib.hid h3
  have HA := Lib.hid h2
  have heq := fun (w : World) (x : Option Addr) (l c : Nat) => Lib.run_eql_slice_nil (P := Tryz.prog) w 102 104 x l c 0 0 Tryz.underlying102
  generalize Pl.canon m = l at *
  clear h hb h3 h2
  cases A with
  | none =>
    have hf : Pl.has m (-2) = false := H1.out (by rw [HA.out rfl]; simp)
    have HF := Lib.hid hf
    clear hf
    go_enter Tryz.func59, Tryz.ntmps59
    go_wp2
    go_ret
    exact ⟨by rw [HF.out]; rfl, Chg.refl _ _⟩
  | some a =>
    go_enter Tryz.func59, Tryz.ntmps59
    go_wp2
    go_loopw [5] (fun i wr => ∃ j : Nat, j ≤ l.length ∧ i = .int .i64 (j : Int) ∧ Chg No w wr ∧ ∀ i ∈ l.take j, ¬ i.1 ≤ -2) (fun i _ => l.length - (intOf i).toNat)
    case atStart => exact ⟨0, Nat.zero_le _, rfl, Chg.refl _ _, by simp⟩
    case round =>
      obtain ⟨j, hj, rfl, hn, hp⟩ := hrel
      have q := Chg.kept hn h1 (fun h => h)
      have HP := Lib.hid hp
      clear hp
      by_cases hlt : j < l.length
      · obtain ⟨x, hx⟩ : ∃ x, l[j]? = some x := ⟨_, List.getElem?_eq_getElem hlt⟩
        obtain ⟨g, hg, p0, p1⟩ := HR.out j x hx
        cases hg
        have q0 := Chg.kept hn p0 (fun h => h)
        have q1 := Chg.kept hn p1 (fun h => h)
        have hxb := HB.out x (List.mem_of_getElem? hx)
        have HN := Lib.hid hn
        have HX := Lib.hid hx
        by_cases hx1 : x.1 ≤ -2
        · have hf := H0.out x (List.mem_of_getElem? hx) hx1
          have d1 : decide (x.1 ≤ -2) = true := decide_eq_true hx1
          have d2 : decide (-2 < x.2) = true := decide_eq_true (by omega)
          have HF := Lib.hid hf
          clear hn hx p0 p1 hxb hf
          go_wp2
          go_ret
          exact ⟨by rw [HF.out]; rfl, HN.out.alloc _⟩
        · have d1 : decide (x.1 ≤ -2) = false := decide_eq_false hx1
          clear hn hx p0 p1 hxb
          go_wp2
          go_roundw
          case rel =>
            refine ⟨j + 1, by omega, by go_num, (HN.out.alloc _), ?_⟩
            intro i hi
            rw [List.take_add_one, HX.out] at hi
            simp at hi
            rcases hi with hi | rfl
            · exact HP.out i hi
            · exact hx1
          case measure => simp [intOf]; omega
      · obtain rfl : j = l.length := by omega
        have HN := Lib.hid hn
        have HF := Lib.hid (H1.out (fun i hi => by have := HP.out i (by rw [List.take_length]; exact hi); omega))
        clear hn
        go_wp2
        go_ret
        exact ⟨by rw [HF.out]; rfl, HN.out⟩

/-! the contexts of rules -/
theorem ctx_inv (a : Addr) (w : World) : (method 583 146 (.pointer (some a)) "GetInvokingState").run Tryz.prog w = .ok (200, .pointer (some a)) w := by kernel_rfl
end Go.Proofs.YtemdillhbnmjkaaGreatDoor

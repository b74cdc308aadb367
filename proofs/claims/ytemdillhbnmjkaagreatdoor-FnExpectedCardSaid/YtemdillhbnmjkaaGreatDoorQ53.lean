/- The statement's own function: FnExpected (5). -/
import Derived.Test.YtemdillhbnmjkaaGreatDoorQ52
import Derived.Test.YtemdillhbnmjkaaGreatDoorQ40
import Derived.Test.YtemdillhbnmjkaaGreatDoorQ49
namespace Go.Proofs.YtemdillhbnmjkaaGreatDoor
open Go.RowKit

theorem t1_t4 : KeepT 4 T1 := fun _ _ _ _ h hc => TdL.keepT (rd0_t 4) (by decide) h hc
theorem t2_t4 : KeepT 4 T2 := fun _ _ _ _ h hc => TdL.keepT t1_t4 (by decide) h hc
theorem t3_t4 : KeepT 4 T3 := fun _ _ _ _ h hc => TdL.keepT t2_t4 (by decide) h hc
theorem sr_at {rs : List SRec} {x : Nat} {r : SRec} (h : rs[x]? = some r) : (rs.flatMap srCells)[x * 5]? = some (.int .i64 (r.q : Int)) ∧ (rs.flatMap srCells)[x * 5 + 1]? = some (.int .i64 (r.p : Int)) ∧ (rs.flatMap srCells)[x * 5 + 2]? = some r.vI ∧ (rs.flatMap srCells)[x * 5 + 3]? = some r.vR ∧ (rs.flatMap srCells)[x * 5 + 4]? = some (.int .i64 (r.x : Int)) := by
  have hf : ∀ r, (srCells r).length = 5 := fun _ => rfl
  exact ⟨flat_at srCells 5 hf rs x 0 r h (by omega), flat_at srCells 5 hf rs x 1 r h (by omega), flat_at srCells 5 hf rs x 2 r h (by omega), flat_at srCells 5 hf rs x 3 r h (by omega), flat_at srCells 5 hf rs x 4 r h (by omega)⟩

set_option maxHeartbeats 2000000 in
set_option maxRecDepth 100000 in
theorem fnExp_any (w : World) (v vt : Value) (g : Pl.Gr) (ts : List Int) (x : Int) (hv : In3 w v g) (ht : Rd1 w vt ts) (htl : ts.length ≤ maxLen) : Calls Tryz.prog 5 #[v, vt, .int .i64 x] w (True2 w) := by
  obtain ⟨A, c, rfl⟩ := hv.rd.slice
  obtain ⟨At, ct, rfl⟩ := ht.slice
  have HF := Lib.hid (fits1_any w _ g hv.len hv.len2 hv.rd)
  have HGr := Lib.hid (fun hf => grammar_any w _ g hf hv.rd)
  have HI := Lib.hid hv.ints
  have HTs := Lib.hid ht
  clear hv ht
  go_enter Tryz.func5, Tryz.ntmps5
  go_wp2_with fail
  refine HF.out.mono ?_
  rintro e w' ⟨b, rfl, hb, rfl⟩
  cases b with
  | false =>
    clear hb
    go_wp2
    go_ret
    exact ⟨rfl, Chg.refl _ _⟩
  | true =>
    have hfit := hb rfl
    have HGG := Lib.hid (HGr.out hfit)
    have HFit := Lib.hid hfit
    clear hb hfit HGr
    by_cases hbig : 2147483647 < ts.length
    · have d1 : decide (2147483647 < ts.length) = true := decide_eq_true hbig
      go_wp2
      go_ret
      exact ⟨rfl, Chg.refl _ _⟩
    have d1 : decide (2147483647 < ts.length) = false := decide_eq_false hbig
    go_wp2_with fail
    refine HGG.out.mono ?_
    rintro e w1 ⟨v1, rfl, hn⟩
    have hsl := New.slice hn
    obtain ⟨A1, c1, rfl⟩ := hsl
    have HN := Lib.hid hn
    have hc1 : Chg No w1 (w1.alloc (.cells #[] 54)) := (Chg.refl No w1).alloc _
    have HC1 := Lib.hid hc1
    have HGD := Lib.hid (good_any (w1.alloc (.cells #[] 54)) _ g ((T3.rd hn.td).no hc1) HFit.out HI.out)
    clear hn hc1
    go_wp2_with fail
    refine HGD.out.mono ?_
    rintro e w2 ⟨b, rfl, hb, hc⟩
    have HC2 := Lib.hid ((HN.out.chg.trans HC1.out).trans hc)
    have HT3 := Lib.hid (t3_no _ _ _ _ HN.out.td (HC1.out.trans hc))
    clear hc
    cases b with
    | false =>
      clear hb
      go_wp2
      go_ret
      exact ⟨rfl, HC2.out⟩
    | true =>
      have HG := Lib.hid (hb rfl)
      have hg6 := (hb rfl).len6
      clear hb HGG HGD HFit HF
      have HTk := Lib.hid (tokens_any w2 _ ts htl (HTs.out.no HC2.out))
      go_wp2_with fail
      refine HTk.out.mono ?_
      rintro e w' ⟨b, rfl, hb, rfl⟩
      cases b with
      | false =>
        clear hb
        go_wp2
        go_ret
        exact ⟨rfl, HC2.out⟩
      | true =>
        have h12 := hb rfl
        clear hb HTk
        have HP := Lib.hid (parse_any w2 _ _ g ts h12 HG.out.gb HG.out HT3.out (HTs.out.no HC2.out))
        go_wp2_with fail
        refine HP.out.mono ?_
        rintro e w3 ⟨v3, rs, dn, rfl, ho, hc3, hrl⟩
        have hown := ho.own
        obtain ⟨A3, c3, rfl⟩ := hown.slice
        have HC3 := Lib.hid (HC2.out.trans hc3)
        have HT3' := Lib.hid (t3_no _ _ _ _ HT3.out hc3)
        have HOk := Lib.hid ho.ok
        have HOw := Lib.hid hown
        clear ho hc3 hown HP HT3
        cases dn with
        | false =>
          go_wp2
          go_ret
          exact ⟨rfl, HC3.out⟩
        | true =>
          by_cases h1 : x < 0
          · go_wp2
            go_ret
            exact ⟨rfl, HC3.out⟩
          obtain ⟨xn, rfl⟩ : ∃ xn : Nat, x = (xn : Int) := ⟨x.toNat, by omega⟩
          clear h1
          by_cases h2 : xn < rs.length
          case neg =>
            have h2' : decide (rs.length ≤ xn) = true := decide_eq_true (by omega)
            go_wp2
            go_ret
            exact ⟨rfl, HC3.out⟩
          case pos =>
            have h2a : decide (rs.length ≤ xn) = false := decide_eq_false (by omega)
            obtain ⟨r, hr⟩ : ∃ u, rs[xn]? = some u := ⟨_, List.getElem?_eq_getElem h2⟩
            obtain ⟨k1, k2, k3, hst⟩ := HOk.out r (List.mem_of_getElem? hr)
            obtain ⟨gs, cap, cur, he, _, _⟩ := Own.blk HOw.out (by omega)
            cases he
            obtain ⟨y0, y1, y2, y3, y4⟩ := sr_at hr
            obtain ⟨q, pp, xx, fs, vI, vR⟩ := r
            simp only at k1 k2 k3 hst y0 y1 y2 y3 y4
            have z0 := HOw.out.cellAt y0
            have z1 := HOw.out.cellAt y1
            have z2 := HOw.out.cellAt y2
            have z3 := HOw.out.cellAt y3
            have z4 := HOw.out.cellAt y4
            obtain ⟨AI, cI, rfl⟩ := hst.inv.slice
            obtain ⟨AR, cR, rfl⟩ := hst.rest.slice
            obtain ⟨q0, q1⟩ : 0 < q ∧ q < g.length := by
              cases fs with
              | nil => exact absurd rfl k2
              | cons f fs => exact Pl.frAt_pos HG.out k1.1
            obtain ⟨alts, hal⟩ : ∃ u, g[q]? = some u := ⟨_, List.getElem?_eq_getElem q1⟩
            obtain ⟨b2, A2, c2, rfl, l1, ht2⟩ := T3.at_ HT3'.out hal
            have hmk := make_seven
            have l1lt : b2 < w3.heap.size := World.block_lt_of_cell? w3 _ l1
            have q2 : (0 : Int) ≤ (q : Int) := by omega
            have q3 : (q : Int) < (g.length : Int) := by omega
            have q4 : (0 : Int) ≤ (xn : Int) := by omega
            have q5 : (xn : Int) < (rs.length : Int) := by omega
            have HK1 := Lib.hid k1
            have HK2 := Lib.hid k2
            have HSt := Lib.hid hst
            have HAl := Lib.hid hal
            have HT2 := Lib.hid ht2
            clear k1 k2 hst hal ht2 y0 y1 y2 y3 y4 hr HOk
            go_wp2
            have hc4 : Chg No w3 ((w3.alloc (.cells #[.int .i64 (q : Int), .int .i64 (pp : Int), .slice AI fs.length cI, .slice AR (Pl.restOf g fs).length cR, .int .i64 (xx : Int)] 54)).alloc (.cells (bcells [false, false, false, false, false, false, false]) 4)) := ((Chg.refl No w3).alloc _).alloc _
            have hB10 := (Blk.new w3 #[.int .i64 (q : Int), .int .i64 (pp : Int), .slice AI fs.length cI, .slice AR (Pl.restOf g fs).length cR, .int .i64 (xx : Int)] 54).alloc (.cells (bcells [false, false, false, false, false, false, false]) 4)
            have hB11 := Blk.at_new (w := w3.alloc (.cells #[.int .i64 (q : Int), .int .i64 (pp : Int), .slice AI fs.length cI, .slice AR (Pl.restOf g fs).length cR, .int .i64 (xx : Int)] 54)) (n := w3.heap.size + 1) (by simp) (bcells [false, false, false, false, false, false, false]) 4
            generalize (w3.alloc (.cells #[.int .i64 (q : Int), .int .i64 (pp : Int), .slice AI fs.length cI, .slice AR (Pl.restOf g fs).length cR, .int .i64 (xx : Int)] 54)).alloc (.cells (bcells [false, false, false, false, false, false, false]) 4) = w4 at *
            obtain ⟨s10, hs10⟩ : ∃ s10, s10 = w3.heap.size := ⟨_, rfl⟩
            obtain ⟨s11, hs11⟩ : ∃ s11, s11 = w3.heap.size + 1 := ⟨_, rfl⟩
            rw [← hs10] at hB10 hB11 hs11 ⊢
            rw [← hs11] at hB11 ⊢
            have hs12 : s10 < s11 := by omega
            have HC4 := Lib.hid hc4
            have HB10 := Lib.hid hB10
            have HB11 := Lib.hid hB11
            have HL11 := Lib.hid (show w3.heap.size ≤ s11 by omega)
            have HL10 := Lib.hid (show w3.heap.size ≤ s10 by omega)
            clear hc4 hB10 hB11 z0 z1 z2 z3 z4 hs11 hs10 l1lt l1 hmk
            have hal4 := (HG.out.alts q alts HAl.out).2
            go_loopw [64] (fun i wr => ∃ a : Nat, a ≤ alts.length ∧ i = .int .i64 (a : Int) ∧ Chg (fun k => k = s11) w4 wr ∧ Blk wr s11 (bcells ((alts.take a).foldl (fun o alt => Pl.orRow o (Pl.beg g (Pl.emptyOf g) 7 (alt ++ Pl.restOf g fs))) (List.replicate 7 false))) 4) (fun i _ => alts.length - (intOf i).toNat)
            case atStart => exact ⟨0, Nat.zero_le _, rfl, Chg.refl _ _, HB11.out⟩
            case round =>
              obtain ⟨a, ha, rfl, hc, hbw⟩ := hrel
              have hcell : ∀ {e : Addr} {u : Value}, w3.cell? e = some u → wr.cell? e = some u := fun {e u} h => Chg.kept hc (Chg.kept HC4.out h (fun h => h)) (fun e2 => by have := World.block_lt_of_cell? w3 _ h; have := HL11.out; omega)
              by_cases hlt : a < alts.length
              · obtain ⟨alt, hu⟩ : ∃ u, alts[a]? = some u := ⟨_, List.getElem?_eq_getElem hlt⟩
                obtain ⟨b3, A3, c3, rfl, h30, ht1⟩ := T2.at_ HT2.out hu
                have h3 := hcell h30
                have hB10 : Blk wr s10 #[.int .i64 (q : Int), .int .i64 (pp : Int), .slice AI fs.length cI, .slice AR (Pl.restOf g fs).length cR, .int .i64 (xx : Int)] 54 := HB10.out.chg hc (fun e => by omega)
                have x3 : wr.cell? ⟨s10, 3, none⟩ = some (.slice AR (Pl.restOf g fs).length cR) := by rw [hB10.cell]; rfl
                have hal5 := HG.out.alt q alts alt HAl.out (List.mem_of_getElem? hu)
                have hrest := Pl.rest_len HG.out fs q HK1.out
                have hT : TChg [4] w3 wr := (TChg.no HC4.out).trans (TChg.of hc (fun k e _ => by subst e; exact ⟨_, _, HB11.out, by simp⟩))
                have hsy : Pl.SymsOk g (alt ++ Pl.restOf g fs) := Pl.symsOk_append (HG.out.symsOk q alts alt HAl.out (List.mem_of_getElem? hu)) (Pl.rest_syms HG.out fs q HK1.out)
                have hT3w := t3_t4 _ _ _ _ HT3'.out hT
                have HBg := Lib.hid (fun w2 (h : Chg No wr w2) vs (hs : Rd1 w2 vs (alt ++ Pl.restOf g fs)) => begins_of w2 _ vs g (alt ++ Pl.restOf g fs) HG.out ((T3.rd hT3w).no h) hs hsy (by rw [List.length_append]; unfold maxLen; omega))
                have HA := Lib.hid (SrcL.rd1 (T1.rd (t1_t4 _ _ _ _ ht1 hT)))
                have HRS := Lib.hid (SrcL.rd1 (Own.rd1 (hT.own HSt.out.rest (by decide)) rfl))
                have hw10 := hB10.lt
                have HC := Lib.hid hc
                have HBW := Lib.hid hbw
                have HU := Lib.hid hu
                have HT := Lib.hid hT
                clear hc hbw hu h30 ht1 hT hsy hT3w hB10 hcell
                go_wp2
                clear h3
                go_region_held3 (fun w' => Chg No wr w' ∧ w'.cell? ⟨s10, 3, none⟩ = some (.slice AR (Pl.restOf g fs).length cR))
                  (refine ⟨?_, ?_⟩ <;> first | with_reducible assumption | with_reducible exact (Chg.refl No wr).drew | with_reducible exact ((Chg.refl No wr).drew).alloc _ | with_reducible exact ((Chg.refl No wr).alloc _).drew | go_keep)
                  (first | (go_at_call 14; refine (HBg.out w6 HCH6.out _ HV2.out).mono ?_; rintro e w' ⟨bb, rfl, hb7, hcc, hbn⟩; have hch := HCH6.out.trans hcc; have HCH := Lib.hid hch; have n4 := Chg.kept hch x3 (fun h => h)) | (refine step_appS et29 rfl (.tmp 69) (.tmp 70) rfl (.slice (some ⟨wr.heap.size, 0, none⟩) 0 0) 0 [] rfl ?_ (.slice A3 alt.length c3) rfl alt.length (alt.map iv1) ?_ ?_ ?_ ?_ ?_ ?_; (first | exact own_made wr.drew wr.heap.size rfl 59 1 | exact own_made wr wr.heap.size rfl 59 1); exact HA.out.no (((Chg.refl No wr).alloc _).drew); simp; intro u hu; obtain ⟨y, _, rfl⟩ := List.mem_map.1 hu; rfl; omega; omega; intro A5 c5 w5 h1 h2 h3; have hch := fs_first rfl h2; have HV1 := Lib.hid h1; have HN1 := Lib.hid (fs_own rfl h3); have HCH1 := Lib.hid hch; have n4 := Chg.kept hch x3 (fun h => h); clear h1 h2 h3) | (refine step_appS et29 rfl (.tmp 71) (.tmp 73) rfl (.slice A5 (0 + alt.length) c5) (0 + alt.length) ([] ++ alt.map iv1) rfl ?_ (.slice AR (Pl.restOf g fs).length cR) rfl (Pl.restOf g fs).length ((Pl.restOf g fs).map iv1) ?_ ?_ ?_ ?_ ?_ ?_; exact HV1.out; exact HRS.out.no HCH1.out; simp; intro u hu; obtain ⟨y, _, rfl⟩ := List.mem_map.1 hu; rfl; omega; omega; intro A6 c6 w6 h1 h2 h3; have hch6 := HCH1.out.then (Chg.grownBy h2) (fun k hk e => by have := HN1.out k e.symm; omega); rw [Nat.zero_add] at h1; have HV2 := Lib.hid (own_app h1); have HCH6 := Lib.hid hch6; have v4 := Chg.kept hch6 x3 (fun h => h); clear h1 h2 h3))
                have hs6 := HCH6.out.size
                have hsw := HBW.out.lt
                have HBW2 := Lib.hid (HBW.out.chg HCH.out (fun h => h))
                have HBB := Lib.hid hb7
                have hbl := hb7.lt
                have hl7 := beg_seven g (Pl.emptyOf g) 7 (alt ++ Pl.restOf g fs)
                have hne : bb ≠ s11 := by omega
                obtain ⟨r0, hr0⟩ : ∃ r0, r0 = (alts.take a).foldl (fun o alt => Pl.orRow o (Pl.beg g (Pl.emptyOf g) 7 (alt ++ Pl.restOf g fs))) (List.replicate 7 false) := ⟨_, rfl⟩
                have hlr : r0.length = 7 := by rw [hr0, (Pl.orRows_at (fun alt => Pl.beg g (Pl.emptyOf g) 7 (alt ++ Pl.restOf g fs)) _ _).1]; simp
                obtain ⟨bg, hbg⟩ : ∃ bg, bg = Pl.beg g (Pl.emptyOf g) 7 (alt ++ Pl.restOf g fs) := ⟨_, rfl⟩
                rw [← hr0] at HBW2
                rw [← hbg] at HBB hl7
                have HR0 := Lib.hid hr0
                have HBGE := Lib.hid hbg
                clear hch hcc hb7 n4 v4 x3 hr0 hbg
                go_wp2
                go_loopw [77] (fun i wx => ∃ j : Nat, j ≤ 7 ∧ i = .int .i64 (j : Int) ∧ Chg (fun k => k = s11) w' wx ∧ Blk wx s11 (bcells (orPart j r0 bg)) 4) (fun i _ => 7 - (intOf i).toNat)
                case atStart => exact ⟨0, by omega, rfl, Chg.refl _ _, by rw [orPart_zero]; exact HBW2.out⟩
                case round =>
                  obtain ⟨j, hj, rfl, hcx, hbx⟩ := hrel
                  by_cases hj7 : j < 7
                  · have j0 : (0 : Int) ≤ (j : Int) := by omega
                    have j1 : (j : Int) < 7 := by omega
                    have hbb := HBB.out.chg hcx hne
                    have y0 : wr.cell? ⟨bb, j, none⟩ = some (.bool (Pl.gb bg j)) := by rw [hbb.cell]; exact bcells_at (by omega)
                    have y1 : wr.cell? ⟨s11, j, none⟩ = some (.bool (Pl.gb (orPart j r0 bg) j)) := by rw [hbx.cell]; exact bcells_at (by rw [orPart_len]; omega)
                    have yf := hbx.fz j
                    have hset := hbx.set j (.bool (Pl.gb (orPart j r0 bg) j || Pl.gb bg j))
                    rw [bcells_set, orPart_succ _ _ _ (by omega)] at hset
                    have hcs := hcx.setCell (p := ⟨s11, j, none⟩) (fun _ => rfl) (.bool (Pl.gb (orPart j r0 bg) j || Pl.gb bg j))
                    have HSet := Lib.hid hset
                    have HCs := Lib.hid hcs
                    clear hset hcs hbb hbx hcx
                    cases hg1 : Pl.gb (orPart j r0 bg) j with
                    | true =>
                      rw [hg1] at y1 HSet HCs
                      simp only [Bool.true_or] at HSet HCs
                      go_wp2
                      go_roundw
                      case rel => exact ⟨j + 1, by omega, by go_num, HCs.out, HSet.out⟩
                      case measure => simp [intOf]; omega
                    | false =>
                      rw [hg1] at y1 HSet HCs
                      simp only [Bool.false_or] at HSet HCs
                      go_wp2
                      go_roundw
                      case rel => exact ⟨j + 1, by omega, by go_num, HCs.out, HSet.out⟩
                      case measure => simp [intOf]; omega
                  · obtain rfl : j = 7 := by omega
                    have hfin := orPart_all r0 bg
                    rw [hlr] at hfin
                    rw [hfin] at hbx
                    have HCX := Lib.hid hcx
                    have HBX := Lib.hid hbx
                    clear hcx hbx hfin
                    go_wp2
                    go_roundw
                    case rel =>
                      refine ⟨a + 1, by omega, by go_num, (HC.out.then HCH.out (fun _ _ h => h.elim)).trans HCX.out, ?_⟩
                      rw [List.take_add_one, HU.out, Option.toList_some, List.foldl_append, List.foldl_cons, List.foldl_nil, ← HR0.out, ← HBGE.out]
                      exact HBX.out
                    case measure => simp [intOf]; omega
              · obtain rfl : a = alts.length := by omega
                have hT : TChg [4] w3 wr := (TChg.no HC4.out).trans (TChg.of hc (fun k e _ => by subst e; exact ⟨_, _, HB11.out, by simp⟩))
                rw [List.take_length] at hbw
                have hwant : alts.foldl (fun o alt => Pl.orRow o (Pl.beg g (Pl.emptyOf g) 7 (alt ++ Pl.restOf g fs))) (List.replicate 7 false) = Pl.wantOf g q (Pl.restOf g fs) := by unfold Pl.wantOf; rw [HAl.out]; rfl
                rw [hwant] at hbw
                have hB10 : Blk wr s10 #[.int .i64 (q : Int), .int .i64 (pp : Int), .slice AI fs.length cI, .slice AR (Pl.restOf g fs).length cR, .int .i64 (xx : Int)] 54 := HB10.out.chg hc (fun e => by omega)
                have x0 : wr.cell? ⟨s10, 0, none⟩ = some (.int .i64 (q : Int)) := by rw [hB10.cell]; rfl
                have x2 : wr.cell? ⟨s10, 2, none⟩ = some (.slice AI fs.length cI) := by rw [hB10.cell]; rfl
                have hw10 := hB10.lt
                have hT3w := T3.rd (t3_t4 _ _ _ _ HT3'.out hT)
                have hinv := hT.own HSt.out.inv (by decide)
                have HNet := Lib.hid (fun w' (h : Chg No wr w') => net_any w' _ g HG.out (hT3w.no h))
                obtain ⟨s, hs⟩ : ∃ s, s = 2 * g.length + q := ⟨_, rfl⟩
                have hblk := fun w' (h : Chg No wr w') => block_any w' _ g q (hT3w.no h) hg6 (by omega)
                rw [← hs] at hblk
                have HBlk := Lib.hid hblk
                have HExp := Lib.hid (fun w' vS vR vE vD (h : Chg No wr w') (hv : NetVal w' g vS vR vE vD) => implExp_any g HG.out w' vS vR vE vD hv q fs HK1.out q0 q1 HK2.out k3 (.slice AI fs.length cI) (Own.rd1 (show Own w' 3 1 _ fs.length (((fs.reverse.map (posOf g)).map fun x => ((x : Nat) : Int)).map iv1) by rw [List.map_map, List.map_map]; exact hinv.no h) (by simp)) s hs)
                have HC := Lib.hid (HC3.out.trans (HC4.out.then hc (fun k hk e => by have := HL11.out; omega)))
                have HBW := Lib.hid hbw
                clear hcell hc hbw hT hwant hB10 hT3w hinv hblk hs
                go_wp2
                go_region_held3 (fun w' => Chg No wr w' ∧ w'.cell? ⟨s10, 0, none⟩ = some (.int .i64 (q : Int)) ∧ w'.cell? ⟨s10, 2, none⟩ = some (.slice AI fs.length cI))
                  (refine ⟨?_, ?_, ?_⟩ <;> first | with_reducible assumption | with_reducible exact (Chg.refl No wr).drew | go_keep)
                  (first | (go_at_call 11; refine (HNet.out _ (Chg.refl No wr).drew).mono ?_; rintro e w5 ⟨vS, vR, vE, vD, rfl, o1, o2, o3, o4, hc5⟩; have hch := ((Chg.refl No wr).drew).trans hc5; have HCH5 := Lib.hid hch; have HNV := Lib.hid (show NetVal w5 g vS vR vE vD from ⟨o1, o2, o3, o4⟩); have m0 := Chg.kept hch x0 (fun h => h); have m2 := Chg.kept hch x2 (fun h => h); clear o1 o2 o3 o4 hc5) | (go_at_call 16; refine (HBlk.out w5 HCH5.out).mono ?_; rintro e w' ⟨rfl, rfl⟩) | (go_at_call 19; refine (HExp.out w5 _ _ _ _ HCH5.out HNV.out).mono ?_; rintro e w7 ⟨v7, m, rfl, hm, hown, hrow, hc7⟩; have hch7 := HCH5.out.trans hc7; have HCH7 := Lib.hid hch7; have HRow := Lib.hid hrow; have HMk := Lib.hid (marks_any w7 v7 (Pl.canon m) hown (fun i hi => (Pl.canon_facts m hm).2.1 i hi) (by have := (Pl.canon_facts m hm).1; omega)); have n0 := Chg.kept hch7 x0 (fun h => h); have n2 := Chg.kept hch7 x2 (fun h => h); clear hown hrow hc7) | (go_at_call 9; refine HMk.out.mono ?_; rintro e w8 ⟨b8, rfl, hb8, hc8, hn8⟩; have hch8 := HCH7.out.trans hc8; have HCH8 := Lib.hid hch8; have r0 := Chg.kept hch8 x0 (fun h => h); have r2 := Chg.kept hch8 x2 (fun h => h)))
                rw [Pl.marksOf_canon hm, HRow.out] at hb8
                have HS8 := Lib.hid (same_any w8 b8 s11 7 _ (Pl.want_len _ _ _) (by omega) hb8 (HBW.out.chg HCH8.out (fun h => h)))
                have HC8 := Lib.hid (HC.out.trans HCH8.out)
                clear hb8 hc8 hn8 hch8 hch7 hch m0 m2 n0 n2 r0 r2 x0 x2
                go_wp2_with fail
                refine HS8.out.mono ?_
                rintro e w9 ⟨rfl, nd, rfl⟩
                go_wp2
                go_ret
                exact ⟨rfl, HC8.out.drewN nd⟩
end Go.Proofs.YtemdillhbnmjkaaGreatDoor

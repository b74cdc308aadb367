/- The statement's own function: FnDecisionLook (4). -/
import Derived.Test.YtemdillhbnmjkaaGreatDoorQ40
import Derived.Test.YtemdillhbnmjkaaGreatDoorQ43
namespace Go.Proofs.YtemdillhbnmjkaaGreatDoor
open Go.RowKit

theorem TdL.at_ {α : Type} {e : TypeId} {R : World → Value → α → Prop} {w : World} {A : Option Addr} {n c : Nat} {xs : List α} (h : TdL e R w (.slice A n c) xs) {i : Nat} {x : α} (hi : xs[i]? = some x) :
    ∃ b u, A = some ⟨b, 0, none⟩ ∧ w.cell? ⟨b, i, none⟩ = some u ∧ R w u x := by
  obtain ⟨vs, h1, h2, h3⟩ := h
  have hl := (List.getElem?_eq_some_iff.1 hi).1
  obtain ⟨u, hu⟩ : ∃ u, vs[i]? = some u := ⟨_, List.getElem?_eq_getElem (by omega)⟩
  have hn : n = xs.length := by
    obtain ⟨A', c', he⟩ := h1.slice
    cases he; rfl
  subst hn
  obtain ⟨g, cap, cur, he, _, _⟩ := Own.blk h1 (by omega)
  cases he
  exact ⟨g, u, rfl, h1.cellAt hu, h3 i u x hu hi⟩

set_option maxHeartbeats 2000000 in
set_option maxRecDepth 100000 in
theorem fnDec_any (w : World) (v : Value) (g : Pl.Gr) (r : Int) (hv : In3 w v g) : Calls Tryz.prog 4 #[v, .int .i64 r] w (True2 w) := by
  obtain ⟨A, c, rfl⟩ := hv.rd.slice
  have HF := Lib.hid (fits1_any w _ g hv.len hv.len2 hv.rd)
  have HGr := Lib.hid (fun hf => grammar_any w _ g hf hv.rd)
  have HI := Lib.hid hv.ints
  clear hv
  go_enter Tryz.func4, Tryz.ntmps4
  go_wp2_with fail
  refine HF.out.mono ?_
  rintro e w' ⟨b, rfl, hb, rfl⟩
  cases b with
  | false =>
    clear hb
    go_wp2
    go_ret
    exact ⟨rfl, Chg.refl _ _⟩
  | true =>
    have hfit := hb rfl
    have HGG := Lib.hid (HGr.out hfit)
    have HFit := Lib.hid hfit
    clear hb hfit HGr
    go_wp2_with fail
    refine HGG.out.mono ?_
    rintro e w1 ⟨v1, rfl, hn⟩
    have hsl := New.slice hn
    obtain ⟨A1, c1, rfl⟩ := hsl
    have HN := Lib.hid hn
    have HGD := Lib.hid (good_any w1 _ g (T3.rd hn.td) HFit.out HI.out)
    clear hn
    go_wp2_with fail
    refine HGD.out.mono ?_
    rintro e w2 ⟨b, rfl, hb, hc⟩
    have HC2 := Lib.hid (HN.out.chg.trans hc)
    have HT3 := Lib.hid (t3_no _ _ _ _ HN.out.td hc)
    clear hc
    cases b with
    | false =>
      clear hb
      go_wp2
      go_ret
      exact ⟨rfl, HC2.out⟩
    | true =>
      have HG := Lib.hid (hb rfl)
      have hg6 := (hb rfl).len6
      clear hb HGG HGD HFit HF
      by_cases h1 : r < 0
      · go_wp2
        go_ret
        exact ⟨rfl, HC2.out⟩
      obtain ⟨rn, rfl⟩ : ∃ rn : Nat, r = (rn : Int) := ⟨r.toNat, by omega⟩
      clear h1
      by_cases h2 : rn < g.length
      case neg =>
        have h2' : decide (g.length ≤ rn) = true := decide_eq_true (by omega)
        go_wp2
        go_ret
        exact ⟨rfl, HC2.out⟩
      case pos =>
        have h2a : decide (g.length ≤ rn) = false := decide_eq_false (by omega)
        obtain ⟨alts, hal⟩ : ∃ u, g[rn]? = some u := ⟨_, List.getElem?_eq_getElem h2⟩
        obtain ⟨b2, A2, c2, rfl, k1, ht2⟩ := T3.at_ HT3.out hal
        have HT2 := Lib.hid ht2
        have HAL := Lib.hid hal
        have hn4 := HG.out.alts rn alts hal
        have hnet := net_any w2 _ g HG.out (T3.rd HT3.out)
        obtain ⟨s, hs⟩ : ∃ s, s = 2 * g.length + rn := ⟨_, rfl⟩
        have hblk := fun w' (h : Chg No w2 w') => block_any w' _ g rn (Rd3.no (T3.rd HT3.out) h) hg6 (by omega)
        rw [← hs] at hblk
        have hdec := fun w' vS vR vE vD (h : NetVal w' g vS vR vE vD) => implDec_any g HG.out w' vS vR vE vD h rn alts hal (by omega) s hs
        have HNet := Lib.hid hnet
        have HBlk := Lib.hid hblk
        have HDec := Lib.hid hdec
        have HS := Lib.hid hs
        have r0 : (0 : Int) ≤ (rn : Int) := by omega
        have r1 : (rn : Int) < (g.length : Int) := by omega
        clear ht2 hal hnet hblk hdec hs
        go_wp2_with fail
        refine HNet.out.mono ?_
        rintro e w3 ⟨vS, vR, vE, vD, rfl, o1, o2, o3, o4, hc3⟩
        have HA3 := Lib.hid (HBlk.out w3 hc3)
        have HL3 := Lib.hid (HDec.out w3 vS vR vE vD ⟨o1, o2, o3, o4⟩)
        have HC3 := Lib.hid hc3
        obtain ⟨AS, cS, rfl⟩ := o1.slice
        obtain ⟨AR, cR, rfl⟩ := o2.slice
        obtain ⟨AE, cE, rfl⟩ := o3.slice
        obtain ⟨AD, cD, rfl⟩ := o4.slice
        clear o1 o2 o3 o4 hc3
        go_wp2_with (first | (go_at_call 16; refine HA3.out.mono ?_; rintro e w' ⟨rfl, rfl⟩))
        refine HL3.out.mono ?_
        rintro e w4 ⟨v4, ms, rfl, hml, hms, hN⟩
        have HC4 := Lib.hid (HC3.out.trans hN.chg)
        obtain ⟨A4, c4, rfl⟩ := New.slice hN
        have hTd := hN.td
        rw [hml] at hTd
        have HTd := Lib.hid hTd
        have HMs := Lib.hid hms
        have k3 := Chg.kept HC4.out k1 (fun h => h)
        clear hms hN hTd k1
        have q1 : ((ms.length : Int) == (alts.length : Int)) = true := by simp [hml]
        have q2 : decide ((ms.length : Int) = (alts.length : Int)) = true := decide_eq_true (by rw [hml])
        have HML := Lib.hid hml
        rw [hml] at q1 q2 ⊢
        clear hml
        go_wp2
        go_loopw [49] (fun i wr => ∃ j : Nat, j ≤ alts.length ∧ i = .int .i64 (j : Int) ∧ Chg No w4 wr) (fun i _ => alts.length - (intOf i).toNat)
        case atStart => exact ⟨0, Nat.zero_le _, rfl, Chg.refl _ _⟩
        case round =>
          obtain ⟨j, hj, rfl, hc5⟩ := hrel
          by_cases hlt : j < alts.length
          · obtain ⟨alt, hu⟩ : ∃ u, alts[j]? = some u := ⟨_, List.getElem?_eq_getElem hlt⟩
            obtain ⟨b3, A3, c3, rfl, k4, ht1⟩ := T2.at_ HT2.out hu
            obtain ⟨m, hm⟩ : ∃ m, ms[j]? = some m := ⟨_, List.getElem?_eq_getElem (by have := HML.out; omega)⟩
            obtain ⟨b5, u5, rfl, k5, hR⟩ := TdL.at_ HTd.out hm
            have k6 := Chg.kept (HC4.out.trans hc5) k4 (fun h => h)
            have hal5 := HG.out.alt rn alts alt HAL.out (List.mem_of_getElem? hu)
            have hbg := begins_of wr _ (.slice A3 alt.length c3) g alt HG.out (Rd3.no (T3.rd HT3.out) (HC4.out.trans hc5)) (T1.rd (t1_no _ _ _ _ ht1 (HC4.out.trans hc5))) (fun s hs => HG.out.symsOk rn alts alt HAL.out (List.mem_of_getElem? hu) s hs) (by unfold maxLen; omega)
            have j0 : (0 : Int) ≤ (j : Int) := by omega
            have j1 : (j : Int) < (alts.length : Int) := by omega
            obtain ⟨hm64, hmt⟩ := HMs.out j m hm
            have hrow := fun hz => Pl.block_row HG.out (net_is HG.out) HAL.out hu hz hmt
            have HBg := Lib.hid hbg
            have HRow := Lib.hid hrow
            have HC5 := Lib.hid hc5
            have HR := Lib.hid hR
            have HK5 := Lib.hid k5
            clear hu k4 ht1 hm hR hbg hrow hmt hc5 k5
            go_wp2_with fail
            refine HBg.out.mono ?_
            rintro e w6 ⟨b6, rfl, h7, h8, h9⟩
            have hb7 := beg_seven g (Pl.emptyOf g) 7 alt
            have z0 : w6.cell? ⟨b6, 0, none⟩ = some (.bool (Pl.gb (Pl.beg g (Pl.emptyOf g) 7 alt) 0)) := by rw [h7.cell]; exact bcells_at (by omega)
            have HC6 := Lib.hid (HC5.out.trans h8)
            have HB6 := Lib.hid h7
            have HL7 := Lib.hid hb7
            clear h7 h8 h9 hb7
            cases hz : Pl.gb (Pl.beg g (Pl.emptyOf g) 7 alt) 0 with
            | true =>
              rw [hz] at z0
              go_wp2
              go_roundw
              case rel => exact ⟨j + 1, by omega, by go_num, HC6.out⟩
              case measure => simp [intOf]; omega
            | false =>
              rw [hz] at z0
              have k7 := Chg.kept HC6.out HK5.out (fun h => h)
              have hR6 := rgM_no _ _ _ _ HR.out HC6.out
              have HMk := Lib.hid (marks_any w6 u5 (Pl.canon m) hR6 (fun i hi => (Pl.canon_facts m hm64).2.1 i hi) (by have := (Pl.canon_facts m hm64).1; omega))
              rw [Pl.marksOf_canon hm64, HRow.out hz] at HMk
              obtain ⟨A6, c6, rfl⟩ := Own.slice hR6
              clear hR6
              go_wp2_with fail
              refine HMk.out.mono ?_
              rintro e w7 ⟨b7, rfl, h7, h8, h9⟩
              have HS7 := Lib.hid (same_any w7 b7 b6 7 _ HL7.out (by omega) h7 (HB6.out.chg h8 (fun h => h)))
              have HC7 := Lib.hid (HC6.out.trans h8)
              clear h7 h8 h9
              go_wp2_with fail
              refine HS7.out.mono ?_
              rintro e w8 ⟨rfl, nd, rfl⟩
              go_wp2
              go_roundw
              case rel => exact ⟨j + 1, by omega, by go_num, HC7.out.drewN nd⟩
              case measure => simp [intOf]; omega
          · obtain rfl : j = alts.length := by omega
            have HC5 := Lib.hid hc5
            clear hc5
            go_wp2
            go_ret
            exact ⟨rfl, (HC2.out.trans HC4.out).trans HC5.out⟩
end Go.Proofs.YtemdillhbnmjkaaGreatDoor

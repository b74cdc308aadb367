/- Deserializing: the edges are read (88). · Deserializing: the decisions are read; lexers and precedence. · Deserializing: the network is checked. Its first part is printed by gen_e9.py: what the type tests say. -/
import Derived.Test.YtemdillhbnmjkaaGreatDoorQ10
namespace Go.Proofs.YtemdillhbnmjkaaGreatDoor
open Go.RowKit

theorem encE_cons (e : Nat × TD) (l : List (Nat × TD)) (rest : List Int) : (e :: l).flatMap encE ++ rest = (e.1 : Int) :: (e.2.trg : Int) :: e.2.kn :: e.2.a1 :: e.2.a2 :: e.2.a3 :: (l.flatMap encE ++ rest) := by
  simp [encE]

theorem xs4_yes' (ds : List Ds) (bs : List Nat) (R J : Nat) (h : BlocksOk ds R) (d : Ds) (hd : ds[J]? = some d) (hk : d.k = .bstart) : xs4 ds bs R (J + 1) = (xs4 ds bs R J).set (J + R) (([Value.nilIface] : List Value).set 0 (dv ds bs J)) :=
  xs4_yes ds bs R J h d hd hk

set_option maxHeartbeats 2000000 in
set_option maxRecDepth 100000 in
theorem readEdges_any (w0 w : World) (bd g ba : Nat) (o : Value) (A : AF) (ds : List Ds) (bs : List Nat) (R : Nat) (ss : List St) (E : List (Nat × TD)) (rest : List Int)
    (h : EN w0 w bd g ba o A ds bs R (xs4 ds bs R 0) ss (List.replicate ds.length []) ((E.length : Int) :: (E.flatMap encE ++ rest)))
    (hn : ds.length < 1000) (hE : E.length < 300) (hok : RulesOk ds R) (hb : BlocksOk ds R) (he : EdgesOk ds R E) (hR : 0 < R) (T1 : List (List TD)) (hT1 : E.foldl addE (List.replicate ds.length []) = T1) :
    Calls Tryz.prog 88 #[.pointer (some ⟨bd, 0, none⟩), .pointer (some ⟨ba, 0, none⟩), .slice none 0 0] w fun e w' => e = .returned (.tuple #[]) ∧
      ∃ ss', EN w0 w' bd g ba o A ds bs R (xs4 ds bs R ds.length) ss' ((DJ R T1 ds.length).foldl addE T1) rest := by
  have Hok := Lib.hid hok
  have Hb := Lib.hid hb
  have He := Lib.hid he
  clear hok hb he
  go_enter Tryz.func88, Tryz.ntmps88
  go_wp2_with fail
  refine (readInt_any _ _ _ _ _ _ h.rd).mono ?_
  rintro e w1 ⟨rfl, hr, hc⟩
  have h1 := h.rdn hr hc
  clear h hr hc
  go_wp2
  go_loopw [7] (fun x wr => ∃ m : Nat, m ≤ E.length ∧ x = .int .i64 (m : Int) ∧ ∃ ss, EN w0 wr bd g ba o A ds bs R (xs4 ds bs R 0) ss ((E.take m).foldl addE (List.replicate ds.length [])) ((E.drop m).flatMap encE ++ rest)) (fun x _ => E.length - (intOf x).toNat)
  case atStart => exact ⟨0, Nat.zero_le _, rfl, ss, by simpa using h1⟩
  case round =>
    obtain ⟨m, hm, rfl, ss1, h2⟩ := hrel
    clear h1
    by_cases hlt : m < E.length
    · obtain ⟨e, hem⟩ : ∃ e, E[m]? = some e := ⟨_, List.getElem?_eq_getElem hlt⟩
      have hdrop : E.drop m = e :: E.drop (m + 1) := by
        rw [List.drop_eq_getElem_cons hlt]
        congr 1
        rw [List.getElem?_eq_getElem hlt] at hem; simpa using hem
      have htake : (E.take (m + 1)).foldl addE (List.replicate ds.length []) = addE ((E.take m).foldl addE (List.replicate ds.length [])) e := by
        rw [List.take_add_one, hem]; simp
      obtain ⟨ok1, ok2, ok3⟩ := He.out.all e (List.mem_of_getElem? hem)
      rw [hdrop, encE_cons] at h2
      go_wp2_with fail
      refine (readInt_any _ _ _ _ _ _ h2.rd).mono ?_
      rintro e' w2 ⟨rfl, hr, hc⟩
      have h3 := h2.rdn hr hc
      clear h2 hr hc
      go_wp2_with fail
      refine (readInt_any _ _ _ _ _ _ h3.rd).mono ?_
      rintro e' w3 ⟨rfl, hr, hc⟩
      have h4 := h3.rdn hr hc
      clear h3 hr hc
      go_wp2_with fail
      refine (readInt_any _ _ _ _ _ _ h4.rd).mono ?_
      rintro e' w4 ⟨rfl, hr, hc⟩
      have h5 := h4.rdn hr hc
      clear h4 hr hc
      go_wp2_with fail
      refine (readInt_any _ _ _ _ _ _ h5.rd).mono ?_
      rintro e' w5 ⟨rfl, hr, hc⟩
      have h6 := h5.rdn hr hc
      clear h5 hr hc
      go_wp2_with fail
      refine (readInt_any _ _ _ _ _ _ h6.rd).mono ?_
      rintro e' w6 ⟨rfl, hr, hc⟩
      have h7 := h6.rdn hr hc
      clear h6 hr hc
      go_wp2_with fail
      refine (readInt_any _ _ _ _ _ _ h7.rd).mono ?_
      rintro e' w7 ⟨rfl, hr, hc⟩
      have h8 := h7.rdn hr hc
      clear h7 hr hc
      go_wp2_with fail
      refine (edge_any _ _ _ _ _ _ _ _ _ _ _ _ _ _ h8 _ _ _ ok3 hn).mono ?_
      rintro e' w8 ⟨t, rfl, ht, h9⟩
      clear h8
      obtain ⟨gv, cap, _, ca, cv⟩ := h9.st (by omega)
      obtain ⟨d, s, b, q1, q2, q3, q4, q5, q6, q7⟩ := h9.dvAt ok1
      have cx := cv e.1 ok1
      rw [q7] at cx
      obtain ⟨ts, hts⟩ : ∃ ts, ((E.take m).foldl addE (List.replicate ds.length []))[e.1]? = some ts := ⟨_, List.getElem?_eq_getElem (by rw [adds_length]; simpa using ok1)⟩
      have hlen : ts.length < 1000 := by
        have := adds_len (E.take m) (List.replicate ds.length []) 0 (by intro j ts hj; rw [List.getElem?_replicate] at hj; split at hj <;> simp at hj; simp [← hj]) e.1 ts hts
        rw [List.length_take] at this
        omega
      have hfin := en_add _ _ _ _ _ _ _ _ _ _ _ _ _ _ h9 e.1 b t s ts e.2 q2 q3 hts ht hlen
      have Hfin := Lib.hid hfin
      have Htake := Lib.hid htake
      have He1 : e.1 < 1000 := by omega
      generalize hsrc : e.1 = src at *
      clear h9 hfin htake hts hlen q1 q2 q3 q4 q5 q6 q7 cv ht hdrop hem ok2 ok3
      go_wp2_with fail
      refine Hfin.out.mono ?_
      rintro e' w9 ⟨rfl, s', h10⟩
      clear ca cx
      go_wp2
      go_roundw
      case rel =>
        refine ⟨m + 1, by omega, by go_num, ss1.set src s', ?_⟩
        rw [Htake.out]
        rw [show (src, e.2) = e from by rw [← hsrc]] at h10
        exact h10
      case measure => simp [intOf]; omega
    · obtain rfl : m = E.length := by omega
      rw [List.take_length, List.drop_length, List.flatMap_nil, List.nil_append, hT1] at h2
      clear hlt hm
      have hT1len : T1.length = ds.length := by rw [← hT1, adds_length]; simp
      have hrow : ∀ (j : Nat) ts, T1[j]? = some ts → ts.length ≤ E.length ∧ ∀ d ∈ ts, d.ok ds.length R ∧ ∀ d', ds[j]? = some d' → d'.k ≠ .rstop := by
        intro j ts hj
        refine ⟨?_, ?_⟩
        · have := adds_len E (List.replicate ds.length []) 0 (by intro j ts hj; rw [List.getElem?_replicate] at hj; split at hj <;> simp at hj; simp [← hj]) j ts (by rw [hT1]; exact hj)
          omega
        · intro d hd
          rw [← hT1, adds_at, List.getElem?_replicate] at hj
          split at hj
          · simp at hj
            rw [← hj] at hd
            obtain ⟨e, he1, rfl⟩ := List.mem_map.1 hd
            obtain ⟨he2, he3⟩ := List.mem_filter.1 he1
            obtain ⟨k1, k2, k3⟩ := He.out.all e he2
            have he3' : e.1 = j := by simpa using he3
            subst he3'
            exact ⟨k3, k2⟩
          · cases hj
      have hcnt : T1.flatten.length ≤ E.length := by
        have := adds_flat E (List.replicate ds.length [])
        rw [hT1] at this
        simpa using this
      have Hrow := Lib.hid hrow
      clear hrow hT1 He
      have h0 : 0 < ds.length := (List.getElem?_eq_some_iff.1 (Hok.out.start 0 hR)).1
      obtain ⟨gv, cap, est, ca, cv⟩ := h2.st h0
      have Est := Lib.hid est
      have H2 := Lib.hid h2
      clear cv est h2
      go_wp2
      clear ca
      go_loopw [84] (fun x wr => ∃ j : Nat, j ≤ ds.length ∧ x = .int .i64 (j : Int) ∧ ∃ ss, EN w0 wr bd g ba o A ds bs R (xs4 ds bs R 0) ss ((DJ R T1 j).foldl addE T1) rest) (fun x _ => ds.length - (intOf x).toNat)
      case atStart => exact ⟨0, Nat.zero_le _, rfl, ss1, by rw [DJ_zero]; exact H2.out⟩
      case round =>
        obtain ⟨j, hj, rfl, ss2, h3⟩ := hrel
        clear H2
        by_cases hlt : j < ds.length
        · obtain ⟨gv', cap', est', _, cv⟩ := h3.st (by omega)
          have hgv : gv' = gv := by have := est'.symm.trans Est.out; simp at this; exact this.1
          subst hgv
          obtain ⟨d, s, b, q1, q2, q3, q4, q5, q6, q7⟩ := h3.dvAt hlt
          have cx := cv j hlt
          rw [q7] at cx
          obtain ⟨r, hr⟩ : ∃ r, ((DJ R T1 j).foldl addE T1)[j]? = some r := ⟨_, List.getElem?_eq_getElem (by rw [adds_length, hT1len]; exact hlt)⟩
          obtain ⟨t0, x, ht0, hrx, hx⟩ := adds_row (der_eps R _) hr
          have hder : r.flatMap (der R) = t0.flatMap (der R) := by rw [hrx, List.flatMap_append, flat_eps R x hx, List.append_nil]
          have hDJ : DJ R T1 (j + 1) = DJ R T1 j ++ r.flatMap (der R) := by rw [DJ_succ R T1 j t0 ht0, hder]
          obtain ⟨tb, etb, hown, _⟩ := (h3.net.row j s r q2 hr).ex
          obtain ⟨A', c', esl⟩ := Own.slice hown
          have c6 : wr.cell? ⟨b, 6, none⟩ = some (.slice A' r.length c') := by rw [(h3.net.core.sts.at_ j s b q2 q3).cell, St.c6, esl]
          have hrlen : r.length < 1000 := by
            have h5 := adds_len (DJ R T1 j) T1 E.length (fun i ts hi => (Hrow.out i ts hi).1) j r hr
            have h6 : (DJ R T1 j).length ≤ T1.flatten.length := Nat.le_trans (der_len R _) (take_flat T1 j)
            omega
          have H3 := Lib.hid h3
          have HDJ := Lib.hid hDJ
          have Hr := Lib.hid hr
          have Q2 := Lib.hid q2
          have Q1 := Lib.hid q1
          have Esl := Lib.hid esl
          have Hx := Lib.hid (show r = t0 ++ x ∧ (∀ d ∈ x, ∃ f, d = .eps f) ∧ T1[j]? = some t0 from ⟨hrx, hx, ht0⟩)
          clear h3 hDJ hr q2 q1 q4 q5 q6 q7 hder hrx hx ht0 etb hown cv est' esl
          go_wp2_with (first | (go_at_call 121; refine (getTrans_s _ _ _ c6 ⟨_, _, _, rfl⟩).mono ?_; rintro e w' ⟨rfl, rfl⟩))
          clear c6 cx
          go_loopw [91] (fun x wr => ∃ i : Nat, i ≤ r.length ∧ x = .int .i64 (i : Int) ∧ ∃ ss, EN w0 wr bd g ba o A ds bs R (xs4 ds bs R 0) ss ((DJ R T1 j ++ (r.take i).flatMap (der R)).foldl addE T1) rest ∧ ss[j]? = some s ∧
            ((DJ R T1 j ++ (r.take i).flatMap (der R)).foldl addE T1)[j]? = some r) (fun x _ => r.length - (intOf x).toNat)
          case atStart => exact ⟨0, Nat.zero_le _, rfl, ss2, by simpa using H3.out, Q2.out, by simpa using Hr.out⟩
          case round =>
            obtain ⟨i, hi, rfl, ss3, h4, hss, hT⟩ := hrel
            clear H3 Q2 Hr
            by_cases hlt2 : i < r.length
            · obtain ⟨de, hde⟩ : ∃ de, r[i]? = some de := ⟨_, List.getElem?_eq_getElem hlt2⟩
              have hstep : (r.take (i + 1)).flatMap (der R) = (r.take i).flatMap (der R) ++ der R de := by rw [List.take_add_one, hde]; simp
              obtain ⟨tb, etb, hown, htr⟩ := (h4.net.row j s r hss hT).ex
              obtain ⟨t, htb⟩ : ∃ t, tb[i]? = some t := ⟨_, List.getElem?_eq_getElem (by omega)⟩
              have htrat := htr i t de htb hde
              rw [Esl.out] at hown
              obtain ⟨g1, cap1, cur1, ev1, hblk1, _⟩ := Own.blk hown (by omega)
              cases ev1
              have ce : wr.cell? ⟨g1, i, none⟩ = some (.iface de.tk.ptr (.pointer (some ⟨t, 0, none⟩))) := by
                refine Own.cellAt hown ?_
                rw [List.getElem?_map, List.getElem?_zip_eq_some.2 (show r[i]? = some (de, t).1 ∧ tb[i]? = some (de, t).2 from ⟨hde, htb⟩)]; rfl
              by_cases hk : de.tk = .rule
              · obtain ⟨st, f, q, rfl⟩ : ∃ st f q, de = .rule st f q := by
                  cases de with
                  | rule st f q => exact ⟨st, f, q, rfl⟩
                  | eps => cases hk
                  | atom => cases hk
                obtain ⟨hx1, hx2, hx3⟩ := Hx.out
                have hmem : TD.rule st f q ∈ t0 := by
                  have := List.mem_of_getElem? hde
                  rw [hx1, List.mem_append] at this
                  rcases this with h | h
                  · exact h
                  · obtain ⟨f', hf'⟩ := hx2 _ h; cases hf'
                obtain ⟨⟨ok1, ok2, ok3⟩, ok4⟩ := (Hrow.out j t0 hx3).2 _ hmem
                have hdst := Hok.out.start st ok1
                have hdsp := Hok.out.stop st ok1
                have hpl : R + st < ds.length := (List.getElem?_eq_some_iff.1 hdsp).1
                have hjne : R + st ≠ j := by
                  rintro rfl
                  exact ok4 _ Q1.out (by have := hdsp.symm.trans Q1.out; cases this; rfl)
                obtain ⟨d1, s1, b1, u1, u2, u3, u4, u5, u6, u7⟩ := h4.dvAt ok2
                rw [hdst] at u1; cases u1
                obtain ⟨d2, s2, b2, v1, v2, v3, v4, v5, v6, v7⟩ := h4.dvAt hpl
                rw [hdsp] at v1; cases v1
                obtain ⟨df, sf, bf, f1, f2, f3, f4, f5, f6, f7⟩ := h4.dvAt ok3
                obtain ⟨pp, htc⟩ := htrat
                obtain ⟨g2, cap2, _, ers, hbrs, _⟩ := Own.blk h4.rs hR
                obtain ⟨g3, cap3, _, erp, hbrp, _⟩ := Own.blk h4.rp hR
                have hb1 := h4.net.core.sts.at_ st s1 b1 u2 u3
                have c0 : wr.cell? ⟨t, 0, none⟩ = some (.iface 271 (.pointer (some ⟨b1, 0, none⟩))) := by rw [htc.cell, u7]; rfl
                have c5 : wr.cell? ⟨t, 5, none⟩ = some (.iface df.k.ptr (.pointer (some ⟨bf, 0, none⟩))) := by rw [htc.cell, f7]; rfl
                have c7 : wr.cell? ⟨t, 7, none⟩ = some (.int .i64 pp) := by rw [htc.cell]; rfl
                have c3 : wr.cell? ⟨b1, 3, none⟩ = some (.int .i64 (st : Int)) := by rw [hb1.cell, St.c3, u5]
                have c8 : wr.cell? ⟨b1, 8, none⟩ = some (.bool false) := by
                  rw [hb1.cell, St.c7 _ ba st 1]
                  have := congrArg (fun l => l[st]?) h4.extra
                  simp only [List.getElem?_map, u2, Option.map_some, xs4_at, hdst] at this
                  simp [Ds.fin2] at this
                  rw [this]; rfl
                have ca6 : wr.cell? ⟨ba, 6, none⟩ = some (.slice (some ⟨g2, 0, none⟩) R cap2) := by rw [h4.net.core.atn.cell, ← ers]; rfl
                have hrs' := h4.rs
                rw [ers] at hrs'
                have cg2 : wr.cell? ⟨g2, st, none⟩ = some (.pointer (some ⟨b1, 0, none⟩)) := by
                  refine Own.cellAt hrs' ?_
                  rw [pvs_at _ _ _ _ _ ok1, if_pos ok1, Nat.zero_add, u3]; rfl
                have hta : ∀ (x : Addr) (w : World), (Instr.typeAssert (.iface (TD.rule st f q).tk.ptr (.pointer (some x))) 179 191 true).run Tryz.prog w = .ok (.tuple #[.pointer (some x), .bool true]) w := fun x w => ta_rule x w
                have H4 := Lib.hid h4
                have Hss := Lib.hid hss
                have HT := Lib.hid hT
                have Hstep := Lib.hid hstep
                have Erp := Lib.hid erp
                have V2 := Lib.hid v2
                have V3 := Lib.hid v3
                have F7 := Lib.hid f7
                have U2 := Lib.hid (show ss3[st]? = some s1 ∧ s1.rule = (st : Int) ∧ bs[st]? = some b1 from ⟨u2, u5, u3⟩)
                clear h4 hss hT hstep etb hown htr htb hde hblk1 erp v2 v3 v4 v5 v6 v7 f1 f2 f3 f4 f5 f6 f7 u2 u3 u4 u5 u6 u7 htc hbrs hbrp ers hrs' hb1 hdst hdsp hmem hx1 hx2 hx3 ok4 hk
                go_wp2
                go_quiet (first | (go_at_call 77; exact getTarget_q _ _ _ _ c0 ⟨_, _, rfl⟩) | (go_at_call 221; exact ruleIndex_q _ _ _ _ c3))
                go_wp2_with (first | (go_at_call 119; refine (newEps_any _ _ _ ⟨_, _, rfl⟩).mono ?_; rintro e w5 ⟨rfl, hw5⟩))
                have h5 : EN w0 w5 bd g ba o A ds bs R (xs4 ds bs R 0) ss3 ((DJ R T1 j ++ (r.take i).flatMap (der R)).foldl addE T1) rest := by
                  rw [← hw5]; exact H4.out.no (((Chg.refl _ _).drewN _).alloc _)
                obtain ⟨t', ht'⟩ : ∃ t', t' = wr.heap.size := ⟨_, rfl⟩
                have htr5 : TrAt w5 ds bs t' (.eps f) := ⟨-1, by rw [← hw5, ht', F7.out]; exact Blk.new _ _ _⟩
                have hc1 : Chg No wr w5 := by rw [← hw5]; exact (((Chg.refl _ _).drewN _).alloc _)
                have e0 := hc1.keep c0 (fun h => h)
                have e3 := hc1.keep c3 (fun h => h)
                have erp' : w5.cell? ⟨ba, 7, none⟩ = some (.slice (some ⟨g3, 0, none⟩) R cap3) := by rw [h5.net.core.atn.cell, ← Erp.out]; rfl
                have hrp' := h5.rp
                rw [Erp.out] at hrp'
                have eg3 : w5.cell? ⟨g3, st, none⟩ = some (.pointer (some ⟨b2, 0, none⟩)) := by
                  refine Own.cellAt hrp' ?_
                  rw [pvs_at _ _ _ _ _ ok1, if_pos ok1, V3.out]; rfl
                obtain ⟨ts2, hts2⟩ : ∃ ts2, ((DJ R T1 j ++ (r.take i).flatMap (der R)).foldl addE T1)[R + st]? = some ts2 := ⟨_, List.getElem?_eq_getElem (by rw [adds_length, hT1len]; exact hpl)⟩
                have hlen2 : ts2.length < 1000 := by
                  have k5 := adds_len _ T1 E.length (fun i ts hi => (Hrow.out i ts hi).1) (R + st) ts2 hts2
                  have k6 : (DJ R T1 j).length ≤ T1.flatten.length := Nat.le_trans (der_len R _) (take_flat T1 j)
                  have k7 : ((r.take i).flatMap (der R)).length ≤ E.length := by
                    have k8 := take_der R r i
                    obtain ⟨hx1, hx2, hx3⟩ := Hx.out
                    rw [hx1, List.flatMap_append, flat_eps R x hx2, List.append_nil, ← hx1] at k8
                    have k9 := der_len R t0
                    have k10 := (Hrow.out j t0 hx3).1
                    have : ((r.take i).flatMap (der R)).length ≤ E.length := by omega
                    exact this
                  rw [List.length_append] at k5
                  omega
                have hadd := en_add _ _ _ _ _ _ _ _ _ _ _ _ _ _ (h5.no ((Chg.refl _ _).drew)) (R + st) b2 t' s2 ts2 (.eps f) V2.out V3.out hts2 (htr5.chg (S := No) ((Chg.refl _ _).drew) (fun _ h => h.elim)) hlen2
                have Hadd := Lib.hid hadd
                clear hadd h5 htr5 c0 c5 c7 c3 c8 ca6 cg2 hts2 ce hrp' hc1
                have hT' : wr.heap.size = t' := ht'.symm
                rw [hT']
                clear hw5 ht' hT'
                refine wp_tail 15 (by kernel_rfl) ?_
                simp only [List.take_succ_cons, List.take_zero, List.drop_succ_cons, List.drop_zero]
                repeat (first | still_step | still_call (getTarget_s _ _ _ e0 ⟨_, _, rfl⟩) | still_call (ruleIndex_s _ _ _ e3))
                refine wpStill_nil ?_
                go_wp2_with fail
                refine Hadd.out.mono ?_
                rintro e w6 ⟨rfl, s', h6⟩
                go_wp2
                go_roundw
                case rel =>
                  have hd : DJ R T1 j ++ (r.take (i + 1)).flatMap (der R) = (DJ R T1 j ++ (r.take i).flatMap (der R)) ++ [(R + st, .eps f)] := by rw [Hstep.out, List.append_assoc]; rfl
                  refine ⟨i + 1, by omega, by go_num, ss3.set (R + st) s', ?_, ?_, ?_⟩
                  · rw [hd, List.foldl_append]; exact h6
                  · rw [List.getElem?_set_ne hjne]; exact Hss.out
                  · rw [hd, List.foldl_append]
                    show (addE _ _)[j]? = _
                    rw [addE_at, if_neg hjne]; exact HT.out
                case measure => simp [intOf]; omega
              · have hta := fun x w => ta_norule de.tk hk x w
                have hfin : (DJ R T1 j ++ (r.take (i + 1)).flatMap (der R)) = (DJ R T1 j ++ (r.take i).flatMap (der R)) := by
                  rw [hstep]
                  cases de with
                  | rule => exact absurd rfl hk
                  | eps => simp [der]
                  | atom => simp [der]
                have Hf := Lib.hid hfin
                have H4 := Lib.hid h4
                have Hss := Lib.hid hss
                have HT := Lib.hid hT
                clear hfin h4 hss hT hstep etb hown htr htrat htb hde hblk1
                go_wp2
                go_roundw
                case rel => exact ⟨i + 1, by omega, by go_num, ss3, by rw [Hf.out]; exact H4.out, Hss.out, by rw [Hf.out]; exact HT.out⟩
                case measure => simp [intOf]; omega
            · obtain rfl : i = r.length := by omega
              rw [List.take_length, ← HDJ.out] at h4
              have H4 := Lib.hid h4
              clear h4 hss hT
              go_wp2
              go_roundw
              case rel => exact ⟨j + 1, by omega, by go_num, ss3, H4.out⟩
              case measure => simp [intOf]; omega
        · obtain rfl : j = ds.length := by omega
          clear hlt hj
          obtain ⟨T2, hT2⟩ : ∃ T2, (DJ R T1 ds.length).foldl addE T1 = T2 := ⟨_, rfl⟩
          rw [hT2] at h3
          obtain ⟨gv', cap', est', ca, _⟩ := h3.st h0
          have H3 := Lib.hid h3
          clear h3
          go_wp2
          clear ca
          go_loopw [155] (fun x wr => ∃ j : Nat, j ≤ ds.length ∧ x = .int .i64 (j : Int) ∧ ∃ ss, EN w0 wr bd g ba o A ds bs R (xs4 ds bs R j) ss T2 rest) (fun x _ => ds.length - (intOf x).toNat)
          case atStart => exact ⟨0, Nat.zero_le _, rfl, ss2, H3.out⟩
          case round =>
            obtain ⟨j, hj, rfl, ss4, h4⟩ := hrel
            clear H3
            by_cases hlt : j < ds.length
            · obtain ⟨gv2, cap2, est2, _, cv⟩ := h4.st h0
              have hgv : gv2 = gv' := by have := est2.symm.trans est'; simp at this; exact this.1
              subst hgv
              obtain ⟨d, s, b, q1, q2, q3, q4, q5, q6, q7⟩ := h4.dvAt hlt
              have cx := cv j hlt
              rw [q7] at cx
              have hp := fun x w => ta_noplus d.k x w
              have hs := fun x w => ta_nostar d.k x w
              by_cases hk : d.k = .bstart
              · obtain ⟨arg1, r', a', arg2⟩ := Hb.out.arg j d q1 hk
                have hel : j + R < ds.length := (List.getElem?_eq_some_iff.1 arg2).1
                obtain ⟨de, se, be, p1, p2, p3, p4, p5, p6, p7⟩ := h4.dvAt hel
                rw [arg2] at p1; cases p1
                obtain ⟨_, c9, _⟩ := h4.ext (i := 2) (x := (d.fin2 bs R).extra) (v := .pointer (some ⟨be, 0, none⟩)) q2 q3 (by rw [xs4_at, q1]; simp [hk]) (by
                  simp [Ds.fin2, Ds.fin, Ds.st, SK.zero, hk, arg1]
                  have e : ((j : Int) + (R : Int)).toNat = j + R := by omega
                  rw [e, p3]; rfl)
                obtain ⟨ee, c7, f7⟩ := h4.ext (i := 0) (x := [.nilIface]) (v := .nilIface) p2 p3 (by rw [xs4_at, arg2]; simp) rfl
                have hfin := en_set h4 p2 p3 (i := 0) (dv ds bs j)
                rw [ee, ← xs4_yes' ds bs R j Hb.out d q1 hk] at hfin
                rw [q7, hk] at hfin
                rw [hk] at cx
                have hta := fun x w => ta_block x w
                rw [hk] at hp hs
                have Hf := Lib.hid hfin
                have Est' := Lib.hid est'
                clear hfin h4 q1 q2 q3 q4 q5 q6 q7 p2 p3 p4 p5 p6 p7 arg1 arg2 ee cv est' est2
                go_wp2_with (first | (go_at_call 241; refine (getEnd_s _ _ _ c9).mono ?_; rintro e w' ⟨rfl, rfl⟩))
                go_roundw
                case rel => exact ⟨j + 1, by omega, by go_num, _, Hf.out⟩
                case measure => simp [intOf]; omega
              · have hta := fun x w => ta_noblock d.k hk x w
                have hfin := h4
                rw [← xs4_no ds bs R j Hb.out (by intro d' hd'; rw [q1] at hd'; cases hd'; exact hk)] at hfin
                have Hf := Lib.hid hfin
                have Est' := Lib.hid est'
                clear hfin h4 q1 q2 q3 q4 q5 q6 q7 cv est' est2 hk
                go_wp2
                go_roundw
                case rel => exact ⟨j + 1, by omega, by go_num, ss4, Hf.out⟩
                case measure => simp [intOf]; omega
            · obtain rfl : j = ds.length := by omega
              go_wp2
              go_end0
              exact ⟨rfl, ss4, by rw [hT2]; exact h4⟩
end Go.Proofs.YtemdillhbnmjkaaGreatDoor
namespace Go.Proofs.YtemdillhbnmjkaaGreatDoor
open Go.RowKit

/-- what a state's own fields hold, in the end -/
def xok (ds : List Ds) (bs : List Nat) (R j : Nat) (d : Ds) (x : List Value) : Prop :=
  match d.k with
  | .rstart => x = [.iface SK.rstop.ptr (.pointer (some ⟨(bs[R + d.rule.toNat]?).getD 0, 0, none⟩)), .bool false]
  | .bstart => ∃ n : Nat, n < 1000 ∧ x = [.int .i64 (n : Int), .bool false, .pointer (some ⟨(bs[j + R]?).getD 0, 0, none⟩)]
  | .bend => x = [dv ds bs (j - R)]
  | _ => x = []
def XOk (ds : List Ds) (bs : List Nat) (R : Nat) (X : List (List Value)) : Prop := ∀ (j : Nat) d x, ds[j]? = some d → X[j]? = some x → xok ds bs R j d x

theorem xok4 (ds : List Ds) (bs : List Nat) (R : Nat) (hb : BlocksOk ds R) : XOk ds bs R (xs4 ds bs R ds.length) := by
  intro j d x hd hx
  have hj := (List.getElem?_eq_some_iff.1 hd).1
  rw [xs4_at, hd] at hx
  simp at hx
  subst hx
  unfold xok
  cases hk : d.k <;> simp [Ds.fin2, Ds.fin, Ds.st, SK.zero, hk]
  · refine ⟨0, by omega, rfl, ?_⟩
    obtain ⟨h1, _⟩ := hb.arg j d hd hk
    rw [h1]
    have : (((j + R : Nat) : Int)).toNat = j + R := by omega
    rw [this]
  · intro h; omega

theorem XOk.dec {ds : List Ds} {bs : List Nat} {R : Nat} {X : List (List Value)} (h : XOk ds bs R X) {j n : Nat} {d : Ds} {x : List Value} (hd : ds[j]? = some d) (hk : d.k = .bstart) (hx : X[j]? = some x) (hn : n < 1000) :
    XOk ds bs R (X.set j (x.set 0 (.int .i64 (n : Int)))) := by
  intro i d' x' hd' hx'
  rw [List.getElem?_set] at hx'
  split at hx'
  · rename_i hij; subst hij
    split at hx'
    · rw [hd] at hd'; cases hd'; cases hx'
      have h1 := h j d x hd hx
      unfold xok at h1 ⊢
      simp only [hk] at h1 ⊢
      obtain ⟨m, _, h2⟩ := h1
      exact ⟨n, hn, by rw [h2]; rfl⟩
    · cases hx'
  · exact h i d' x' hd' hx'

theorem run_typeAssert_hasP {P : Program} {w : World} {t xT asserted : TypeId} {v : Value} {want : Array (String × TypeId)} (hu : P.underlying asserted = some (.interface want)) (h : (P.info? t).map (fun i => (lacking want i.methods).isEmpty) = some true) :
    (Instr.typeAssert (.iface t v) xT asserted false).run P w = .ok (.iface t v) w := by
  obtain ⟨i, hi, hl⟩ := Option.map_eq_some_iff.1 h
  simp [Instr.typeAssert, run_underlying hu, typeInfo, hi, missingMethod_none (List.isEmpty_iff.1 hl)]
theorem ta_dec (a : Addr) (w : World) : (Instr.typeAssert (.iface SK.bstart.ptr (.pointer (some a))) 109 267 false).run Tryz.prog w = .ok (.iface SK.bstart.ptr (.pointer (some a))) w :=
  run_typeAssert_hasP Tryz.underlying267 (by kernel_rfl)
theorem et110 : ET 110 267 .nilIface 1 16 := ⟨by kernel_rfl, by kernel_rfl, rfl, by decide⟩

theorem setDecision_any (w : World) (b : Nat) (x : Value) (n : Int) (c : w.cell? ⟨b, 7, none⟩ = some x) (f : w.frozen? ⟨b, 7, none⟩ = false) :
    Calls Tryz.prog 237 #[.pointer (some ⟨b, 0, none⟩), .int .i64 n] w fun e w' => e = .returned (.tuple #[]) ∧ w.setCell ⟨b, 7, none⟩ (.int .i64 n) = w' := by
  go_enter Tryz.func237, Tryz.ntmps237
  go_wp2
  go_end0
  exact ⟨rfl, rfl⟩

/-- what is known while the decisions are read -/
structure ED (w0 w : World) (bd g ba : Nat) (o : Value) (A : AF) (ds : List Ds) (bs : List Nat) (R : Nat) (T : List (List TD)) (rest : List Int) (m : Nat) : Prop where
  mk' ::
  ex : ∃ v X ss us, EN w0 w bd g ba o { A with dec := v } ds bs R X ss T rest ∧ XOk ds bs R X ∧ Own w 267 1 v m us ∧ ∀ k, v.ownBlock = some k → w0.heap.size ≤ k

set_option maxHeartbeats 1000000 in
set_option maxRecDepth 100000 in
theorem readDecisions_any (w0 w : World) (bd g ba : Nat) (o : Value) (A : AF) (ds : List Ds) (bs : List Nat) (R : Nat) (T : List (List TD)) (D : List Nat) (rest : List Int)
    (h : ED w0 w bd g ba o A ds bs R T ((D.length : Int) :: (D.map (fun (x : Nat) => (x : Int)) ++ rest)) 0)
    (hn : ds.length < 1000) (hDl : D.length < 900) (hD : ∀ j ∈ D, ∃ d, ds[j]? = some d ∧ d.k = .bstart) :
    Calls Tryz.prog 89 #[.pointer (some ⟨bd, 0, none⟩), .pointer (some ⟨ba, 0, none⟩)] w fun e w' => e = .returned (.tuple #[]) ∧ ED w0 w' bd g ba o A ds bs R T rest D.length := by
  obtain ⟨v, X, ss, us, hen, hX, how, hfr⟩ := h.ex
  have HD := Lib.hid hD
  clear hD h
  go_enter Tryz.func89, Tryz.ntmps89
  go_wp2_with fail
  refine (readInt_any _ _ _ _ _ _ hen.rd).mono ?_
  rintro e w1 ⟨rfl, hr, hc⟩
  have h1 : ED w0 w1 bd g ba o A ds bs R T (D.map (fun (x : Nat) => (x : Int)) ++ rest) 0 := ⟨v, X, ss, us, hen.rdn hr hc, hX, Own.rd how hen.rd hc (by decide), hfr⟩
  have H1 := Lib.hid h1
  clear h1 hen hr hc hX how hfr
  go_wp2
  go_loopw [5] (fun x wr => ∃ m : Nat, m ≤ D.length ∧ x = .int .i64 (m : Int) ∧ ED w0 wr bd g ba o A ds bs R T ((D.drop m).map (fun (x : Nat) => (x : Int)) ++ rest) m) (fun x _ => D.length - (intOf x).toNat)
  case atStart => exact ⟨0, Nat.zero_le _, rfl, by simpa using H1.out⟩
  case round =>
    obtain ⟨m, hm, rfl, h2⟩ := hrel
    clear H1
    by_cases hlt : m < D.length
    · obtain ⟨j, hj⟩ : ∃ j, D[m]? = some j := ⟨_, List.getElem?_eq_getElem hlt⟩
      have hdrop : D.drop m = j :: D.drop (m + 1) := by
        rw [List.drop_eq_getElem_cons hlt]
        congr 1
        rw [List.getElem?_eq_getElem hlt] at hj; simpa using hj
      obtain ⟨d, hd, hk⟩ := HD.out j (List.mem_of_getElem? hj)
      have hjl : j < ds.length := (List.getElem?_eq_some_iff.1 hd).1
      rw [hdrop] at h2
      obtain ⟨v, X, ss, us, hen, hX, how, hfr⟩ := h2.ex
      go_wp2_with fail
      refine (readInt_any _ _ _ _ _ _ hen.rd).mono ?_
      rintro e' w2 ⟨rfl, hr, hc⟩
      have h3 := hen.rdn hr hc
      have how3 := Own.rd how hen.rd hc (by decide)
      clear hen how hr hc h2 hdrop
      obtain ⟨gv, cap, _, ca, cv⟩ := h3.st (by omega)
      obtain ⟨d', s, b, q1, q2, q3, q4, q5, q6, q7⟩ := h3.dvAt hjl
      rw [hd] at q1; cases q1
      have cx := cv j hjl
      rw [q7, hk] at cx
      have c0 : w2.cell? ⟨ba, 0, none⟩ = some v := by rw [h3.net.core.atn.cell]; rfl
      have f0 := h3.net.core.atn.fz 0
      have l0 := h3.net.core.atn.lt
      have hta := fun x w => ta_dec x w
      obtain ⟨A', c', rfl⟩ := Own.slice how3
      have H3 := Lib.hid h3
      have HX := Lib.hid hX
      have Q2 := Lib.hid q2
      have Q3 := Lib.hid q3
      have Hfr := Lib.hid hfr
      have Hd := Lib.hid hd
      have Hk := Lib.hid hk
      clear h3 hX q2 q3 q4 q5 q6 q7 cv hfr hd hk hj
      go_wp2_with (first | (at_builtin; refine wp_app et110 rfl _ _ rfl (.slice A' m c') m us rfl ?c1 _ rfl [.iface SK.bstart.ptr (.pointer (some ⟨b, 0, none⟩))] ?c2 rfl ?c3 ?c4 ?c5 ?c6))
      case c1 => exact Own.chg how3 ((Chg.refl No w2).alloc _) (fun _ _ h => h)
      case c2 => exact Blk.at_new (by simp) _ _
      case c3 => simp [Value.oneCell']
      case c4 => omega
      case c5 => omega
      case c6 =>
        intro g2 c2 w4 hown4 hgr hloc
        have h4 := (H3.out.no ((Chg.refl No w2).alloc (.cells #[.iface SK.bstart.ptr (.pointer (some ⟨b, 0, none⟩))] 267))).chgS (Chg.grownBy hgr) (by
            intro k hk _
            obtain ⟨c, hc⟩ := Own.own (Own.chg how3 ((Chg.refl No w2).alloc (.cells #[.iface SK.bstart.ptr (.pointer (some ⟨b, 0, none⟩))] 267)) (fun _ _ h => h)) hk.symm
            exact ⟨c, 267, hc, by decide, by decide, fun q => by cases q <;> decide⟩) (by
            intro k hk hS
            exact absurd (Hfr.out k hS.symm) (by omega))
        have h5 := h4.put 0 (.slice (some ⟨g2, 0, none⟩) (m + 1) c2) (A' := { A with dec := .slice (some ⟨g2, 0, none⟩) (m + 1) c2 }) (by simp [AF.cells]) rfl rfl rfl
        have c0 : w4.cell? ⟨ba, 0, none⟩ = some (.slice A' m c') := by rw [h4.net.core.atn.cell]; rfl
        have f0 := h4.net.core.atn.fz 0
        have hxl : j < X.length := by have := h5.extra; rw [← this, List.length_map, h5.net.slen]; exact hjl
        obtain ⟨x, hx⟩ : ∃ x, X[j]? = some x := ⟨_, List.getElem?_eq_getElem hxl⟩
        have hxo := HX.out j d x Hd.out hx
        unfold xok at hxo
        simp only [Hk.out] at hxo
        obtain ⟨n0, _, hx3⟩ := hxo
        obtain ⟨k1, k2, k3⟩ := h5.ext (i := 0) Q2.out Q3.out hx (by rw [hx3]; rfl)
        have h6 := en_set h5 Q2.out Q3.out (i := 0) (.int .i64 (m : Int))
        rw [k1] at h6
        have hblkb := h4.net.core.sts.at_ j s b Q2.out Q3.out
        have how6 : Own ((w4.setCell ⟨ba, 0, none⟩ (.slice (some ⟨g2, 0, none⟩) (m + 1) c2)).setCell ⟨b, 7, none⟩ (.int .i64 (m : Int))) 267 1 (.slice (some ⟨g2, 0, none⟩) (m + 1) c2) (m + 1) (us ++ [.iface SK.bstart.ptr (.pointer (some ⟨b, 0, none⟩))]) := by
          have hatn4 := h4.net.core.atn
          have hx : Chg (fun k => k = ba ∨ k = b) w4 ((w4.setCell ⟨ba, 0, none⟩ (.slice (some ⟨g2, 0, none⟩) (m + 1) c2)).setCell ⟨b, 7, none⟩ (.int .i64 (m : Int))) := by
            refine Chg.setCell (Chg.setCell (Chg.refl _ _) ?_ _) ?_ _
            · intro _; exact .inl rfl
            · intro _; exact .inr rfl
          refine Own.chgT hown4 hx ?_
          rintro k (rfl | rfl) _
          · exact ⟨_, _, hatn4, by decide⟩
          · exact ⟨_, _, hblkb, by generalize s.k = q; cases q <;> decide⟩
        have hfin : ED w0 ((w4.setCell ⟨ba, 0, none⟩ (.slice (some ⟨g2, 0, none⟩) (m + 1) c2)).setCell ⟨b, 7, none⟩ (.int .i64 (m : Int))) bd g ba o A ds bs R T ((D.drop (m + 1)).map (fun (x : Nat) => (x : Int)) ++ rest) (m + 1) :=
          ⟨_, _, _, _, h6, HX.out.dec Hd.out Hk.out hx (by omega), how6, by
            intro k hk
            simp [Value.ownBlock] at hk
            subst hk
            rcases hloc with h | h
            · exact Hfr.out _ h
            · have := H3.out.chg.size; omega⟩
        have Hf := Lib.hid hfin
        clear hfin h6 how6 h4 h5 hx hx3 k1 hown4 hgr hloc H3 hblkb how3
        go_wp2_with (first | (go_at_call 237; refine (setDecision_any _ _ _ _ k2 k3).mono ?_; rintro e w' ⟨rfl, rfl⟩))
        go_roundw
        case rel => exact ⟨m + 1, by omega, by go_num, Hf.out⟩
        case measure => simp [intOf]; omega
    · obtain rfl : m = D.length := by omega
      rw [List.drop_length] at h2
      go_wp2
      go_end0
      exact ⟨rfl, h2⟩

theorem readLexer_any (w : World) (bd ba : Nat) (c : w.cell? ⟨ba, 1, none⟩ = some (.int .i64 1)) : Calls Tryz.prog 90 #[.pointer (some ⟨bd, 0, none⟩), .pointer (some ⟨ba, 0, none⟩)] w fun e w' => e = .returned (.tuple #[]) ∧ w = w' := by
  go_enter Tryz.func90, Tryz.ntmps90
  go_wp2
  go_end0
  exact ⟨rfl, rfl⟩

theorem ta_noentry (k : SK) (a : Addr) (w : World) : (Instr.typeAssert (.iface k.ptr (.pointer (some a))) 109 297 true).run Tryz.prog w = .ok (.tuple #[.pointer none, .bool false]) w := by
  have h1 : (Instr.typeAssert (.iface SK.basic.ptr (.pointer (some a))) 109 297 true).run Tryz.prog w = .ok (.tuple #[.pointer none, .bool false]) w := by kernel_rfl
  have h2 : (Instr.typeAssert (.iface SK.rstart.ptr (.pointer (some a))) 109 297 true).run Tryz.prog w = .ok (.tuple #[.pointer none, .bool false]) w := by kernel_rfl
  have h3 : (Instr.typeAssert (.iface SK.bstart.ptr (.pointer (some a))) 109 297 true).run Tryz.prog w = .ok (.tuple #[.pointer none, .bool false]) w := by kernel_rfl
  have h4 : (Instr.typeAssert (.iface SK.rstop.ptr (.pointer (some a))) 109 297 true).run Tryz.prog w = .ok (.tuple #[.pointer none, .bool false]) w := by kernel_rfl
  have h5 : (Instr.typeAssert (.iface SK.bend.ptr (.pointer (some a))) 109 297 true).run Tryz.prog w = .ok (.tuple #[.pointer none, .bool false]) w := by kernel_rfl
  cases k
  · exact h1
  · exact h2
  · exact h3
  · exact h4
  · exact h5

set_option maxHeartbeats 1000000 in
set_option maxRecDepth 100000 in
theorem markPrec_any (w : World) (bd ba gv n cap : Nat) (ks : Nat → SK) (ad : Nat → Addr) (ca : w.cell? ⟨ba, 9, none⟩ = some (.slice (some ⟨gv, 0, none⟩) n cap)) (hn : n < 1000)
    (cv : ∀ j, j < n → w.cell? ⟨gv, j, none⟩ = some (.iface (ks j).ptr (.pointer (some (ad j))))) :
    Calls Tryz.prog 91 #[.pointer (some ⟨bd, 0, none⟩), .pointer (some ⟨ba, 0, none⟩)] w fun e w' => e = .returned (.tuple #[]) ∧ w = w' := by
  have Hcv := Lib.hid cv
  clear cv
  go_enter Tryz.func91, Tryz.ntmps91
  go_wp2
  go_loop [18] (fun x => ∃ m : Nat, m ≤ n ∧ x = .int .i64 (m : Int)) (fun x => n - (intOf x).toNat)
  case atStart => exact ⟨0, Nat.zero_le _, rfl⟩
  case round =>
    obtain ⟨m, hm, rfl⟩ := hrel
    by_cases hlt : m < n
    · have cx := Hcv.out m hlt
      have hta := fun x w => ta_noentry (ks m) x w
      go_wp2
      go_round
      case rel => exact ⟨m + 1, by omega, by go_num⟩
      case measure => simp [intOf]; omega
    · obtain rfl : m = n := by omega
      go_wp2
      go_end0
      exact ⟨rfl, rfl⟩
end Go.Proofs.YtemdillhbnmjkaaGreatDoor
namespace Go.Proofs.YtemdillhbnmjkaaGreatDoor
open Go.RowKit

theorem tt_basic_288 (a : Addr) (w : World) : (Instr.typeAssert (.iface SK.basic.ptr (.pointer (some a))) 109 288 true).run Tryz.prog w = .ok (.tuple #[.pointer none, .bool false]) w := by kernel_rfl
theorem tt_basic_297 (a : Addr) (w : World) : (Instr.typeAssert (.iface SK.basic.ptr (.pointer (some a))) 109 297 true).run Tryz.prog w = .ok (.tuple #[.pointer none, .bool false]) w := by kernel_rfl
theorem tt_basic_294 (a : Addr) (w : World) : (Instr.typeAssert (.iface SK.basic.ptr (.pointer (some a))) 109 294 true).run Tryz.prog w = .ok (.tuple #[.pointer none, .bool false]) w := by kernel_rfl
theorem tt_basic_252 (a : Addr) (w : World) : (Instr.typeAssert (.iface SK.basic.ptr (.pointer (some a))) 109 252 true).run Tryz.prog w = .ok (.tuple #[.pointer none, .bool false]) w := by kernel_rfl
theorem tt_basic_271 (a : Addr) (w : World) : (Instr.typeAssert (.iface SK.basic.ptr (.pointer (some a))) 109 271 true).run Tryz.prog w = .ok (.tuple #[.pointer none, .bool false]) w := by kernel_rfl
theorem tt_basic_265 (a : Addr) (w : World) : (Instr.typeAssert (.iface SK.basic.ptr (.pointer (some a))) 109 265 true).run Tryz.prog w = .ok (.tuple #[.pointer none, .bool false]) w := by kernel_rfl
theorem tt_basic_199 (a : Addr) (w : World) : (Instr.typeAssert (.iface SK.basic.ptr (.pointer (some a))) 109 199 true).run Tryz.prog w = .ok (.tuple #[.pointer none, .bool false]) w := by kernel_rfl
theorem tt_basic_256 (a : Addr) (w : World) : (Instr.typeAssert (.iface SK.basic.ptr (.pointer (some a))) 109 256 true).run Tryz.prog w = .ok (.tuple #[.nilIface, .bool false]) w :=
  run_typeAssert_lacksB Tryz.underlying256 (show (Tryz.prog.info? SK.basic.ptr).map (fun i => (lacking _ i.methods).isEmpty) = some false by kernel_rfl) (by kernel_rfl) _ _ _
theorem tt_basic_267 (a : Addr) (w : World) : (Instr.typeAssert (.iface SK.basic.ptr (.pointer (some a))) 109 267 true).run Tryz.prog w = .ok (.tuple #[.nilIface, .bool false]) w :=
  run_typeAssert_lacksB Tryz.underlying267 (show (Tryz.prog.info? SK.basic.ptr).map (fun i => (lacking _ i.methods).isEmpty) = some false by kernel_rfl) (by kernel_rfl) _ _ _
theorem tt_rstart_288 (a : Addr) (w : World) : (Instr.typeAssert (.iface SK.rstart.ptr (.pointer (some a))) 109 288 true).run Tryz.prog w = .ok (.tuple #[.pointer none, .bool false]) w := by kernel_rfl
theorem tt_rstart_297 (a : Addr) (w : World) : (Instr.typeAssert (.iface SK.rstart.ptr (.pointer (some a))) 109 297 true).run Tryz.prog w = .ok (.tuple #[.pointer none, .bool false]) w := by kernel_rfl
theorem tt_rstart_294 (a : Addr) (w : World) : (Instr.typeAssert (.iface SK.rstart.ptr (.pointer (some a))) 109 294 true).run Tryz.prog w = .ok (.tuple #[.pointer none, .bool false]) w := by kernel_rfl
theorem tt_rstart_252 (a : Addr) (w : World) : (Instr.typeAssert (.iface SK.rstart.ptr (.pointer (some a))) 109 252 true).run Tryz.prog w = .ok (.tuple #[.pointer none, .bool false]) w := by kernel_rfl
theorem tt_rstart_271 (a : Addr) (w : World) : (Instr.typeAssert (.iface SK.rstart.ptr (.pointer (some a))) 109 271 true).run Tryz.prog w = .ok (.tuple #[.pointer (some a), .bool true]) w := by kernel_rfl
theorem tt_rstart_265 (a : Addr) (w : World) : (Instr.typeAssert (.iface SK.rstart.ptr (.pointer (some a))) 109 265 true).run Tryz.prog w = .ok (.tuple #[.pointer none, .bool false]) w := by kernel_rfl
theorem tt_rstart_199 (a : Addr) (w : World) : (Instr.typeAssert (.iface SK.rstart.ptr (.pointer (some a))) 109 199 true).run Tryz.prog w = .ok (.tuple #[.pointer none, .bool false]) w := by kernel_rfl
theorem tt_rstart_256 (a : Addr) (w : World) : (Instr.typeAssert (.iface SK.rstart.ptr (.pointer (some a))) 109 256 true).run Tryz.prog w = .ok (.tuple #[.nilIface, .bool false]) w :=
  run_typeAssert_lacksB Tryz.underlying256 (show (Tryz.prog.info? SK.rstart.ptr).map (fun i => (lacking _ i.methods).isEmpty) = some false by kernel_rfl) (by kernel_rfl) _ _ _
theorem tt_rstart_267 (a : Addr) (w : World) : (Instr.typeAssert (.iface SK.rstart.ptr (.pointer (some a))) 109 267 true).run Tryz.prog w = .ok (.tuple #[.nilIface, .bool false]) w :=
  run_typeAssert_lacksB Tryz.underlying267 (show (Tryz.prog.info? SK.rstart.ptr).map (fun i => (lacking _ i.methods).isEmpty) = some false by kernel_rfl) (by kernel_rfl) _ _ _
theorem tt_bstart_288 (a : Addr) (w : World) : (Instr.typeAssert (.iface SK.bstart.ptr (.pointer (some a))) 109 288 true).run Tryz.prog w = .ok (.tuple #[.pointer none, .bool false]) w := by kernel_rfl
theorem tt_bstart_297 (a : Addr) (w : World) : (Instr.typeAssert (.iface SK.bstart.ptr (.pointer (some a))) 109 297 true).run Tryz.prog w = .ok (.tuple #[.pointer none, .bool false]) w := by kernel_rfl
theorem tt_bstart_294 (a : Addr) (w : World) : (Instr.typeAssert (.iface SK.bstart.ptr (.pointer (some a))) 109 294 true).run Tryz.prog w = .ok (.tuple #[.pointer none, .bool false]) w := by kernel_rfl
theorem tt_bstart_252 (a : Addr) (w : World) : (Instr.typeAssert (.iface SK.bstart.ptr (.pointer (some a))) 109 252 true).run Tryz.prog w = .ok (.tuple #[.pointer none, .bool false]) w := by kernel_rfl
theorem tt_bstart_271 (a : Addr) (w : World) : (Instr.typeAssert (.iface SK.bstart.ptr (.pointer (some a))) 109 271 true).run Tryz.prog w = .ok (.tuple #[.pointer none, .bool false]) w := by kernel_rfl
theorem tt_bstart_265 (a : Addr) (w : World) : (Instr.typeAssert (.iface SK.bstart.ptr (.pointer (some a))) 109 265 true).run Tryz.prog w = .ok (.tuple #[.pointer none, .bool false]) w := by kernel_rfl
theorem tt_bstart_199 (a : Addr) (w : World) : (Instr.typeAssert (.iface SK.bstart.ptr (.pointer (some a))) 109 199 true).run Tryz.prog w = .ok (.tuple #[.pointer none, .bool false]) w := by kernel_rfl
theorem tt_bstart_256 (a : Addr) (w : World) : (Instr.typeAssert (.iface SK.bstart.ptr (.pointer (some a))) 109 256 true).run Tryz.prog w = .ok (.tuple #[.iface SK.bstart.ptr (.pointer (some a)), .bool true]) w :=
  run_typeAssert_hasB Tryz.underlying256 (by kernel_rfl) _ _ _
theorem tt_bstart_267 (a : Addr) (w : World) : (Instr.typeAssert (.iface SK.bstart.ptr (.pointer (some a))) 109 267 true).run Tryz.prog w = .ok (.tuple #[.iface SK.bstart.ptr (.pointer (some a)), .bool true]) w :=
  run_typeAssert_hasB Tryz.underlying267 (by kernel_rfl) _ _ _
theorem tt_rstop_288 (a : Addr) (w : World) : (Instr.typeAssert (.iface SK.rstop.ptr (.pointer (some a))) 109 288 true).run Tryz.prog w = .ok (.tuple #[.pointer none, .bool false]) w := by kernel_rfl
theorem tt_rstop_297 (a : Addr) (w : World) : (Instr.typeAssert (.iface SK.rstop.ptr (.pointer (some a))) 109 297 true).run Tryz.prog w = .ok (.tuple #[.pointer none, .bool false]) w := by kernel_rfl
theorem tt_rstop_294 (a : Addr) (w : World) : (Instr.typeAssert (.iface SK.rstop.ptr (.pointer (some a))) 109 294 true).run Tryz.prog w = .ok (.tuple #[.pointer none, .bool false]) w := by kernel_rfl
theorem tt_rstop_252 (a : Addr) (w : World) : (Instr.typeAssert (.iface SK.rstop.ptr (.pointer (some a))) 109 252 true).run Tryz.prog w = .ok (.tuple #[.pointer none, .bool false]) w := by kernel_rfl
theorem tt_rstop_271 (a : Addr) (w : World) : (Instr.typeAssert (.iface SK.rstop.ptr (.pointer (some a))) 109 271 true).run Tryz.prog w = .ok (.tuple #[.pointer none, .bool false]) w := by kernel_rfl
theorem tt_rstop_265 (a : Addr) (w : World) : (Instr.typeAssert (.iface SK.rstop.ptr (.pointer (some a))) 109 265 true).run Tryz.prog w = .ok (.tuple #[.pointer none, .bool false]) w := by kernel_rfl
theorem tt_rstop_199 (a : Addr) (w : World) : (Instr.typeAssert (.iface SK.rstop.ptr (.pointer (some a))) 109 199 true).run Tryz.prog w = .ok (.tuple #[.pointer (some a), .bool true]) w := by kernel_rfl
theorem tt_rstop_256 (a : Addr) (w : World) : (Instr.typeAssert (.iface SK.rstop.ptr (.pointer (some a))) 109 256 true).run Tryz.prog w = .ok (.tuple #[.nilIface, .bool false]) w :=
  run_typeAssert_lacksB Tryz.underlying256 (show (Tryz.prog.info? SK.rstop.ptr).map (fun i => (lacking _ i.methods).isEmpty) = some false by kernel_rfl) (by kernel_rfl) _ _ _
theorem tt_rstop_267 (a : Addr) (w : World) : (Instr.typeAssert (.iface SK.rstop.ptr (.pointer (some a))) 109 267 true).run Tryz.prog w = .ok (.tuple #[.nilIface, .bool false]) w :=
  run_typeAssert_lacksB Tryz.underlying267 (show (Tryz.prog.info? SK.rstop.ptr).map (fun i => (lacking _ i.methods).isEmpty) = some false by kernel_rfl) (by kernel_rfl) _ _ _
theorem tt_bend_288 (a : Addr) (w : World) : (Instr.typeAssert (.iface SK.bend.ptr (.pointer (some a))) 109 288 true).run Tryz.prog w = .ok (.tuple #[.pointer none, .bool false]) w := by kernel_rfl
theorem tt_bend_297 (a : Addr) (w : World) : (Instr.typeAssert (.iface SK.bend.ptr (.pointer (some a))) 109 297 true).run Tryz.prog w = .ok (.tuple #[.pointer none, .bool false]) w := by kernel_rfl
theorem tt_bend_294 (a : Addr) (w : World) : (Instr.typeAssert (.iface SK.bend.ptr (.pointer (some a))) 109 294 true).run Tryz.prog w = .ok (.tuple #[.pointer none, .bool false]) w := by kernel_rfl
theorem tt_bend_252 (a : Addr) (w : World) : (Instr.typeAssert (.iface SK.bend.ptr (.pointer (some a))) 109 252 true).run Tryz.prog w = .ok (.tuple #[.pointer none, .bool false]) w := by kernel_rfl
theorem tt_bend_271 (a : Addr) (w : World) : (Instr.typeAssert (.iface SK.bend.ptr (.pointer (some a))) 109 271 true).run Tryz.prog w = .ok (.tuple #[.pointer none, .bool false]) w := by kernel_rfl
theorem tt_bend_265 (a : Addr) (w : World) : (Instr.typeAssert (.iface SK.bend.ptr (.pointer (some a))) 109 265 true).run Tryz.prog w = .ok (.tuple #[.pointer (some a), .bool true]) w := by kernel_rfl
theorem tt_bend_199 (a : Addr) (w : World) : (Instr.typeAssert (.iface SK.bend.ptr (.pointer (some a))) 109 199 true).run Tryz.prog w = .ok (.tuple #[.pointer none, .bool false]) w := by kernel_rfl
theorem tt_bend_256 (a : Addr) (w : World) : (Instr.typeAssert (.iface SK.bend.ptr (.pointer (some a))) 109 256 true).run Tryz.prog w = .ok (.tuple #[.nilIface, .bool false]) w :=
  run_typeAssert_lacksB Tryz.underlying256 (show (Tryz.prog.info? SK.bend.ptr).map (fun i => (lacking _ i.methods).isEmpty) = some false by kernel_rfl) (by kernel_rfl) _ _ _
theorem tt_bend_267 (a : Addr) (w : World) : (Instr.typeAssert (.iface SK.bend.ptr (.pointer (some a))) 109 267 true).run Tryz.prog w = .ok (.tuple #[.nilIface, .bool false]) w :=
  run_typeAssert_lacksB Tryz.underlying267 (show (Tryz.prog.info? SK.bend.ptr).map (fun i => (lacking _ i.methods).isEmpty) = some false by kernel_rfl) (by kernel_rfl) _ _ _

theorem epsOnly_s (w : World) (b : Nat) (v : Bool) (c : w.cell? ⟨b, 2, none⟩ = some (.bool v)) : Calls Tryz.prog 219 #[.pointer (some ⟨b, 0, none⟩)] w fun e w' => e = .returned (.bool v) ∧ w = w' := by
  go_enter Tryz.func219, Tryz.ntmps219
  go_wp2
  go_ret
  exact ⟨rfl, rfl⟩
theorem check_true (w : World) (bd : Nat) (c : Bool) (x : Value) (hc : c = true) : Calls Tryz.prog 124 #[.pointer (some ⟨bd, 0, none⟩), .bool c, x] w fun e w' => e = .returned (.tuple #[]) ∧ w = w' := by
  subst hc
  go_enter Tryz.func124, Tryz.ntmps124
  go_wp2
  go_end0
  exact ⟨rfl, rfl⟩
theorem verifyOpt (w : World) (p : Nat) (c : w.cell? ⟨p, 1, none⟩ = some (.bool true)) : Calls Tryz.prog 123 #[.pointer (some ⟨p, 0, none⟩)] w fun e w' => e = .returned (.bool true) ∧ w = w' := by
  go_enter Tryz.func123, Tryz.ntmps123
  go_wp2
  go_ret
  exact ⟨rfl, rfl⟩

/-- the rows of transitions are such as the check wants them -/
def TOk (ds : List Ds) (T : List (List TD)) : Prop := ∀ (j : Nat) ts d, T[j]? = some ts → ds[j]? = some d → ((ts.all TD.isEps = true ∨ ts.length ≤ 1) ∧ (d.k = .basic → ts.length ≤ 1)) ∧ ts.length < 1000
end Go.Proofs.YtemdillhbnmjkaaGreatDoor

/- Deserializing: from the numbers to the network (55). · Deserializing: a network out of numbers (42). -/
import Derived.Test.YtemdillhbnmjkaaGreatDoorQ12
namespace Go.Proofs.YtemdillhbnmjkaaGreatDoor
open Go.RowKit

theorem checkVersion_any (w : World) (bd g : Nat) (o : Value) (rest : List Int) (h : Rd w bd g o (4 :: rest)) :
    Calls Tryz.prog 82 #[.pointer (some ⟨bd, 0, none⟩)] w fun e w' => e = .returned (.tuple #[]) ∧ Rd w' bd g o rest ∧ Chg (fun k => k = bd) w w' := by
  go_enter Tryz.func82, Tryz.ntmps82
  go_wp2_with fail
  refine (readInt_any _ _ _ _ _ _ h).mono ?_
  rintro e w1 ⟨rfl, hr, hc⟩
  go_wp2
  go_end0
  exact ⟨rfl, hr, hc⟩

def AF.new (mt : Int) (m : Nat) : AF := ⟨.slice none 0 0, .int .i64 1, .slice none 0 0, .int .i64 mt, .map (some m), .slice none 0 0, .slice none 0 0, .slice none 0 0, .slice none 0 0, .slice none 0 0⟩

theorem newATN_any (w : World) (mt : Int) :
    Calls Tryz.prog 115 #[.int .i64 1, .int .i64 mt] w fun e w' => e = .returned (.pointer (some ⟨w.heap.size + 1, 0, none⟩)) ∧ (Blk w' (w.heap.size + 1) (AF.new mt w.heap.size).cells 118 ∧ Chg No w w') := by
  have hmm := @run_makeMap Tryz.prog
  go_enter Tryz.func115, Tryz.ntmps115
  go_wp2
  go_ret
  refine ⟨rfl, Blk.at_new (by simp) _ _, ((Chg.refl _ _).alloc _).alloc _⟩

theorem readATN_any (w : World) (bd g : Nat) (o : Value) (mt : Int) (rest : List Int) (h : Rd w bd g o (1 :: mt :: rest)) :
    Calls Tryz.prog 83 #[.pointer (some ⟨bd, 0, none⟩)] w fun e w' => ∃ ba m, e = .returned (.pointer (some ⟨ba, 0, none⟩)) ∧ Blk w' ba (AF.new mt m).cells 118 ∧ Rd w' bd g o rest ∧ Chg (fun k => k = bd) w w' ∧ w.heap.size ≤ ba := by
  go_enter Tryz.func83, Tryz.ntmps83
  go_wp2_with fail
  refine (readInt_any _ _ _ _ _ _ h).mono ?_
  rintro e w1 ⟨rfl, hr1, hc1⟩
  go_wp2_with fail
  refine (readInt_any _ _ _ _ _ _ hr1).mono ?_
  rintro e w2 ⟨rfl, hr2, hc2⟩
  go_wp2_with fail
  refine (newATN_any _ _).mono ?_
  rintro e w3 ⟨rfl, hb, hc3⟩
  go_wp2
  go_ret
  refine ⟨_, _, rfl, hb, hr2.no hc3, (hc1.trans hc2).then hc3 (fun _ _ h => h.elim), ?_⟩
  have := (hc1.trans hc2).size
  omega

theorem Ds.fin2_st (bs : List Nat) (R : Nat) (d : Ds) : (d.fin2 bs R).rule = d.rule ∧ (d.fin2 bs R).trans = .slice none 0 0 ∧ (d.fin2 bs R).next = .pointer none := by
  unfold Ds.fin2 Ds.fin
  split
  · exact ⟨rfl, rfl, rfl⟩
  · split <;> exact ⟨rfl, rfl, rfl⟩

theorem en_start {w0 w : World} {bd g ba : Nat} {o : Value} {A : AF} {ds : List Ds} {bs : List Nat} {R : Nat} {rest : List Int} (hcore : Core w ba A (ds.map (Ds.fin2 bs R)) bs) (hrd : Rd w bd g o rest)
    (hrs : Own w 271 1 A.rs R (pvs bs 0 R R)) (hrp : Own w 199 1 A.rp R (pvs bs R R R)) (hch : Chg (fun k => k = bd ∨ k = ba ∨ k ∈ bs) w0 w) (hb : BlocksOk ds R) :
    EN w0 w bd g ba o A ds bs R (xs4 ds bs R 0) (ds.map (Ds.fin2 bs R)) (List.replicate ds.length []) rest := by
  have hat : ∀ (j : Nat) s, (ds.map (Ds.fin2 bs R))[j]? = some s → ∃ d, ds[j]? = some d ∧ s = d.fin2 bs R := by
    intro j s hs
    rw [List.getElem?_map] at hs
    cases hd : ds[j]? with
    | none => rw [hd] at hs; cases hs
    | some d => rw [hd] at hs; cases hs; exact ⟨d, rfl, rfl⟩
  refine ⟨⟨hcore, by simp, by simp, ?_, ?_, ?_⟩, (xs4_zero ds bs R hb).symm, ?_, ?_, hrd, hrs, hrp, hch⟩
  · intro j d s hd hs
    obtain ⟨d', hd', rfl⟩ := hat j s hs
    rw [hd] at hd'; cases hd'
    exact ⟨Ds.fin2_k _ _ _, (Ds.fin2_st _ _ _).1⟩
  · intro j s ts hs ht
    obtain ⟨d', hd', rfl⟩ := hat j s hs
    rw [List.getElem?_replicate] at ht
    split at ht
    · cases ht
      refine ⟨⟨[], rfl, ?_, by intro i t d h; simp at h⟩, by simp⟩
      rw [(Ds.fin2_st _ _ _).2.1]
      exact ⟨rfl, .inl ⟨rfl, rfl⟩⟩
    · cases ht
  · intro i j s s' k hs hs' hne hk
    obtain ⟨d', hd', rfl⟩ := hat i s hs
    rw [(Ds.fin2_st _ _ _).2.1] at hk
    simp [Value.ownBlock] at hk
  · intro j s k hs hk
    obtain ⟨d', hd', rfl⟩ := hat j s hs
    rw [(Ds.fin2_st _ _ _).2.1] at hk
    simp [Value.ownBlock] at hk
  · intro j s hs
    obtain ⟨d', hd', rfl⟩ := hat j s hs
    exact (Ds.fin2_st _ _ _).2.2

/-- the network in memory -/
structure ATNw (w : World) (ba : Nat) (ds : List Ds) (bs : List Nat) (R : Nat) (T : List (List TD)) : Prop where
  mk' ::
  ex : ∃ A ss, Net w ba A ds bs ss T ∧ XOk ds bs R (ss.map St.extra) ∧ (∀ (j : Nat) s, ss[j]? = some s → s.next = .pointer none)

/-- the rows of edges in the end -/
def T1of (ds : List Ds) (E : List (Nat × TD)) : List (List TD) := E.foldl addE (List.replicate ds.length [])
def T2of (ds : List Ds) (R : Nat) (E : List (Nat × TD)) : List (List TD) := (DJ R (T1of ds E) ds.length).foldl addE (T1of ds E)

structure NetOk (ds : List Ds) (R : Nat) (E : List (Nat × TD)) (D : List Nat) : Prop where
  n : ds.length < 1000
  e : E.length < 300
  d : D.length < 900
  r0 : 0 < R
  rl : R ≤ ds.length
  rules : RulesOk ds R
  blocks : BlocksOk ds R
  edges : EdgesOk ds R E
  dec : ∀ j ∈ D, ∃ d, ds[j]? = some d ∧ d.k = .bstart
  rows : TOk ds (T2of ds R E)

def netList (mt : Int) (ds : List Ds) (R : Nat) (E : List (Nat × TD)) (D : List Nat) : List Int :=
  4 :: 1 :: mt :: (ds.length : Int) :: (ds.flatMap Ds.enc ++ 0 :: 0 :: (R : Int) :: (upto 0 R ++ 0 :: 0 :: (E.length : Int) :: (E.flatMap encE ++ (D.length : Int) :: (D.map (fun (x : Nat) => (x : Int)) ++ []))))

theorem genBypass (w : World) (p : Nat) (c : w.cell? ⟨p, 2, none⟩ = some (.bool false)) : Calls Tryz.prog 93 #[.pointer (some ⟨p, 0, none⟩)] w fun e w' => e = .returned (.bool false) ∧ w = w' := by
  go_enter Tryz.func93, Tryz.ntmps93
  go_wp2
  go_ret
  exact ⟨rfl, rfl⟩

set_option maxHeartbeats 1000000 in
set_option maxRecDepth 100000 in
theorem deserialize_any (w : World) (bd g n c po : Nat) (d1 d2 po0 : Value) (arr : Array Value) (mt : Int) (ds : List Ds) (R : Nat) (E : List (Nat × TD)) (D : List Nat) (ok : NetOk ds R E D)
    (hbd : Blk w bd #[.pointer (some ⟨po, 0, none⟩), d1, d2] 225) (hg : Blk w g arr 21) (hpo : Blk w po #[po0, .bool true, .bool false] 245) (hn : n ≤ maxLen)
    (hl : (netList mt ds R E D).length ≤ n) (harr : ∀ (j : Nat) x, (netList mt ds R E D)[j]? = some x → arr[j]? = some (.int .i32 x) ∧ -2147483648 ≤ x ∧ x ≤ 2147483647) :
    Calls Tryz.prog 55 #[.pointer (some ⟨bd, 0, none⟩), .slice (some ⟨g, 0, none⟩) n c] w fun e w' => ∃ ba bs, e = .returned (.pointer (some ⟨ba, 0, none⟩)) ∧ ATNw w' ba ds bs R (T2of ds R E) ∧ Chg (fun k => k = bd) w w' ∧ w.heap.size ≤ ba ∧ (∀ b ∈ bs, w.heap.size ≤ b) := by
  have hrd : Rd ((w.setCell ⟨bd, 1, none⟩ (.slice (some ⟨g, 0, none⟩) n c)).setCell ⟨bd, 2, none⟩ (.int .i64 0)) bd g (.pointer (some ⟨po, 0, none⟩)) (netList mt ds R E D) := by
    have hne : g ≠ bd := hg.ne hbd (by decide)
    refine ⟨n, c, 0, arr, ?_, (hg.other hne _).other hne _, hn, by omega, fun j x hj => ?_⟩
    · have := (hbd.set 1 (.slice (some ⟨g, 0, none⟩) n c)).set 2 (.int .i64 0)
      simpa using this
    · rw [Nat.zero_add]; exact harr j x hj
  have hch : Chg (fun k => k = bd) w ((w.setCell ⟨bd, 1, none⟩ (.slice (some ⟨g, 0, none⟩) n c)).setCell ⟨bd, 2, none⟩ (.int .i64 0)) := by
    refine Chg.setCell (Chg.setCell (Chg.refl _ _) ?_ _) ?_ _ <;> intro _ <;> rfl
  have c1 : w.cell? ⟨bd, 1, none⟩ = some d1 := by rw [hbd.cell]; rfl
  have c2 : w.cell? ⟨bd, 2, none⟩ = some d2 := by rw [hbd.cell]; rfl
  have f1 := hbd.fz 1
  have f2 := hbd.fz 2
  have hpb : po ≠ bd := hpo.ne hbd (by decide)
  have Hpo := Lib.hid hpo
  have Hch := Lib.hid hch
  have Hrd := Lib.hid hrd
  have Ok := Lib.hid ok
  have h0 : 0 < ds.length := Nat.lt_of_lt_of_le ok.r0 ok.rl
  clear hpo hch hrd hbd hg harr hl hn ok
  go_enter Tryz.func55, Tryz.ntmps55
  go_wp2_with fail
  unfold netList at Hrd
  refine (checkVersion_any _ _ _ _ _ Hrd.out).mono ?_
  rintro e w1 ⟨rfl, hr1, hc1⟩
  have hc1 := Hch.out.trans hc1
  clear Hch Hrd c1 c2 f1 f2
  go_wp2_with fail
  refine (readATN_any _ _ _ _ _ _ hr1).mono ?_
  rintro e w2 ⟨ba, m, rfl, hb2, hr2, hc2, hba⟩
  have hba' : w.heap.size ≤ ba := Nat.le_trans hc1.size hba
  have hc2 := hc1.trans hc2
  clear hr1 hc1
  go_wp2_with fail
  refine (readStates_any _ _ _ _ _ _ _ _ hr2 hb2 Ok.out.n ?_).mono ?_
  · intro d hd hk
    obtain ⟨i, hi⟩ := List.getElem?_of_mem hd
    obtain ⟨h1, r, a, h2⟩ := Ok.out.blocks.arg i d hi hk
    exact ⟨i + R, _, h1, h2, rfl⟩
  rintro e w3 ⟨rfl, h3⟩
  obtain ⟨v, bs, hcore3, hr3, hc3, hv, hbs⟩ := h3.ex
  have hbs' : ∀ b ∈ bs, w.heap.size ≤ b := fun b hb => Nat.le_trans hc2.size (hbs b hb)
  have hc3 : Chg (fun k => k = bd ∨ k = ba ∨ k ∈ bs) w w3 := (hc2.mono (fun k _ h => .inl h)).then hc3 (fun k _ h => by rcases h with h | h; exact .inl h; exact .inr (.inl h))
  clear h3 hr2 hb2 hc2 hba hbs
  go_wp2_with fail
  refine (readRules_any _ _ _ _ _ _ _ _ _ _ hr3 hcore3 Ok.out.n Ok.out.rl rfl Ok.out.rules).mono ?_
  rintro e w4 ⟨rfl, g1, g2, h4⟩
  obtain ⟨hcore4, hr4, hrow4, hrow4', hc4, _⟩ := h4
  rw [ssAt2_all ds bs R Ok.out.rules] at hcore4
  have hrow4'' : Own w4 199 1 (.slice (some ⟨g2, 0, none⟩) R R) R (pvs bs R R R) := by
    have e : pvs bs R (ds.length - R) R = pvs bs R R R := by
      have hl : R ≤ ds.length - R := by
        have := (List.getElem?_eq_some_iff.1 (Ok.out.rules.stop (R - 1) (by have := Ok.out.r0; omega))).1
        omega
      apply List.ext_getElem?
      intro q
      by_cases hq : q < R
      · rw [pvs_at _ _ _ _ _ hq, pvs_at _ _ _ _ _ hq, if_pos (by omega), if_pos hq]
      · rw [List.getElem?_eq_none (by rw [pvs_length]; omega), List.getElem?_eq_none (by rw [pvs_length]; omega)]
    rw [← e]; exact hrow4'
  have hc4 := hc3.then hc4 (fun k _ h => h)
  clear hcore3 hr3 hc3 hrow4'
  go_wp2_with fail
  refine (readModes_any _ _ _ _ _ _ _ _ _ hr4 hcore4).mono ?_
  rintro e w5 ⟨rfl, v5, hcore5, hr5, hc5⟩
  have hT5 : ∀ k, (k = bd ∨ k = ba) → k < w4.heap.size → ∃ c T, Blk w4 k c T ∧ (T = 225 ∨ T = 118) := by
    rintro k (rfl | rfl) _
    · exact ⟨_, _, hr4.blk.1.choose_spec, .inl rfl⟩
    · exact ⟨_, _, hcore4.atn, .inr rfl⟩
  have hrow5 := Own.chgT hrow4 hc5 (fun k h1 h2 => by obtain ⟨c, T, h, h3⟩ := hT5 k h1 h2; exact ⟨c, T, h, by rcases h3 with rfl | rfl <;> decide⟩)
  have hrow5' := Own.chgT hrow4'' hc5 (fun k h1 h2 => by obtain ⟨c, T, h, h3⟩ := hT5 k h1 h2; exact ⟨c, T, h, by rcases h3 with rfl | rfl <;> decide⟩)
  have hc5 := hc4.then hc5 (fun k _ h => by rcases h with h | h; exact .inl h; exact .inr (.inl h))
  clear hcore4 hr4 hc4 hrow4 hrow4'' hT5
  go_wp2_with fail
  refine (readSets_any _ _ _ ba _ _ hr5).mono ?_
  rintro e w6 ⟨rfl, hr6, hc6⟩
  have hcore6 := hcore5.rd hr5 hc6
  have hrow6 := Own.rd hrow5 hr5 hc6 (by decide)
  have hrow6' := Own.rd hrow5' hr5 hc6 (by decide)
  have hc6 := hc5.then hc6 (fun k _ h => .inl h)
  have h6 := en_start hcore6 hr6 hrow6 hrow6' hc6 Ok.out.blocks
  clear hcore5 hr5 hc5 hrow5 hrow5' hcore6 hr6 hrow6 hrow6' hc6
  go_wp2_with fail
  refine (readEdges_any _ _ _ _ _ _ _ _ _ _ _ _ _ h6 Ok.out.n Ok.out.e Ok.out.rules Ok.out.blocks Ok.out.edges Ok.out.r0 _ rfl).mono ?_
  rintro e w7 ⟨rfl, ss7, h7⟩
  clear h6
  go_wp2_with fail
  refine (readDecisions_any w w7 bd g ba _ { AF.new mt m with ms := v5, rs := .slice (some ⟨g1, 0, none⟩) R R, rp := .slice (some ⟨g2, 0, none⟩) R R, st := v } ds bs R _ D [] ⟨(AF.new mt m).dec, _, _, [], h7, xok4 ds bs R Ok.out.blocks, ⟨rfl, .inl ⟨rfl, rfl⟩⟩, by intro k hk; simp [AF.new, Value.ownBlock] at hk⟩ Ok.out.n Ok.out.d Ok.out.dec).mono ?_
  rintro e w8 ⟨rfl, h8⟩
  clear h7
  obtain ⟨vd, X, ss8, us, h8, hX, _, _⟩ := h8.ex
  have cg : w8.cell? ⟨ba, 1, none⟩ = some (.int .i64 1) := by rw [h8.net.core.atn.cell]; rfl
  go_wp2_with fail
  refine (readLexer_any _ _ _ cg).mono ?_
  rintro e w9 ⟨rfl, rfl⟩
  go_wp2_with fail
  obtain ⟨gv, cap, _, ca, cv⟩ := h8.st h0
  refine (markPrec_any _ _ _ gv ds.length cap (fun j => ((ds[j]?).map (·.k)).getD .basic) (fun j => ⟨(bs[j]?).getD 0, 0, none⟩) ca Ok.out.n ?_).mono ?_
  · intro j hj
    rw [cv j hj, dv, List.getElem?_eq_getElem hj]
    simp
  rintro e w9 ⟨rfl, rfl⟩
  go_wp2_with fail
  have hkeep : Blk w8 po #[po0, .bool true, .bool false] 245 := by
    refine Hpo.out.chg h8.chg ?_
    rintro (h | h | h)
    · exact hpb h
    · have := Hpo.out.lt; omega
    · have := Hpo.out.lt; have := hbs' _ h; omega
  have co1 : w8.cell? ⟨po, 1, none⟩ = some (.bool true) := by rw [hkeep.cell]; rfl
  have co2 : w8.cell? ⟨po, 2, none⟩ = some (.bool false) := by rw [hkeep.cell]; rfl
  refine (verify_any _ _ _ _ _ _ _ _ _ _ _ _ _ _ h8 hX Ok.out.rows Ok.out.n h0 co1).mono ?_
  rintro e w9 ⟨rfl, rfl⟩
  obtain ⟨nn, cc, pp, arr', hbd', _⟩ := h8.rd.ex
  have c00 : w8.cell? ⟨bd, 0, none⟩ = some (.pointer (some ⟨po, 0, none⟩)) := by rw [hbd'.cell]; rfl
  have H8 := Lib.hid h8
  clear h8 hbd' hkeep co1 ca cv
  go_wp2_with (first | (go_at_call 93; refine (genBypass _ _ co2).mono ?_; rintro e w' ⟨rfl, rfl⟩))
  go_ret
  refine ⟨_, bs, rfl, ⟨_, _, H8.out.net, ?_, H8.out.nx⟩, ?_, hba', hbs'⟩
  · rw [H8.out.extra]; exact hX
  · refine H8.out.chg.mono ?_
    rintro k hk (h | h | h)
    · exact h
    · omega
    · have := hbs' k h; omega
end Go.Proofs.YtemdillhbnmjkaaGreatDoor
namespace Go.Proofs.YtemdillhbnmjkaaGreatDoor
open Go.RowKit

theorem newOpt_any (w : World) : Calls Tryz.prog 81 #[] w fun e w' => ∃ p, e = .returned (.pointer (some ⟨p, 0, none⟩)) ∧ Blk w' p #[.bool false, .bool true, .bool false] 245 ∧ Chg No w w' ∧ w.heap.size ≤ p := by
  go_enter Tryz.func81, Tryz.ntmps81
  go_wp2
  go_ret
  exact ⟨w.heap.size + 1, by simp, Blk.at_new (by simp) _ _, ((Chg.refl _ _).alloc _).alloc _, by omega⟩
theorem newDes_any (w : World) : Calls Tryz.prog 54 #[.pointer none] w fun e w' => ∃ p bd, e = .returned (.pointer (some ⟨bd, 0, none⟩)) ∧ Blk w' bd #[.pointer (some ⟨p, 0, none⟩), .slice none 0 0, .int .i64 0] 225 ∧ Blk w' p #[.bool false, .bool true, .bool false] 245 ∧ Chg No w w' ∧ w.heap.size ≤ bd := by
  go_enter Tryz.func54, Tryz.ntmps54
  go_wp2_with fail
  refine (newOpt_any _).mono ?_
  rintro e w1 ⟨p, rfl, h1, h2, h3⟩
  go_wp2
  go_ret
  exact ⟨p, w1.heap.size, rfl, Blk.new _ _ _, h1.alloc _, h2.alloc _, h2.size⟩

theorem zzatn_any (w : World) (v : Value) (mt : Int) (ds : List Ds) (R : Nat) (E : List (Nat × TD)) (D : List Nat) (ok : NetOk ds R E D) (hv : Own w 21 1 v (netList mt ds R E D).length ((netList mt ds R E D).map fun x => .int .i32 x))
    (hb : ∀ x ∈ netList mt ds R E D, -2147483648 ≤ x ∧ x ≤ 2147483647) :
    Calls Tryz.prog 42 #[v] w fun e w' => ∃ ba bs, e = .returned (.pointer (some ⟨ba, 0, none⟩)) ∧ ATNw w' ba ds bs R (T2of ds R E) ∧ Chg No w w' ∧ w.heap.size ≤ ba ∧ (∀ b ∈ bs, w.heap.size ≤ b) := by
  obtain ⟨g, cap, cur, rfl, hg, hcur⟩ := Own.blk hv (by simp [netList])
  go_enter Tryz.func42, Tryz.ntmps42
  go_wp2_with fail
  refine (newDes_any _).mono ?_
  rintro e w1 ⟨p, bd, rfl, h1, h2, h3, h4⟩
  have hg1 := hg.chg h3 (fun h => h)
  have hd := deserialize_any w1 bd g (netList mt ds R E D).length cap p _ _ _ cur mt ds R E D ok h1 hg1 h2 hv.le (Nat.le_refl _) (by
    intro j x hj
    have : (cur.toList.take ((netList mt ds R E D).length * 1))[j]? = some (.int .i32 x) := by rw [hcur, List.getElem?_map, hj]; rfl
    rw [List.getElem?_take] at this
    refine ⟨?_, hb x (List.mem_of_getElem? hj)⟩
    split at this
    · simpa using this
    · cases this)
  generalize (netList mt ds R E D).length = n at *
  clear hg hcur hv hg1 h1 h2
  have HD := Lib.hid hd
  clear hd
  go_wp2_with fail
  refine HD.out.mono ?_
  rintro e w2 ⟨ba, bs, rfl, h5, h6, h7, h8⟩
  go_wp2
  go_ret
  refine ⟨ba, bs, rfl, h5, h3.then h6 ?_, Nat.le_trans h3.size h7, fun b hb => Nat.le_trans h3.size (h8 b hb)⟩
  rintro k hk rfl
  omega
end Go.Proofs.YtemdillhbnmjkaaGreatDoor

/- Deserializing: the rules are read. · Deserializing: modes and sets, of which there are none. -/
import Derived.Test.YtemdillhbnmjkaaGreatDoorQ08
namespace Go.Proofs.YtemdillhbnmjkaaGreatDoor
open Go.RowKit

theorem et114 : ET 114 271 (.pointer none) 1 8 := ⟨by kernel_rfl, by kernel_rfl, rfl, by decide⟩
theorem et115 : ET 115 199 (.pointer none) 1 8 := ⟨by kernel_rfl, by kernel_rfl, rfl, by decide⟩

/-- the network's rules: their starts are the first states, their ends the next ones -/
structure RulesOk (ds : List Ds) (R : Nat) : Prop where
  start : ∀ r, r < R → ds[r]? = some ⟨.rstart, r, 0⟩
  stop : ∀ r, r < R → ds[R + r]? = some ⟨.rstop, r, 0⟩
  isStart : ∀ (j : Nat) d, ds[j]? = some d → d.k = .rstart → j < R
  isStop : ∀ (j : Nat) d, ds[j]? = some d → d.k = .rstop → R ≤ j ∧ j < R + R

def pvs (bs : List Nat) (off i R : Nat) : List Value := (List.range R).map fun q => if q < i then .pointer (some ⟨(bs[off + q]?).getD 0, 0, none⟩) else .pointer none
theorem pvs_length (bs : List Nat) (off i R : Nat) : (pvs bs off i R).length = R := by simp [pvs]
theorem pvs_at (bs : List Nat) (off i R q : Nat) (h : q < R) : (pvs bs off i R)[q]? = some (if q < i then .pointer (some ⟨(bs[off + q]?).getD 0, 0, none⟩) else .pointer none) := by
  simp [pvs, h]
theorem pvs_set (bs : List Nat) (off i R : Nat) (b : Nat) (h : bs[off + i]? = some b) : (pvs bs off i R).set i (.pointer (some ⟨b, 0, none⟩)) = pvs bs off (i + 1) R := by
  apply List.ext_getElem?
  intro q
  rw [List.getElem?_set, pvs_length]
  by_cases hq : q < R
  · rw [pvs_at _ _ _ _ _ hq, pvs_at _ _ _ _ _ hq]
    by_cases hi : i = q
    · subst hi; simp [hq, h]
    · have : (q < i) ↔ (q < i + 1) := by omega
      simp [hi, this]
  · rw [List.getElem?_eq_none (by rw [pvs_length]; omega), List.getElem?_eq_none (by rw [pvs_length]; omega)]
    split <;> simp_all

/-- a list of consecutive numbers, from i up to R -/
def upto (i R : Nat) : List Int := ((List.range R).drop i).map fun (x : Nat) => (x : Int)
theorem upto_cons (i R : Nat) (h : i < R) : upto i R = (i : Int) :: upto (i + 1) R := by
  unfold upto
  rw [List.drop_eq_getElem_cons (by simpa using h)]
  simp
theorem upto_end (R : Nat) : upto R R = [] := by simp [upto]

theorem ta_rstart (a : Addr) (w : World) : (Instr.typeAssert (.iface SK.rstart.ptr (.pointer (some a))) 109 271 false).run Tryz.prog w = .ok (.pointer (some a)) w := by kernel_rfl
theorem ta_rstop (a : Addr) (w : World) : (Instr.typeAssert (.iface SK.rstop.ptr (.pointer (some a))) 109 199 true).run Tryz.prog w = .ok (.tuple #[.pointer (some a), .bool true]) w := by kernel_rfl
theorem ta_norstop (k : SK) (hk : k ≠ .rstop) (a : Addr) (w : World) : (Instr.typeAssert (.iface k.ptr (.pointer (some a))) 109 199 true).run Tryz.prog w = .ok (.tuple #[.pointer none, .bool false]) w := by
  have h1 : (Instr.typeAssert (.iface SK.basic.ptr (.pointer (some a))) 109 199 true).run Tryz.prog w = .ok (.tuple #[.pointer none, .bool false]) w := by kernel_rfl
  have h2 : (Instr.typeAssert (.iface SK.rstart.ptr (.pointer (some a))) 109 199 true).run Tryz.prog w = .ok (.tuple #[.pointer none, .bool false]) w := by kernel_rfl
  have h3 : (Instr.typeAssert (.iface SK.bstart.ptr (.pointer (some a))) 109 199 true).run Tryz.prog w = .ok (.tuple #[.pointer none, .bool false]) w := by kernel_rfl
  have h4 : (Instr.typeAssert (.iface SK.bend.ptr (.pointer (some a))) 109 199 true).run Tryz.prog w = .ok (.tuple #[.pointer none, .bool false]) w := by kernel_rfl
  cases k
  · exact h1
  · exact h2
  · exact h3
  · exact absurd rfl hk
  · exact h4

theorem made_one (z : Value) (R : Nat) : (madeCells #[z] R).toList = List.replicate R z := by
  apply List.ext_getElem?
  intro q
  by_cases hq : q < R
  · simp [madeCells, hq, Nat.mod_one]
  · rw [List.getElem?_eq_none (by simp [madeCells]; omega), List.getElem?_eq_none (by simp; omega)]
theorem made_ptrs (bs : List Nat) (off R : Nat) : (madeCells #[Value.pointer none] R).toList = pvs bs off 0 R := by
  rw [made_one]
  apply List.ext_getElem?
  intro q
  by_cases hq : q < R
  · rw [pvs_at _ _ _ _ _ hq]; simp [hq]
  · rw [List.getElem?_eq_none (l := pvs _ _ _ _) (by rw [pvs_length]; omega), List.getElem?_eq_none (by simp; omega)]

/-- what is known while the starts of rules are laid -/
structure RR1 (w0 w : World) (bd g ba : Nat) (o : Value) (A : AF) (ds : List Ds) (bs : List Nat) (R : Nat) (rest : List Int) (g1 i : Nat) : Prop where
  mk' ::
  core : Core w ba { A with rs := .slice (some ⟨g1, 0, none⟩) R R } (ds.map (Ds.fin bs)) bs
  rd : Rd w bd g o (upto i R ++ rest)
  row : Own w 271 1 (.slice (some ⟨g1, 0, none⟩) R R) R (pvs bs 0 i R)
  chg : Chg (fun k => k = bd ∨ k = ba) w0 w
  fresh : w0.heap.size ≤ g1

theorem fins_at {ds : List Ds} {bs : List Nat} {j b : Nat} {d : Ds} (hd : ds[j]? = some d) (hb : bs[j]? = some b) : (stvs (ds.map (Ds.fin bs)) bs)[j]? = some (.iface d.k.ptr (.pointer (some ⟨b, 0, none⟩))) := by
  rw [stvs_at _ bs j (d.fin bs) b (by rw [List.getElem?_map, hd]; rfl) hb, Ds.fin_k]

/-- a start is laid -/
theorem rr1_next {w0 w w1 : World} {bd g ba : Nat} {o : Value} {A : AF} {ds : List Ds} {bs : List Nat} {R : Nat} {rest : List Int} {g1 i b : Nat} (h : RR1 w0 w bd g ba o A ds bs R rest g1 i) (hi : i < R)
    (hrd1 : Rd w1 bd g o (upto (i + 1) R ++ rest)) (hc1 : Chg (fun k => k = bd) w w1) (hb : bs[i]? = some b) : RR1 w0 (w1.setCell ⟨g1, i, none⟩ (.pointer (some ⟨b, 0, none⟩))) bd g ba o A ds bs R rest g1 (i + 1) := by
  obtain ⟨hcore, hrd, hrow, hch, hfr⟩ := h
  have hcore1 := hcore.rd hrd hc1
  have hrow1 := Own.rd hrow hrd hc1 (by decide)
  obtain ⟨cur, hblk⟩ := Own.own hrow1 (k := g1) rfl
  have hx : Chg (fun k => k = g1) w1 (w1.setCell ⟨g1, i, none⟩ (.pointer (some ⟨b, 0, none⟩))) := by refine Chg.setCell (Chg.refl _ _) ?_ _; intro _; rfl
  have hT : ∀ k, (fun k => k = g1) k → k < w1.heap.size → ∃ c T, Blk w1 k c T ∧ T = 271 := by rintro k rfl _; exact ⟨_, _, hblk, rfl⟩
  refine ⟨hcore1.chg hx (fun k h1 h2 => ?_), hrd1.chgT hx (fun k h1 h2 => ?_), ?_, ?_, hfr⟩
  · obtain ⟨c, T, h, rfl⟩ := hT k h1 h2; exact ⟨c, _, h, by decide, by decide, fun q => by cases q <;> decide⟩
  · obtain ⟨c, T, h, rfl⟩ := hT k h1 h2; exact ⟨c, _, h, by decide, by decide⟩
  · have := Own.setAt hrow1 hi (.pointer (some ⟨b, 0, none⟩))
    rw [pvs_set bs 0 i R b (by rw [Nat.zero_add]; exact hb)] at this
    exact this
  · exact (hch.then hc1 (fun k _ h => .inl h)).setCell (fun hk => absurd (show g1 < _ from hk) (by omega)) _

/-- a state whose rule's end is known -/
def Ds.fin2 (bs : List Nat) (R : Nat) (d : Ds) : St :=
  if d.k = .rstart then { d.st with extra := [.iface SK.rstop.ptr (.pointer (some ⟨(bs[R + d.rule.toNat]?).getD 0, 0, none⟩)), .bool false] } else d.fin bs
def ssAt2 (ds : List Ds) (bs : List Nat) (R j : Nat) : List St := ds.mapIdx fun i d => if R + i < j then d.fin2 bs R else d.fin bs
theorem Ds.fin2_k (bs : List Nat) (R : Nat) (d : Ds) : (d.fin2 bs R).k = d.k := by
  unfold Ds.fin2
  split
  · rfl
  · exact Ds.fin_k _ _
theorem ssAt2_at (ds : List Ds) (bs : List Nat) (R j i : Nat) : (ssAt2 ds bs R j)[i]? = (ds[i]?).map (fun d => if R + i < j then d.fin2 bs R else d.fin bs) := by simp [ssAt2]
theorem ssAt2_length (ds : List Ds) (bs : List Nat) (R j : Nat) : (ssAt2 ds bs R j).length = ds.length := by simp [ssAt2]
theorem ssAt2_zero (ds : List Ds) (bs : List Nat) (R : Nat) : ssAt2 ds bs R 0 = ds.map (Ds.fin bs) := by
  apply List.ext_getElem?; intro i; rw [ssAt2_at, List.getElem?_map]; simp
theorem ssAt2_k (ds : List Ds) (bs : List Nat) (R j i : Nat) (d : Ds) (s : St) (hd : ds[i]? = some d) (hs : (ssAt2 ds bs R j)[i]? = some s) : s.k = d.k := by
  rw [ssAt2_at, hd] at hs
  simp at hs; subst hs
  split
  · exact Ds.fin2_k _ _ _
  · exact Ds.fin_k _ _
theorem ssAt2_all (ds : List Ds) (bs : List Nat) (R : Nat) (h : RulesOk ds R) : ssAt2 ds bs R ds.length = ds.map (Ds.fin2 bs R) := by
  apply List.ext_getElem?
  intro i
  rw [ssAt2_at, List.getElem?_map]
  cases hd : ds[i]? with
  | none => rfl
  | some d =>
    simp only [Option.map_some, Option.some.injEq]
    split
    · rfl
    · rename_i hlt
      unfold Ds.fin2
      rw [if_neg]
      intro hk
      have hiR := h.isStart i d hd hk
      have := (List.getElem?_eq_some_iff.1 (h.stop i hiR)).1
      omega
/-- a state that is no end of a rule changes nothing -/
theorem ssAt2_no (ds : List Ds) (bs : List Nat) (R j : Nat) (d : Ds) (h : RulesOk ds R) (hd : ds[j]? = some d) (hk : d.k ≠ .rstop) : ssAt2 ds bs R (j + 1) = ssAt2 ds bs R j := by
  apply List.ext_getElem?
  intro i
  rw [ssAt2_at, ssAt2_at]
  cases hdi : ds[i]? with
  | none => rfl
  | some d' =>
    simp only [Option.map_some, Option.some.injEq]
    by_cases h1 : R + i < j
    · rw [if_pos h1, if_pos (by omega)]
    · by_cases h2 : R + i < j + 1
      · rw [if_pos h2, if_neg h1]
        have hj : j = R + i := by omega
        subst hj
        unfold Ds.fin2
        rw [if_neg]
        intro hk'
        have hiR := h.isStart i d' hdi hk'
        rw [h.stop i hiR] at hd
        cases hd
        exact hk rfl
      · rw [if_neg h1, if_neg h2]
theorem ssAt2_yes (ds : List Ds) (bs : List Nat) (R r : Nat) (h : RulesOk ds R) (hr : r < R) : ssAt2 ds bs R (R + r + 1) = (ssAt2 ds bs R (R + r)).set r ((⟨.rstart, r, 0⟩ : Ds).fin2 bs R) := by
  apply List.ext_getElem?
  intro i
  rw [List.getElem?_set, ssAt2_at, ssAt2_at, ssAt2_length]
  by_cases hi : r = i
  · subst hi
    rw [h.start r hr, if_pos rfl, if_pos (List.getElem?_eq_some_iff.1 (h.start r hr)).1]
    simp
  · rw [if_neg hi]
    cases hdi : ds[i]? with
    | none => rfl
    | some d' =>
      have : (R + i < R + r + 1) ↔ (R + i < R + r) := by omega
      simp [this]

/-- what is known while the ends of rules are laid -/
structure RR2 (w0 w : World) (bd g ba : Nat) (o : Value) (A : AF) (ds : List Ds) (bs : List Nat) (R : Nat) (rest : List Int) (g1 g2 j : Nat) : Prop where
  mk' ::
  core : Core w ba { A with rs := .slice (some ⟨g1, 0, none⟩) R R, rp := .slice (some ⟨g2, 0, none⟩) R R } (ssAt2 ds bs R j) bs
  rd : Rd w bd g o rest
  row : Own w 271 1 (.slice (some ⟨g1, 0, none⟩) R R) R (pvs bs 0 R R)
  row2 : Own w 199 1 (.slice (some ⟨g2, 0, none⟩) R R) R (pvs bs R (j - R) R)
  chg : Chg (fun k => k = bd ∨ k = ba ∨ k ∈ bs) w0 w
  fresh : w0.heap.size ≤ g1 ∧ w0.heap.size ≤ g2

theorem RR2.no {w0 w w' : World} {bd g ba : Nat} {o : Value} {A : AF} {ds : List Ds} {bs : List Nat} {R : Nat} {rest : List Int} {g1 g2 j : Nat} (h : RR2 w0 w bd g ba o A ds bs R rest g1 g2 j) (hc : Chg No w w') :
    RR2 w0 w' bd g ba o A ds bs R rest g1 g2 j :=
  ⟨h.core.no hc, h.rd.no hc, Own.no h.row hc, Own.no h.row2 hc, h.chg.then hc (fun _ _ h => h.elim), h.fresh⟩

theorem rr2_no {w0 w : World} {bd g ba : Nat} {o : Value} {A : AF} {ds : List Ds} {bs : List Nat} {R : Nat} {rest : List Int} {g1 g2 j : Nat} {d : Ds} (h : RR2 w0 w bd g ba o A ds bs R rest g1 g2 j) (hok : RulesOk ds R)
    (hd : ds[j]? = some d) (hk : d.k ≠ .rstop) : RR2 w0 w bd g ba o A ds bs R rest g1 g2 (j + 1) := by
  refine ⟨by rw [ssAt2_no ds bs R j d hok hd hk]; exact h.core, h.rd, h.row, ?_, h.chg, h.fresh⟩
  have : pvs bs R (j + 1 - R) R = pvs bs R (j - R) R := by
    apply List.ext_getElem?
    intro q
    by_cases hq : q < R
    · rw [pvs_at _ _ _ _ _ hq, pvs_at _ _ _ _ _ hq]
      have : (q < j + 1 - R) ↔ (q < j - R) := by
        constructor
        · intro h1
          by_cases h2 : q < j - R
          · exact h2
          · have hj : j = R + q := by omega
            rw [hj, hok.stop q hq] at hd
            cases hd
            exact absurd rfl hk
        · intro h1; omega
      simp [this]
    · rw [List.getElem?_eq_none (by rw [pvs_length]; omega), List.getElem?_eq_none (by rw [pvs_length]; omega)]
  rw [this]; exact h.row2

theorem rr2_yes {w0 w : World} {bd g ba : Nat} {o : Value} {A : AF} {ds : List Ds} {bs : List Nat} {R : Nat} {rest : List Int} {g1 g2 r b b' : Nat} (h : RR2 w0 w bd g ba o A ds bs R rest g1 g2 (R + r)) (hok : RulesOk ds R)
    (hr : r < R) (hb : bs[r]? = some b) (hb' : bs[R + r]? = some b') :
    RR2 w0 ((w.setCell ⟨g2, r, none⟩ (.pointer (some ⟨b', 0, none⟩))).setCell ⟨b, 7, none⟩ (.iface SK.rstop.ptr (.pointer (some ⟨b', 0, none⟩)))) bd g ba o A ds bs R rest g1 g2 (R + r + 1) := by
  obtain ⟨hcore, hrd, hrow, hrow2, hch, hfr⟩ := h
  obtain ⟨cur2, hblk2⟩ := Own.own hrow2 (k := g2) rfl
  have hds := hok.start r hr
  have hsr : (ssAt2 ds bs R (R + r))[r]? = some ((⟨.rstart, r, 0⟩ : Ds).fin bs) := by rw [ssAt2_at, hds]; simp
  have hst := hcore.sts.at_ r _ b hsr hb
  have hfk : ((⟨.rstart, r, 0⟩ : Ds).fin bs).k = .rstart := Ds.fin_k _ _
  have hne : b ≠ g2 := hst.ne hblk2 (by rw [hfk]; decide)
  have hx : Chg (fun k => k = g2 ∨ k = b) w ((w.setCell ⟨g2, r, none⟩ (.pointer (some ⟨b', 0, none⟩))).setCell ⟨b, 7, none⟩ (.iface SK.rstop.ptr (.pointer (some ⟨b', 0, none⟩)))) := by
    refine Chg.setCell (Chg.setCell (Chg.refl _ _) ?_ _) ?_ _
    · intro _; exact .inl rfl
    · intro _; exact .inr rfl
  have hT : ∀ k, (fun k => k = g2 ∨ k = b) k → k < w.heap.size → ∃ c T, Blk w k c T ∧ (T = 199 ∨ T = SK.rstart.str) := by
    rintro k (rfl | rfl) _
    · exact ⟨_, _, hblk2, .inl rfl⟩
    · exact ⟨_, _, hst, .inr (by rw [hfk])⟩
  refine ⟨⟨?_, ?_, ?_⟩, ?_, ?_, ?_, ?_, hfr⟩
  · refine hcore.atn.chg hx ?_
    rintro (h1 | h1)
    · exact hcore.atn.ne hblk2 (by decide) h1
    · exact hcore.atn.ne hst (by rw [hfk]; decide) h1
  · rw [ssAt2_yes ds bs R r hok hr, stvs_set _ _ _ _ (by rw [hsr, Ds.fin2_k]; simp [hfk]), List.length_set]
    exact hcore.own.chgT hx (fun k h1 h2 => by obtain ⟨c, T, h, h3⟩ := hT k h1 h2; exact ⟨c, T, h, by rcases h3 with rfl | rfl <;> decide⟩)
  · rw [ssAt2_yes ds bs R r hok hr]
    refine hcore.sts.upd hx hb ?_ ?_
    · rintro i b2 hi hne2 (h1 | h1)
      · have hil : i < (ssAt2 ds bs R (R + r)).length := by rw [← hcore.sts.len]; exact (List.getElem?_eq_some_iff.1 hi).1
        exact (hcore.sts.at_ i _ b2 (List.getElem?_eq_getElem hil) hi).ne hblk2 (by generalize (ssAt2 ds bs R (R + r))[i] = s; cases s.k <;> decide) h1
      · subst h1; exact hne2 (hcore.sts.inj hi hb)
    · have := ((hst.other (a := ⟨g2, r, none⟩) hne (.pointer (some ⟨b', 0, none⟩))).set 7 (.iface SK.rstop.ptr (.pointer (some ⟨b', 0, none⟩))))
      have e : (((⟨.rstart, r, 0⟩ : Ds).fin bs).cells ba r).setIfInBounds 7 (.iface SK.rstop.ptr (.pointer (some ⟨b', 0, none⟩))) = ((⟨.rstart, r, 0⟩ : Ds).fin2 bs R).cells ba r := by
        refine (St.set7 ((⟨.rstart, r, 0⟩ : Ds).fin bs) ba r 0 (.iface SK.rstop.ptr (.pointer (some ⟨b', 0, none⟩)))).trans ?_
        congr 1
        simp [Ds.fin2, Ds.fin, Ds.st, SK.zero, hb']
      rw [e, hfk] at this
      rw [Ds.fin2_k]
      exact this
  · exact hrd.chgT hx (fun k h1 h2 => by obtain ⟨c, T, h, h3⟩ := hT k h1 h2; exact ⟨c, T, h, by rcases h3 with rfl | rfl <;> decide, by rcases h3 with rfl | rfl <;> decide⟩)
  · exact Own.chgT hrow hx (fun k h1 h2 => by obtain ⟨c, T, h, h3⟩ := hT k h1 h2; exact ⟨c, T, h, by rcases h3 with rfl | rfl <;> decide⟩)
  · have h1 := Own.setAt hrow2 hr (.pointer (some ⟨b', 0, none⟩))
    rw [show R + r - R = r from by omega, pvs_set bs R r R b' hb'] at h1
    rw [show R + r + 1 - R = r + 1 from by omega]
    refine Own.chg h1 (S := fun k => k = b) (by refine Chg.setCell (Chg.refl _ _) ?_ _; intro _; rfl) (fun k hk hS => ?_)
    simp [Value.ownBlock] at hk
    exact hne (by rw [← hS, hk])
  · refine Chg.setCell (Chg.setCell hch (fun hk => absurd (show g2 < _ from hk) (by omega)) _) (fun _ => .inr (.inr (List.mem_of_getElem? hb))) _

set_option maxHeartbeats 1000000 in
set_option maxRecDepth 100000 in
theorem readRules_any (w : World) (bd g ba : Nat) (o : Value) (A : AF) (ds : List Ds) (bs : List Nat) (R : Nat) (rest : List Int) (hrd : Rd w bd g o ((R : Int) :: (upto 0 R ++ rest))) (hcore : Core w ba A (ds.map (Ds.fin bs)) bs)
    (hn : ds.length < 1000) (hR : R ≤ ds.length) (hgt : A.gt = .int .i64 1) (hok : RulesOk ds R) :
    Calls Tryz.prog 85 #[.pointer (some ⟨bd, 0, none⟩), .pointer (some ⟨ba, 0, none⟩)] w fun e w' => e = .returned (.tuple #[]) ∧ ∃ g1 g2, RR2 w w' bd g ba o A ds bs R rest g1 g2 ds.length := by
  obtain ⟨i8, hi8, hz8, hs8, hb8⟩ := info_parts et114.info
  obtain ⟨i9, hi9, hz9, hs9, hb9⟩ := info_parts et115.info
  have Hok := Lib.hid hok
  have Hgt := Lib.hid hgt
  clear hok hgt
  go_enter Tryz.func85, Tryz.ntmps85
  go_wp2_with fail
  refine (readInt_any _ _ _ _ _ _ hrd).mono ?_
  rintro e w1 ⟨rfl, hrd1, hc1⟩
  have hcore1 := hcore.rd hrd hc1
  have c1 : w1.cell? ⟨ba, 1, none⟩ = some (.int .i64 1) := by rw [hcore1.atn.cell, ← Hgt.out]; rfl
  have Hcore1 := Lib.hid hcore1
  have Hrd1 := Lib.hid hrd1
  have Hc1 := Lib.hid hc1
  clear hcore hrd hcore1 hrd1 hc1
  go_wp2_with (first | (at_make; refine wpList_make_full _ rfl _ _ 114 rfl 0 271 i8 _ 1 et114.under hi8 hz8 hs8 _ _ _ _ R rfl rfl rfl rfl (by rw [hb8]; omega) (by unfold maxLen; omega) (Nat.zero_le _) ?_))
  intro w2 ho2 hg2
  have hmade := made_ptrs bs 0 R
  rw [hmade] at ho2
  have hatn2 := Hcore1.out.atn.chg (Chg.grownBy hg2) (by simp)
  have c6 : w2.cell? ⟨ba, 6, none⟩ = some A.rs := by rw [hatn2.cell]; rfl
  have f6 := hatn2.fz 6
  have hlt1 : ba < w1.heap.size := Hcore1.out.atn.lt
  obtain ⟨g1, hg1⟩ : ∃ g1, g1 = w1.heap.size := ⟨_, rfl⟩
  rw [← hg1] at ho2 ⊢
  have hrs : RR1 w (w2.setCell ⟨ba, 6, none⟩ (.slice (some ⟨g1, 0, none⟩) R R)) bd g ba o A ds bs R rest g1 0 := by
    have hx : Chg (fun k => k = ba) w2 (w2.setCell ⟨ba, 6, none⟩ (.slice (some ⟨g1, 0, none⟩) R R)) := by refine Chg.setCell (Chg.refl _ _) ?_ _; intro _; rfl
    have hcore2 := Hcore1.out.chg (Chg.grownBy hg2) (by intro k h; simp at h)
    have hT : ∀ k, (fun k => k = ba) k → k < w2.heap.size → ∃ c T, Blk w2 k c T ∧ T = 118 := by rintro k rfl _; exact ⟨_, _, hatn2, rfl⟩
    refine ⟨⟨?_, ?_, ?_⟩, ?_, ?_, ?_, ?_⟩
    · have := hatn2.set 6 (.slice (some ⟨g1, 0, none⟩) R R)
      have e : A.cells.setIfInBounds 6 (.slice (some ⟨g1, 0, none⟩) R R) = { A with rs := .slice (some ⟨g1, 0, none⟩) R R : AF }.cells := by simp [AF.cells]
      rw [e] at this; exact this
    · exact hcore2.own.chgT hx (fun k h1 h2 => by obtain ⟨c, T, h, rfl⟩ := hT k h1 h2; exact ⟨c, _, h, by decide⟩)
    · exact hcore2.sts.chgT hx (fun k h1 h2 => by obtain ⟨c, T, h, rfl⟩ := hT k h1 h2; exact ⟨c, _, h, fun q => (SK.str_ne2 q).2.2.1⟩)
    · exact (Hrd1.out.chg (Chg.grownBy hg2) (by simp) (by simp)).chgT hx (fun k h1 h2 => by obtain ⟨c, T, h, rfl⟩ := hT k h1 h2; exact ⟨c, _, h, by decide, by decide⟩)
    · exact Own.chgT ho2 hx (fun k h1 h2 => by obtain ⟨c, T, h, rfl⟩ := hT k h1 h2; exact ⟨c, _, h, by decide⟩)
    · exact ((Hc1.out.mono (fun k _ h => .inl h)).grown hg2 (by simp)).setCell (fun _ => .inr rfl) _
    · rw [hg1]; exact Hc1.out.size
  clear hatn2 hlt1 ho2 hg2 hg1 Hcore1 Hrd1 Hc1 c1 hmade
  go_wp2
  go_loopw [35] (fun x wr => ∃ i : Nat, i ≤ R ∧ x = .int .i64 (i : Int) ∧ RR1 w wr bd g ba o A ds bs R rest g1 i) (fun x _ => R - (intOf x).toNat)
  case atStart => exact ⟨0, Nat.zero_le _, rfl, hrs⟩
  case round =>
    obtain ⟨i, hi, rfl, hr⟩ := hrel
    clear hrs c6 f6
    have HR := Lib.hid hr
    by_cases hlt : i < R
    · obtain ⟨hcore, hrd, hrow, hch, hfr⟩ := hr
      rw [upto_cons i R hlt, List.cons_append] at hrd
      go_wp2_with fail
      refine (readInt_any _ _ _ _ _ _ hrd).mono ?_
      rintro e w3 ⟨rfl, hrd3, hc3⟩
      have hcore3 := hcore.rd hrd hc3
      have hrow3 := Own.rd hrow hrd hc3 (by decide)
      have hdl : ds[i]? = some ⟨.rstart, i, 0⟩ := Hok.out.start i hlt
      have hil : i < ds.length := (List.getElem?_eq_some_iff.1 hdl).1
      have hbl : bs.length = ds.length := by rw [hcore3.sts.len]; simp
      obtain ⟨b, hb⟩ : ∃ b, bs[i]? = some b := ⟨_, List.getElem?_eq_getElem (by rw [hbl]; exact hil)⟩
      have hfin := rr1_next HR.out hlt hrd3 hc3 hb
      have hatn := hcore3.atn
      have hl : (ds.map (Ds.fin bs)).length = ds.length := by simp
      have hown := hcore3.own
      rw [hl] at hown
      obtain ⟨gv, capv, curv, ev, hblkv, _⟩ := Own.blk hown (by omega)
      have ev' : A.st = .slice (some ⟨gv, 0, none⟩) ds.length capv := ev
      have c9 : w3.cell? ⟨ba, 9, none⟩ = some (.slice (some ⟨gv, 0, none⟩) ds.length capv) := by rw [hatn.cell]; simp [AF.cells, ev']
      have c6 : w3.cell? ⟨ba, 6, none⟩ = some (.slice (some ⟨g1, 0, none⟩) R R) := by rw [hatn.cell]; rfl
      have c1 : w3.cell? ⟨ba, 1, none⟩ = some (.int .i64 1) := by rw [hatn.cell, ← Hgt.out]; rfl
      have hown' : Own w3 109 1 A.st ds.length (stvs (ds.map (Ds.fin bs)) bs) := hown
      rw [ev'] at hown'
      have cv : w3.cell? ⟨gv, i, none⟩ = some (.iface SK.rstart.ptr (.pointer (some ⟨b, 0, none⟩))) := Own.cellAt hown' (fins_at hdl hb)
      have cg : w3.cell? ⟨g1, i, none⟩ = some (.pointer none) := by
        refine Own.cellAt hrow3 ?_
        rw [pvs_at _ _ _ _ _ hlt]; simp
      have fg := Own.fz hrow3 i
      obtain ⟨curg, hblkg⟩ := Own.own hrow3 (k := g1) rfl
      have hne : ba ≠ g1 := hatn.ne hblkg (by decide)
      have hta := fun x w => ta_rstart x w
      have Hfin := Lib.hid hfin
      clear hcore hrd hrow hch hfr hrd3 hc3 hcore3 hrow3 hdl hbl hb hfin hatn hl hown ev ev' hown' hblkv hblkg
      go_wp2
      go_roundw
      case rel => exact ⟨i + 1, by omega, by go_num, Hfin.out⟩
      case measure => simp [intOf]; omega
    · obtain rfl : i = R := by omega
      obtain ⟨hcore, hrd, hrow, hch, hfr⟩ := hr
      rw [upto_end, List.nil_append] at hrd
      have Hcore := Lib.hid hcore
      have Hrd := Lib.hid hrd
      have Hrow := Lib.hid hrow
      have Hch := Lib.hid hch
      clear hcore hrd hrow hch hlt hi
      go_wp2_with (first | (at_make; refine wpList_make_full _ rfl _ _ 115 rfl 0 199 i9 _ 1 et115.under hi9 hz9 hs9 _ _ _ _ i rfl rfl rfl rfl (by rw [hb9]; omega) (by unfold maxLen; omega) (Nat.zero_le _) ?_))
      intro w4 ho4 hg4
      have hmade := made_ptrs bs i i
      rw [hmade] at ho4
      have hatn4 := Hcore.out.atn.chg (Chg.grownBy hg4) (by simp)
      have hlt1 : ba < wr.heap.size := Hcore.out.atn.lt
      have c7 : w4.cell? ⟨ba, 7, none⟩ = some A.rp := by rw [hatn4.cell]; rfl
      have f7 := hatn4.fz 7
      have hown := Hcore.out.own
      obtain ⟨g2, hg2⟩ : ∃ g2, g2 = wr.heap.size := ⟨_, rfl⟩
      rw [← hg2] at ho4 ⊢
      have hrs : RR2 w (w4.setCell ⟨ba, 7, none⟩ (.slice (some ⟨g2, 0, none⟩) i i)) bd g ba o A ds bs i rest g1 g2 0 := by
        have hx : Chg (fun k => k = ba) w4 (w4.setCell ⟨ba, 7, none⟩ (.slice (some ⟨g2, 0, none⟩) i i)) := by refine Chg.setCell (Chg.refl _ _) ?_ _; intro _; rfl
        have hcore4 := Hcore.out.chg (Chg.grownBy hg4) (by intro k h; simp at h)
        have hT : ∀ k, (fun k => k = ba) k → k < w4.heap.size → ∃ c T, Blk w4 k c T ∧ T = 118 := by rintro k rfl _; exact ⟨_, _, hatn4, rfl⟩
        refine ⟨⟨?_, ?_, ?_⟩, ?_, ?_, ?_, ?_, hfr, ?_⟩
        · exact hatn4.set 7 (.slice (some ⟨g2, 0, none⟩) i i)
        · rw [ssAt2_zero]
          exact hcore4.own.chgT hx (fun k h1 h2 => by obtain ⟨c, T, h, rfl⟩ := hT k h1 h2; exact ⟨c, _, h, by decide⟩)
        · rw [ssAt2_zero]
          exact hcore4.sts.chgT hx (fun k h1 h2 => by obtain ⟨c, T, h, rfl⟩ := hT k h1 h2; exact ⟨c, _, h, fun q => (SK.str_ne2 q).2.2.1⟩)
        · exact (Hrd.out.chg (Chg.grownBy hg4) (by simp) (by simp)).chgT hx (fun k h1 h2 => by obtain ⟨c, T, h, rfl⟩ := hT k h1 h2; exact ⟨c, _, h, by decide, by decide⟩)
        · exact Own.chgT (Own.chg Hrow.out (Chg.grownBy hg4) (by simp)) hx (fun k h1 h2 => by obtain ⟨c, T, h, rfl⟩ := hT k h1 h2; exact ⟨c, _, h, by decide⟩)
        · rw [Nat.zero_sub]
          exact Own.chgT ho4 hx (fun k h1 h2 => by obtain ⟨c, T, h, rfl⟩ := hT k h1 h2; exact ⟨c, _, h, by decide⟩)
        · exact ((Hch.out.mono (fun k _ h => by rcases h with h | h; exact .inl h; exact .inr (.inl h))).grown hg4 (by simp)).setCell (fun _ => .inr (.inl rfl)) _
        · rw [hg2]; exact Hch.out.size
      have hl : (ds.map (Ds.fin bs)).length = ds.length := by simp
      rw [hl] at hown
      have hst9 : ∃ Av cv, A.st = .slice Av ds.length cv := Own.slice hown
      obtain ⟨Av, cv, est⟩ := hst9
      have c9 : w4.cell? ⟨ba, 9, none⟩ = some (.slice Av ds.length cv) := by rw [hatn4.cell, ← est]; rfl
      have Est := Lib.hid est
      clear hatn4 hlt1 ho4 hg4 hg2 Hcore Hrd Hch Hrow hmade hown hl est
      go_wp2
      go_loopw [80] (fun x wr => ∃ j : Nat, j ≤ ds.length ∧ x = .int .i64 (j : Int) ∧ RR2 w wr bd g ba o A ds bs i rest g1 g2 j) (fun x _ => ds.length - (intOf x).toNat)
      case atStart => exact ⟨0, Nat.zero_le _, rfl, hrs⟩
      case round =>
        obtain ⟨j, hj, rfl, hr⟩ := hrel
        clear hrs c7 f7 c9
        have HR := Lib.hid hr
        by_cases hlt : j < ds.length
        · obtain ⟨hcore, hrd, hrow, hrow2, hch, hfr2⟩ := hr
          obtain ⟨d, hd⟩ : ∃ d, ds[j]? = some d := ⟨_, List.getElem?_eq_getElem hlt⟩
          have hbl : bs.length = ds.length := by rw [hcore.sts.len, ssAt2_length]
          obtain ⟨b', hb'⟩ : ∃ b', bs[j]? = some b' := ⟨_, List.getElem?_eq_getElem (by rw [hbl]; exact hlt)⟩
          have hown := hcore.own
          rw [ssAt2_length] at hown
          have hown' : Own wr 109 1 A.st ds.length (stvs (ssAt2 ds bs i j) bs) := hown
          rw [Est.out] at hown'
          obtain ⟨gv, capv, curv, ev, hblkv, _⟩ := Own.blk hown' (by omega)
          cases ev
          have cv : wr.cell? ⟨gv, j, none⟩ = some (.iface d.k.ptr (.pointer (some ⟨b', 0, none⟩))) := by
            refine Own.cellAt hown' ?_
            have hsj : (ssAt2 ds bs i j)[j]? = some (if i + j < j then d.fin2 bs i else d.fin bs) := by rw [ssAt2_at, hd]; rfl
            rw [stvs_at _ bs j _ b' hsj hb', ssAt2_k ds bs i j j d _ hd hsj]
          by_cases hk : d.k = .rstop
          · have hir := Hok.out.isStop j d hd hk
            obtain ⟨r, rfl⟩ : ∃ r, j = i + r := ⟨j - i, by omega⟩
            have hr : r < i := by omega
            have hdd := hd
            rw [Hok.out.stop r hr] at hdd
            cases hdd
            obtain ⟨b, hb⟩ : ∃ b, bs[r]? = some b := ⟨_, List.getElem?_eq_getElem (by omega)⟩
            have hfin := rr2_yes HR.out Hok.out hr hb hb'
            have hatn := hcore.atn
            have c7 : wr.cell? ⟨ba, 7, none⟩ = some (.slice (some ⟨g2, 0, none⟩) i i) := by rw [hatn.cell]; rfl
            have c6 : wr.cell? ⟨ba, 6, none⟩ = some (.slice (some ⟨g1, 0, none⟩) i i) := by rw [hatn.cell]; rfl
            have hsj : (ssAt2 ds bs i (i + r))[i + r]? = some ((⟨.rstop, r, 0⟩ : Ds).fin bs) := by rw [ssAt2_at, hd]; simp [show ¬ (i + (i + r) < i + r) by omega]
            have hsr : (ssAt2 ds bs i (i + r))[r]? = some ((⟨.rstart, r, 0⟩ : Ds).fin bs) := by rw [ssAt2_at, Hok.out.start r hr]; simp
            have hstj := hcore.sts.at_ _ _ b' hsj hb'
            have hstr := hcore.sts.at_ r _ b hsr hb
            have c3 : wr.cell? ⟨b', 3, none⟩ = some (.int .i64 (r : Int)) := by rw [hstj.cell, St.c3]; rfl
            have cr : wr.cell? ⟨g1, r, none⟩ = some (.pointer (some ⟨b, 0, none⟩)) := by
              refine Own.cellAt hrow ?_
              rw [pvs_at _ _ _ _ _ hr, if_pos hr, Nat.zero_add, hb]; rfl
            have c2 : wr.cell? ⟨g2, r, none⟩ = some (.pointer none) := by
              refine Own.cellAt hrow2 ?_
              rw [pvs_at _ _ _ _ _ hr]; simp
            have c8 : ∃ x, wr.cell? ⟨b, 7, none⟩ = some x := by
              refine ⟨.nilIface, ?_⟩
              rw [hstr.cell, St.c7 _ ba r 0]; rfl
            obtain ⟨x8, c8⟩ := c8
            have f2 := Own.fz hrow2 r
            have f8 := hstr.fz 7
            obtain ⟨cur2, hblk2⟩ := Own.own hrow2 (k := g2) rfl
            obtain ⟨cur1, hblk1⟩ := Own.own hrow (k := g1) rfl
            have hn1 : ba ≠ g2 := hatn.ne hblk2 (by decide)
            have hn2 : g1 ≠ g2 := hblk1.ne hblk2 (by decide)
            have hn3 : b' ≠ g2 := hstj.ne hblk2 (by rw [Ds.fin_k]; simp only; decide)
            have hn4 : b ≠ g2 := hstr.ne hblk2 (by rw [Ds.fin_k]; simp only; decide)
            have hta := fun x w => ta_rstop x w
            have Hfin := Lib.hid hfin
            clear hcore hrd hrow hrow2 hch hown hown' hblkv hd hb' hfin hbl hk hsj hsr hstj hstr hblk2 hblk1 hatn hb
            go_wp2
            refine wp_tail 11 (by kernel_rfl) ?_
            simp only [List.take_succ_cons, List.take_zero, List.drop_succ_cons, List.drop_zero]
            repeat still_step
            refine wpStill_nil ?_
            go_wp2
            refine wp_tail 15 (by kernel_rfl) ?_
            simp only [List.take_succ_cons, List.take_zero, List.drop_succ_cons, List.drop_zero]
            repeat still_step
            refine wpStill_nil ?_
            go_wp2
            go_roundw
            case rel => exact ⟨i + r + 1, by omega, by go_num, Hfin.out.no ((Chg.refl _ _).drew.drew)⟩
            case measure => simp [intOf]; omega
          · have hta := fun x w => ta_norstop d.k hk x w
            have hfin := rr2_no HR.out Hok.out hd hk
            have Hfin := Lib.hid hfin
            clear hcore hrd hrow hrow2 hch hown hown' hblkv hd hb' hfin hbl hk
            go_wp2
            go_roundw
            case rel => exact ⟨j + 1, by omega, by go_num, Hfin.out⟩
            case measure => simp [intOf]; omega
        · obtain rfl : j = ds.length := by omega
          go_wp2
          go_end0
          obtain ⟨hcore, hrd, hrow, hrow2, hch, hfr2⟩ := hr
          exact ⟨rfl, g1, g2, HR.out⟩
end Go.Proofs.YtemdillhbnmjkaaGreatDoor
namespace Go.Proofs.YtemdillhbnmjkaaGreatDoor
open Go.RowKit

/-- a field of the network is written -/
theorem Core.put {w : World} {ba : Nat} {A A' : AF} {ss : List St} {bs : List Nat} (h : Core w ba A ss bs) (i : Nat) (v : Value) (e : A.cells.setIfInBounds i v = A'.cells) (es : A'.st = A.st) :
    Core (w.setCell ⟨ba, i, none⟩ v) ba A' ss bs := by
  have hx : Chg (fun k => k = ba) w (w.setCell ⟨ba, i, none⟩ v) := by refine Chg.setCell (Chg.refl _ _) ?_ _; intro _; rfl
  have hT : ∀ k, (fun k => k = ba) k → k < w.heap.size → ∃ c T, Blk w k c T ∧ T = 118 := by rintro k rfl _; exact ⟨_, _, h.atn, rfl⟩
  refine ⟨?_, ?_, ?_⟩
  · rw [← e]; exact h.atn.set i v
  · rw [es]; exact h.own.chgT hx (fun k h1 h2 => by obtain ⟨c, T, h, rfl⟩ := hT k h1 h2; exact ⟨c, _, h, by decide⟩)
  · exact h.sts.chgT hx (fun k h1 h2 => by obtain ⟨c, T, h, rfl⟩ := hT k h1 h2; exact ⟨c, _, h, fun q => (SK.str_ne2 q).2.2.1⟩)
theorem Core.rdPut {w : World} {ba : Nat} {A : AF} {ss : List St} {bs : List Nat} (h : Core w ba A ss bs) {bd g : Nat} {o : Value} {xs : List Int} (hr : Rd w bd g o xs) (i : Nat) (v : Value) : Rd (w.setCell ⟨ba, i, none⟩ v) bd g o xs := by
  refine hr.chgT (S := fun k => k = ba) (by refine Chg.setCell (Chg.refl _ _) ?_ _; intro _; rfl) ?_
  rintro k rfl _
  exact ⟨_, _, h.atn, by decide, by decide⟩

theorem et113 : ET 113 274 (.pointer none) 1 8 := ⟨by kernel_rfl, by kernel_rfl, rfl, by decide⟩

set_option maxRecDepth 100000 in
theorem readModes_any (w : World) (bd g ba : Nat) (o : Value) (A : AF) (ss : List St) (bs : List Nat) (rest : List Int) (hrd : Rd w bd g o (0 :: rest)) (hcore : Core w ba A ss bs) :
    Calls Tryz.prog 86 #[.pointer (some ⟨bd, 0, none⟩), .pointer (some ⟨ba, 0, none⟩)] w fun e w' => e = .returned (.tuple #[]) ∧
      ∃ v, Core w' ba { A with ms := v } ss bs ∧ Rd w' bd g o rest ∧ Chg (fun k => k = bd ∨ k = ba) w w' := by
  obtain ⟨i8, hi8, hz8, hs8, hb8⟩ := info_parts et113.info
  go_enter Tryz.func86, Tryz.ntmps86
  go_wp2_with fail
  refine (readInt_any _ _ _ _ _ _ hrd).mono ?_
  rintro e w1 ⟨rfl, hrd1, hc1⟩
  have hcore1 := hcore.rd hrd hc1
  have Hcore1 := Lib.hid hcore1
  have Hrd1 := Lib.hid hrd1
  have Hc1 := Lib.hid hc1
  clear hcore hrd hcore1 hrd1 hc1
  go_wp2_with (first | (at_make; refine wpList_make_full _ rfl _ _ 113 rfl 0 274 i8 _ 1 et113.under hi8 hz8 hs8 _ _ _ _ 0 rfl rfl rfl rfl (by rw [hb8]; omega) (by unfold maxLen; omega) (Nat.zero_le _) ?_))
  intro w2 ho2 hg2
  have hatn2 := Hcore1.out.atn.chg (Chg.grownBy hg2) (by simp)
  have c5 : w2.cell? ⟨ba, 5, none⟩ = some A.ms := by rw [hatn2.cell]; rfl
  have f5 := hatn2.fz 5
  have hlt1 : ba < w1.heap.size := Hcore1.out.atn.lt
  have hcore2 := Hcore1.out.chg (Chg.grownBy hg2) (by intro k h; simp at h)
  have hrd2 := (Hrd1.out.chg (Chg.grownBy hg2) (by simp) (by simp))
  have hch2 := (Hc1.out.mono (fun k _ h => .inl h)).grown hg2 (S := fun k => k = bd ∨ k = ba) (by simp)
  generalize w1.heap.size = q at *
  have hfin : ∃ v, Core (w2.setCell ⟨ba, 5, none⟩ (.slice (some ⟨q, 0, none⟩) 0 0)) ba { A with ms := v } ss bs ∧ Rd (w2.setCell ⟨ba, 5, none⟩ (.slice (some ⟨q, 0, none⟩) 0 0)) bd g o rest ∧ Chg (fun k => k = bd ∨ k = ba) w (w2.setCell ⟨ba, 5, none⟩ (.slice (some ⟨q, 0, none⟩) 0 0)) :=
    ⟨_, hcore2.put 5 _ (A' := { A with ms := .slice (some ⟨q, 0, none⟩) 0 0 }) rfl rfl, hcore2.rdPut hrd2 _ _, hch2.setCell (fun _ => .inr rfl) _⟩
  clear hatn2 ho2 hg2 Hcore1 Hrd1 Hc1 hcore2 hrd2 hch2
  go_wp2
  go_loop [19] (fun x => x = .int .i64 0) (fun _ => 0)
  case atStart => rfl
  case round =>
  subst hrel
  go_wp2
  go_end0
  obtain ⟨v, h1, h2, h3⟩ := hfin
  exact ⟨rfl, ⟨v, h1⟩, h2, h3⟩

set_option maxRecDepth 100000 in
theorem readSets_any (w : World) (bd g ba : Nat) (o : Value) (rest : List Int) (hrd : Rd w bd g o (0 :: rest)) :
    Calls Tryz.prog 87 #[.pointer (some ⟨bd, 0, none⟩), .pointer (some ⟨ba, 0, none⟩), .slice none 0 0] w fun e w' => e = .returned (.slice none 0 0) ∧ Rd w' bd g o rest ∧ Chg (fun k => k = bd) w w' := by
  go_enter Tryz.func87, Tryz.ntmps87
  go_wp2_with fail
  refine (readInt_any _ _ _ _ _ _ hrd).mono ?_
  rintro e w1 ⟨rfl, hrd1, hc1⟩
  go_wp2
  go_loop [2, 9] (fun v x => v = .slice none 0 0 ∧ x = .int .i64 0) (fun _ _ => 0)
  case atStart => exact ⟨rfl, rfl⟩
  case round =>
  obtain ⟨rfl, rfl⟩ := hrel
  go_wp2
  go_ret
  exact ⟨rfl, hrd1, hc1⟩
end Go.Proofs.YtemdillhbnmjkaaGreatDoor

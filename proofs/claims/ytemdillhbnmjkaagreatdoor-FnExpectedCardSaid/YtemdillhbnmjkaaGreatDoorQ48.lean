/- The next decision: Next (34). -/
import Derived.Test.YtemdillhbnmjkaaGreatDoorQ47
import Derived.Deep.LoopGhost
namespace Go.Proofs.YtemdillhbnmjkaaGreatDoor
open Go.RowKit

/-- the innermost rule stands somewhere in its alternative, each other one at the rule that it has called -/
def Stk (g : Pl.Gr) (fs : List Pl.Fr) : Prop := ∃ f rest alts, fs = f :: rest ∧ g[f.r]? = some alts ∧ alts[f.a]? = some (Pl.altOf g f) ∧ f.k ≤ (Pl.altOf g f).length ∧ Pl.Linked g f.r rest
theorem altOf_k (g : Pl.Gr) (r a k k' : Nat) : Pl.altOf g ⟨r, a, k⟩ = Pl.altOf g ⟨r, a, k'⟩ := rfl
/-- how much is left at most -/
def mu (fs : List Pl.Fr) : Nat := (fs.map fun f => 6 - f.k).sum
def left_ (d f : Bool) (fs : List Pl.Fr) : Nat := if (d || f) = true then 0 else 1 + mu fs

def Zero5 : Array Value := #[.int .i64 0, .int .i64 0, .slice none 0 0, .slice none 0 0, .int .i64 0]
/-- before a round -/
structure NextR (w0 w wr : World) (mb : Nat) (vg : Value) (g : Pl.Gr) (lo hi : Nat) (ts : List Int) (n L k : Nat) : Prop where
  tch : TChg MT w wr
  res : Blk wr w.heap.size Zero5 54
  ex : ∃ fs p d f, Mac w0 wr mb vg g lo hi ts fs p n d f ∧ Stk g fs ∧ p ≤ ts.length ∧ fs.length ≤ L ∧ left_ d f fs ≤ k
def NextRet (w0 w : World) (mb : Nat) (vg : Value) (g : Pl.Gr) (lo hi : Nat) (ts : List Int) (n L : Nat) (e : Ending) (w' : World) : Prop :=
  ∃ fs p n' d f, Mac w0 w' mb vg g lo hi ts fs p n' d f ∧ TChg MT w w' ∧ fs.length ≤ L ∧ p ≤ ts.length ∧
    (((d || f) = true ∧ e = .returned (.agg Zero5)) ∨
     (d = false ∧ f = false ∧ n' = n + 1 ∧ n ≤ 200 ∧ ∃ q vI vR, fs ≠ [] ∧ Pl.Linked g q fs ∧ e = .returned (.agg #[.int .i64 (q : Int), .int .i64 (p : Int), vI, vR, .int .i64 0]) ∧ StepV w' g fs vI vR))
theorem NextR.step {w0 w wr w' : World} {mb : Nat} {vg : Value} {g : Pl.Gr} {lo hi : Nat} {ts : List Int} {n L k k' : Nat} (h : NextR w0 w wr mb vg g lo hi ts n L k) (hc : TChg MT wr w') (h54 : Blk w' w.heap.size Zero5 54)
    (hx : ∃ fs p d f, Mac w0 w' mb vg g lo hi ts fs p n d f ∧ Stk g fs ∧ p ≤ ts.length ∧ fs.length ≤ L ∧ left_ d f fs ≤ k') : NextR w0 w w' mb vg g lo hi ts n L k' := ⟨h.tch.trans hc, h54, hx⟩
theorem mt_res {wr w' : World} {b : Nat} (h : Blk wr b Zero5 54) (hc : TChg MT wr w') : Blk w' b Zero5 54 := hc.blk h (by decide)

theorem or_true {a b : Bool} (h : (a || b) = true) : a = true ∨ (a = false ∧ b = true) := by
  cases a <;> simp_all
theorem or_false {a b : Bool} (h : ¬ (a || b) = true) : a = false ∧ b = false := by
  cases a <;> cases b <;> simp_all
/-- the result's cells are written -/
theorem NextR.out5 {w0 w wr : World} {mb : Nat} {vg : Value} {g : Pl.Gr} {lo hi : Nat} {ts : List Int} {n L k p m : Nat} {fs : List Pl.Fr} {d f : Bool} (h : NextR w0 w wr mb vg g lo hi ts n L k) (h0 : Chg No w0 w) (hM : Mac w0 wr mb vg g lo hi ts fs p m d f) (a b c e x : Value) :
    Mac w0 (((((wr.setCell ⟨w.heap.size, 0, none⟩ a).setCell ⟨w.heap.size, 1, none⟩ b).setCell ⟨w.heap.size, 2, none⟩ c).setCell ⟨w.heap.size, 3, none⟩ e).setCell ⟨w.heap.size, 4, none⟩ x) mb vg g lo hi ts fs p m d f ∧
      TChg MT w (((((wr.setCell ⟨w.heap.size, 0, none⟩ a).setCell ⟨w.heap.size, 1, none⟩ b).setCell ⟨w.heap.size, 2, none⟩ c).setCell ⟨w.heap.size, 3, none⟩ e).setCell ⟨w.heap.size, 4, none⟩ x) ∧
      TChg [54] wr (((((wr.setCell ⟨w.heap.size, 0, none⟩ a).setCell ⟨w.heap.size, 1, none⟩ b).setCell ⟨w.heap.size, 2, none⟩ c).setCell ⟨w.heap.size, 3, none⟩ e).setCell ⟨w.heap.size, 4, none⟩ x) := by
  have hc := chg5' wr w.heap.size a b c e x
  have hT : TChg [54] wr (((((wr.setCell ⟨w.heap.size, 0, none⟩ a).setCell ⟨w.heap.size, 1, none⟩ b).setCell ⟨w.heap.size, 2, none⟩ c).setCell ⟨w.heap.size, 3, none⟩ e).setCell ⟨w.heap.size, 4, none⟩ x) := by
    refine TChg.of hc ?_
    rintro k rfl _
    exact ⟨_, _, h.res, by simp⟩
  refine ⟨hM.tchg hT (hM.chg.then hc (fun k hk e => by have := h0.size; omega)) (by simp), ?_, hT⟩
  refine h.tch.then hc ?_
  rintro k rfl _
  exact .inl (Nat.le_refl _)

theorem NextR.no {w0 w wr w' : World} {mb : Nat} {vg : Value} {g : Pl.Gr} {lo hi : Nat} {ts : List Int} {n L k : Nat} (h : NextR w0 w wr mb vg g lo hi ts n L k) (hc : Chg No wr w') : NextR w0 w w' mb vg g lo hi ts n L k := by
  obtain ⟨fs, p, d, f, h1, h2⟩ := h.ex
  exact ⟨h.tch.trans (TChg.no hc), h.res.chg hc (fun h => h), fs, p, d, f, h1.no hc, h2⟩
/-- it fails -/
theorem NextR.fail {w0 w wr : World} {mb : Nat} {vg : Value} {g : Pl.Gr} {lo hi : Nat} {ts : List Int} {n L k p : Nat} {fs : List Pl.Fr} (h : NextR w0 w wr mb vg g lo hi ts n L k) (hM : Mac w0 wr mb vg g lo hi ts fs p n false false) (hS : Stk g fs) (hp : p ≤ ts.length) (hL : fs.length ≤ L) :
    NextR w0 w (wr.setCell ⟨mb, 7, none⟩ (.bool true)) mb vg g lo hi ts n L 0 := by
  obtain ⟨q1, q2⟩ := hM.put 7 (.bool true) p n false true (fun _ _ _ => rfl)
  exact h.step q2 (mt_res h.res q2) ⟨fs, p, false, true, q1, hS, hp, hL, Nat.le_refl _⟩
/-- it is done, or fails -/
theorem NextR.fin {w0 w wr : World} {mb : Nat} {vg : Value} {g : Pl.Gr} {lo hi : Nat} {ts : List Int} {n L k p : Nat} {fs : List Pl.Fr} (b : Bool) (h : NextR w0 w wr mb vg g lo hi ts n L k) (hM : Mac w0 wr mb vg g lo hi ts fs p n false false) (hS : Stk g fs) (hp : p ≤ ts.length) (hL : fs.length ≤ L) :
    NextR w0 w ((wr.setCell ⟨mb, 6, none⟩ (.bool b)).setCell ⟨mb, 7, none⟩ (.bool (!b))) mb vg g lo hi ts n L 0 := by
  obtain ⟨q1, q2⟩ := hM.put 6 (.bool b) p n b false (fun _ _ _ => rfl)
  obtain ⟨q3, q4⟩ := q1.put 7 (.bool (!b)) p n b (!b) (fun _ _ _ => rfl)
  refine h.step (q2.trans q4) (mt_res h.res (q2.trans q4)) ⟨fs, p, b, !b, q3, hS, hp, hL, ?_⟩
  cases b <;> exact Nat.le_refl _
theorem mu_cons (f : Pl.Fr) (fs : List Pl.Fr) : mu (f :: fs) = (6 - f.k) + mu fs := by unfold mu; simp
/-- the innermost rule is left, the next one goes on -/
theorem NextR.popped {w0 w wr : World} {mb : Nat} {vg : Value} {g : Pl.Gr} {lo hi : Nat} {ts : List Int} {n L k p sk c2 : Nat} {f0 f1 : Pl.Fr} {rest : List Pl.Fr} (h : NextR w0 w wr mb vg g lo hi ts n L k) (hM : Mac w0 wr mb vg g lo hi ts (f0 :: f1 :: rest) p n false false)
    (hl : Pl.Linked g f0.r (f1 :: rest)) (hp : p ≤ ts.length) (hL : (f0 :: f1 :: rest).length ≤ L) (h5 : f0.k ≤ 5) (h51 : f1.k ≤ 5) (m3 : wr.cell? ⟨mb, 3, none⟩ = some (.slice (some ⟨sk, 0, none⟩) ((f1 :: rest).length + 1) c2)) :
    NextR w0 w ((wr.setCell ⟨mb, 3, none⟩ (.slice (some ⟨sk, 0, none⟩) (f1 :: rest).length c2)).setCell ⟨sk, rest.length * 3 + 2, none⟩ (.int .i64 ((f1.k : Int) + 1))) mb vg g lo hi ts n L (mu (f0 :: f1 :: rest)) := by
  obtain ⟨q1, q2⟩ := hM.pop m3
  obtain ⟨vl, ve, A', c', e1, e2, e3, e4⟩ := q1.ex
  have m3' : (wr.setCell ⟨mb, 3, none⟩ (.slice (some ⟨sk, 0, none⟩) (f1 :: rest).length c2)).cell? ⟨mb, 3, none⟩ = some (.slice (some ⟨sk, 0, none⟩) (rest.length + 1) c2) := by
    obtain ⟨vl0, ve0, A0, c0, g1, _⟩ := hM.ex
    rw [(g1.set 3 (.slice (some ⟨sk, 0, none⟩) (f1 :: rest).length c2)).cell]
    rfl
  obtain ⟨q3, q4⟩ := q1.top m3'
  obtain ⟨alts, a1, a2, a3, a4⟩ := hl.1.alt
  refine h.step (q2.trans q4) (mt_res h.res (q2.trans q4)) ⟨_, p, false, false, q3, ⟨_, rest, alts, rfl, a1, a2, a4, hl.2⟩, hp, by simp at hL ⊢; omega, ?_⟩
  show (1 + mu _) ≤ _
  rw [mu_cons, mu_cons, mu_cons]
  show 1 + (6 - (f1.k + 1) + mu rest) ≤ _
  omega
/-- a token fits -/
theorem NextR.token {w0 w wr : World} {mb : Nat} {vg : Value} {g : Pl.Gr} {lo hi : Nat} {ts : List Int} {n L k p sk c2 : Nat} {f0 : Pl.Fr} {rest : List Pl.Fr} {alts : List (List Int)} (h : NextR w0 w wr mb vg g lo hi ts n L k) (hM : Mac w0 wr mb vg g lo hi ts (f0 :: rest) p n false false)
    (hal : g[f0.r]? = some alts ∧ alts[f0.a]? = some (Pl.altOf g f0) ∧ f0.k ≤ (Pl.altOf g f0).length) (hl : Pl.Linked g f0.r rest) (hp : p + 1 ≤ ts.length) (hL : (f0 :: rest).length ≤ L) (hk : f0.k + 1 ≤ (Pl.altOf g f0).length) (h5 : f0.k ≤ 5)
    (m3 : wr.cell? ⟨mb, 3, none⟩ = some (.slice (some ⟨sk, 0, none⟩) (rest.length + 1) c2)) :
    NextR w0 w ((wr.setCell ⟨mb, 4, none⟩ (.int .i64 ((p : Int) + 1))).setCell ⟨sk, rest.length * 3 + 2, none⟩ (.int .i64 ((f0.k : Int) + 1))) mb vg g lo hi ts n L (mu (f0 :: rest)) := by
  obtain ⟨q1, q2⟩ := hM.put 4 (.int .i64 ((p : Int) + 1)) (p + 1) n false false (fun _ _ _ => rfl)
  have m3' : (wr.setCell ⟨mb, 4, none⟩ (.int .i64 ((p : Int) + 1))).cell? ⟨mb, 3, none⟩ = some (.slice (some ⟨sk, 0, none⟩) (rest.length + 1) c2) := by
    obtain ⟨vl0, ve0, A0, c0, g1, _⟩ := hM.ex
    rw [(g1.set 4 _).cell]
    rw [g1.cell] at m3
    exact m3
  obtain ⟨q3, q4⟩ := q1.top m3'
  refine h.step (q2.trans q4) (mt_res h.res (q2.trans q4)) ⟨_, p + 1, false, false, q3, ⟨_, rest, alts, rfl, hal.1, hal.2.1, hk, hl⟩, hp, by simpa using hL, ?_⟩
  show (1 + mu _) ≤ _
  rw [mu_cons, mu_cons]
  show 1 + (6 - (f0.k + 1) + mu rest) ≤ _
  omega

set_option maxHeartbeats 8000000 in
set_option maxRecDepth 100000 in
theorem next_any (w0 w : World) (mb lo hi p n L : Nat) (vg : Value) (g : Pl.Gr) (ts : List Int) (fs : List Pl.Fr) (d f : Bool) (hM : Mac w0 w mb vg g lo hi ts fs p n d f) (G : Pl.GoodG g) (hv : T3 w0 vg g)
    (hts : ts.length < 100) (hp : p ≤ ts.length) (hS : Stk g fs) (hL : fs.length ≤ L) (hL1 : L < 900) (hn : n < 1000) :
    Calls Tryz.prog 34 #[.pointer (some ⟨mb, 0, none⟩)] w (NextRet w0 w mb vg g lo hi ts n L) := by
  obtain ⟨Ag_, cg, rfl⟩ := (T3.rd hv).slice
  have HM := Lib.hid (show NextR w0 w (w.alloc (.cells #[.int .i64 0, .int .i64 0, .slice none 0 0, .slice none 0 0, .int .i64 0] 54)) mb (.slice Ag_ g.length cg) g lo hi ts n L (left_ d f fs) from
    ⟨(TChg.refl MT w).alloc _, Blk.new w _ 54, fs, p, d, f, hM.no ((Chg.refl No w).alloc _), hS, hp, hL, Nat.le_refl _⟩)
  have HG := Lib.hid G
  have HV := Lib.hid (T3.rd hv)
  have HV3 := Lib.hid hv
  have HC0 := Lib.hid hM.chg
  clear hM G hv hS hL hp
  go_enter Tryz.func34, Tryz.ntmps34
  go_wp2
  go_loopg [] (left_ d f fs) (fun k wr => NextR w0 w wr mb (.slice Ag_ g.length cg) g lo hi ts n L k)
  case atStart => exact HM.out
  case round =>
    obtain ⟨fs1, p1, d1, f1, hM, hS, hp, hL, hk⟩ := hrel.ex
    obtain ⟨f0, rest, alts, rfl, a1, a2, a3, a4⟩ := hS
    obtain ⟨vl, ve, A2, c2, e1, e2, e3, e4⟩ := hM.ex
    obtain ⟨AL, cL, rfl⟩ := e2.list.slice
    obtain ⟨sk, cap, cur, he, _, _⟩ := Own.blk e3 (by simp)
    simp at he
    obtain ⟨rfl, rfl⟩ := he
    have m6 : wr.cell? ⟨mb, 6, none⟩ = some (.bool d1) := by rw [e1.cell]; rfl
    have m7 : wr.cell? ⟨mb, 7, none⟩ = some (.bool f1) := by rw [e1.cell]; rfl
    have hres := hrel.res
    have hwm := e1.lt
    have HRel := Lib.hid hrel
    have HMac := Lib.hid hM
    have HE1 := Lib.hid e1
    by_cases hdf : (d1 || f1) = true
    · have r0 : wr.cell? ⟨w.heap.size, 0, none⟩ = some (.int .i64 0) := by rw [hres.cell]; rfl
      have r1 : wr.cell? ⟨w.heap.size, 1, none⟩ = some (.int .i64 0) := by rw [hres.cell]; rfl
      have r2 : wr.cell? ⟨w.heap.size, 2, none⟩ = some (.slice none 0 0) := by rw [hres.cell]; rfl
      have r3 : wr.cell? ⟨w.heap.size, 3, none⟩ = some (.slice none 0 0) := by rw [hres.cell]; rfl
      have r4 : wr.cell? ⟨w.heap.size, 4, none⟩ = some (.int .i64 0) := by rw [hres.cell]; rfl
      have z0 := hres.fz 0
      have z1 := hres.fz 1
      have z2 := hres.fz 2
      have z3 := hres.fz 3
      have z4 := hres.fz 4
      have hwl := hres.lt
      have HRes := Lib.hid hres
      clear e1 e2 e3 e4 a1 a2 a3 a4 hM hrel hres
      have hdf2 := or_true hdf
      rcases hdf2 with rfl | ⟨rfl, rfl⟩
      all_goals
        go_wp2
        have hp5 := put5 (a := .int .i64 0) (b := .int .i64 0) (c := .slice none 0 0) (d := .slice none 0 0) (e := .int .i64 0) (show Blk wr w.heap.size #[.int .i64 0, .int .i64 0, .slice none 0 0, .slice none 0 0, .int .i64 0] 54 from HRes.out)
        have y0 := hp5.cell 0
        have y1 := hp5.cell 1
        have y2 := hp5.cell 2
        have y3 := hp5.cell 3
        have y4 := hp5.cell 4
        obtain ⟨q1, q2, _⟩ := HRel.out.out5 HC0.out HMac.out (.int .i64 0) (.int .i64 0) (.slice none 0 0) (.slice none 0 0) (.int .i64 0)
        refine bodyPost_ret (v := .agg #[.int .i64 0, .int .i64 0, .slice none 0 0, .slice none 0 0, .int .i64 0]) (by simp [results, Tryz.results34, go_sem, y0, y1, y2, y3, y4]) rfl ⟨_, _, _, _, _, q1, q2, hL, hp, .inl ⟨rfl, rfl⟩⟩
    · obtain ⟨rfl, rfl⟩ := or_false hdf
      clear hdf
      have m0 : wr.cell? ⟨mb, 0, none⟩ = some (.slice Ag_ g.length cg) := by rw [e1.cell]; rfl
      have m1 : wr.cell? ⟨mb, 1, none⟩ = some (.slice AL ts.length cL) := by rw [e1.cell]; rfl
      have m3 : wr.cell? ⟨mb, 3, none⟩ = some (.slice (some ⟨sk, 0, none⟩) (rest.length + 1) c2) := by rw [e1.cell]; rfl
      have m4 : wr.cell? ⟨mb, 4, none⟩ = some (.int .i64 (p1 : Int)) := by rw [e1.cell]; rfl
      have m5 : wr.cell? ⟨mb, 5, none⟩ = some (.int .i64 (n : Int)) := by rw [e1.cell]; rfl
      obtain ⟨y0, y1, y2⟩ := fr_at (R := (f0 :: rest).reverse) (j := rest.length) (f := f0) e3 (by simp)
      have a5 := (List.getElem?_eq_some_iff.1 a2).1
      have a6 := (List.getElem?_eq_some_iff.1 a1).1
      have al5 := HG.out.alt f0.r alts _ a1 (List.mem_of_getElem? a2)
      obtain ⟨b1, A1, c1, hA1, k1, t2⟩ := T3.at_ HV3.out a1
      obtain ⟨b2, A3, c3, hA2, k2, t1⟩ := T2.at_ t2 a2
      subst hA1
      subst hA2
      have w1 := Chg.kept hM.chg k1 (fun h => h)
      have w2 := Chg.kept hM.chg k2 (fun h => h)
      obtain ⟨q1, q2, q3, q4⟩ := T1.lies t1
      have hwr1 : IntKind.i64.wrap ((rest.length : Int) + 1 - 1) = (rest.length : Int) := by rw [IntKind.wrap_i64]; have : rest.length + 1 ≤ L := hL; omega
      have hwr2 : IntKind.i64.wrap ((rest.length : Int)) = (rest.length : Int) := by rw [IntKind.wrap_i64]; have : rest.length + 1 ≤ L := hL; omega
      have x0 : (0 : Int) ≤ (rest.length : Int) := by omega
      have x1 : (rest.length : Int) < (rest.length : Int) + 1 := by omega
      have r0 : (0 : Int) ≤ (f0.r : Int) := by omega
      have r1 : (f0.r : Int) < (g.length : Int) := by omega
      have r2 : (0 : Int) ≤ (f0.a : Int) := by omega
      have r3 : (f0.a : Int) < (alts.length : Int) := by omega
      have k0 : (0 : Int) ≤ (f0.k : Int) := by omega
      have f5 := e1.fz 5
      have f7 := e1.fz 7
      have HA4 := Lib.hid a4
      have HLnk := Lib.hid (show Pl.Linked g f0.r rest from a4)
      have HQ4 := Lib.hid q4
      have HQ3 := Lib.hid q3
      have HE2 := Lib.hid e2
      have HE3 := Lib.hid e3
      have HAl := Lib.hid (show g[f0.r]? = some alts ∧ alts[f0.a]? = some (Pl.altOf g f0) ∧ f0.k ≤ (Pl.altOf g f0).length from ⟨a1, a2, a3⟩)
      have HRes := Lib.hid hres
      have hak : f0.k ≤ (Pl.altOf g f0).length := a3
      have hgk : 1 + mu (f0 :: rest) ≤ gk := hk
      obtain ⟨L1, hL1'⟩ : ∃ L1, L1 = rest.length := ⟨_, rfl⟩
      rw [← hL1'] at m3 y0 y1 y2 hwr1 hwr2 x0 x1
      have HL1 := Lib.hid hL1'
      have HGk := Lib.hid hgk
      have HL0 := Lib.hid hL
      clear e1 e2 e3 e4 a1 a2 a3 a4 hM hrel hres t1 t2 k1 k2 q4 q3 hk hgk hL1' hL
      by_cases hn2 : 200 < n
      · have d1 : decide (200 < n) = true := decide_eq_true hn2
        go_wp2
        go_quiet (fail)
        go_wp2
        go_quiet (fail)
        go_wp2
        go_roundg 0
        case measure => have := HGk.out; omega
        case rel => exact (HRel.out.fail HMac.out ⟨f0, rest, alts, rfl, HAl.out.1, HAl.out.2.1, HAl.out.2.2, HLnk.out⟩ hp HL0.out).no ((Chg.refl No _).drewN _)
      · have d1 : decide (200 < n) = false := decide_eq_false hn2
        by_cases hke : f0.k = (Pl.altOf g f0).length
        · have HKE := Lib.hid hke
          rcases rest with _ | ⟨f1, rest⟩
          · obtain rfl : L1 = 0 := HL1.out
            have m6' := m6
            have f6 : wr.frozen? ⟨mb, 6, none⟩ = false := HE1.out.fz 6
            obtain ⟨bd, hbd⟩ : ∃ bd, bd = decide ((p1 : Int) = (ts.length : Int)) := ⟨_, rfl⟩
            go_wp2
            go_quiet (fail)
            go_wp2
            go_quiet (fail)
            go_wp2
            refine wp_tail 14 (by kernel_rfl) ?_
            simp only [List.take_succ_cons, List.take_zero, List.drop_succ_cons, List.drop_zero]
            repeat still_step
            refine wpStill_nil ?_
            go_wp2
            go_roundg 0
            case measure => have := HGk.out; omega
            case rel => exact (HRel.out.no ((Chg.refl No wr).drewN _)).fin _ (HMac.out.no ((Chg.refl No wr).drewN _)) ⟨f0, [], alts, rfl, HAl.out.1, HAl.out.2.1, HAl.out.2.2, HLnk.out⟩ hp HL0.out
          · obtain ⟨L2, hL2⟩ : ∃ L2, L2 = rest.length := ⟨_, rfl⟩
            have hL12 : L1 = L2 + 1 := by have := HL1.out; simp at this; omega
            have hl1 : L1 < 1000 := by have := HL0.out; have h9 := HL1.out; simp at this h9; omega
            have hf1 : f1.k ≤ 5 := by
              obtain ⟨al1, g1, g2, g3, g4⟩ := HLnk.out.1.alt
              have := HG.out.alt f1.r al1 _ g1 (List.mem_of_getElem? g2)
              omega
            obtain ⟨y3, y4, y5⟩ := fr_at (R := (f0 :: f1 :: rest).reverse) (j := rest.length) (f := f1) HE3.out (by simp)
            have h16 : ¬ ((L1 : Int) + 1 = 1) := by omega
            have h17 : ((L1 : Int) + 1 == 1) = false := by simpa using h16
            have h18 : decide ((L1 : Int) + 1 = 1) = false := decide_eq_false h16
            have hwr3 : IntKind.i64.wrap ((L1 : Int) - 1) = (L2 : Int) := by rw [IntKind.wrap_i64]; omega
            have x2 : (0 : Int) ≤ (L2 : Int) := by omega
            have x3 : (L2 : Int) < (L1 : Int) := by omega
            have x4 : (0 : Int) ≤ (L1 : Int) := by omega
            have x5 : (L1 : Int) ≤ (L1 : Int) + 1 := by omega
            have hcap : L1 + 1 ≤ c2 := by have := HE3.out.cap; have h9 := HL1.out; simp at this h9; omega
            have x6 : (L1 : Int) ≤ (c2 : Int) := by omega
            rw [← hL2] at y3 y4 y5
            have HL2 := Lib.hid hL2
            have HL12 := Lib.hid hL12
            have f3 : wr.frozen? ⟨mb, 3, none⟩ = false := HE1.out.fz 3
            have fsk : wr.frozen? ⟨sk, L2 * 3 + 2, none⟩ = false := HE3.out.fz _
            obtain ⟨curk, hcurk⟩ := HE3.out.own (k := sk) rfl
            have hsk := hcurk.lt
            have hne : mb ≠ sk := HE1.out.ne hcurk (by decide)
            clear hL2 hL12 hcurk
            go_wp2
            go_quiet (fail)
            go_wp2
            go_quiet (fail)
            go_wp2
            refine wp_tail 14 (by kernel_rfl) ?_
            simp only [List.take_succ_cons, List.take_zero, List.drop_succ_cons, List.drop_zero]
            repeat still_step
            refine wpStill_nil ?_
            go_wp2
            refine wp_tail 16 (by kernel_rfl) ?_
            simp only [List.take_succ_cons, List.take_zero, List.drop_succ_cons, List.drop_zero]
            repeat still_step
            refine wpStill_nil ?_
            go_wp2
            go_roundg (mu (f0 :: f1 :: rest))
            case measure => have := HGk.out; omega
            case rel =>
              have h2 := HL2.out
              have h1 := HL1.out
              subst h2
              subst h1
              exact ((HRel.out.no ((Chg.refl No wr).drewN _)).popped (HMac.out.no ((Chg.refl No wr).drewN _)) HLnk.out hp HL0.out (by have := HKE.out; omega) hf1 m3).no ((Chg.refl No _).drew)
        · have hklt : f0.k < (Pl.altOf g f0).length := by omega
          obtain ⟨s, hs⟩ : ∃ s, (Pl.altOf g f0)[f0.k]? = some s := ⟨_, List.getElem?_eq_getElem hklt⟩
          obtain ⟨b3, hA3⟩ : ∃ b, A3 = some ⟨b, 0, none⟩ := by
            rcases HQ3.out with h | h
            · omega
            · exact h
          have ks := Chg.kept HMac.out.chg (HQ4.out b3 hA3 f0.k s hs) (fun h => h)
          have hb3 : b3 < w0.heap.size := World.block_lt_of_cell? w0 _ (HQ4.out b3 hA3 f0.k s hs)
          have hneb : mb ≠ b3 := by have := HMac.out.new; omega
          obtain ⟨curk, hcurk⟩ := HE3.out.own (k := sk) rfl
          have hsk := hcurk.lt
          have hne : mb ≠ sk := HE1.out.ne hcurk (by decide)
          have f4 : wr.frozen? ⟨mb, 4, none⟩ = false := HE1.out.fz 4
          have fsk : wr.frozen? ⟨sk, L1 * 3 + 2, none⟩ = false := HE3.out.fz _
          clear hcurk
          subst hA3
          have k1' : (f0.k : Int) < ((Pl.altOf g f0).length : Int) := by omega
          have hke1 : ((f0.k : Int) == ((Pl.altOf g f0).length : Int)) = false := by simpa using (by omega : ¬ (f0.k : Int) = ((Pl.altOf g f0).length : Int))
          have hke2 : decide ((f0.k : Int) = ((Pl.altOf g f0).length : Int)) = false := decide_eq_false (by omega)
          have hL1k : L1 < 1000 := by have := HL0.out; have h9 := HL1.out; simp at this; omega
          have hsy := HG.out.symsOk f0.r alts _ HAl.out.1 (List.mem_of_getElem? HAl.out.2.1) s (List.mem_of_getElem? hs)
          have HS9 := Lib.hid hs
          clear hs
          rcases hsy with htok | ⟨q, hq, rfl⟩
          · have hgt : -100 < s := by unfold Pl.TokOk at htok; omega
            have HRP := Lib.hid (fun W : World => rule_neg W s hgt)
            clear htok
            have hstk : Stk g (f0 :: rest) := ⟨f0, rest, alts, rfl, HAl.out.1, HAl.out.2.1, HAl.out.2.2, HLnk.out⟩
            have HStk := Lib.hid hstk
            have hlist := HE2.out.list
            clear hstk
            by_cases hpt : p1 < ts.length
            · obtain ⟨t, ht⟩ : ∃ t, ts[p1]? = some t := ⟨_, List.getElem?_eq_getElem hpt⟩
              obtain ⟨gl, capl, curl, hel, _, _⟩ := Own.blk hlist (by omega)
              simp at hel
              obtain ⟨rfl, rfl⟩ := hel
              have kt : wr.cell? ⟨gl, p1, none⟩ = some (.int .i64 t) := hlist.cellAt (by rw [List.getElem?_map, ht]; rfl)
              have p0 : (0 : Int) ≤ (p1 : Int) := by omega
              have p2 : (p1 : Int) < (ts.length : Int) := by omega
              clear hlist ht
              by_cases hts' : t = s
              · subst hts'
                go_wp2
                go_quiet (fail)
                go_wp2
                go_quiet (fail)
                go_wp2_with (first | (go_at_call 22; refine (HRP.out _).mono ?_; rintro e w' ⟨rfl, rfl⟩))
                go_quiet (fail)
                go_wp2
                go_roundg (mu (f0 :: rest))
                case measure => have := HGk.out; omega
                case rel =>
                  have h1 := HL1.out
                  subst h1
                  exact ((HRel.out.no ((Chg.refl No wr).drewN _)).token (HMac.out.no ((Chg.refl No wr).drewN _)) HAl.out HLnk.out (by omega) HL0.out (by omega) (by omega) m3)
              · have d2 : decide (t = s) = false := decide_eq_false hts'
                have d3 : (t == s) = false := by simpa using hts'
                clear hts'
                go_wp2
                go_quiet (fail)
                go_wp2
                go_quiet (fail)
                go_wp2_with (first | (go_at_call 22; refine (HRP.out _).mono ?_; rintro e w' ⟨rfl, rfl⟩))
                go_quiet (fail)
                go_wp2
                go_roundg 0
                case measure => have := HGk.out; omega
                case rel => exact ((HRel.out.no ((Chg.refl No wr).drewN _)).fail (HMac.out.no ((Chg.refl No wr).drewN _)) HStk.out hp HL0.out)
            · have d2 : decide ((p1 : Int) < (ts.length : Int)) = false := decide_eq_false (by omega)
              clear hlist
              go_wp2
              go_quiet (fail)
              go_wp2
              go_quiet (fail)
              go_wp2_with (first | (go_at_call 22; refine (HRP.out _).mono ?_; rintro e w' ⟨rfl, rfl⟩))
              go_quiet (fail)
              go_wp2
              go_roundg 0
              case measure => have := HGk.out; omega
              case rel => exact ((HRel.out.no ((Chg.refl No wr).drewN _)).fail (HMac.out.no ((Chg.refl No wr).drewN _)) HStk.out hp HL0.out)
          · have hle : Pl.ofR q ≤ -100 := by unfold Pl.ofR; omega
            have hrp := fun W : World => rule_pos W (Pl.ofR q) (by have := HG.out.len6; unfold Pl.ofR; omega) hle
            rw [Pl.idx_ofR] at hrp
            have HRP := Lib.hid hrp
            have hlnk : Pl.Linked g q (f0 :: rest) := ⟨⟨alts, _, HAl.out.1, HAl.out.2.1, HS9.out⟩, HLnk.out⟩
            have HLq := Lib.hid hlnk
            have q0 : (0 : Int) ≤ (q : Int) := by omega
            have hput := fun m => (HMac.out.no ((Chg.refl No wr).drewN m)).put 5 (.int .i64 ((n : Int) + 1)) p1 (n + 1) false false (fun _ _ _ => rfl)
            have hask := fun m => ask_any w0 ((wr.drewN m).setCell ⟨mb, 5, none⟩ (.int .i64 ((n : Int) + 1))) mb lo hi p1 (n + 1) _ g ts (f0 :: rest) false false q (hput m).1 HG.out HV3.out (by have := HL0.out; omega) hlnk (by simp)
            have HPut := Lib.hid hput
            have HAsk := Lib.hid hask
            have HF0 : Hid (wr.cell? ⟨w.heap.size, 0, none⟩ = some (.int .i64 0)) := Lib.hid (by rw [HRes.out.cell]; rfl)
            clear hrp hlnk hput hask
            generalize Pl.ofR q = sq at *
            go_wp2
            go_quiet (fail)
            go_wp2
            go_quiet (fail)
            go_wp2_with (first | (go_at_call 22; refine (HRP.out _).mono ?_; rintro e w' ⟨rfl, rfl⟩))
            refine (HAsk.out _).mono ?_
            rintro e w4 ⟨vI, vR, rfl, hst, hc4, _, _⟩
            have HR4 := Lib.hid (mt_res (mt_res HRes.out (TChg.no ((Chg.refl No wr).drewN _))) ((HPut.out _).2.trans (TChg.no hc4)))
            have HM4 := Lib.hid ((HPut.out _).1.no hc4)
            have HT4 := Lib.hid (((HRel.out.tch.trans (TChg.no ((Chg.refl No wr).drewN _))).trans (HPut.out _).2).trans (TChg.no hc4))
            have HSt := Lib.hid hst
            obtain ⟨AI, cI, rfl⟩ := hst.inv.slice
            obtain ⟨AR, cR, rfl⟩ := hst.rest.slice
            clear hst hc4 HPut HAsk
            have hres := HR4.out
            have r0' : w4.cell? ⟨w.heap.size, 0, none⟩ = some (.int .i64 0) := by rw [hres.cell]; rfl
            have r1' : w4.cell? ⟨w.heap.size, 1, none⟩ = some (.int .i64 0) := by rw [hres.cell]; rfl
            have r2' : w4.cell? ⟨w.heap.size, 2, none⟩ = some (.slice none 0 0) := by rw [hres.cell]; rfl
            have r3' : w4.cell? ⟨w.heap.size, 3, none⟩ = some (.slice none 0 0) := by rw [hres.cell]; rfl
            have r4' : w4.cell? ⟨w.heap.size, 4, none⟩ = some (.int .i64 0) := by rw [hres.cell]; rfl
            have z0 := hres.fz 0
            have z1 := hres.fz 1
            have z2 := hres.fz 2
            have z3 := hres.fz 3
            have z4 := hres.fz 4
            have hwl := hres.lt
            clear hres
            go_wp2
            have hp5 := put5 (a := .int .i64 (q : Int)) (b := .int .i64 (p1 : Int)) (c := .slice AI (rest.length + 1) cI) (d := .slice AR (Pl.restOf g (f0 :: rest)).length cR) (e := .int .i64 0) (show Blk w4 w.heap.size #[.int .i64 0, .int .i64 0, .slice none 0 0, .slice none 0 0, .int .i64 0] 54 from HR4.out)
            have y0' := hp5.cell 0
            have y1' := hp5.cell 1
            have y2' := hp5.cell 2
            have y3' := hp5.cell 3
            have y4' := hp5.cell 4
            obtain ⟨u1, u2, u3'⟩ := NextR.out5 (n := n + 1) (L := L) (k := left_ false false (f0 :: rest)) ⟨HT4.out, HR4.out, ⟨f0 :: rest, p1, false, false, HM4.out, ⟨f0, rest, alts, rfl, HAl.out.1, HAl.out.2.1, HAl.out.2.2, HLnk.out⟩, hp, HL0.out, Nat.le_refl _⟩⟩ HC0.out HM4.out (.int .i64 (q : Int)) (.int .i64 (p1 : Int)) (.slice AI (rest.length + 1) cI) (.slice AR (Pl.restOf g (f0 :: rest)).length cR) (.int .i64 0)
            refine bodyPost_ret (v := .agg #[.int .i64 (q : Int), .int .i64 (p1 : Int), .slice AI (rest.length + 1) cI, .slice AR (Pl.restOf g (f0 :: rest)).length cR, .int .i64 0]) (by simp [results, Tryz.results34, go_sem, y0', y1', y2', y3', y4']) rfl
              ⟨f0 :: rest, p1, n + 1, false, false, u1, u2, HL0.out, hp, .inr ⟨rfl, rfl, rfl, by omega, q, _, _, by simp, HLq.out, rfl, ⟨TChg.own u3' HSt.out.inv (by decide), TChg.own u3' HSt.out.rest (by decide)⟩⟩⟩
end Go.Proofs.YtemdillhbnmjkaaGreatDoor

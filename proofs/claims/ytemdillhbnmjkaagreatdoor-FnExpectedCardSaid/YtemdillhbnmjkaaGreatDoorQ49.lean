/- The decisions of the first derivation: Tokens (17), Parse (18). -/
import Derived.Test.YtemdillhbnmjkaaGreatDoorQ48
namespace Go.Proofs.YtemdillhbnmjkaaGreatDoor
open Go.RowKit

set_option maxRecDepth 100000 in
theorem tokens_any (w : World) (v : Value) (ts : List Int) (hl : ts.length ≤ maxLen) (hv : Rd1 w v ts) : Calls Tryz.prog 17 #[v] w (Tell (ts.length ≤ 12) w) := by
  obtain ⟨A, c, rfl⟩ := hv.slice
  unfold maxLen at hl
  have HV := Lib.hid hv
  clear hv
  go_enter Tryz.func17, Tryz.ntmps17
  go_wp2
  go_loopw [7] (fun i wr => ∃ j : Nat, j ≤ ts.length ∧ i = .int .i64 (j : Int) ∧ w = wr) (fun i _ => ts.length - (intOf i).toNat)
  case atStart => exact ⟨0, Nat.zero_le _, rfl, rfl⟩
  case round =>
    obtain ⟨j, hj, rfl, rfl⟩ := hrel
    by_cases hlt : j < ts.length
    · obtain ⟨x, hu⟩ : ∃ u, ts[j]? = some u := ⟨_, List.getElem?_eq_getElem hlt⟩
      obtain ⟨b, o, rfl, h1⟩ := Rd1.at_ HV.out hu
      clear hu
      by_cases h3 : x < 1
      · go_wp2
        go_ret
        exact ⟨false, rfl, (fun h => by cases h), rfl⟩
      · by_cases h4 : 4 < x
        · go_wp2
          go_ret
          exact ⟨false, rfl, (fun h => by cases h), rfl⟩
        · go_wp2
          go_roundw
          case rel => exact ⟨j + 1, by omega, by go_num, by trivial⟩
          case measure => simp [intOf]; omega
    · by_cases h5 : ts.length ≤ 12
      · have d1 : decide ((ts.length : Int) ≤ 12) = true := decide_eq_true (by omega)
        go_wp2
        go_ret
        exact ⟨_, rfl, fun _ => h5, rfl⟩
      · have d1 : decide ((ts.length : Int) ≤ 12) = false := decide_eq_false (by omega)
        go_wp2
        go_ret
        exact ⟨false, by simp, (fun h => by cases h), rfl⟩

theorem et49 : ET 49 54 (.agg #[.int .i64 0, .int .i64 0, .slice none 0 0, .slice none 0 0, .int .i64 0]) 5 72 := ⟨by kernel_rfl, by kernel_rfl, rfl, by decide⟩
/-- a decision, with what is left of it in memory -/
structure SRec where
  q : Nat
  p : Nat
  x : Nat
  fs : List Pl.Fr
  vI : Value
  vR : Value
def srCells (r : SRec) : List Value := [.int .i64 (r.q : Int), .int .i64 (r.p : Int), r.vI, r.vR, .int .i64 (r.x : Int)]
def SrOk (w : World) (g : Pl.Gr) (r : SRec) : Prop := Pl.Linked g r.q r.fs ∧ r.fs ≠ [] ∧ r.fs.length ≤ 900 ∧ StepV w g r.fs r.vI r.vR
theorem StepV.tchg {Ts : List TypeId} {w w' : World} {g : Pl.Gr} {fs : List Pl.Fr} {vI vR : Value} (h : StepV w g fs vI vR) (hc : TChg Ts w w') (h3 : (3 : TypeId) ∉ Ts) (h59 : (59 : TypeId) ∉ Ts) : StepV w' g fs vI vR := ⟨hc.own h.inv h3, hc.own h.rest h59⟩
theorem SrOk.tchg {Ts : List TypeId} {w w' : World} {g : Pl.Gr} {r : SRec} (h : SrOk w g r) (hc : TChg Ts w w') (h3 : (3 : TypeId) ∉ Ts) (h59 : (59 : TypeId) ∉ Ts) : SrOk w' g r := ⟨h.1, h.2.1, h.2.2.1, h.2.2.2.tchg hc h3 h59⟩
/-- the decisions so far -/
structure Outs (w wr : World) (g : Pl.Gr) (v : Value) (rs : List SRec) : Prop where
  own : Own wr 54 5 v rs.length (rs.flatMap srCells)
  ok : ∀ r ∈ rs, SrOk wr g r
  new : ∀ k, v.ownBlock = some k → w.heap.size ≤ k
theorem Outs.mt {w wr w' : World} {g : Pl.Gr} {v : Value} {rs : List SRec} (h : Outs w wr g v rs) (hc : TChg MT wr w') : Outs w w' g v rs :=
  ⟨hc.own h.own (by decide), fun r hr => (h.ok r hr).tchg hc (by decide) (by decide), h.new⟩
theorem Outs.no {w wr w' : World} {g : Pl.Gr} {v : Value} {rs : List SRec} (h : Outs w wr g v rs) (hc : Chg No wr w') : Outs w w' g v rs :=
  ⟨h.own.no hc, fun r hr => (h.ok r hr).tchg (Ts := []) (TChg.no hc) (by decide) (by decide), h.new⟩
/-- another block of decisions' cells is written -/
theorem Outs.set {w wr : World} {g : Pl.Gr} {v : Value} {rs : List SRec} {sb : Nat} {c : Array Value} (h : Outs w wr g v rs) (hb : Blk wr sb c 54) (hn : v.ownBlock ≠ some sb) (i : Nat) (u : Value) : Outs w (wr.setCell ⟨sb, i, none⟩ u) g v rs ∧ TChg [54] wr (wr.setCell ⟨sb, i, none⟩ u) := by
  have hT : TChg [54] wr (wr.setCell ⟨sb, i, none⟩ u) := TChg.setCell (TChg.refl _ wr) (p := ⟨sb, i, none⟩) hb (by simp) _
  have hc : Chg (fun k => k = sb) wr (wr.setCell ⟨sb, i, none⟩ u) := Chg.setCell (S := fun k => k = sb) (Chg.refl _ _) (fun _ => rfl) _
  exact ⟨⟨h.own.chg hc (fun k hk e => hn (by rw [hk, e])), fun r hr => (h.ok r hr).tchg hT (by decide) (by decide), h.new⟩, hT⟩
theorem sr_snoc (rs : List SRec) (r : SRec) : (rs ++ [r]).flatMap srCells = rs.flatMap srCells ++ srCells r := by rw [List.flatMap_append]; simp
/-- a decision more -/
theorem Outs.snoc {w wr w5 : World} {g : Pl.Gr} {v : Value} {A : Option Addr} {c : Nat} {rs : List SRec} {r : SRec} (h : Outs w wr g v rs) (hw : Chg No w wr) (hr : SrOk wr g r) {cs : Array Value} (h1 : Own w5 54 5 (.slice A (rs.length + 1) c) (rs.length + 1) (rs.flatMap srCells ++ srCells r))
    (h2 : (wr.alloc (.cells cs 54)).grownBy w5 v.ownBlock) (h3 : ∀ k, (Value.slice A (rs.length + 1) c).ownBlock = some k → v.ownBlock = some k ∨ k = wr.heap.size + 1) :
    Outs w w5 g (.slice A (rs.length + 1) c) (rs ++ [r]) ∧ TChg [54] wr w5 ∧ Chg No w w5 := by
  have hT : TChg [54] wr w5 := by
    refine TChg.then (S := fun k => some k = v.ownBlock) ((TChg.refl [54] wr).alloc (.cells cs 54)) (Chg.grownBy h2) (fun k hk _ => ?_)
    obtain ⟨cur, hcur⟩ := h.own.own hk.symm
    exact .inr ⟨cur, 54, hcur.alloc _, by simp⟩
  refine ⟨⟨by rw [sr_snoc, List.length_append]; exact h1, fun x hx => ?_, fun k hk => ?_⟩, hT, ?_⟩
  · rcases List.mem_append.1 hx with hx | hx
    · exact (h.ok x hx).tchg hT (by decide) (by decide)
    · simp at hx
      subst hx
      exact hr.tchg hT (by decide) (by decide)
  · rcases h3 k hk with h4 | h4
    · exact h.new k h4
    · have := hw.size; omega
  · refine (hw.alloc (.cells cs 54)).grown h2 (fun k hk hlt => ?_)
    have := h.new k hk; omega
theorem stk_of {g : Pl.Gr} {q : Nat} {fs : List Pl.Fr} (h : Pl.Linked g q fs) (hn : fs ≠ []) : Stk g fs := by
  cases fs with
  | nil => exact absurd rfl hn
  | cons f rest =>
    obtain ⟨alts, a1, a2, a3, a4⟩ := h.1.alt
    exact ⟨f, rest, alts, rfl, a1, a2, by omega, h.2⟩
theorem stk_push {g : Pl.Gr} {q x : Nat} {fs : List Pl.Fr} {alts : List (List Int)} (h : Pl.Linked g q fs) (hr : g[q]? = some alts) (hx : x < alts.length) : Stk g (⟨q, x, 0⟩ :: fs) := by
  refine ⟨⟨q, x, 0⟩, fs, alts, rfl, hr, ?_, Nat.zero_le _, h⟩
  show alts[x]? = some (Pl.altOf g ⟨q, x, 0⟩)
  unfold Pl.altOf
  rw [hr, Option.getD_some, List.getElem?_eq_getElem hx, Option.getD_some]

/-- before a round of Parse -/
structure ParR (w wr : World) (mb : Nat) (vg : Value) (g : Pl.Gr) (lo hi : Nat) (ts : List Int) (v : Value) (k : Nat) : Prop where
  ex : ∃ rs fs p n d f, Mac w wr mb vg g lo hi ts fs p n d f ∧ Stk g fs ∧ p ≤ ts.length ∧ fs.length ≤ n + 1 ∧ n ≤ 201 ∧ 300 ≤ n + k ∧ rs.length ≤ n ∧ Outs w wr g v rs
def ParRet (w : World) (g : Pl.Gr) (e : Ending) (w' : World) : Prop := ∃ v rs dn, e = .returned (.tuple #[v, .bool dn]) ∧ Outs w w' g v rs ∧ Chg No w w' ∧ rs.length ≤ 1000
theorem Mac.t54 {w0 w w' : World} {mb lo hi p n : Nat} {vg : Value} {g : Pl.Gr} {ts : List Int} {fs : List Pl.Fr} {d f : Bool} (h : Mac w0 w mb vg g lo hi ts fs p n d f) (hc : TChg [54] w w') (h0 : Chg No w0 w') : Mac w0 w' mb vg g lo hi ts fs p n d f := h.tchg hc h0 (by simp)

set_option maxHeartbeats 4000000 in
set_option maxRecDepth 100000 in
theorem parse_any (w : World) (vg vt : Value) (g : Pl.Gr) (ts : List Int) (hts : ts.length ≤ 12) (hg : GB g) (G : Pl.GoodG g) (hv : T3 w vg g) (ht : Rd1 w vt ts) :
    Calls Tryz.prog 18 #[vg, vt] w (ParRet w g) := by
  have HNM := Lib.hid (newMachine_any w vg vt g ts hts hg (T3.rd hv) ht)
  obtain ⟨A, c, rfl⟩ := (T3.rd hv).slice
  obtain ⟨At, ct, rfl⟩ := ht.slice
  have HGB := Lib.hid hg
  have HG := Lib.hid G
  have HV := Lib.hid hv
  have HTL := Lib.hid (show (ts ++ [-1]).length < 100 by simp; omega)
  clear hg G hv ht
  go_enter Tryz.func18, Tryz.ntmps18
  go_wp2_with fail
  refine HNM.out.mono ?_
  rintro e w1 ⟨mb, lo, hi, rfl, hM⟩
  generalize ts ++ [-1] = ts2 at *
  have HM := Lib.hid hM
  clear hM HNM
  go_wp2
  go_loopg [7] 300 (fun k v wr => ParR w wr mb (.slice A g.length c) g lo hi ts2 v k)
  case atStart =>
    refine ⟨[], _, 0, 0, false, false, HM.out.no ((Chg.refl No w1).alloc _), ⟨⟨0, 0, 0⟩, [], [[Pl.ofR 1, -1]], rfl, HG.out.first, ?_, Nat.zero_le _, rfl⟩, Nat.zero_le _, by simp, by omega, by omega, by simp, ⟨?_, by simp, ?_⟩⟩
    · unfold Pl.altOf
      rw [HG.out.first]; rfl
    · exact own_made _ _ rfl 54 5
    · intro k hk
      simp [Value.ownBlock] at hk
      have := HM.out.chg.size; omega
  case round =>
    obtain ⟨rs, fs, p, n, d, f, hM, hS, hp, hL, hn, hk, hrl, hO⟩ := hrel.ex
    have HN := Lib.hid (next_any w wr mb lo hi p n (n + 1) _ g ts2 fs d f hM HG.out HV.out HTL.out hp hS hL (by omega) (by omega))
    have HO := Lib.hid hO
    have HC := Lib.hid hM.chg
    obtain ⟨AO, cO, rfl⟩ := hO.own.slice
    clear hM hS hO hrel
    go_wp2_with fail
    refine HN.out.mono ?_
    rintro e w2 ⟨fs2, p2, n2, d2, f2, hM2, hT2, hL2, hp2, hcase⟩
    have HO2 := Lib.hid (HO.out.mt hT2)
    obtain ⟨vl, ve, A2, c2, e1, _⟩ := hM2.ex
    have m6 : w2.cell? ⟨mb, 6, none⟩ = some (.bool d2) := by rw [e1.cell]; rfl
    have m7 : w2.cell? ⟨mb, 7, none⟩ = some (.bool f2) := by rw [e1.cell]; rfl
    have hwm := e1.lt
    have HM2 := Lib.hid hM2
    clear HN hM2 e1 hT2
    rcases hcase with ⟨hdf, rfl⟩ | ⟨rfl, rfl, rfl, hn2, q, vI, vR, hne, hlk, rfl, hst⟩
    · rcases or_true hdf with rfl | ⟨rfl, rfl⟩
      all_goals
        clear hdf
        unfold Zero5
        go_wp2
        go_quiet (fail)
        go_wp2
        go_ret2
        exact ⟨_, rs, _, rfl, HO2.out.no (((Chg.refl No w2).alloc _).drewN _), HM2.out.chg.trans (((Chg.refl No w2).alloc _).drewN _), by omega⟩
    · have hqp : 0 < q ∧ q < g.length := by
        cases fs2 with
        | nil => exact absurd rfl hne
        | cons f0 rest => exact Pl.frAt_pos HG.out hlk.1
      obtain ⟨alts, hal⟩ : ∃ u, g[q]? = some u := ⟨_, List.getElem?_eq_getElem hqp.2⟩
      have hal4 := HGB.out.a alts (List.mem_of_getElem? hal)
      obtain ⟨w3, hw3⟩ : ∃ w3, w3 = w2.alloc (.cells #[.int .i64 (q : Int), .int .i64 (p2 : Int), vI, vR, .int .i64 0] 54) := ⟨_, rfl⟩
      have hc3 : Chg No w2 w3 := by rw [hw3]; exact (Chg.refl _ _).alloc _
      have hb3 : Blk w3 w2.heap.size #[.int .i64 (q : Int), .int .i64 (p2 : Int), vI, vR, .int .i64 0] 54 := by rw [hw3]; exact Blk.new _ _ _
      have HFi := Lib.hid (first_any w w3 mb lo hi p2 (n + 1) q p2 _ vI vR g ts2 fs2 fs2 false false alts (HM2.out.no hc3) HG.out (T3.rd HV.out) HTL.out hal hp2 ⟨hst.inv.no hc3, hst.rest.no hc3⟩ hlk (by omega))
      rw [hw3] at HFi
      have HC3 := Lib.hid hc3
      have HB3 := Lib.hid hb3
      have HW3 := Lib.hid hw3
      have HSt := Lib.hid hst
      have HLk := Lib.hid hlk
      have HAl := Lib.hid hal
      obtain ⟨AI, cI, rfl⟩ := hst.inv.slice
      obtain ⟨AR, cR, rfl⟩ := hst.rest.slice
      clear hst hlk hal hw3 hc3 hb3
      go_wp2_with fail
      refine HFi.out.mono ?_
      rintro e w4 ⟨x, rfl, hx, hc4⟩
      rw [← HW3.out] at hc4
      have hb4 := HB3.out.chg hc4 (fun h => h)
      have s0 : w4.cell? ⟨w2.heap.size, 0, none⟩ = some (.int .i64 (q : Int)) := by rw [hb4.cell]; rfl
      have s1 : w4.cell? ⟨w2.heap.size, 1, none⟩ = some (.int .i64 (p2 : Int)) := by rw [hb4.cell]; rfl
      have s2 : w4.cell? ⟨w2.heap.size, 2, none⟩ = some (.slice AI fs2.length cI) := by rw [hb4.cell]; rfl
      have s3 : w4.cell? ⟨w2.heap.size, 3, none⟩ = some (.slice AR (Pl.restOf g fs2).length cR) := by rw [hb4.cell]; rfl
      have s4 : w4.cell? ⟨w2.heap.size, 4, none⟩ = some (.int .i64 0) := by rw [hb4.cell]; rfl
      have z4 := hb4.fz 4
      have hl4 := hb4.lt
      have hO4 := (HO2.out.no HC3.out).no hc4
      have hno : (Value.slice AO rs.length cO).ownBlock ≠ some w2.heap.size := fun hk => by
        have := HO2.out.own.lt hk; omega
      obtain ⟨hO5, hT5⟩ := hO4.set hb4 hno 4 (.int .i64 (x : Int))
      have hM4 := (HM2.out.no HC3.out).no hc4
      have hc5 : Chg No w (w4.setCell ⟨w2.heap.size, 4, none⟩ (.int .i64 (x : Int))) := hM4.chg.setCell (fun hk => absurd hk (by have := HM2.out.chg.size; simp; omega)) _
      have hM5 := hM4.t54 hT5 hc5
      have hb5 := hb4.set 4 (.int .i64 (x : Int))
      have hst5 := ((((HSt.out.tchg (Ts := []) (TChg.no HC3.out) (by decide) (by decide)).tchg (Ts := []) (TChg.no hc4) (by decide) (by decide))).tchg hT5 (by decide) (by decide))
      have HO5 := Lib.hid hO5
      have HM5 := Lib.hid hM5
      have HC5 := Lib.hid hc5
      have HB5 := Lib.hid (show Blk (w4.setCell ⟨w2.heap.size, 4, none⟩ (.int .i64 (x : Int))) w2.heap.size #[.int .i64 (q : Int), .int .i64 (p2 : Int), .slice AI fs2.length cI, .slice AR (Pl.restOf g fs2).length cR, .int .i64 (x : Int)] 54 from hb5)
      have HSt5 := Lib.hid (show SrOk (w4.setCell ⟨w2.heap.size, 4, none⟩ (.int .i64 (x : Int))) g ⟨q, p2, x, fs2, .slice AI fs2.length cI, .slice AR (Pl.restOf g fs2).length cR⟩ from ⟨HLk.out, hne, by show fs2.length ≤ 900; omega, hst5⟩)
      have HNo := Lib.hid hno
      clear hb4 hO4 hno hO5 hT5 hM4 hc5 hM5 hb5 hst5 hc4 m6 m7
      go_wp2_with (first | (at_builtin; refine wp_appS et49 rfl _ _ rfl (.slice AO rs.length cO) rs.length _ rfl (HO5.out.own.no ((Chg.refl No _).alloc _)) _ rfl 1 (srCells ⟨q, p2, x, fs2, .slice AI fs2.length cI, .slice AR (Pl.restOf g fs2).length cR⟩) (.inl ⟨_, _, rfl, cells_one (Blk.at_new (by simp) _ _)⟩) rfl ?b3 ?b4 ?b5 ?b6))
      case b3 => simp [srCells, Value.oneCell']
      case b4 => omega
      case b5 => omega
      case b6 =>
        intro A6 c6 w6 h1 h2 h3
        obtain ⟨q1, q2, q3⟩ := HO5.out.snoc HC5.out HSt5.out h1 h2 (fun k hk => by have := h3 k hk; rw [heapSize_setCell]; exact this)
        have hM6 := HM5.out.t54 q2 q3
        have hb6 : Blk w6 w2.heap.size #[.int .i64 (q : Int), .int .i64 (p2 : Int), .slice AI fs2.length cI, .slice AR (Pl.restOf g fs2).length cR, .int .i64 (x : Int)] 54 := (HB5.out.alloc _).chg (Chg.grownBy h2) (fun e => HNo.out e.symm)
        have HCh := Lib.hid (choose_any w w6 mb lo hi p2 (n + 1) _ g ts2 fs2 false false q alts x hM6 HGB.out (T3.rd HV.out) HAl.out hx (by omega))
        have t0 : w6.cell? ⟨w2.heap.size, 0, none⟩ = some (.int .i64 (q : Int)) := by rw [hb6.cell]; rfl
        have t4 : w6.cell? ⟨w2.heap.size, 4, none⟩ = some (.int .i64 (x : Int)) := by rw [hb6.cell]; rfl
        have HO6 := Lib.hid q1
        clear h1 h2 h3 q1 q2 q3 hM6 hb6 s0 s1 s2 s3 s4 z4 hl4
        go_wp2_with fail
        refine HCh.out.mono ?_
        rintro e w7 ⟨rfl, hM7, hT7⟩
        have HM7 := Lib.hid hM7
        have HO7 := Lib.hid (HO6.out.mt hT7)
        clear hM7 hT7 t0 t4 HCh
        go_wp2
        go_roundg (gk - 1)
        case measure => omega
        case rel =>
          have hM7 := HM7.out
          by_cases hx0 : x = 0
          · rw [if_pos hx0] at hM7
            exact ⟨rs ++ [⟨q, p2, x, fs2, .slice AI fs2.length cI, .slice AR (Pl.restOf g fs2).length cR⟩], fs2, p2, n + 1, _, _, hM7, stk_of HLk.out hne, hp2, by omega, by omega, by omega, by simp; omega, HO7.out⟩
          · rw [if_neg hx0] at hM7
            exact ⟨rs ++ [⟨q, p2, x, fs2, .slice AI fs2.length cI, .slice AR (Pl.restOf g fs2).length cR⟩], _, p2, n + 1, _, _, hM7, stk_push HLk.out HAl.out (by omega), hp2, by simp; omega, by omega, by omega, by simp; omega, HO7.out⟩
end Go.Proofs.YtemdillhbnmjkaaGreatDoor

/- The network of a grammar is put together (29). -/
import Derived.Test.YtemdillhbnmjkaaGreatDoorQ35
namespace Go.Proofs.YtemdillhbnmjkaaGreatDoor
open Go.RowKit

theorem kind_st {k : Nat} {kd : Int} (R r : Nat) (h : kindN[k]? = some kd) : st3 (kindDs R k r) = [.int .i64 kd, .int .i64 (r : Int), .int .i64 (if k = 2 then 3 * (R : Int) + (r : Int) else 0)] ∧ (kd = 3 ↔ k = 2) := by
  match k, h with
  | 0, h => cases h; exact ⟨rfl, by simp⟩
  | 1, h => cases h; exact ⟨rfl, by simp⟩
  | 2, h => cases h; exact ⟨by simp [st3, kindDs]; rfl, by simp⟩
  | 3, h => cases h; exact ⟨rfl, by simp⟩
  | n + 4, h => simp [kindN] at h
def rsK (R k r : Nat) : List Nat := if k = 0 then List.range r else List.range R
theorem rsK_zero (R r : Nat) : rsK R 0 r = List.range r := rfl
theorem rsK_pos {R k : Nat} (h : k ≠ 0) (r : Nat) : rsK R k r = List.range R := if_neg h
def rsH (R k : Nat) : List Nat := if k = 0 then [] else List.range R
theorem rsK_start (R k : Nat) : rsK R k 0 = rsH R k := by unfold rsK rsH; split <;> rfl
theorem rsK_end (R k : Nat) : rsK R k R = rsH R (k + 1) := by unfold rsK rsH; split <;> rfl
theorem rsK_len (R k r : Nat) (h : r ≤ R) : (rsK R k r).length ≤ R := by unfold rsK; split <;> simp; omega

theorem ed6_one (e : Nat × TD) : ∀ u ∈ ed6 e, u.oneCell' = true := by
  intro u hu
  unfold ed6 at hu
  obtain ⟨x, _, rfl⟩ := List.mem_map.1 hu
  rfl
theorem st3_one (d : Ds) : ∀ u ∈ st3 d, u.oneCell' = true := by
  intro u hu; simp [st3] at hu; rcases hu with rfl | rfl | rfl <;> rfl
theorem CRel.more {w wr : World} {S : List Ds} {Rs : List Nat} {E : List (Nat × Pl.Ed)} {D : List Nat} {nS nE nS' nE' : Nat} (h : CRel w wr S Rs E D nS nE) (h1 : nS ≤ nS') (h2 : nE ≤ nE') : CRel w wr S Rs E D nS' nE' := ⟨h.re, Nat.le_trans h.lS h1, Nat.le_trans h.lE h2⟩
/-- an edge is put in -/
theorem wp_edge {W : World} {ops : Array Oper} {rest : List Oper} {o : Oper} {a : Act} {Q : Exit → Act → World → Prop} (hg : o.guard = none) (s x : Operand)
    (hop : o.op = Op.call { callee := Callee.builtin Builtin.append, args := #[s, x], argTypes := #[76, 76] }) {w : World} {S : List Ds} {Rs : List Nat} {E : List (Nat × Pl.Ed)} {D : List Nat} {nS nE : Nat}
    (hc : CRel w W S Rs E D nS nE) (hn : nE < 1000) (A : Option Addr) (c n : Nat) (hnE : E.length = n) (hs : a.eval s = .slice A n c) (hv : W.cell? ⟨w.heap.size + 1, 3, none⟩ = some (.slice A n c))
    (q : Nat) (hx : a.eval x = .slice (some ⟨q, 0, none⟩) 1 1) (cs : List Value) (y : Nat × Pl.Ed) (hcs : cs = ed6 (edm y)) (hq : Blk W q cs.toArray 84)
    (hK : ∀ (g c' : Nat) (w' : World), w'.cell? ⟨w.heap.size + 1, 3, none⟩ = some (.slice A n c) → w'.frozen? ⟨w.heap.size + 1, 3, none⟩ = false → w.heap.size + 1 < w'.heap.size →
      CRel w (w'.setCell ⟨w.heap.size + 1, 3, none⟩ (.slice (some ⟨g, 0, none⟩) (n + 1) c')) S Rs (E ++ [y]) D nS (nE + 1) → wpList Tryz.prog ops Q rest (a.put o.dst (.slice (some ⟨g, 0, none⟩) (n + 1) c')) w') :
    wpList Tryz.prog ops Q (o :: rest) a W := by
  subst hnE
  subst hcs
  have hl := hc.lE
  refine wp_rec et76 hg s x hop (w0 := w) (b := w.heap.size + 1) (T := 78) (specs := specN S Rs E D) (side := sideN w) hc.re 3 E.length ((E.map edm).flatMap ed6) rfl _ hs hv q hx _ hq rfl (ed6_one _) (by omega) (by omega) (fun g c' w' h1 h2 h3 h4 => hK g c' w' h1 h2 h3 ?_)
  rw [specN_E] at h4
  exact ⟨h4, hc.lS, by rw [List.length_append]; simp; omega⟩
/-- a state is put in -/
theorem wp_state {W : World} {ops : Array Oper} {rest : List Oper} {o : Oper} {a : Act} {Q : Exit → Act → World → Prop} (hg : o.guard = none) (s x : Operand)
    (hop : o.op = Op.call { callee := Callee.builtin Builtin.append, args := #[s, x], argTypes := #[75, 75] }) {w : World} {S : List Ds} {Rs : List Nat} {E : List (Nat × Pl.Ed)} {D : List Nat} {nS nE : Nat}
    (hc : CRel w W S Rs E D nS nE) (hn : nS < 1000) (A : Option Addr) (c n : Nat) (hnS : S.length = n) (hs : a.eval s = .slice A n c) (hv : W.cell? ⟨w.heap.size + 1, 1, none⟩ = some (.slice A n c))
    (q : Nat) (hx : a.eval x = .slice (some ⟨q, 0, none⟩) 1 1) (cs : List Value) (y : Ds) (hcs : cs = st3 y) (hq : Blk W q cs.toArray 81)
    (hK : ∀ (g c' : Nat) (w' : World), w'.cell? ⟨w.heap.size + 1, 1, none⟩ = some (.slice A n c) → w'.frozen? ⟨w.heap.size + 1, 1, none⟩ = false → w.heap.size + 1 < w'.heap.size →
      CRel w (w'.setCell ⟨w.heap.size + 1, 1, none⟩ (.slice (some ⟨g, 0, none⟩) (n + 1) c')) (S ++ [y]) Rs E D (nS + 1) nE → wpList Tryz.prog ops Q rest (a.put o.dst (.slice (some ⟨g, 0, none⟩) (n + 1) c')) w') :
    wpList Tryz.prog ops Q (o :: rest) a W := by
  subst hnS
  subst hcs
  have hl := hc.lS
  refine wp_rec et75 hg s x hop (w0 := w) (b := w.heap.size + 1) (T := 78) (specs := specN S Rs E D) (side := sideN w) hc.re 1 S.length (S.flatMap st3) rfl _ hs hv q hx _ hq rfl (st3_one _) (by omega) (by omega) (fun g c' w' h1 h2 h3 h4 => hK g c' w' h1 h2 h3 ?_)
  rw [specN_S] at h4
  exact ⟨h4, by rw [List.length_append]; simp; omega, hc.lE⟩
/-- a decision is put in -/
theorem wp_dec {W : World} {ops : Array Oper} {rest : List Oper} {o : Oper} {a : Act} {Q : Exit → Act → World → Prop} (hg : o.guard = none) (s x : Operand)
    (hop : o.op = Op.call { callee := Callee.builtin Builtin.append, args := #[s, x], argTypes := #[36, 36] }) {w : World} {S : List Ds} {Rs : List Nat} {E : List (Nat × Pl.Ed)} {D : List Nat} {nS nE : Nat}
    (hc : CRel w W S Rs E D nS nE) (A : Option Addr) (c n : Nat) (hn : n < 1000) (hnD : D.length = n) (hs : a.eval s = .slice A n c) (hv : W.cell? ⟨w.heap.size + 1, 4, none⟩ = some (.slice A n c))
    (q : Nat) (hx : a.eval x = .slice (some ⟨q, 0, none⟩) 1 1) (u : Value) (y : Nat) (hcs : u = .int .i64 (y : Int)) (hq : Blk W q #[u] 3)
    (hK : ∀ (g c' : Nat) (w' : World), w'.cell? ⟨w.heap.size + 1, 4, none⟩ = some (.slice A n c) → w'.frozen? ⟨w.heap.size + 1, 4, none⟩ = false → w.heap.size + 1 < w'.heap.size →
      CRel w (w'.setCell ⟨w.heap.size + 1, 4, none⟩ (.slice (some ⟨g, 0, none⟩) (n + 1) c')) S Rs E (D ++ [y]) nS nE → wpList Tryz.prog ops Q rest (a.put o.dst (.slice (some ⟨g, 0, none⟩) (n + 1) c')) w') :
    wpList Tryz.prog ops Q (o :: rest) a W := by
  subst hnD
  subst hcs
  refine wp_rec et36' hg s x hop (w0 := w) (b := w.heap.size + 1) (T := 78) (specs := specN S Rs E D) (side := sideN w) hc.re 4 D.length (D.map fun x => .int .i64 (x : Nat)) rfl _ hs hv q hx [.int .i64 (y : Int)] hq rfl (by intro u hu; simp at hu; subst hu; rfl) (by omega) (by omega) (fun g c' w' h1 h2 h3 h4 => hK g c' w' h1 h2 h3 ?_)
  rw [specN_D] at h4
  exact ⟨h4, hc.lS, hc.lE⟩

theorem basic_add (r m n : Nat) : basicOf r m ++ basicOf r n = basicOf r (m + n) := by
  unfold basicOf; rw [List.replicate_append_replicate]
theorem eps_cells (j to : Nat) : ed6 (edm (j, Pl.Ed.eps to)) = [.int .i64 (j : Int), .int .i64 (to : Int), .int .i64 1, .int .i64 0, .int .i64 0, .int .i64 0] := rfl
theorem tok_cells (j to : Nat) (s : Int) (h : 1 ≤ s) : ed6 (edm (j, Pl.symEd s to)) = [.int .i64 (j : Int), .int .i64 (to : Int), .int .i64 5, .int .i64 s, .int .i64 0, .int .i64 0] := by
  unfold Pl.symEd
  rw [if_neg (by omega)]
  simp [ed6, edm, encE, tdOf, TD.trg, TD.kn, TD.a1, TD.a2, TD.a3]
  omega
theorem end_cells (j to : Nat) : ed6 (edm (j, Pl.symEd (-1) to)) = [.int .i64 (j : Int), .int .i64 (to : Int), .int .i64 5, .int .i64 0, .int .i64 0, .int .i64 1] := rfl
theorem rule_cells (j to q : Nat) : ed6 (edm (j, Pl.symEd (Pl.ofR q) to)) = [.int .i64 (j : Int), .int .i64 (to : Int), .int .i64 3, .int .i64 (q : Int), .int .i64 (q : Int), .int .i64 0] := by
  unfold Pl.symEd
  rw [if_pos (by unfold Pl.ofR; omega)]
  have e : (-100 - Pl.ofR q).toNat = q := by unfold Pl.ofR; omega
  rw [e]
  rfl
theorem CRel.out {w wr : World} {S : List Ds} {Rs : List Nat} {E : List (Nat × Pl.Ed)} {D : List Nat} {nS nE : Nat} (h : CRel w wr S Rs E D nS nE) : ∃ vS vR vE vD,
    wr.cell? ⟨w.heap.size + 1, 0, none⟩ = some (.int .i64 4) ∧ wr.cell? ⟨w.heap.size + 1, 1, none⟩ = some vS ∧ wr.cell? ⟨w.heap.size + 1, 2, none⟩ = some vR ∧ wr.cell? ⟨w.heap.size + 1, 3, none⟩ = some vE ∧ wr.cell? ⟨w.heap.size + 1, 4, none⟩ = some vD ∧
    Own wr 81 3 vS S.length (S.flatMap st3) ∧ Own wr 3 1 vR Rs.length (Rs.map fun x => .int .i64 (x : Nat)) ∧ Own wr 84 6 vE E.length ((E.map edm).flatMap ed6) ∧ Own wr 3 1 vD D.length (D.map fun x => .int .i64 (x : Nat)) ∧
    ∀ v ∈ [vS, vR, vE, vD], ∀ k, v.ownBlock = some k → k ≠ w.heap.size := by
  obtain ⟨vs, h1, h2, h3, h4, h5⟩ := h.re.ex
  match vs, h1, h2, h3, h4 with
  | [v0, v1, v2, v3, v4], _, h2, h3, h4 =>
    have e0 : v0 = .int .i64 4 := h3 0 v0 _ rfl rfl
    subst e0
    have hne : ∀ (i : Nat) v s k, [Value.int .i64 4, v1, v2, v3, v4][i]? = some v → (specN S Rs E D)[i]? = some s → s.isRow = true → v.ownBlock = some k → k ≠ w.heap.size := by
      intro i v s k a b c d e
      exact (h4 i v s k a b c d).2.2 (w.heap.size, zN, 78) (by simp [sideN]) e.symm
    refine ⟨v1, v2, v3, v4, by rw [h2.cell]; rfl, by rw [h2.cell]; rfl, by rw [h2.cell]; rfl, by rw [h2.cell]; rfl, by rw [h2.cell]; rfl, h3 1 v1 _ rfl rfl, h3 2 v2 _ rfl rfl, h3 3 v3 _ rfl rfl, h3 4 v4 _ rfl rfl, ?_⟩
    intro v hv k hk
    simp at hv
    rcases hv with rfl | rfl | rfl | rfl
    · exact hne 1 _ _ k rfl rfl rfl hk
    · exact hne 2 _ _ k rfl rfl rfl hk
    · exact hne 3 _ _ k rfl rfl rfl hk
    · exact hne 4 _ _ k rfl rfl rfl hk

theorem chg5 (wr : World) (b : Nat) (u0 u1 u2 u3 u4 : Value) : Chg (fun k => k = b) wr (((((wr.setCell ⟨b, 0, none⟩ u0).setCell ⟨b, 1, none⟩ u1).setCell ⟨b, 2, none⟩ u2).setCell ⟨b, 3, none⟩ u3).setCell ⟨b, 4, none⟩ u4) := by
  have h0 := Chg.setCell (Chg.refl (fun k => k = b) wr) (p := ⟨b, 0, none⟩) (fun _ => rfl) u0
  have h1 := Chg.setCell h0 (p := ⟨b, 1, none⟩) (fun _ => rfl) u1
  have h2 := Chg.setCell h1 (p := ⟨b, 2, none⟩) (fun _ => rfl) u2
  have h3 := Chg.setCell h2 (p := ⟨b, 3, none⟩) (fun _ => rfl) u3
  exact Chg.setCell h3 (p := ⟨b, 4, none⟩) (fun _ => rfl) u4
set_option maxHeartbeats 4000000 in
set_option maxRecDepth 100000 in
theorem compile_any (w : World) (v : Value) (g : Pl.Gr) (G : Pl.GoodG g) (hv : Rd3 w v g) :
    Calls Tryz.prog 29 #[v] w fun e w' => ∃ vS vR vE vD, e = .returned (.agg #[.int .i64 4, vS, vR, vE, vD]) ∧ Own w' 81 3 vS (dsOf g).length ((dsOf g).flatMap st3) ∧ Own w' 3 1 vR g.length ((List.range g.length).map fun x => .int .i64 (x : Nat)) ∧
      Own w' 84 6 vE (edOf g).length ((edOf g).flatMap ed6) ∧ Own w' 3 1 vD g.length ((decOf g).map fun x => .int .i64 (x : Nat)) ∧ Chg No w w' := by
  obtain ⟨A, c, rfl⟩ := hv.slice
  have hl6 := G.len6
  have HG := Lib.hid G
  have HV := Lib.hid hv
  have HST := Lib.hid (CRel.start w)
  clear G hv
  go_enter Tryz.func29, Tryz.ntmps29
  go_wp2
  go_loopw [23] (fun i wr => ∃ k : Nat, k ≤ 4 ∧ i = .int .i64 (k : Int) ∧ CRel w wr (stK g.length k) (rsH g.length k) [] [] 24 0) (fun i _ => 4 - (intOf i).toNat)
  case atStart => exact ⟨0, by omega, rfl, HST.out.re, by simp [stK], by simp⟩
  case round =>
    obtain ⟨k, hk, rfl, hc⟩ := hrel
    by_cases hlt : k < 4
    · obtain ⟨kd, hkd⟩ : ∃ kd, kindN[k]? = some kd := ⟨_, List.getElem?_eq_getElem (by simpa [kindN] using hlt)⟩
      have k1 := hc.kind hkd
      have hk4 : decide ((k : Int) < 4) = true := decide_eq_true (by omega)
      have HKD := Lib.hid hkd
      have HC := Lib.hid hc
      clear hkd hc
      go_wp2
      go_loopw [30] (fun i wr => ∃ r : Nat, r ≤ g.length ∧ i = .int .i64 (r : Int) ∧ CRel w wr (stK g.length k ++ (List.range r).map (kindDs g.length k)) (rsK g.length k r) [] [] 24 0) (fun i _ => g.length - (intOf i).toNat)
      case atStart => exact ⟨0, Nat.zero_le _, rfl, by rw [rsK_start]; simpa using HC.out⟩
      case round =>
        obtain ⟨r, hr, rfl, hc⟩ := hrel
        clear k1
        by_cases hlt2 : r < g.length
        · have hlS : (stK g.length k ++ (List.range r).map (kindDs g.length k)).length = k * g.length + r := by rw [List.length_append, stK_len]; simp
          have hkm : k * g.length ≤ 3 * 6 := Nat.mul_le_mul (by omega) hl6
          have hlR := rsK_len g.length k r hr
          obtain ⟨hst, hk2⟩ := kind_st g.length r HKD.out
          have hS1 : stK g.length k ++ (List.range (r + 1)).map (kindDs g.length k) = (stK g.length k ++ (List.range r).map (kindDs g.length k)) ++ [kindDs g.length k r] := by rw [range_take_succ, List.append_assoc]
          obtain ⟨S, hS⟩ : ∃ S, S = stK g.length k ++ (List.range r).map (kindDs g.length k) := ⟨_, rfl⟩
          rw [← hS] at hS1 hlS hc
          obtain ⟨Rs, hRs⟩ : ∃ S, S = rsK g.length k r := ⟨_, rfl⟩
          rw [← hRs] at hlR hc
          obtain ⟨⟨AS, cS, q1⟩, ⟨AR, cR, q2⟩, _, _⟩ := hc.cells
          have hSl : S.length ≤ 24 := by omega
          have hSl2 : S.length + 1 ≤ 24 := by omega
          have HS1 := Lib.hid hS1
          have HC2 := Lib.hid hc
          have HST2 := Lib.hid hst
          have HRS := Lib.hid hRs
          have hblt := hc.re.lt
          clear hS1 hlS hS hc hst hRs
          by_cases hk0 : k = 0
          · have hkd3 : (kd == 3) = false := by simp; intro e; have := hk2.1 e; omega
            have hk0b : ((k : Int) == 0) = true := by simp [hk0]
            have hk0c : (k == 0) = true := by simp [hk0]
            have HK0 := Lib.hid hk0
            have hstA := HST2.out
            rw [if_neg (by omega)] at hstA
            have HSTA := Lib.hid hstA
            clear hk2 hk0 hstA
            go_wp2_with (first | (at_builtin; refine wp_rec et75 rfl _ _ rfl (w0 := w) (b := w.heap.size + 1) (T := 78) (specs := specN S Rs [] []) (side := sideN w) ?c0 1 S.length (S.flatMap st3) rfl (.slice AS S.length cS) rfl ?c1 _ rfl [.int .i64 kd, .int .i64 (r : Int), .int .i64 0] ?c2 rfl ?c3 ?c4 ?c5 ?c6))
            case c0 => exact (HC2.out.no (((Chg.refl No wr).alloc (.cells #[.int .i64 kd, .int .i64 (r : Int), .int .i64 0] 81)).alloc (.cells #[.int .i64 kd, .int .i64 (r : Int), .int .i64 0] 81))).re
            case c1 => exact Chg.kept (((Chg.refl No wr).alloc _).alloc _) q1 (fun h => h)
            case c2 => exact Blk.at_new (by simp) _ _
            case c3 => intro u hu; simp at hu; rcases hu with rfl | rfl | rfl <;> rfl
            case c4 => omega
            case c5 => omega
            case c6 =>
              intro g2 c2 w4 f1 f2 f3 hrec
              rw [← HSTA.out, specN_S, ← HS1.out] at hrec
              have hRn : Rs.length = r := by rw [HRS.out, HK0.out, rsK_zero]; simp
              obtain ⟨AR2, cR2, q3, _⟩ := hrec.row (i := 2) rfl
              rw [hRn] at q3
              have HRn := Lib.hid hRn
              have hSl3 : (S ++ [kindDs g.length k r]).length ≤ 24 := by simp; omega
              obtain ⟨S', hS'⟩ : ∃ S', S' = stK g.length k ++ (List.range (r + 1)).map (kindDs g.length k) := ⟨_, rfl⟩
              rw [← HS1.out, ← hS'] at hSl3
              rw [← hS'] at hrec
              have HR2 := Lib.hid hrec
              have HS2 := Lib.hid hS'
              have hb3 := hrec.lt
              clear hrec q1 q2 hRn hS' hlR
              go_wp2_with (first | (at_builtin; refine wp_rec et36' rfl _ _ rfl (w0 := w) (b := w.heap.size + 1) (T := 78) (specs := specN S' Rs [] []) (side := sideN w) ?d0 2 r (Rs.map fun x => .int .i64 (x : Nat)) ?d7 (.slice AR2 r cR2) rfl ?d1 _ rfl [.int .i64 (r : Int)] ?d2 rfl ?d3 ?d4 ?d5 ?d6))
              case d0 => exact HR2.out.no ((Chg.refl No _).alloc _)
              case d7 => simp [specN, HRn.out]
              case d1 => exact Chg.kept ((Chg.refl No _).alloc _) q3 (fun h => h)
              case d2 => exact Blk.at_new (by simp) _ _
              case d3 => intro u hu; simp at hu; subst hu; rfl
              case d4 => omega
              case d5 => omega
              case d6 =>
                intro g3 c3 w5 f4 f5 f6 hrec2
                have e := specN_R S' Rs [] [] r
                rw [HRn.out] at e
                have hrec3 := hrec2
                rw [e] at hrec3
                clear e
                have hRs2 : Rs ++ [r] = rsK g.length k (r + 1) := by rw [HRS.out, HK0.out, rsK_zero, rsK_zero, List.range_succ]
                rw [hRs2, HS2.out] at hrec3
                have H3 := Lib.hid (show CRel w _ _ _ _ _ 24 0 from ⟨hrec3, by rw [← HS2.out]; exact hSl3, by simp⟩)
                clear hrec2 hrec3 hRs2
                go_wp2
                go_roundw
                case rel => exact ⟨r + 1, by omega, by go_num, H3.out⟩
                case measure => simp [intOf]; omega
          · have hk0b : ((k : Int) == 0) = false := by simpa using (by omega : ¬ (k : Int) = 0)
            have hk0c : (k == 0) = false := by simpa using hk0
            by_cases hk2' : k = 2
            · have hkd3 : kd = 3 := hk2.2 hk2'
              have hkd3b : (kd == 3) = true := by simp [hkd3]
              have hstA := HST2.out
              rw [if_pos hk2'] at hstA
              have HSTA := Lib.hid hstA
              have HK0 := Lib.hid hk0
              clear hk2 hk2' hkd3 hstA hk0
              go_wp2_with (first | (at_builtin; refine wp_rec et75 rfl _ _ rfl (w0 := w) (b := w.heap.size + 1) (T := 78) (specs := specN S Rs [] []) (side := sideN w) ?e0 1 S.length (S.flatMap st3) rfl (.slice AS S.length cS) rfl ?e1 _ rfl [.int .i64 kd, .int .i64 (r : Int), .int .i64 (3 * (g.length : Int) + (r : Int))] ?e2 rfl ?e3 ?e4 ?e5 ?e6))
              case e0 => exact (HC2.out.no (((Chg.refl No wr).alloc (.cells #[.int .i64 kd, .int .i64 (r : Int), .int .i64 (3 * (g.length : Int) + (r : Int))] 81)).alloc (.cells #[.int .i64 kd, .int .i64 (r : Int), .int .i64 (3 * (g.length : Int) + (r : Int))] 81))).re
              case e1 => exact Chg.kept (((Chg.refl No wr).alloc _).alloc _) q1 (fun h => h)
              case e2 => exact Blk.at_new (by simp) _ _
              case e3 => intro u hu; simp at hu; rcases hu with rfl | rfl | rfl <;> rfl
              case e4 => omega
              case e5 => omega
              case e6 =>
                intro g2 c2 w4 f1 f2 f3 hrec
                rw [← HSTA.out, specN_S, ← HS1.out] at hrec
                have hRs2 : Rs = rsK g.length k (r + 1) := by rw [HRS.out, rsK_pos HK0.out, rsK_pos HK0.out]
                have hSl3 : (S ++ [kindDs g.length k r]).length ≤ 24 := by simp; omega
                rw [← HS1.out] at hSl3
                rw [hRs2] at hrec
                have H3 := Lib.hid (show CRel w _ _ _ _ _ 24 0 from ⟨hrec, hSl3, by simp⟩)
                clear hrec hRs2 q1 q2
                go_wp2
                go_roundw
                case rel => exact ⟨r + 1, by omega, by go_num, H3.out⟩
                case measure => simp [intOf]; omega
            · have hkd3 : (kd == 3) = false := by simp; intro e; exact hk2' (hk2.1 e)
              have hstA := HST2.out
              rw [if_neg hk2'] at hstA
              have HSTA := Lib.hid hstA
              have HK0 := Lib.hid hk0
              clear hk2 hk2' hstA hk0
              go_wp2_with (first | (at_builtin; refine wp_rec et75 rfl _ _ rfl (w0 := w) (b := w.heap.size + 1) (T := 78) (specs := specN S Rs [] []) (side := sideN w) ?g0 1 S.length (S.flatMap st3) rfl (.slice AS S.length cS) rfl ?g1 _ rfl [.int .i64 kd, .int .i64 (r : Int), .int .i64 0] ?g2 rfl ?g3 ?g4 ?g5 ?g6))
              case g0 => exact (HC2.out.no (((Chg.refl No wr).alloc (.cells #[.int .i64 kd, .int .i64 (r : Int), .int .i64 0] 81)).alloc (.cells #[.int .i64 kd, .int .i64 (r : Int), .int .i64 0] 81))).re
              case g1 => exact Chg.kept (((Chg.refl No wr).alloc _).alloc _) q1 (fun h => h)
              case g2 => exact Blk.at_new (by simp) _ _
              case g3 => intro u hu; simp at hu; rcases hu with rfl | rfl | rfl <;> rfl
              case g4 => omega
              case g5 => omega
              case g6 =>
                intro g2 c2 w4 f1 f2 f3 hrec
                rw [← HSTA.out, specN_S, ← HS1.out] at hrec
                have hRs2 : Rs = rsK g.length k (r + 1) := by rw [HRS.out, rsK_pos HK0.out, rsK_pos HK0.out]
                have hSl3 : (S ++ [kindDs g.length k r]).length ≤ 24 := by simp; omega
                rw [← HS1.out] at hSl3
                rw [hRs2] at hrec
                have H3 := Lib.hid (show CRel w _ _ _ _ _ 24 0 from ⟨hrec, hSl3, by simp⟩)
                clear hrec hRs2 q1 q2
                go_wp2
                go_roundw
                case rel => exact ⟨r + 1, by omega, by go_num, H3.out⟩
                case measure => simp [intOf]; omega
        · have hrr : r = g.length := by omega
          rw [hrr, rsK_end, ← stK_succ] at hc
          have H3 := Lib.hid hc
          clear hc hrr
          go_wp2
          go_roundw
          case rel => exact ⟨k + 1, by omega, by go_num, H3.out⟩
          case measure => simp [intOf]; omega
    · have hk4 : k = 4 := by omega
      rw [hk4, show rsH g.length 4 = List.range g.length from rfl] at hc
      have HC := Lib.hid (show CRel w wr (stK g.length 4 ++ stR g 0) (List.range g.length) (edR g 0) ((List.range 0).map (2 * g.length + ·)) (24 + 24 * 0) (30 * 0) by simpa [stR, edR] using hc)
      have hk4b : decide ((k : Int) < 4) = false := decide_eq_false (by omega)
      clear hc hk4 hlt hk
      go_wp2
      clear hk4b
      go_loopw [61] (fun i wr => ∃ r : Nat, r ≤ g.length ∧ i = .int .i64 (r : Int) ∧ CRel w wr (stK g.length 4 ++ stR g r) (List.range g.length) (edR g r) ((List.range r).map (2 * g.length + ·)) (24 + 24 * r) (30 * r)) (fun i _ => g.length - (intOf i).toNat)
      case atStart => exact ⟨0, Nat.zero_le _, rfl, HC.out⟩
      case round =>
        obtain ⟨r, hr, rfl, hc⟩ := hrel
        by_cases hlt : r < g.length
        · obtain ⟨alts, hal⟩ : ∃ u, g[r]? = some u := ⟨_, List.getElem?_eq_getElem hlt⟩
          obtain ⟨b2, o2, A', c', rfl, h10, hr2⟩ := Rd3.at_ HV.out hal
          have k1 := Chg.kept hc.re.chg h10 (fun h => h)
          have hal4 := (HG.out.alts r alts hal).2
          obtain ⟨_, _, _, ⟨AD, cD, q4⟩⟩ := hc.cells
          have hDl : ((List.range r).map (2 * g.length + ·)).length = r := by simp
          rw [hDl] at q4
          have HDL := Lib.hid hDl
          have hDs : (List.range (r + 1)).map (2 * g.length + ·) = (List.range r).map (2 * g.length + ·) ++ [2 * g.length + r] := range_take_succ _ _
          have HDS := Lib.hid hDs
          obtain ⟨D, hD⟩ : ∃ D, D = (List.range r).map (2 * g.length + ·) := ⟨_, rfl⟩
          rw [← hD] at HDL HDS hc
          have HAL := Lib.hid hal
          have HR2 := Lib.hid hr2
          have HCR := Lib.hid hc
          clear hal h10 hr2 hDl hDs hD hc
          go_wp2_with (first | (at_builtin; refine wp_dec rfl _ _ rfl (w := w) (HCR.out.no ((Chg.refl No _).alloc _)) AD cD r (by omega) HDL.out rfl ?p1 _ rfl (.int .i64 (2 * (g.length : Int) + (r : Int))) (2 * g.length + r) ?p2 ?p3 ?p4))
          case p1 => exact Chg.kept ((Chg.refl No _).alloc _) q4 (fun h => h)
          case p2 => simp
          case p3 => exact Blk.at_new (by simp) _ _
          case p4 =>
            intro g1 c1 w1 f1 f2 f3 hc1
            rw [← HDS.out] at hc1
            have hE1 : edA g r alts 0 = edR g r ++ [(r, Pl.Ed.eps (2 * g.length + r))] := edA_zero g r alts
            obtain ⟨E0, hE0⟩ : ∃ E, E = edR g r := ⟨_, rfl⟩
            rw [← hE0] at hE1 hc1
            obtain ⟨_, _, ⟨AE, cE, q3⟩, _⟩ := hc1.cells
            obtain ⟨D1, hD1⟩ : ∃ D, D = (List.range (r + 1)).map (2 * g.length + ·) := ⟨_, rfl⟩
            rw [← hD1] at hc1
            obtain ⟨S0, hS0⟩ : ∃ S, S = stK g.length 4 ++ stR g r := ⟨_, rfl⟩
            rw [← hS0] at hc1
            have hS1 : S0 ++ basicOf r (Pl.altLen alts) = stK g.length 4 ++ stR g (r + 1) := by rw [hS0, stR_succ HAL.out, List.append_assoc]
            have HE1 := Lib.hid hE1
            have HD1 := Lib.hid hD1
            have HS1 := Lib.hid hS1
            have HC1 := Lib.hid hc1
            clear hE1 hE0 hD1 hS1 hS0 hc1 q4 HCR
            have hlt' : r < 6 := by omega
            go_wp2_with (first | (at_builtin; refine wp_edge rfl _ _ rfl (w := w) (HC1.out.no ((Chg.refl No _).alloc _)) (by omega) AE cE E0.length rfl rfl ?r1 _ rfl [.int .i64 (r : Int), .int .i64 (2 * (g.length : Int) + (r : Int)), .int .i64 1, .int .i64 0, .int .i64 0, .int .i64 0] (r, Pl.Ed.eps (2 * g.length + r)) ?r2 ?r3 ?r4))
            case r1 => exact Chg.kept ((Chg.refl No _).alloc _) q3 (fun h => h)
            case r2 => rw [eps_cells]; simp
            case r3 => exact Blk.at_new (by simp) _ _
            case r4 =>
              intro g2 c2 w2 f4 f5 f6 hc2
              rw [← HE1.out] at hc2
              have HC2 := Lib.hid (show CRel w _ (S0 ++ basicOf r (Pl.altLen (alts.take 0))) (List.range g.length) (edA g r alts 0) D1 (24 + 24 * r + 6 * 0) (30 * r + 1 + 7 * 0) from (by simpa [basicOf, Pl.altLen] using hc2))
              have k2 := Chg.kept hc2.re.chg (Chg.kept (Chg.refl No _) (show w.cell? _ = some _ from (Rd3.at_ HV.out HAL.out).choose_spec.choose_spec.choose_spec.choose_spec.2.1) (fun h => h)) (fun h => h)
              clear hc2 k1 k2 f1 f2 f3
              go_wp2
              go_loopw [88] (fun i wr => ∃ a : Nat, a ≤ alts.length ∧ i = .int .i64 (a : Int) ∧ CRel w wr (S0 ++ basicOf r (Pl.altLen (alts.take a))) (List.range g.length) (edA g r alts a) D1 (24 + 24 * r + 6 * a) (30 * r + 1 + 7 * a)) (fun i _ => alts.length - (intOf i).toNat)
              case atStart => exact ⟨0, Nat.zero_le _, rfl, HC2.out⟩
              case round =>
                obtain ⟨a, ha, rfl, hc⟩ := hrel
                by_cases hlt3 : a < alts.length
                · obtain ⟨alt, hu⟩ : ∃ u, alts[a]? = some u := ⟨_, List.getElem?_eq_getElem hlt3⟩
                  obtain ⟨b3, o3, A3, c3, rfl, h30, hr3⟩ := Rd2.at_ HR2.out hu
                  have k3 := Chg.kept hc.re.chg h30 (fun h => h)
                  have hal5 := HG.out.alt r alts alt HAL.out (List.mem_of_getElem? hu)
                  have hso := HG.out.symsOk r alts alt HAL.out (List.mem_of_getElem? hu)
                  have hpl := place_any wr _ g r a alts HG.out (HV.out.no hc.re.chg) HAL.out hlt3
                  have hp168 := Nat.le_trans (place_le g r a) HG.out.states_le
                  have hE2 := edK_zero g r alts a alt
                  have hE3 := edA_succ (g := g) (r := r) hu
                  have hE4 := fun k s (h : alt[k]? = some s) => edK_succ (g := g) (r := r) (alts := alts) (a := a) h
                  have hA1 := Pl.altLen_take_succ alts a alt hu
                  obtain ⟨p, hp⟩ : ∃ p, p = Pl.place g r a := ⟨_, rfl⟩
                  rw [← hp] at hpl hp168 hE2 hE3
                  simp only [← hp] at hE4
                  obtain ⟨Ea, hEa⟩ : ∃ E, E = edA g r alts a := ⟨_, rfl⟩
                  rw [← hEa] at hE2 hc
                  obtain ⟨Sa, hSa⟩ : ∃ S, S = S0 ++ basicOf r (Pl.altLen (alts.take a)) := ⟨_, rfl⟩
                  have hS2 : Sa ++ basicOf r (alt.length + 1) = S0 ++ basicOf r (Pl.altLen (alts.take (a + 1))) := by rw [hSa, hA1, List.append_assoc, basic_add]
                  rw [← hSa] at hc
                  obtain ⟨_, _, ⟨AE3, cE3, q5⟩, _⟩ := hc.cells
                  have HE2 := Lib.hid hE2
                  have HE3 := Lib.hid hE3
                  have HE4 := Lib.hid hE4
                  have HS2 := Lib.hid hS2
                  have HPL := Lib.hid hpl
                  have HC3 := Lib.hid hc
                  have HU := Lib.hid hu
                  have HR3 := Lib.hid hr3
                  have HSO := Lib.hid hso
                  have ha4 : a < 4 := by omega
                  clear hE2 hE3 hE4 hS2 hpl hc hu hr3 hso hA1 hSa hEa hp h30 q3
                  go_wp2_with (first | (go_at_call 30; refine HPL.out.mono ?_; rintro e w' ⟨rfl, rfl⟩) | (at_builtin; refine wp_edge rfl _ _ rfl (w := w) (HC3.out.no ((Chg.refl No _).alloc _)) (by omega) AE3 cE3 Ea.length rfl rfl ?s1 _ rfl [.int .i64 (2 * (g.length : Int) + (r : Int)), .int .i64 (p : Int), .int .i64 1, .int .i64 0, .int .i64 0, .int .i64 0] (2 * g.length + r, Pl.Ed.eps p) ?s2 ?s3 ?s4))
                  case s1 => exact Chg.kept ((Chg.refl No _).alloc _) q5 (fun h => h)
                  case s2 => rw [eps_cells]; simp
                  case s3 => exact Blk.at_new (by simp) _ _
                  case s4 =>
                    intro g3 c3' w3 f7 f8 f9 hc4
                    rw [← HE2.out] at hc4
                    have HC4 := Lib.hid (show CRel w _ (Sa ++ basicOf r 0) (List.range g.length) (edK g r alts a alt 0) D1 (24 + 24 * r + 6 * a + 0) (30 * r + 1 + 7 * a + 1) from (by simpa [basicOf] using hc4))
                    clear hc4 k3 q5
                    go_wp2
                    go_loopw [111] (fun i wr => ∃ j : Nat, j ≤ alt.length + 1 ∧ i = .int .i64 (j : Int) ∧ CRel w wr (Sa ++ basicOf r j) (List.range g.length) (edK g r alts a alt 0) D1 (24 + 24 * r + 6 * a + j) (30 * r + 1 + 7 * a + 1)) (fun i _ => alt.length + 1 - (intOf i).toNat)
                    case atStart => exact ⟨0, Nat.zero_le _, rfl, HC4.out⟩
                    case round =>
                      obtain ⟨j, hj, rfl, hc⟩ := hrel
                      obtain ⟨⟨AS, cS, q6⟩, _, _, _⟩ := hc.cells
                      by_cases hlt4 : j < alt.length + 1
                      · have hji : (j : Int) < (alt.length : Int) + 1 := by omega
                        have hS3 : (Sa ++ basicOf r j) ++ [⟨.basic, (r : Nat), 0⟩] = Sa ++ basicOf r (j + 1) := by rw [List.append_assoc, basic_snoc]
                        obtain ⟨Sj, hSj⟩ : ∃ S, S = Sa ++ basicOf r j := ⟨_, rfl⟩
                        rw [← hSj] at hS3 hc q6
                        have HS3 := Lib.hid hS3
                        have HC5 := Lib.hid hc
                        clear hS3 hc hSj
                        go_wp2_with (first | (at_builtin; refine wp_state rfl _ _ rfl (w := w) (HC5.out.no ((Chg.refl No _).alloc _)) (by omega) AS cS Sj.length rfl rfl ?t1 _ rfl [.int .i64 1, .int .i64 (r : Int), .int .i64 0] ⟨.basic, (r : Nat), 0⟩ ?t2 ?t3 ?t4))
                        case t1 => exact Chg.kept ((Chg.refl No _).alloc _) q6 (fun h => h)
                        case t2 => rfl
                        case t3 => exact Blk.at_new (by simp) _ _
                        case t4 =>
                          intro g4 c4 w4 f10 f11 f12 hc6
                          rw [HS3.out] at hc6
                          have HC6 := Lib.hid hc6
                          clear hc6 q6
                          go_wp2
                          go_roundw
                          case rel => exact ⟨j + 1, by omega, by go_num, HC6.out⟩
                          case measure => simp [intOf]; omega
                      · have hjj : j = alt.length + 1 := by omega
                        have hji : ¬ (j : Int) < (alt.length : Int) + 1 := by omega
                        rw [hjj, HS2.out] at hc
                        have HC5 := Lib.hid (show CRel w wr _ _ _ _ (24 + 24 * r + 6 * (a + 1)) (30 * r + 1 + 7 * a + 1 + 0) from hc.more (by omega) (by omega))
                        clear hc q6 hjj
                        obtain ⟨S5, hS5⟩ : ∃ S, S = S0 ++ basicOf r (Pl.altLen (alts.take (a + 1))) := ⟨_, rfl⟩
                        have HS5 := Lib.hid hS5
                        rw [← hS5] at HC5
                        clear hS5
                        go_wp2
                        go_loopw [123] (fun i wr => ∃ k : Nat, k ≤ alt.length ∧ i = .int .i64 (k : Int) ∧ CRel w wr S5 (List.range g.length) (edK g r alts a alt k) D1 (24 + 24 * r + 6 * (a + 1)) (30 * r + 1 + 7 * a + 1 + k)) (fun i _ => alt.length - (intOf i).toNat)
                        case atStart => exact ⟨0, Nat.zero_le _, rfl, HC5.out⟩
                        case round =>
                          obtain ⟨k, hk, rfl, hc⟩ := hrel
                          clear hji
                          by_cases hlt5 : k < alt.length
                          · obtain ⟨s, hs⟩ : ∃ u, alt[k]? = some u := ⟨_, List.getElem?_eq_getElem hlt5⟩
                            obtain ⟨b4, o4, rfl, h40⟩ := Rd1.at_ HR3.out hs
                            have k4 := Chg.kept hc.re.chg h40 (fun h => h)
                            have hE5 := HE4.out k s hs
                            obtain ⟨Ek, hEk⟩ : ∃ E, E = edK g r alts a alt k := ⟨_, rfl⟩
                            rw [← hEk] at hE5 hc
                            obtain ⟨_, _, ⟨AE5, cE5, q7⟩, _⟩ := hc.cells
                            have HE5 := Lib.hid hE5
                            have HC6 := Lib.hid hc
                            have hblt := hc.re.lt
                            have hk5 : k < 5 := by omega
                            have hsok := HSO.out s (List.mem_of_getElem? hs)
                            clear hE5 hc hEk hs h40
                            rcases hsok with hsok | ⟨q, hq, rfl⟩
                            · rcases hsok with rfl | ⟨hs1, hs4⟩
                              · have HRP := Lib.hid (fun w => rule_neg w (-1) (by omega))
                                go_wp2_with (first | (go_at_call 22; refine (HRP.out _).mono ?_; rintro e w' ⟨rfl, rfl⟩) | (at_builtin; refine wp_edge rfl _ _ rfl (w := w) (HC6.out.no (((Chg.refl No _).alloc _).alloc _)) (by omega) AE5 cE5 Ek.length rfl rfl ?u1 _ rfl [.int .i64 ((p : Int) + (k : Int)), .int .i64 ((p : Int) + (k : Int) + 1), .int .i64 5, .int .i64 0, .int .i64 0, .int .i64 1] (p + k, Pl.symEd (-1) (p + k + 1)) ?u2 ?u3 ?u4))
                                case u1 => exact Chg.kept (((Chg.refl No _).alloc _).alloc _) q7 (fun h => h)
                                case u2 => rw [end_cells]; simp
                                case u3 => exact Blk.at_new (by simp) _ _
                                case u4 =>
                                  intro g5 c5 w5 f13 f14 f15 hc7
                                  rw [← HE5.out] at hc7
                                  have HC7 := Lib.hid hc7
                                  clear hc7 q7 k4
                                  go_wp2
                                  go_roundw
                                  case rel => exact ⟨k + 1, by omega, by go_num, HC7.out⟩
                                  case measure => simp [intOf]; omega
                              · have hsne : (s == -1) = false := by simpa using (by omega : ¬ s = -1)
                                have HRP := Lib.hid (fun w => rule_neg w s (by omega))
                                go_wp2_with (first | (go_at_call 22; refine (HRP.out _).mono ?_; rintro e w' ⟨rfl, rfl⟩) | (at_builtin; refine wp_edge rfl _ _ rfl (w := w) (HC6.out.no (((Chg.refl No _).alloc _).alloc _)) (by omega) AE5 cE5 Ek.length rfl rfl ?v1 _ rfl [.int .i64 ((p : Int) + (k : Int)), .int .i64 ((p : Int) + (k : Int) + 1), .int .i64 5, .int .i64 s, .int .i64 0, .int .i64 0] (p + k, Pl.symEd s (p + k + 1)) ?v2 ?v3 ?v4))
                                case v1 => exact Chg.kept (((Chg.refl No _).alloc _).alloc _) q7 (fun h => h)
                                case v2 => rw [tok_cells _ _ _ hs1]; simp
                                case v3 => exact Blk.at_new (by simp) _ _
                                case v4 =>
                                  intro g5 c5 w5 f13 f14 f15 hc7
                                  rw [← HE5.out] at hc7
                                  have HC7 := Lib.hid hc7
                                  clear hc7 q7 k4
                                  go_wp2
                                  go_roundw
                                  case rel => exact ⟨k + 1, by omega, by go_num, HC7.out⟩
                                  case measure => simp [intOf]; omega
                            · have hsne : (Pl.ofR q == -1) = false := by simpa [Pl.ofR] using (by omega : ¬ (-100 - (q : Int)) = -1)
                              have hq6 : q < 6 := by omega
                              have hq0 : (0 : Int) ≤ (q : Int) := by omega
                              have HQ := Lib.hid (rule_cells (p + k) (p + k + 1) q)
                              have hrp : ∀ w, Calls Tryz.prog 22 #[.int .i64 (Pl.ofR q)] w fun e w' => e = .returned (.int .i64 (q : Int)) ∧ w = w' := by
                                intro w
                                have := rule_pos w (Pl.ofR q) (by unfold Pl.ofR; omega) (by unfold Pl.ofR; omega)
                                rwa [Pl.idx_ofR] at this
                              have HRP := Lib.hid hrp
                              clear hrp
                              generalize Pl.ofR q = s at *
                              go_wp2_with (first | (go_at_call 22; refine (HRP.out _).mono ?_; rintro e w' ⟨rfl, rfl⟩) | (at_builtin; refine wp_edge rfl _ _ rfl (w := w) (HC6.out.no (((Chg.refl No _).alloc _).alloc _)) (by omega) AE5 cE5 Ek.length rfl rfl ?x1 _ rfl [.int .i64 ((p : Int) + (k : Int)), .int .i64 ((p : Int) + (k : Int) + 1), .int .i64 3, .int .i64 (q : Int), .int .i64 (q : Int), .int .i64 0] (p + k, Pl.symEd s (p + k + 1)) ?x2 ?x3 ?x4))
                              case x1 => exact Chg.kept (((Chg.refl No _).alloc _).alloc _) q7 (fun h => h)
                              case x2 => rw [HQ.out]; simp
                              case x3 => exact Blk.at_new (by simp) _ _
                              case x4 =>
                                intro g5 c5 w5 f13 f14 f15 hc7
                                rw [← HE5.out] at hc7
                                have HC7 := Lib.hid hc7
                                clear hc7 q7 k4
                                go_wp2
                                go_roundw
                                case rel => exact ⟨k + 1, by omega, by go_num, HC7.out⟩
                                case measure => simp [intOf]; omega
                          · have hkk : k = alt.length := by omega
                            rw [hkk] at hc
                            obtain ⟨Ek, hEk⟩ : ∃ E, E = edK g r alts a alt alt.length := ⟨_, rfl⟩
                            have hE6 := HE3.out
                            rw [← hEk] at hE6 hc
                            obtain ⟨_, _, ⟨AE5, cE5, q7⟩, _⟩ := hc.cells
                            have HE6 := Lib.hid hE6
                            have HC6 := Lib.hid hc
                            clear hE6 hc hEk hkk
                            go_wp2_with (first | (at_builtin; refine wp_edge rfl _ _ rfl (w := w) (HC6.out.no ((Chg.refl No _).alloc _)) (by omega) AE5 cE5 Ek.length rfl rfl ?y1 _ rfl [.int .i64 ((p : Int) + (alt.length : Int)), .int .i64 (3 * (g.length : Int) + (r : Int)), .int .i64 1, .int .i64 0, .int .i64 0, .int .i64 0] (p + alt.length, Pl.Ed.eps (3 * g.length + r)) ?y2 ?y3 ?y4))
                            case y1 => exact Chg.kept ((Chg.refl No _).alloc _) q7 (fun h => h)
                            case y2 => rw [eps_cells]; simp
                            case y3 => exact Blk.at_new (by simp) _ _
                            case y4 =>
                              intro g5 c5 w5 f13 f14 f15 hc7
                              rw [← HE6.out, HS5.out] at hc7
                              have HC7 := Lib.hid (show CRel w _ _ _ _ _ (24 + 24 * r + 6 * (a + 1)) (30 * r + 1 + 7 * (a + 1)) from hc7.more (by omega) (by omega))
                              clear hc7 q7
                              go_wp2
                              go_roundw
                              case rel => exact ⟨a + 1, by omega, by go_num, HC7.out⟩
                              case measure => simp [intOf]; omega
                · have haa : a = alts.length := by omega
                  rw [haa, List.take_length, HS1.out] at hc
                  have hE6 := edR_end (g := g) HAL.out
                  obtain ⟨Ea, hEa⟩ : ∃ E, E = edA g r alts alts.length := ⟨_, rfl⟩
                  rw [← hEa] at hE6 hc
                  obtain ⟨S6, hS6⟩ : ∃ S, S = stK g.length 4 ++ stR g (r + 1) := ⟨_, rfl⟩
                  rw [← hS6] at hc
                  obtain ⟨_, _, ⟨AE5, cE5, q7⟩, _⟩ := hc.cells
                  have HE6 := Lib.hid hE6
                  have HS6 := Lib.hid hS6
                  have HC6 := Lib.hid hc
                  clear hE6 hc hEa hS6 haa q3
                  go_wp2_with (first | (at_builtin; refine wp_edge rfl _ _ rfl (w := w) (HC6.out.no ((Chg.refl No _).alloc _)) (by omega) AE5 cE5 Ea.length rfl rfl ?z1 _ rfl [.int .i64 (3 * (g.length : Int) + (r : Int)), .int .i64 ((g.length : Int) + (r : Int)), .int .i64 1, .int .i64 0, .int .i64 0, .int .i64 0] (3 * g.length + r, Pl.Ed.eps (g.length + r)) ?z2 ?z3 ?z4))
                  case z1 => exact Chg.kept ((Chg.refl No _).alloc _) q7 (fun h => h)
                  case z2 => rw [eps_cells]; simp
                  case z3 => exact Blk.at_new (by simp) _ _
                  case z4 =>
                    intro g5 c5 w5 f13 f14 f15 hc7
                    rw [← HE6.out, HS6.out, HD1.out] at hc7
                    have HC7 := Lib.hid (show CRel w _ _ _ _ _ (24 + 24 * (r + 1)) (30 * (r + 1)) from hc7.more (by omega) (by omega))
                    clear hc7 q7
                    go_wp2
                    go_roundw
                    case rel => exact ⟨r + 1, by omega, by go_num, HC7.out⟩
                    case measure => simp [intOf]; omega
        · have hrr : r = g.length := by omega
          rw [hrr, stR_all, stK_four] at hc
          obtain ⟨vS, vR, vE, vD, x0, x1, x2, x3, x4, o1, o2, o3, o4, hne⟩ := hc.out
          rw [edR_all] at o3
          have hres := hc.res
          have y0 : wr.cell? ⟨w.heap.size, 0, none⟩ = some (.int .i64 0) := by rw [hres.cell]; rfl
          have y1 : wr.cell? ⟨w.heap.size, 1, none⟩ = some (.slice none 0 0) := by rw [hres.cell]; rfl
          have y2 : wr.cell? ⟨w.heap.size, 2, none⟩ = some (.slice none 0 0) := by rw [hres.cell]; rfl
          have y3 : wr.cell? ⟨w.heap.size, 3, none⟩ = some (.slice none 0 0) := by rw [hres.cell]; rfl
          have y4 : wr.cell? ⟨w.heap.size, 4, none⟩ = some (.slice none 0 0) := by rw [hres.cell]; rfl
          have z0 := hres.fz 0
          have z1 := hres.fz 1
          have z2 := hres.fz 2
          have z3 := hres.fz 3
          have z4 := hres.fz 4
          have hlt2 := hres.lt
          obtain ⟨AS, cS, hvS⟩ := Own.slice o1
          obtain ⟨AR, cR, hvR⟩ := Own.slice o2
          obtain ⟨AE, cE, hvE⟩ := Own.slice o3
          obtain ⟨AD, cD, hvD⟩ := Own.slice o4
          subst hvS
          subst hvR
          subst hvE
          subst hvD
          have hel : (edR g g.length).length = (edOf g).length := by rw [← edR_all]; simp
          rw [hel] at o3 x3 hne
          rw [List.length_range] at o2 x2 hne
          rw [List.length_map, List.length_range] at o4 x4 hne
          have hc0 := hc.re.chg
          have hch := chg5 wr w.heap.size
          have HO1 := Lib.hid o1
          have HO2 := Lib.hid o2
          have HO3 := Lib.hid o3
          have HO4 := Lib.hid o4
          have HNE := Lib.hid hne
          have HC0 := Lib.hid hc0
          have HCH := Lib.hid hch
          clear o1 o2 o3 o4 hne hc0 hch hc hres hrr hel HC HST HG HV
          obtain ⟨n1, hn1⟩ : ∃ n, n = (dsOf g).length := ⟨_, rfl⟩
          obtain ⟨n3, hn3⟩ : ∃ n, n = (edOf g).length := ⟨_, rfl⟩
          rw [← hn1] at HO1 HNE x1
          rw [← hn3] at HO3 HNE x3
          have HN1 := Lib.hid hn1
          have HN3 := Lib.hid hn3
          clear hn1 hn3
          go_wp2
          refine bodyPost_ret (v := .agg #[.int .i64 4, .slice AS n1 cS, .slice AR g.length cR, .slice AE n3 cE, .slice AD g.length cD]) (by simp [results, Tryz.results29, go_sem, y0, y1, y2, y3, y4]) rfl ⟨_, _, _, _, rfl, ?_, ?_, ?_, ?_, ?_⟩
          · rw [← HN1.out]; exact HO1.out.chg (HCH.out _ _ _ _ _) (fun k hk e => HNE.out _ (by simp) k hk e)
          · exact HO2.out.chg (HCH.out _ _ _ _ _) (fun k hk e => HNE.out _ (by simp) k hk e)
          · rw [← HN3.out]; exact HO3.out.chg (HCH.out _ _ _ _ _) (fun k hk e => HNE.out _ (by simp) k hk e)
          · exact HO4.out.chg (HCH.out _ _ _ _ _) (fun k hk e => HNE.out _ (by simp) k hk e)
          · exact HC0.out.then (HCH.out _ _ _ _ _) (fun k hk e => absurd hk (by omega))
end Go.Proofs.YtemdillhbnmjkaaGreatDoor

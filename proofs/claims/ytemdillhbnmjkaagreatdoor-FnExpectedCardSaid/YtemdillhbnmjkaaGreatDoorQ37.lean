/- The network of a grammar, as the thin package takes it (11). -/
import Derived.Test.YtemdillhbnmjkaaGreatDoorQ36
namespace Go.Proofs.YtemdillhbnmjkaaGreatDoor
open Go.RowKit

theorem et35 : ET 35 82 (.agg #[.int .i64 0, .int .i64 0, .int .i64 0]) 3 24 := ⟨by kernel_rfl, by kernel_rfl, rfl, by decide⟩
theorem et37 : ET 37 85 (.agg #[.int .i64 0, .int .i64 0, .int .i64 0, .int .i64 0, .int .i64 0, .int .i64 0]) 6 48 := ⟨by kernel_rfl, by kernel_rfl, rfl, by decide⟩
def specI (vR vD : Value) (S : List Ds) (E : List (Nat × TD)) : List CS := [.const (.int .i64 4), .row 82 3 S.length (S.flatMap st3), .const vR, .row 85 6 E.length (E.flatMap ed6), .const vD]
theorem specI_S (vR vD : Value) (S : List Ds) (E : List (Nat × TD)) (x : Ds) : (specI vR vD S E).set 1 (.row 82 3 (S.length + 1) (S.flatMap st3 ++ st3 x)) = specI vR vD (S ++ [x]) E := by simp [specI]
theorem specI_E (vR vD : Value) (S : List Ds) (E : List (Nat × TD)) (x : Nat × TD) : (specI vR vD S E).set 3 (.row 85 6 (E.length + 1) (E.flatMap ed6 ++ ed6 x)) = specI vR vD S (E ++ [x]) := by simp [specI]
theorem st3_at {l : List Ds} {k : Nat} {d : Ds} (h : l[k]? = some d) : (l.flatMap st3)[k * 3]? = some (.int .i64 d.k.num) ∧ (l.flatMap st3)[k * 3 + 1]? = some (.int .i64 d.rule) ∧ (l.flatMap st3)[k * 3 + 2]? = some (.int .i64 d.arg) := by
  have h0 := flat_at st3 3 (fun _ => rfl) l k 0 d h (by omega)
  have h1 := flat_at st3 3 (fun _ => rfl) l k 1 d h (by omega)
  have h2 := flat_at st3 3 (fun _ => rfl) l k 2 d h (by omega)
  exact ⟨h0.trans rfl, h1.trans rfl, h2.trans rfl⟩
theorem ed6_at {l : List (Nat × TD)} {k : Nat} {d : Nat × TD} (h : l[k]? = some d) (i : Nat) (hi : i < 6) : (l.flatMap ed6)[k * 6 + i]? = (ed6 d)[i]? := flat_at ed6 6 (fun _ => rfl) l k i d h hi
theorem ed6_is (d : Nat × TD) : ed6 d = [.int .i64 (d.1 : Int), .int .i64 (d.2.trg : Int), .int .i64 d.2.kn, .int .i64 d.2.a1, .int .i64 d.2.a2, .int .i64 d.2.a3] := rfl

/-- what has been copied -/
structure IRel (w1 wr : World) (vS vR vE vD : Value) (S : List Ds) (E : List (Nat × TD)) : Prop where
  re : Rec w1 wr (w1.heap.size + 1) 39 (specI vR vD S E) [(w1.heap.size, #[.int .i64 4, vS, vR, vE, vD], 78)]
theorem IRel.start (w1 : World) (vS vR vE vD : Value) : IRel w1 ((w1.alloc (.cells #[.int .i64 4, vS, vR, vE, vD] 78)).alloc (.cells #[.int .i64 4, .slice none 0 0, vR, .slice none 0 0, vD] 39)) vS vR vE vD [] [] := by
  refine ⟨Rec.start (by omega) (((Chg.refl _ _).alloc _).alloc _) ?_ [.int .i64 4, .slice none 0 0, vR, .slice none 0 0, vD] rfl (Blk.at_new (by simp) _ _) ?_⟩
  · intro x hx
    simp at hx
    subst hx
    exact ⟨(Blk.new w1 _ _).alloc _, by simp⟩
  · intro i v s h1 h2
    match i, h1, h2 with
    | 0, h1, h2 => cases h1; cases h2; exact .inl rfl
    | 1, h1, h2 => cases h1; cases h2; exact .inr ⟨rfl, _, _, rfl⟩
    | 2, h1, h2 => cases h1; cases h2; exact .inl rfl
    | 3, h1, h2 => cases h1; cases h2; exact .inr ⟨rfl, _, _, rfl⟩
    | 4, h1, h2 => cases h1; cases h2; exact .inl rfl
    | n + 5, h1, _ => simp at h1
theorem IRel.x {w1 wr : World} {vS vR vE vD : Value} {S : List Ds} {E : List (Nat × TD)} (h : IRel w1 wr vS vR vE vD S E) : Blk wr w1.heap.size #[.int .i64 4, vS, vR, vE, vD] 78 := (h.re.sides (w1.heap.size, #[.int .i64 4, vS, vR, vE, vD], 78) (by simp)).1
theorem IRel.cells {w1 wr : World} {vS vR vE vD : Value} {S : List Ds} {E : List (Nat × TD)} (h : IRel w1 wr vS vR vE vD S E) :
    (∃ A c, wr.cell? ⟨w1.heap.size + 1, 1, none⟩ = some (.slice A S.length c)) ∧ (∃ A c, wr.cell? ⟨w1.heap.size + 1, 3, none⟩ = some (.slice A E.length c)) := by
  refine ⟨?_, ?_⟩
  · obtain ⟨A, c, h1, _⟩ := h.re.row (i := 1) rfl; exact ⟨A, c, h1⟩
  · obtain ⟨A, c, h1, _⟩ := h.re.row (i := 3) rfl; exact ⟨A, c, h1⟩

set_option maxHeartbeats 4000000 in
set_option maxRecDepth 100000 in
theorem net_any (w : World) (v : Value) (g : Pl.Gr) (G : Pl.GoodG g) (hv : Rd3 w v g) :
    Calls Tryz.prog 11 #[v] w fun e w' => ∃ vS vR vE vD, e = .returned (.agg #[.int .i64 4, vS, vR, vE, vD]) ∧ Own w' 82 3 vS (dsOf g).length ((dsOf g).flatMap st3) ∧ Own w' 3 1 vR g.length ((List.range g.length).map fun x => .int .i64 (x : Nat)) ∧
      Own w' 85 6 vE (edOf g).length ((edOf g).flatMap ed6) ∧ Own w' 3 1 vD g.length ((decOf g).map fun x => .int .i64 (x : Nat)) ∧ Chg No w w' := by
  have HCO := Lib.hid (compile_any (w.alloc (.cells zN 39)) v g G (hv.no ((Chg.refl _ _).alloc _)))
  obtain ⟨A, c, rfl⟩ := hv.slice
  have hn1 := (net_ok G).n
  have hn2 := (net_ok G).e
  clear hv
  obtain ⟨dS, hdS⟩ : ∃ l, l = dsOf g := ⟨_, rfl⟩
  obtain ⟨dE, hdE⟩ : ∃ l, l = edOf g := ⟨_, rfl⟩
  obtain ⟨dD, hdD⟩ : ∃ l, l = decOf g := ⟨_, rfl⟩
  rw [← hdS] at hn1
  rw [← hdE] at hn2
  rw [← hdS, ← hdE, ← hdD] at HCO
  rw [← hdS, ← hdE, ← hdD]
  clear hdS hdE hdD G
  go_enter Tryz.func11, Tryz.ntmps11
  go_wp2_with fail
  refine HCO.out.mono ?_
  rintro e w1 ⟨vS, vR, vE, vD, rfl, o1, o2, o3, o4, hc⟩
  obtain ⟨AS, cS, rfl⟩ := Own.slice o1
  obtain ⟨AR, cR, rfl⟩ := Own.slice o2
  obtain ⟨AE, cE, rfl⟩ := Own.slice o3
  obtain ⟨AD, cD, rfl⟩ := Own.slice o4
  have HO1 := Lib.hid o1
  have HO2 := Lib.hid o2
  have HO3 := Lib.hid o3
  have HO4 := Lib.hid o4
  have HC := Lib.hid (((Chg.refl No w).alloc _).trans hc)
  have HB2 := Lib.hid ((Blk.new w zN 39).chg hc (fun h => h))
  have hb2 := ((Blk.new w zN 39).chg hc (fun h => h)).lt
  have HST := Lib.hid (IRel.start w1 (.slice AS dS.length cS) (.slice AR g.length cR) (.slice AE dE.length cE) (.slice AD g.length cD))
  clear o1 o2 o3 o4 hc
  go_wp2
  go_loopw [21] (fun i wr => ∃ j : Nat, j ≤ dS.length ∧ i = .int .i64 (j : Int) ∧ IRel w1 wr (.slice AS dS.length cS) (.slice AR g.length cR) (.slice AE dE.length cE) (.slice AD g.length cD) (dS.take j) []) (fun i _ => dS.length - (intOf i).toNat)
  case atStart => exact ⟨0, Nat.zero_le _, rfl, HST.out⟩
  case round =>
    obtain ⟨j, hj, rfl, hi⟩ := hrel
    have htl : (dS.take j).length = j := by rw [List.length_take, Nat.min_eq_left hj]
    by_cases hlt : j < dS.length
    · obtain ⟨d, hd⟩ : ∃ d, dS[j]? = some d := ⟨_, List.getElem?_eq_getElem hlt⟩
      obtain ⟨g1, cap1, cur1, hAA, _, _⟩ := Own.blk HO1.out (by omega)
      cases hAA
      obtain ⟨t0, t1, t2⟩ := st3_at hd
      have p0 := Chg.kept hi.re.chg (HO1.out.cellAt t0) (fun h => h)
      have p1 := Chg.kept hi.re.chg (HO1.out.cellAt t1) (fun h => h)
      have p2 := Chg.kept hi.re.chg (HO1.out.cellAt t2) (fun h => h)
      obtain ⟨⟨A2, c2, q1⟩, _⟩ := hi.cells
      rw [htl] at q1
      have htake : dS.take (j + 1) = dS.take j ++ [d] := by rw [List.take_add_one, hd]; rfl
      have HTK := Lib.hid htake
      have HTL := Lib.hid htl
      have HI := Lib.hid hi
      have hblt := hi.re.lt
      clear hd htake htl hi t0 t1 t2
      go_wp2_with (first | (at_builtin; refine wp_rec et35 rfl _ _ rfl (w0 := w1) (b := w1.heap.size + 1) (T := 39) (HI.out.re.no (((Chg.refl No _).alloc _).alloc _)) 1 j ((dS.take j).flatMap st3) ?c7 (.slice A2 j c2) rfl ?c1 _ rfl (st3 d) ?c2 rfl (st3_one d) ?c4 ?c5 ?c6))
      case c7 => simp [specI, HTL.out]
      case c1 => exact Chg.kept (((Chg.refl No _).alloc _).alloc _) q1 (fun h => h)
      case c2 => exact Blk.at_new (by simp) _ _
      case c4 => omega
      case c5 => omega
      case c6 =>
        intro g2 c2' w4 f1 f2 f3 hrec
        have e := specI_S (.slice AR g.length cR) (.slice AD g.length cD) (dS.take j) [] d
        rw [HTL.out, ← HTK.out] at e
        rw [e] at hrec
        have HR := Lib.hid (IRel.mk hrec)
        clear hrec e q1 p0 p1 p2
        go_wp2
        go_roundw
        case rel => exact ⟨j + 1, by omega, by go_num, HR.out⟩
        case measure => simp [intOf]; omega
    · obtain rfl : j = dS.length := by omega
      rw [List.take_length] at hi
      have x3 : wr.cell? ⟨w1.heap.size, 3, none⟩ = some (.slice AE dE.length cE) := by rw [hi.x.cell]; rfl
      have HI := Lib.hid hi
      clear hi htl
      go_wp2
      go_loopw [41] (fun i wr => ∃ j : Nat, j ≤ dE.length ∧ i = .int .i64 (j : Int) ∧ IRel w1 wr (.slice AS dS.length cS) (.slice AR g.length cR) (.slice AE dE.length cE) (.slice AD g.length cD) dS (dE.take j)) (fun i _ => dE.length - (intOf i).toNat)
      case atStart => exact ⟨0, Nat.zero_le _, rfl, HI.out⟩
      case round =>
        obtain ⟨j, hj, rfl, hi⟩ := hrel
        have htl : (dE.take j).length = j := by rw [List.length_take, Nat.min_eq_left hj]
        clear x3
        by_cases hlt2 : j < dE.length
        · obtain ⟨d, hd⟩ : ∃ d, dE[j]? = some d := ⟨_, List.getElem?_eq_getElem hlt2⟩
          obtain ⟨g1, cap1, cur1, hAA, _, _⟩ := Own.blk HO3.out (by omega)
          cases hAA
          have p0 : wr.cell? ⟨g1, j * 6, none⟩ = some (.int .i64 (d.1 : Int)) := Chg.kept hi.re.chg (HO3.out.cellAt (ed6_at hd 0 (by omega))) (fun h => h)
          have p1 : wr.cell? ⟨g1, j * 6 + 1, none⟩ = some (.int .i64 (d.2.trg : Int)) := Chg.kept hi.re.chg (HO3.out.cellAt (ed6_at hd 1 (by omega))) (fun h => h)
          have p2 : wr.cell? ⟨g1, j * 6 + 2, none⟩ = some (.int .i64 d.2.kn) := Chg.kept hi.re.chg (HO3.out.cellAt (ed6_at hd 2 (by omega))) (fun h => h)
          have p3 : wr.cell? ⟨g1, j * 6 + 3, none⟩ = some (.int .i64 d.2.a1) := Chg.kept hi.re.chg (HO3.out.cellAt (ed6_at hd 3 (by omega))) (fun h => h)
          have p4 : wr.cell? ⟨g1, j * 6 + 4, none⟩ = some (.int .i64 d.2.a2) := Chg.kept hi.re.chg (HO3.out.cellAt (ed6_at hd 4 (by omega))) (fun h => h)
          have p5 : wr.cell? ⟨g1, j * 6 + 5, none⟩ = some (.int .i64 d.2.a3) := Chg.kept hi.re.chg (HO3.out.cellAt (ed6_at hd 5 (by omega))) (fun h => h)
          obtain ⟨_, ⟨A2, c2, q1⟩⟩ := hi.cells
          rw [htl] at q1
          have htake : dE.take (j + 1) = dE.take j ++ [d] := by rw [List.take_add_one, hd]; rfl
          have HTK := Lib.hid htake
          have HTL := Lib.hid htl
          have HI := Lib.hid hi
          have hblt := hi.re.lt
          clear hd htake htl hi
          go_wp2_with (first | (at_builtin; refine wp_rec et37 rfl _ _ rfl (w0 := w1) (b := w1.heap.size + 1) (T := 39) (HI.out.re.no (((Chg.refl No _).alloc _).alloc _)) 3 j ((dE.take j).flatMap ed6) ?d7 (.slice A2 j c2) rfl ?d1 _ rfl (ed6 d) ?d2 rfl (ed6_one d) ?d4 ?d5 ?d6))
          case d7 => simp [specI, HTL.out]
          case d1 => exact Chg.kept (((Chg.refl No _).alloc _).alloc _) q1 (fun h => h)
          case d2 => exact Blk.at_new (by simp) _ _
          case d4 => omega
          case d5 => omega
          case d6 =>
            intro g2 c2' w4 f1 f2 f3 hrec
            have e := specI_E (.slice AR g.length cR) (.slice AD g.length cD) dS (dE.take j) d
            rw [HTL.out, ← HTK.out] at e
            rw [e] at hrec
            have HR := Lib.hid (IRel.mk hrec)
            clear hrec e q1 p0 p1 p2 p3 p4 p5
            go_wp2
            go_roundw
            case rel => exact ⟨j + 1, by omega, by go_num, HR.out⟩
            case measure => simp [intOf]; omega
        · obtain rfl : j = dE.length := by omega
          rw [List.take_length] at hi
          obtain ⟨A5, c5, x1, o5⟩ := hi.re.row (i := 1) rfl
          obtain ⟨A6, c6, x3, o6⟩ := hi.re.row (i := 3) rfl
          have x0 := hi.re.const (i := 0) rfl
          have x2 := hi.re.const (i := 2) rfl
          have x4 := hi.re.const (i := 4) rfl
          have hres := HB2.out.chg hi.re.chg (fun h => h)
          have y0 : wr.cell? ⟨w.heap.size, 0, none⟩ = some (.int .i64 0) := by rw [hres.cell]; rfl
          have y1 : wr.cell? ⟨w.heap.size, 1, none⟩ = some (.slice none 0 0) := by rw [hres.cell]; rfl
          have y2 : wr.cell? ⟨w.heap.size, 2, none⟩ = some (.slice none 0 0) := by rw [hres.cell]; rfl
          have y3 : wr.cell? ⟨w.heap.size, 3, none⟩ = some (.slice none 0 0) := by rw [hres.cell]; rfl
          have y4 : wr.cell? ⟨w.heap.size, 4, none⟩ = some (.slice none 0 0) := by rw [hres.cell]; rfl
          have z0 := hres.fz 0
          have z1 := hres.fz 1
          have z2 := hres.fz 2
          have z3 := hres.fz 3
          have z4 := hres.fz 4
          have hlt3 := hres.lt
          have hz39 := fun {e size n v xs} (h : Own w1 e size v n xs) => h.no hi.re.chg
          have HP1 := Lib.hid o5
          have HP3 := Lib.hid o6
          have HP2 := Lib.hid (HO2.out.no hi.re.chg)
          have HP4 := Lib.hid (HO4.out.no hi.re.chg)
          have HW := Lib.hid (HC.out.trans hi.re.chg)
          have HRES := Lib.hid hres
          have HCH := Lib.hid (chg5 wr w.heap.size)
          clear hi hres o5 o6 HI HST HB2 HC hz39 htl
          go_wp2
          refine bodyPost_ret (v := .agg #[.int .i64 4, .slice A5 dS.length c5, .slice AR g.length cR, .slice A6 dE.length c6, .slice AD g.length cD]) (by simp [results, Tryz.results11, go_sem, y0, y1, y2, y3, y4]) rfl ⟨_, _, _, _, rfl, ?_, ?_, ?_, ?_, ?_⟩
          · exact HP1.out.chg (HCH.out _ _ _ _ _) (fun k hk e => HP1.out.ne HRES.out (by decide) (e ▸ hk))
          · exact HP2.out.chg (HCH.out _ _ _ _ _) (fun k hk e => HP2.out.ne HRES.out (by decide) (e ▸ hk))
          · exact HP3.out.chg (HCH.out _ _ _ _ _) (fun k hk e => HP3.out.ne HRES.out (by decide) (e ▸ hk))
          · exact HP4.out.chg (HCH.out _ _ _ _ _) (fun k hk e => HP4.out.ne HRES.out (by decide) (e ▸ hk))
          · exact HW.out.then (HCH.out _ _ _ _ _) (fun k hk e => absurd hk (by omega))
end Go.Proofs.YtemdillhbnmjkaaGreatDoor

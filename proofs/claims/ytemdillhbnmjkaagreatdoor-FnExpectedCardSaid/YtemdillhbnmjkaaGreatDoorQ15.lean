/- Serializing: a network as numbers (43). -/
import Derived.Test.YtemdillhbnmjkaaGreatDoorQ14
import Derived.Test.YtemdillhbnmjkaaGreatDoorQ13
namespace Go.Proofs.YtemdillhbnmjkaaGreatDoor
open Go.RowKit

def st3 (d : Ds) : List Value := [.int .i64 d.k.num, .int .i64 d.rule, .int .i64 d.arg]
def ru2 (r : Int) : List Value := [.int .i64 r, .int .i64 0]
def ed6 (e : Nat × TD) : List Value := (encE e).map (.int .i64 ·)

theorem ri_new (w : World) (cs : List Int) : RI (w.alloc (.cells (cs.map (fun x => Value.int .i64 x)).toArray 3)) (.slice (some ⟨w.heap.size, 0, none⟩) cs.length cs.length) cs :=
  .inr ⟨_, _, _, rfl, Blk.new _ _ _, fun j x hj => by simp [hj]⟩
theorem ri_nil (w : World) : RI w (.slice none 0 0) [] := .inl ⟨rfl, _, _, rfl⟩

theorem Own.ri {w : World} {v : Value} {xs : List Int} (h : Own w 3 1 v xs.length (xs.map fun x => .int .i64 x)) : RI w v xs := by
  rcases xs with _ | ⟨x, xs⟩
  · obtain ⟨A, c, h⟩ := Own.slice h
    exact .inl ⟨rfl, A, c, h⟩
  · obtain ⟨g, cap, cur, e1, e2, e3⟩ := Own.blk h (by simp)
    refine .inr ⟨g, cap, cur, e1, e2, fun j y hy => ?_⟩
    have : (cur.toList.take ((x :: xs).length * 1))[j]? = some (.int .i64 y) := by rw [e3, List.getElem?_map, hy]; rfl
    rw [List.getElem?_take] at this
    split at this
    · simpa using this
    · cases this

/-- all numbers of the network fit -/
structure Fits32 (mt : Int) (ds : List Ds) (E : List (Nat × TD)) : Prop where
  mt : -1000 ≤ mt ∧ mt ≤ 1000
  ds : ∀ d ∈ ds, (-1000 ≤ d.rule ∧ d.rule ≤ 1000) ∧ (-1000 ≤ d.arg ∧ d.arg ≤ 1000)
  E : ∀ e ∈ E, ∀ x ∈ encE e, -1000 ≤ x ∧ x ≤ 1000

/-- what is known while a network is written down -/
structure SR (w wr : World) (G : Array Value) (us : List Int) : Prop where
  mk' ::
  out : Out w wr (w.heap.size + 1) us
  blk : Blk wr w.heap.size G 128
  t : TChg [134, 21] w wr

theorem SR.no {w wr w' : World} {G : Array Value} {us : List Int} (h : SR w wr G us) (hc : Chg No wr w') : SR w w' G us :=
  ⟨h.out.no hc, h.blk.chg hc (fun h => h), h.t.trans (TChg.no hc)⟩
theorem sr_puts (w wr : World) (G : Array Value) (us xs : List Int) (v : Value) (h : SR w wr G us) (hv : RI wr v xs) (hlen : us.length + xs.length < 100000) (hb : ∀ x ∈ xs, -1000 ≤ x ∧ x ≤ 1000) :
    Calls Tryz.prog 56 #[v, .pointer (some ⟨w.heap.size + 1, 0, none⟩)] wr fun e w' => e = .returned (.tuple #[]) ∧ (SR w w' G (us ++ xs) ∧ TChg [134, 21] wr w') := by
  refine (put_any w wr (w.heap.size + 1) us xs v h.out hv hlen (fun x hx => by have := hb x hx; omega)).mono ?_
  rintro e w' ⟨rfl, h1, h2⟩
  exact ⟨rfl, ⟨h1, h2.blk h.blk (by decide), h.t.trans h2⟩, h2⟩
theorem sr_put (w wr : World) (G : Array Value) (us xs : List Int) (n p : Nat) (cs : Array Value) (h : SR w wr G us) (hp : p = wr.heap.size) (hn : n = xs.length) (hc : cs = (xs.map (fun x => Value.int .i64 x)).toArray) (hlen : us.length + xs.length < 100000) (hb : ∀ x ∈ xs, -1000 ≤ x ∧ x ≤ 1000) :
    Calls Tryz.prog 56 #[.slice (some ⟨p, 0, none⟩) n n, .pointer (some ⟨w.heap.size + 1, 0, none⟩)] (wr.alloc (.cells cs 3)) fun e w' => e = .returned (.tuple #[]) ∧ (SR w w' G (us ++ xs) ∧ TChg [134, 21] wr w') := by
  subst hp; subst hn; subst hc
  refine (sr_puts w _ G us xs _ (h.no ((Chg.refl _ _).alloc _)) (ri_new wr xs) hlen hb).mono ?_
  rintro e w' ⟨rfl, h1, h2⟩
  exact ⟨rfl, h1, (TChg.no ((Chg.refl No wr).alloc _)).trans h2⟩

def gcells (mt : Int) (vS vR vE vD : Value) : Array Value := #[.bool false, .int .i64 mt, vS, .slice none 0 0, .slice none 0 0, vR, .slice none 0 0, .slice none 0 0, vE, vD, .slice none 0 0]

theorem SR.cells {w wr : World} {mt : Int} {vS vR vE vD : Value} {us : List Int} (h : SR w wr (gcells mt vS vR vE vD) us) :
    wr.cell? ⟨w.heap.size, 0, none⟩ = some (.bool false) ∧ wr.cell? ⟨w.heap.size, 2, none⟩ = some vS ∧ wr.cell? ⟨w.heap.size, 3, none⟩ = some (.slice none 0 0) ∧ wr.cell? ⟨w.heap.size, 4, none⟩ = some (.slice none 0 0) ∧
    wr.cell? ⟨w.heap.size, 5, none⟩ = some vR ∧ wr.cell? ⟨w.heap.size, 6, none⟩ = some (.slice none 0 0) ∧ wr.cell? ⟨w.heap.size, 7, none⟩ = some (.slice none 0 0) ∧ wr.cell? ⟨w.heap.size, 8, none⟩ = some vE ∧
    wr.cell? ⟨w.heap.size, 9, none⟩ = some vD ∧ w.heap.size < wr.heap.size := by
  refine ⟨?_, ?_, ?_, ?_, ?_, ?_, ?_, ?_, ?_, h.blk.lt⟩ <;> (rw [h.blk.cell]; rfl)

theorem enc_len (d : Ds) : d.enc.length ≤ 3 := by unfold Ds.enc; split <;> simp
theorem enc_lens (l : List Ds) : (l.flatMap Ds.enc).length ≤ 3 * l.length := by
  induction l with
  | nil => simp
  | cons d l ih => rw [List.flatMap_cons, List.length_append, List.length_cons]; have := enc_len d; omega
theorem encE_lens (l : List (Nat × TD)) : (l.flatMap encE).length = 6 * l.length := by
  induction l with
  | nil => simp
  | cons d l ih => rw [List.flatMap_cons, List.length_append, List.length_cons, ih]; have : (encE d).length = 6 := rfl; omega
theorem upto_len (R : Nat) : (upto 0 R).length = R := by simp [upto]

set_option maxHeartbeats 1000000 in
set_option maxRecDepth 100000 in
theorem serialize_any (w : World) (mt : Int) (vS vR vE vD : Value) (ds : List Ds) (R : Nat) (E : List (Nat × TD)) (D : List Nat) (hf : Fits32 mt ds E)
    (hS : Own w 129 3 vS ds.length (ds.flatMap st3)) (hR : Own w 131 2 vR R ((upto 0 R).flatMap ru2)) (hE : Own w 132 6 vE E.length (E.flatMap ed6)) (hD : Own w 3 1 vD D.length (D.map fun x => .int .i64 (x : Nat)))
    (hn : ds.length < 1000) (hRn : R < 1000) (hEn : E.length < 1000) (hDn : D.length < 1000) (hDb : ∀ x ∈ D, x < 1000) :
    Calls Tryz.prog 43 #[.agg #[.bool false, .int .i64 mt, vS, .slice none 0 0, .slice none 0 0, vR, .slice none 0 0, .slice none 0 0, vE, vD, .slice none 0 0]] w fun e w' => ∃ v, e = .returned v ∧ Chg No w w' ∧
      Own w' 21 1 v (netList mt ds R E D).length ((netList mt ds R E D).map fun x => .int .i32 x) := by
  obtain ⟨AS, cS, rfl⟩ := hS.slice
  obtain ⟨AR, cR, rfl⟩ := hR.slice
  obtain ⟨AE, cE, rfl⟩ := hE.slice
  obtain ⟨AD, cD, rfl⟩ := hD.slice
  have hmf : ∀ (fn : Fn) (first cap : Array Value) (w : World), (Instr.makeFunc fn first cap).run Tryz.prog w = .ok (.func fn first cap) w := fun _ _ _ _ => rfl
  have HF := Lib.hid hf
  have HS := Lib.hid hS
  have HR := Lib.hid hR
  have HE := Lib.hid hE
  have HD := Lib.hid hD
  clear hf hS hR hE hD
  go_enter Tryz.func43, Tryz.ntmps43
  go_wp2_with fail
  have h1 : SR w ((w.alloc (.cells (gcells mt (.slice AS ds.length cS) (.slice AR R cR) (.slice AE E.length cE) (.slice AD D.length cD)) 128)).alloc (.cells #[.slice none 0 0] 134)) (gcells mt (.slice AS ds.length cS) (.slice AR R cR) (.slice AE E.length cE) (.slice AD D.length cD)) [] := by
    have hc : Chg No w ((w.alloc (.cells (gcells mt (.slice AS ds.length cS) (.slice AR R cR) (.slice AE E.length cE) (.slice AD D.length cD)) 128)).alloc (.cells #[.slice none 0 0] 134)) := ((Chg.refl _ _).alloc _).alloc _
    refine ⟨⟨⟨.slice none 0 0, Blk.at_new (by simp) _ _, ⟨rfl, .inl ⟨rfl, rfl⟩⟩, by intro k hk; simp [Value.ownBlock] at hk⟩, hc, by omega⟩, (Blk.new _ _ _).alloc _, TChg.no hc⟩
  refine (sr_put w _ _ [] [4, 1, mt, ds.length] 4 _ _ h1 (by simp) rfl rfl (by simp) ?_).mono ?_
  · have := HF.out.mt
    intro x hx
    simp at hx
    omega
  rintro e w2 ⟨rfl, h2, _⟩
  clear h1
  obtain ⟨d0, d2, d3, d4, d5, d6, d7, d8, d9, dl⟩ := h2.cells
  have H2 := Lib.hid h2
  clear h2
  go_wp2
  go_loopw [34] (fun x wr => ∃ j : Nat, j ≤ ds.length ∧ x = .int .i64 (j : Int) ∧ SR w wr (gcells mt (.slice AS ds.length cS) (.slice AR R cR) (.slice AE E.length cE) (.slice AD D.length cD)) ([4, 1, mt, (ds.length : Int)] ++ (ds.take j).flatMap Ds.enc)) (fun x _ => ds.length - (intOf x).toNat)
  case atStart => exact ⟨0, Nat.zero_le _, rfl, by simpa using H2.out⟩
  case round =>
    obtain ⟨j, hj, rfl, h3⟩ := hrel
    clear H2 d0 d2 d3 d4 d5 d6 d7 d8 d9 dl
    by_cases hlt : j < ds.length
    · obtain ⟨d, hd⟩ : ∃ d, ds[j]? = some d := ⟨_, List.getElem?_eq_getElem hlt⟩
      have hown := h3.t.own HS.out (by decide)
      obtain ⟨gS, cap, _, ev, _, _⟩ := Own.blk hown (by omega)
      cases ev
      have p0 : wr.cell? ⟨gS, j * 3, none⟩ = some (.int .i64 d.k.num) := by
        refine Own.cellAt hown ?_
        have := flat_at st3 3 (fun _ => rfl) _ j 0 d hd (by decide)
        rw [Nat.add_zero] at this
        rw [this]; rfl
      have p1 : wr.cell? ⟨gS, j * 3 + 1, none⟩ = some (.int .i64 d.rule) := by
        refine Own.cellAt hown ?_
        rw [flat_at st3 3 (fun _ => rfl) _ j 1 d hd (by decide)]; rfl
      have p2 : wr.cell? ⟨gS, j * 3 + 2, none⟩ = some (.int .i64 d.arg) := by
        refine Own.cellAt hown ?_
        rw [flat_at st3 3 (fun _ => rfl) _ j 2 d hd (by decide)]; rfl
      have htake : (ds.take (j + 1)).flatMap Ds.enc = (ds.take j).flatMap Ds.enc ++ d.enc := by rw [List.take_add_one, hd]; simp
      have hl1 := enc_lens (ds.take j)
      rw [List.length_take] at hl1
      obtain ⟨b1, b2⟩ := HF.out.ds d (List.mem_of_getElem? hd)
      have H3 := Lib.hid h3
      clear h3 hown hd
      obtain ⟨k0, k12, k1, k2⟩ := num_facts d.k
      have k45 : (d.k.num == 4) = false ∧ (d.k.num == 5) = false ∧ d.k.num < 1000 := by cases d.k <;> decide
      obtain ⟨k4, k5, k6⟩ := k45
      go_wp2_with fail
      have h4 := H3.out.no ((Chg.refl No wr).alloc (.cells #[.int .i64 d.k.num, .int .i64 d.rule, .int .i64 d.arg] 129))
      refine (sr_put w _ _ _ [d.k.num] 1 _ _ h4 (by simp) rfl rfl (by simp only [List.length_append, List.length_cons, List.length_nil]; omega) (by simp; cases d.k <;> decide)).mono ?_
      rintro e w5 ⟨rfl, h5, t5⟩
      have hz5 := t5.blk (Blk.new wr #[.int .i64 d.k.num, .int .i64 d.rule, .int .i64 d.arg] 129) (by decide)
      obtain ⟨pz, hpz⟩ : ∃ pz, pz = wr.heap.size := ⟨_, rfl⟩
      rw [← hpz] at hz5 ⊢
      have z0 : w5.cell? ⟨pz, 0, none⟩ = some (.int .i64 d.k.num) := by rw [hz5.cell]; rfl
      have z1 : w5.cell? ⟨pz, 1, none⟩ = some (.int .i64 d.rule) := by rw [hz5.cell]; rfl
      clear h4 t5 H3 p0 p1 p2 hpz
      go_wp2_with fail
      refine (sr_put w _ _ _ [d.rule] 1 _ _ h5 rfl rfl rfl (by simp only [List.length_append, List.length_cons, List.length_nil]; omega) (by simp; omega)).mono ?_
      rintro e w6 ⟨rfl, h6, t6⟩
      have hz6 := t6.blk hz5 (by decide)
      have z0 : w6.cell? ⟨pz, 0, none⟩ = some (.int .i64 d.k.num) := by rw [hz6.cell]; rfl
      have z2 : w6.cell? ⟨pz, 2, none⟩ = some (.int .i64 d.arg) := by rw [hz6.cell]; rfl
      clear h5 t6 hz5 z1
      by_cases hk : d.k = .bstart
      · have k3 : (d.k.num == 3) = true := by rw [hk]; rfl
        have henc : d.enc = [d.k.num] ++ [d.rule] ++ [d.arg] := by simp [Ds.enc, hk]
        clear hk
        go_wp2_with fail
        refine (sr_put w _ _ _ [d.arg] 1 _ _ h6 rfl rfl rfl (by simp only [List.length_append, List.length_cons, List.length_nil]; omega) (by simp; omega)).mono ?_
        rintro e w7 ⟨rfl, h7, t7⟩
        clear h6 z0 z2 hz6 t7
        go_wp2
        go_roundw
        case rel => exact ⟨j + 1, by omega, by go_num, by rw [htake, henc]; simpa using h7⟩
        case measure => simp [intOf]; omega
      · have k3 : (d.k.num == 3) = false := by revert hk; cases d.k <;> simp [SK.num]
        have henc : d.enc = [d.k.num] ++ [d.rule] := by simp [Ds.enc, hk]
        clear hk
        go_wp2
        go_roundw
        case rel => exact ⟨j + 1, by omega, by go_num, by rw [htake, henc]; simpa using h6⟩
        case measure => simp [intOf]; omega
    · obtain rfl : j = ds.length := by omega
      rw [List.take_length] at h3
      have hl1 := enc_lens ds
      clear hlt hj
      obtain ⟨us3, hus3⟩ : ∃ x, x = [4, 1, mt, (ds.length : Int)] ++ ds.flatMap Ds.enc := ⟨_, rfl⟩
      have hl3 : us3.length ≤ 3010 := by rw [hus3]; simp only [List.length_append, List.length_cons, List.length_nil]; omega
      rw [← hus3] at h3
      obtain ⟨d0, d2, d3, d4, d5, d6, d7, d8, d9, dl⟩ := h3.cells
      clear hl1
      have HH := Lib.hid h3
      clear h3
      go_wp2_with fail
      refine (sr_put w _ _ us3 [(0 : Int)] 1 _ _ HH.out rfl rfl rfl (by simp only [List.length_cons, List.length_nil]; omega) (by simp)).mono ?_
      rintro e w4 ⟨rfl, h4, _⟩
      obtain ⟨us4, hus4⟩ : ∃ x, x = us3 ++ [(0 : Int)] := ⟨_, rfl⟩
      have hl4 : us4.length ≤ 3011 := by rw [hus4]; simp only [List.length_append, List.length_cons, List.length_nil]; omega
      rw [← hus4] at h4
      clear HH d0 d2 d3 d4 d5 d6 d7 d8 d9 dl
      obtain ⟨d0, d2, d3, d4, d5, d6, d7, d8, d9, dl⟩ := h4.cells
      have HH := Lib.hid h4
      clear h4
      go_wp2_with fail
      refine (sr_puts w _ _ us4 [] _ HH.out (ri_nil _) (by simp only [List.length_nil]; omega) (by simp)).mono ?_
      rintro e w5 ⟨rfl, h5, _⟩
      obtain ⟨us5, hus5⟩ : ∃ x, x = us4 ++ ([] : List Int) := ⟨_, rfl⟩
      have hl5 : us5.length ≤ 3011 := by rw [hus5]; simp only [List.length_append, List.length_nil]; omega
      rw [← hus5] at h5
      clear HH d0 d2 d3 d4 d5 d6 d7 d8 d9 dl
      obtain ⟨d0, d2, d3, d4, d5, d6, d7, d8, d9, dl⟩ := h5.cells
      have HH := Lib.hid h5
      clear h5
      go_wp2_with fail
      refine (sr_put w _ _ us5 [(0 : Int)] 1 _ _ HH.out rfl rfl rfl (by simp only [List.length_cons, List.length_nil]; omega) (by simp)).mono ?_
      rintro e w6 ⟨rfl, h6, _⟩
      obtain ⟨us6, hus6⟩ : ∃ x, x = us5 ++ [(0 : Int)] := ⟨_, rfl⟩
      have hl6 : us6.length ≤ 3012 := by rw [hus6]; simp only [List.length_append, List.length_cons, List.length_nil]; omega
      rw [← hus6] at h6
      clear HH d0 d2 d3 d4 d5 d6 d7 d8 d9 dl
      obtain ⟨d0, d2, d3, d4, d5, d6, d7, d8, d9, dl⟩ := h6.cells
      have HH := Lib.hid h6
      clear h6
      go_wp2_with fail
      refine (sr_puts w _ _ us6 [] _ HH.out (ri_nil _) (by simp only [List.length_nil]; omega) (by simp)).mono ?_
      rintro e w7 ⟨rfl, h7, _⟩
      obtain ⟨us7, hus7⟩ : ∃ x, x = us6 ++ ([] : List Int) := ⟨_, rfl⟩
      have hl7 : us7.length ≤ 3012 := by rw [hus7]; simp only [List.length_append, List.length_nil]; omega
      rw [← hus7] at h7
      clear HH d0 d2 d3 d4 d5 d6 d7 d8 d9 dl
      obtain ⟨d0, d2, d3, d4, d5, d6, d7, d8, d9, dl⟩ := h7.cells
      have HH := Lib.hid h7
      clear h7
      go_wp2_with fail
      refine (sr_put w _ _ us7 [(R : Int)] 1 _ _ HH.out rfl rfl rfl (by simp only [List.length_cons, List.length_nil]; omega) (by simp; omega)).mono ?_
      rintro e w8 ⟨rfl, h8, _⟩
      obtain ⟨us8, hus8⟩ : ∃ x, x = us7 ++ [(R : Int)] := ⟨_, rfl⟩
      have hl8 : us8.length ≤ 3013 := by rw [hus8]; simp only [List.length_append, List.length_cons, List.length_nil]; omega
      rw [← hus8] at h8
      clear HH d0 d2 d3 d4 d5 d6 d7 d8 d9 dl
      obtain ⟨d0, d2, d3, d4, d5, d6, d7, d8, d9, dl⟩ := h8.cells
      have H9 := Lib.hid h8
      clear h8
      go_wp2
      clear d0 d2 d3 d4 d5 d6 d7 d8 d9 dl
      go_loopw [93] (fun x wr => ∃ j : Nat, j ≤ R ∧ x = .int .i64 (j : Int) ∧ SR w wr (gcells mt (.slice AS ds.length cS) (.slice AR R cR) (.slice AE E.length cE) (.slice AD D.length cD)) (us8 ++ (upto 0 R).take j)) (fun x _ => R - (intOf x).toNat)
      case atStart => exact ⟨0, Nat.zero_le _, rfl, by simpa using H9.out⟩
      case round =>
        obtain ⟨j, hj, rfl, h9⟩ := hrel
        clear H9
        have hul := upto_len R
        by_cases hlt : j < R
        · obtain ⟨r, hr⟩ : ∃ r, (upto 0 R)[j]? = some r := ⟨_, List.getElem?_eq_getElem (by omega)⟩
          have hrb : -1000 ≤ r ∧ r ≤ 1000 := by
            unfold upto at hr
            rw [List.drop_zero, List.getElem?_map, List.getElem?_range hlt] at hr
            simp at hr; omega
          have hown := h9.t.own HR.out (by decide)
          obtain ⟨gS, cap, _, ev, _, _⟩ := Own.blk hown (by omega)
          cases ev
          have p0 : wr.cell? ⟨gS, j * 2, none⟩ = some (.int .i64 r) := by
            refine Own.cellAt hown ?_
            have := flat_at ru2 2 (fun _ => rfl) _ j 0 r hr (by decide)
            rw [Nat.add_zero] at this
            rw [this]; rfl
          have p1 : wr.cell? ⟨gS, j * 2 + 1, none⟩ = some (.int .i64 0) := by
            refine Own.cellAt hown ?_
            rw [flat_at ru2 2 (fun _ => rfl) _ j 1 r hr (by decide)]; rfl
          have htake : us8 ++ (upto 0 R).take (j + 1) = (us8 ++ (upto 0 R).take j) ++ [r] := by rw [List.take_add_one, hr]; simp
          have HH := Lib.hid h9
          clear h9 hown hr
          go_wp2_with fail
          have hx := HH.out.no ((Chg.refl No wr).alloc (.cells #[.int .i64 r, .int .i64 0] 131))
          refine (sr_put w _ _ _ [r] 1 _ _ hx (by simp) rfl rfl (by simp only [List.length_append, List.length_take, List.length_cons, List.length_nil]; omega) (by simp; omega)).mono ?_
          rintro e wx ⟨rfl, hy, tx⟩
          obtain ⟨d0, _, _, _, _, _, _, _, _, _⟩ := hy.cells
          clear HH hx p0 p1
          go_wp2
          go_roundw
          case rel => exact ⟨j + 1, by omega, by go_num, by rw [htake]; exact hy⟩
          case measure => simp [intOf]; omega
        · obtain rfl : j = R := by omega
          rw [List.take_of_length_le (by omega)] at h9
          obtain ⟨us9, hus9⟩ : ∃ x, x = us8 ++ upto 0 j := ⟨_, rfl⟩
          have hl9 : us9.length ≤ 4020 := by rw [hus9, List.length_append]; omega
          rw [← hus9] at h9
          clear hlt hj
          obtain ⟨d0, d2, d3, d4, d5, d6, d7, d8, d9, dl⟩ := h9.cells
          have HH := Lib.hid h9
          clear h9
          go_wp2_with fail
          refine (sr_put w _ _ us9 [(0 : Int)] 1 _ _ HH.out rfl rfl rfl (by simp only [List.length_cons, List.length_nil]; omega) (by simp)).mono ?_
          rintro e w10 ⟨rfl, h10, _⟩
          obtain ⟨us10, hus10⟩ : ∃ x, x = us9 ++ [(0 : Int)] := ⟨_, rfl⟩
          have hl10 : us10.length ≤ 4021 := by rw [hus10]; simp only [List.length_append, List.length_cons, List.length_nil]; omega
          rw [← hus10] at h10
          clear HH d0 d2 d3 d4 d5 d6 d7 d8 d9 dl
          obtain ⟨d0, d2, d3, d4, d5, d6, d7, d8, d9, dl⟩ := h10.cells
          have HH := Lib.hid h10
          clear h10
          go_wp2_with fail
          refine (sr_puts w _ _ us10 [] _ HH.out (ri_nil _) (by simp only [List.length_nil]; omega) (by simp)).mono ?_
          rintro e w11 ⟨rfl, h11, _⟩
          obtain ⟨us11, hus11⟩ : ∃ x, x = us10 ++ ([] : List Int) := ⟨_, rfl⟩
          have hl11 : us11.length ≤ 4021 := by rw [hus11]; simp only [List.length_append, List.length_nil]; omega
          rw [← hus11] at h11
          clear HH d0 d2 d3 d4 d5 d6 d7 d8 d9 dl
          obtain ⟨d0, d2, d3, d4, d5, d6, d7, d8, d9, dl⟩ := h11.cells
          have HH := Lib.hid h11
          clear h11
          go_wp2_with fail
          refine (sr_put w _ _ us11 [(0 : Int)] 1 _ _ HH.out rfl rfl rfl (by simp only [List.length_cons, List.length_nil]; omega) (by simp)).mono ?_
          rintro e w12 ⟨rfl, h12, _⟩
          obtain ⟨us12, hus12⟩ : ∃ x, x = us11 ++ [(0 : Int)] := ⟨_, rfl⟩
          have hl12 : us12.length ≤ 4022 := by rw [hus12]; simp only [List.length_append, List.length_cons, List.length_nil]; omega
          rw [← hus12] at h12
          clear HH d0 d2 d3 d4 d5 d6 d7 d8 d9 dl
          obtain ⟨d0, d2, d3, d4, d5, d6, d7, d8, d9, dl⟩ := h12.cells
          have HH := Lib.hid h12
          clear h12
          go_wp2
          go_loop [129] (fun x => x = .int .i64 0) (fun _ => 0)
          case atStart => rfl
          case round =>
          subst hrel
          have h12 := HH.out
          clear HH
          have HH := Lib.hid h12
          clear h12
          go_wp2_with fail
          refine (sr_put w _ _ us12 [(E.length : Int)] 1 _ _ HH.out rfl rfl rfl (by simp only [List.length_cons, List.length_nil]; omega) (by simp; omega)).mono ?_
          rintro e w13 ⟨rfl, h13, _⟩
          obtain ⟨us13, hus13⟩ : ∃ x, x = us12 ++ [(E.length : Int)] := ⟨_, rfl⟩
          have hl13 : us13.length ≤ 4023 := by rw [hus13]; simp only [List.length_append, List.length_cons, List.length_nil]; omega
          rw [← hus13] at h13
          clear HH d0 d2 d3 d4 d5 d6 d7 d8 d9 dl
          obtain ⟨d0, d2, d3, d4, d5, d6, d7, d8, d9, dl⟩ := h13.cells
          have H9 := Lib.hid h13
          clear h13
          go_wp2
          clear d0 d2 d3 d4 d5 d6 d7 d8 d9 dl
          go_loopw [167] (fun x wr => ∃ i : Nat, i ≤ E.length ∧ x = .int .i64 (i : Int) ∧ SR w wr (gcells mt (.slice AS ds.length cS) (.slice AR j cR) (.slice AE E.length cE) (.slice AD D.length cD)) (us13 ++ (E.take i).flatMap encE)) (fun x _ => E.length - (intOf x).toNat)
          case atStart => exact ⟨0, Nat.zero_le _, rfl, by simpa using H9.out⟩
          case round =>
            obtain ⟨i, hi, rfl, h9⟩ := hrel
            clear H9
            have hel := encE_lens (E.take i)
            rw [List.length_take] at hel
            by_cases hlt : i < E.length
            · obtain ⟨r, hr⟩ : ∃ r, E[i]? = some r := ⟨_, List.getElem?_eq_getElem hlt⟩
              have hrb := HF.out.E r (List.mem_of_getElem? hr)
              have hown := h9.t.own HE.out (by decide)
              obtain ⟨gS, cap, _, ev, _, _⟩ := Own.blk hown (by omega)
              cases ev
              have p0 : wr.cell? ⟨gS, i * 6, none⟩ = some (.int .i64 (r.1 : Int)) := by
                refine Own.cellAt hown ?_
                have := flat_at ed6 6 (fun _ => rfl) _ i 0 r hr (by decide)
                rw [Nat.add_zero] at this
                rw [this]; rfl
              have p1 : wr.cell? ⟨gS, i * 6 + 1, none⟩ = some (.int .i64 (r.2.trg : Int)) := by
                refine Own.cellAt hown ?_
                rw [flat_at ed6 6 (fun _ => rfl) _ i 1 r hr (by decide)]; rfl
              have p2 : wr.cell? ⟨gS, i * 6 + 2, none⟩ = some (.int .i64 r.2.kn) := by
                refine Own.cellAt hown ?_
                rw [flat_at ed6 6 (fun _ => rfl) _ i 2 r hr (by decide)]; rfl
              have p3 : wr.cell? ⟨gS, i * 6 + 3, none⟩ = some (.int .i64 r.2.a1) := by
                refine Own.cellAt hown ?_
                rw [flat_at ed6 6 (fun _ => rfl) _ i 3 r hr (by decide)]; rfl
              have p4 : wr.cell? ⟨gS, i * 6 + 4, none⟩ = some (.int .i64 r.2.a2) := by
                refine Own.cellAt hown ?_
                rw [flat_at ed6 6 (fun _ => rfl) _ i 4 r hr (by decide)]; rfl
              have p5 : wr.cell? ⟨gS, i * 6 + 5, none⟩ = some (.int .i64 r.2.a3) := by
                refine Own.cellAt hown ?_
                rw [flat_at ed6 6 (fun _ => rfl) _ i 5 r hr (by decide)]; rfl
              have htake : us13 ++ (E.take (i + 1)).flatMap encE = (us13 ++ (E.take i).flatMap encE) ++ encE r := by rw [List.take_add_one, hr]; simp
              have HH := Lib.hid h9
              clear h9 hown hr
              go_wp2_with fail
              have hx := HH.out.no ((Chg.refl No wr).alloc (.cells #[.int .i64 r.1, .int .i64 r.2.trg, .int .i64 r.2.kn, .int .i64 r.2.a1, .int .i64 r.2.a2, .int .i64 r.2.a3] 132))
              refine (sr_put w _ _ _ (encE r) 6 _ _ hx (by simp) rfl rfl (by rw [List.length_append, show (encE r).length = 6 from rfl]; omega) hrb).mono ?_
              rintro e wx ⟨rfl, hy, tx⟩
              clear HH hx p0 p1 p2 p3 p4 p5
              go_wp2
              go_roundw
              case rel => exact ⟨i + 1, by omega, by go_num, by rw [htake]; exact hy⟩
              case measure => simp [intOf]; omega
            · obtain rfl : i = E.length := by omega
              rw [List.take_length] at h9 hel
              obtain ⟨us14, hus14⟩ : ∃ x, x = us13 ++ E.flatMap encE := ⟨_, rfl⟩
              have hl14 : us14.length ≤ 12000 := by rw [hus14, List.length_append]; omega
              rw [← hus14] at h9
              have h14 := h9
              clear hlt hi h9 hel
              obtain ⟨d0, d2, d3, d4, d5, d6, d7, d8, d9, dl⟩ := h14.cells
              have HH := Lib.hid h14
              clear h14
              go_wp2_with fail
              refine (sr_put w _ _ us14 [(D.length : Int)] 1 _ _ HH.out rfl rfl rfl (by simp only [List.length_cons, List.length_nil]; omega) (by simp; omega)).mono ?_
              rintro e w15 ⟨rfl, h15, _⟩
              obtain ⟨us15, hus15⟩ : ∃ x, x = us14 ++ [(D.length : Int)] := ⟨_, rfl⟩
              have hl15 : us15.length ≤ 12001 := by rw [hus15]; simp only [List.length_append, List.length_cons, List.length_nil]; omega
              rw [← hus15] at h15
              clear HH d0 d2 d3 d4 d5 d6 d7 d8 d9 dl
              obtain ⟨d0, d2, d3, d4, d5, d6, d7, d8, d9, dl⟩ := h15.cells
              have HH := Lib.hid h15
              clear h15
              have hri : RI w15 (.slice AD D.length cD) (D.map fun (x : Nat) => (x : Int)) := by
                have h1 := HH.out.t.own HD.out (by decide)
                have h2 : Own w15 3 1 (.slice AD D.length cD) (D.map fun (x : Nat) => (x : Int)).length ((D.map fun (x : Nat) => (x : Int)).map fun x => .int .i64 x) := by rw [List.length_map, List.map_map]; exact h1
                exact Own.ri h2
              have Hri := Lib.hid hri
              clear hri
              go_wp2_with fail
              refine (sr_puts w _ _ us15 _ _ HH.out Hri.out (by rw [List.length_map]; omega) (by intro x hx; obtain ⟨y, hy, rfl⟩ := List.mem_map.1 hx; have := hDb y hy; omega)).mono ?_
              rintro e w16 ⟨rfl, h16, _⟩
              clear HH d0 d2 d3 d4 d5 d6 d7 d8 d9 dl
              obtain ⟨d0, d2, d3, d4, d5, d6, d7, d8, d9, dl⟩ := h16.cells
              obtain ⟨vo, ho1, ho2, _⟩ := h16.out.ex
              have co : w16.cell? ⟨w.heap.size + 1, 0, none⟩ = some vo := by rw [ho1.cell]; rfl
              obtain ⟨Ao, co', rfl⟩ := Own.slice ho2
              have hch := h16.out.chg
              have hus : us15 ++ (D.map fun (x : Nat) => (x : Int)) = netList mt ds j E D := by
                rw [hus15, hus14, hus13, hus12, hus11, hus10, hus9, hus8, hus7, hus6, hus5, hus4, hus3]; simp [netList]
              rw [hus] at ho2 co
              have H2 := Lib.hid ho2
              clear h16 ho1 ho2 hus Hri
              go_wp2
              go_ret
              exact ⟨_, rfl, hch, H2.out⟩
end Go.Proofs.YtemdillhbnmjkaaGreatDoor

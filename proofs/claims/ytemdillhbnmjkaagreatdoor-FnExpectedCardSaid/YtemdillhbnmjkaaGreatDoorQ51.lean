/- Sets of tokens: a set is put into another (62). · Sets of tokens: the mark of a rule's end is taken out (63 at -2). -/
import Derived.Test.YtemdillhbnmjkaaGreatDoorQ50
import Derived.Test.YtemdillhbnmjkaaGreatDoorQ49
import Derived.Deep.RegionHeld3
namespace Go.Proofs.YtemdillhbnmjkaaGreatDoor
open Go.RowKit

namespace Pl
/-- the intervals that a row of tokens can have -/
def ivs : List Iv := [(-2, -1), (-1, 0), (-2, 0), (1, 2), (1, 3), (1, 4), (1, 5), (2, 3), (2, 4), (2, 5), (3, 4), (3, 5), (4, 5)]
theorem addI_iv : ∀ m, m < 64 → ∀ v ∈ ivs, addI (canon m) v = canon (m ||| mask v) ∧ (m ||| mask v) < 64 := by decide +kernel
theorem canon_ivs : ∀ n, n < 64 → ∀ v ∈ canon n, v ∈ ivs := by decide +kernel
theorem mask_all : ∀ n, n < 64 → (canon n).foldl (fun a v => a ||| mask v) 0 = n := by decide +kernel
theorem fold_or (l : List Iv) : ∀ m a, l.foldl (fun a v => a ||| mask v) (m ||| a) = m ||| l.foldl (fun a v => a ||| mask v) a := by
  induction l with
  | nil => intro m a; rfl
  | cons v l ih => intro m a; rw [List.foldl_cons, List.foldl_cons, Nat.or_assoc, ih]
theorem fold_canon (m n : Nat) (hn : n < 64) : (canon n).foldl (fun a v => a ||| mask v) m = m ||| n := by
  have := fold_or (canon n) m 0
  rw [Nat.or_zero, mask_all n hn] at this
  exact this
theorem ivs_bound : ∀ v ∈ ivs, -1000 ≤ v.1 ∧ v.1 ≤ 1000 ∧ -1000 ≤ v.2 ∧ v.2 ≤ 1000 := by decide +kernel
theorem canon_iv : ∀ v ∈ ivs, canon (mask v) = [v] := by decide +kernel
end Pl

/-- the set at block p, whose row was v, is m now -/
def SetTo (w w' : World) (p : Nat) (v : Value) (m : Nat) : Prop := ∃ v', SetG w' p m v' ∧ Chg (fun k => k = p ∨ v.ownBlock = some k) w w' ∧ ∀ k, v'.ownBlock = some k → v.ownBlock = some k ∨ w.heap.size ≤ k
theorem SetTo.refl {w : World} {p m : Nat} {v : Value} (h : SetG w p m v) : SetTo w w p v m := ⟨v, h, Chg.refl _ _, fun _ h => .inl h⟩
theorem SetTo.then {w a b : World} {p m : Nat} {v v1 : Value} (h : Chg (fun k => k = p ∨ v.ownBlock = some k) w a) (hv : ∀ k, v1.ownBlock = some k → v.ownBlock = some k ∨ w.heap.size ≤ k) (k : SetTo a b p v1 m) : SetTo w b p v m := by
  obtain ⟨v', h1, h2, h3⟩ := k
  refine ⟨v', h1, h.then h2 ?_, ?_⟩
  · intro k hk e
    rcases e with e | e
    · exact .inl e
    · rcases hv k e with e | e
      · exact .inr e
      · omega
  · intro k e
    rcases h3 k e with e | e
    · exact hv k e
    · have := h.size
      exact .inr (by omega)

theorem addIvG_any (w : World) (p m : Nat) (v : Value) (iv : Pl.Iv) (hi : iv ∈ Pl.ivs) (h : SetG w p m v) :
    Calls Tryz.prog 99 #[.pointer (some ⟨p, 0, none⟩), .agg #[.int .i64 iv.1, .int .i64 iv.2]] w fun e w' => e = .returned (.tuple #[]) ∧ SetTo w w' p v (m ||| Pl.mask iv) := by
  obtain ⟨hm, ⟨ro, hb⟩, hv⟩ := h
  obtain ⟨a1, a2⟩ := Pl.addI_iv m hm iv hi
  rcases hv with ⟨rfl, rfl⟩ | ⟨g, c, rfl, h5⟩
  · refine (addInterval_nil w p (.bool ro) iv.1 iv.2 hb).mono ?_
    rintro e w' ⟨rfl, g, c, q1, q2, q3, q4⟩
    refine ⟨rfl, .slice (some ⟨g, 0, none⟩) 1 c, ⟨a2, ⟨ro, q1⟩, .inr ⟨g, c, ?_, ?_⟩⟩, Chg.mono q3 (fun _ _ e => .inl e), fun k hk => ?_⟩
    · rw [Nat.zero_or, Pl.canon_iv iv hi]; rfl
    · rw [Nat.zero_or, Pl.canon_iv iv hi]; exact q2
    · simp [Value.ownBlock] at hk; exact .inr (by omega)
  · obtain ⟨c1, c2, c3, c4⟩ := Pl.canon_facts m hm
    obtain ⟨t1, t2, t3, t4⟩ := Pl.ivs_bound iv hi
    refine (addI_gen w p g c ro iv.1 iv.2 (Pl.canon m) hb h5 (by omega) (fun i hi => by have := c2 i hi; omega) t1 t2 t3 t4).mono ?_
    rintro e w' ⟨rfl, g', c', q1, q2, q3, q4⟩
    rw [show ((iv.1, iv.2) : Pl.Iv) = iv from rfl, a1] at q1 q2
    refine ⟨rfl, _, ⟨a2, ⟨ro, q1⟩, .inr ⟨g', c', rfl, q2⟩⟩, Chg.mono q3 (fun k _ e => ?_), fun k hk => ?_⟩
    · rcases e with e | e
      · exact .inl e
      · exact .inr (by simp [Value.ownBlock, e])
    · simp [Value.ownBlock] at hk ⊢
      omega

set_option maxHeartbeats 1000000 in
set_option maxRecDepth 100000 in
/-- a set is put in -/
theorem addSetG_any (w : World) (p q m n : Nat) (v u : Value) (h : SetG w p m v) (hq : SetG w q n u) (hqp : q ≠ p) (hg : ∀ k, u.ownBlock = some k → v.ownBlock ≠ some k) :
    Calls Tryz.prog 62 #[.pointer (some ⟨p, 0, none⟩), .pointer (some ⟨q, 0, none⟩)] w fun e w' => e = .returned (.pointer (some ⟨p, 0, none⟩)) ∧ SetTo w w' p v (m ||| n) := by
  have hne := fun (w : World) (x : Option Addr) (l c : Nat) => run_neq_slice_nil (P := Tryz.prog) w 102 104 x l c Tryz.underlying102
  have hvq : v.ownBlock ≠ some q := by
    obtain ⟨_, ⟨ro, hb⟩, _⟩ := hq
    obtain ⟨_, _, hv⟩ := h
    rcases hv with ⟨rfl, _⟩ | ⟨g, c, rfl, h5⟩
    · intro e; cases e
    · exact h5.ne hb (by decide)
  obtain ⟨hn, ⟨ro, hb⟩, hu⟩ := hq
  have hfold := Pl.fold_canon m n hn
  have hivs := Pl.canon_ivs n hn
  have hS : ¬ (q = p ∨ v.ownBlock = some q) := by rintro (e | e); exact hqp e; exact hvq e
  have c0 : w.cell? ⟨q, 0, none⟩ = some u := by rw [hb.cell]; rfl
  rcases hu with ⟨rfl, rfl⟩ | ⟨g, c, rfl, h5⟩
  · have H := Lib.hid h
    clear hb h hfold hivs
    go_enter Tryz.func62, Tryz.ntmps62
    go_wp2
    go_ret
    exact ⟨rfl, by rw [Nat.or_zero]; exact SetTo.refl H.out⟩
  · have hpg : g ≠ p := by
      obtain ⟨_, ⟨ro, hp⟩, _⟩ := h
      intro e
      exact h5.ne hp (by decide) (by rw [e]; rfl)
    have hS' : ¬ (g = p ∨ v.ownBlock = some g) := by rintro (e | e); exact hpg e; exact hg g rfl e
    have H := Lib.hid h
    have H5 := Lib.hid h5
    have HF := Lib.hid hfold
    have HI := Lib.hid hivs
    clear hb h hfold hivs h5
    have hlen := (Pl.canon_facts n hn).1
    generalize Pl.canon n = l at *
    go_enter Tryz.func62, Tryz.ntmps62
    go_wp2
    go_loopw [5] (fun i wr => ∃ j : Nat, j ≤ l.length ∧ i = .int .i64 (j : Int) ∧ SetTo w wr p v ((l.take j).foldl (fun a v => a ||| Pl.mask v) m)) (fun i _ => l.length - (intOf i).toNat)
    case atStart => exact ⟨0, Nat.zero_le _, rfl, SetTo.refl H.out⟩
    case round =>
      obtain ⟨j, hj, rfl, ht⟩ := hrel
      have hch := ht
      obtain ⟨v1, s1, s2, s3⟩ := hch
      have q0 := Chg.kept s2 c0 hS
      have HT := Lib.hid ht
      have HS1 := Lib.hid s1
      have HS2 := Lib.hid s2
      have HS3 := Lib.hid s3
      by_cases hlt : j < l.length
      · obtain ⟨x, hx⟩ : ∃ x, l[j]? = some x := ⟨_, List.getElem?_eq_getElem hlt⟩
        have y0 := Chg.kept s2 (H5.out.cellAt (ivs_at hx).1) hS'
        have y1 := Chg.kept s2 (H5.out.cellAt (ivs_at hx).2) hS'
        have glt := World.block_lt_of_cell? wr _ y0
        simp only at glt
        have hxi := HI.out x (List.mem_of_getElem? hx)
        have hno : Chg No wr ((wr.alloc (.cells #[.int .i64 x.1, .int .i64 x.2] 104)).alloc (.cells #[.int .i64 x.1, .int .i64 x.2] 104)) := ((Chg.refl No wr).alloc _).alloc _
        have HX := Lib.hid hx
        have HA := Lib.hid (addIvG_any _ p _ v1 x hxi (s1.no hno))
        have HN := Lib.hid hno
        clear s1 s2 s3 ht hx hxi hno
        go_wp2_with (first | (go_at_call 100; refine (newInterval_any _ _ _).mono ?_; rintro e w' ⟨rfl, rfl⟩))
        refine HA.out.mono ?_
        rintro e w' ⟨rfl, h1⟩
        have H1 := Lib.hid h1
        clear h1
        go_wp2
        go_roundw
        case rel =>
          refine ⟨j + 1, by omega, by go_num, ?_⟩
          rw [List.take_add_one, HX.out, Option.toList_some, List.foldl_append, List.foldl_cons, List.foldl_nil]
          refine SetTo.then (HS2.out.then HN.out (fun _ _ h => h.elim)) HS3.out H1.out
        case measure => simp [intOf]; omega
      · obtain rfl : j = l.length := by omega
        have hT := HT.out
        rw [List.take_length, HF.out] at hT
        have HT := Lib.hid hT
        clear s1 s2 s3 ht hT
        go_wp2
        go_ret
        exact ⟨rfl, HT.out⟩
end Go.Proofs.YtemdillhbnmjkaaGreatDoor
namespace Go.Proofs.YtemdillhbnmjkaaGreatDoor
open Go.RowKit

theorem Pl.two_first : ∀ m, m < 64 → ∀ i ∈ (canon m).head?, -2 < i.1 ∨ i = (-2, -1) ∨ i = (-2, 0) := by decide +kernel
theorem Pl.two_nil : ∀ m, m < 64 → canon m = [] → m &&& 62 = m := by decide +kernel
theorem Pl.two_no : ∀ m, m < 64 → ∀ i ∈ (canon m).head?, -2 < i.1 → m &&& 62 = m := by decide +kernel

theorem SetTo.of {w a : World} {p m : Nat} {v : Value} (h : SetG w p m v) (hc : Chg No w a) : SetTo w a p v m := ⟨v, h.no hc, hc.mono (fun _ _ h => h.elim), fun _ h => .inl h⟩
theorem SetTo.store {w a : World} {p m n : Nat} {v old u : Value} {ro : Bool} {l : List Pl.Iv} (hm : m < 64) (hP : Blk a p #[old, .bool ro] 145) (hl : l = Pl.canon m) (hn : n = l.length)
    (hO : Own a 104 2 u n (l.flatMap iv2)) (hc : Chg (fun k => k = p ∨ v.ownBlock = some k) w a) (hg : ∀ k, u.ownBlock = some k → v.ownBlock = some k ∨ w.heap.size ≤ k) :
    SetTo w (a.setCell ⟨p, 0, none⟩ u) p v m := by
  subst hl hn
  have h2 := hO.chg ((Chg.refl (fun k => k = p) a).setCell (p := ⟨p, 0, none⟩) (fun _ => rfl) u) (fun k hk e => hO.ne hP (by decide) (by rw [← e]; exact hk))
  refine ⟨u, ⟨hm, ⟨ro, by simpa using hP.set 0 u⟩, ?_⟩, hc.setCell (fun _ => .inl rfl) _, hg⟩
  rcases hO.2 with ⟨e, e2⟩ | ⟨g', cap, cur, e, _⟩
  · exact .inl ⟨e, (Pl.canon_facts m hm).2.2.1 (List.length_eq_zero_iff.1 e2)⟩
  · subst e
    exact .inr ⟨g', cap, rfl, h2⟩

set_option maxHeartbeats 2000000 in
set_option maxRecDepth 100000 in
theorem removeTwo_any (w : World) (p m : Nat) (v : Value) (h : SetG w p m v) :
    Calls Tryz.prog 63 #[.pointer (some ⟨p, 0, none⟩), .int .i64 (-2)] w fun e w' => e = .returned (.tuple #[]) ∧ SetTo w w' p v (m &&& 62) := by
  have hne := fun (w : World) (x : Option Addr) (l c : Nat) => run_neq_slice_nil (P := Tryz.prog) w 102 104 x l c Tryz.underlying102
  have hh := h
  obtain ⟨hm, ⟨ro, hb⟩, hv⟩ := h
  obtain ⟨r1, r2, r3⟩ := Pl.remI_two m hm
  have hfst := Pl.two_first m hm
  have hnil : (Pl.canon m).length = 0 → m &&& 62 = m := fun h => Pl.two_nil m hm (List.length_eq_zero_iff.1 h)
  have htn := Pl.two_no m hm
  have hlen := (Pl.canon_facts m hm).1
  have c0 : w.cell? ⟨p, 0, none⟩ = some v := by rw [hb.cell]; rfl
  have hplt := hb.lt
  rcases hv with ⟨rfl, rfl⟩ | ⟨g, c, rfl, h5⟩
  · have H := Lib.hid hh
    clear hb hh r1 r2 r3 hfst hnil htn
    go_enter Tryz.func63, Tryz.ntmps63
    go_wp2
    go_end0
    exact ⟨rfl, SetTo.refl H.out⟩
  · have hcap := h5.cap
    have HH := Lib.hid hh
    have HR1 := Lib.hid r1
    have HR2 := Lib.hid r2
    have HF := Lib.hid hfst
    have HN := Lib.hid hnil
    have HT := Lib.hid htn
    have HB := Lib.hid hb
    have H5 := Lib.hid h5
    generalize hl : Pl.canon m = l at *
    have HL := Lib.hid hl
    clear hb hh r1 r2 r3 hfst hnil h5 hl htn
    go_enter Tryz.func63, Tryz.ntmps63
    go_wp2
    go_loopw [4] (fun i wr => i = .int .i64 0 ∧ wr = w) (fun _ _ => 0)
    case atStart => exact ⟨rfl, rfl⟩
    case round =>
      obtain ⟨rfl, rfl⟩ := hrel
      cases l with
      | nil =>
        have hm2 := HN.out rfl
        have HM2 := Lib.hid hm2
        clear hm2
        simp only [List.length_nil] at *
        go_wp2
        go_end0
        exact ⟨rfl, by rw [HM2.out]; exact SetTo.refl HH.out⟩
      | cons i r =>
        simp only [List.length_cons] at *
        have y0 : wr.cell? ⟨g, 0, none⟩ = some (.int .i64 i.1) := H5.out.cellAt (ivs_at (l := i :: r) (k := 0) rfl).1
        have y1 : wr.cell? ⟨g, 1, none⟩ = some (.int .i64 i.2) := H5.out.cellAt (ivs_at (l := i :: r) (k := 0) rfl).2
        have yf := H5.out.fz 0
        have yf1 := H5.out.fz 1
        have glt := World.block_lt_of_cell? wr _ y0
        simp only at glt
        have pf := HB.out.fz 0
        have hpg : p ≠ g := fun e => H5.out.ne HB.out (by decide) (by rw [e]; rfl)
        rcases HF.out i rfl with hi | rfl | rfl
        · have d1 : decide (-2 < i.1) = true := decide_eq_true hi
          have HM := Lib.hid (HT.out i rfl hi)
          go_wp2
          refine bodyPost_ret (results_none rfl _ _ _) rfl ?_
          exact ⟨rfl, by rw [HM.out]; exact SetTo.of HH.out ((Chg.refl No _).alloc _)⟩
        · have k0 : (0 : Int) ≤ 1 := by omega
          have k1 : (1 : Int) ≤ (r.length : Int) + 1 := by omega
          have k2 : ((r.length : Int) + 1) ≤ (c : Int) := by omega
          have k3 : (0 : Int) ≤ (c : Int) := by omega
          have k4 : IntKind.i64.wrap 1 = 1 := rfl
          go_wp2
          clear y0 y1 yf yf1 c0 pf
          generalize hq : wr.heap.size = q at *
          have hno : Chg No wr (wr.alloc (.cells #[.int .i64 (-2), .int .i64 (-1)] 104)) := (Chg.refl No wr).alloc _
          generalize wr.alloc (.cells #[.int .i64 (-2), .int .i64 (-1)] 104) = wx at *
          have hP1 := HB.out.chg hno (fun h => h)
          have hL1 := H5.out.no hno
          have p0 : wx.cell? ⟨p, 0, none⟩ = some (.slice (some ⟨g, 0, none⟩) (r.length + 1) c) := by rw [hP1.cell]; rfl
          have plt := hP1.lt
          have HP1 := Lib.hid hP1
          have HL1 := Lib.hid hL1
          have HNo := Lib.hid hno
          clear hP1 hL1 hno
          by_cases hc : c = 1
          · subst hc
            obtain rfl : r = [] := List.length_eq_zero_iff.1 (by omega)
            simp only [List.length_nil] at *
            go_region_law (refine step_appS et102 rfl (.tmp 49) (.tmp 56) rfl (.slice (some ⟨g, 0, none⟩) 0 1) 0 [] rfl ?_ (.slice (some ⟨g, 0, none⟩) 0 0) rfl 0 [] ?_ ?_ ?_ ?_ ?_ ?_; exact own_less (HL1.out.no (Chg.refl No wx).drew) (m := 0) (by omega); (exact .inl ⟨_, _, rfl, fun j u h => by simp at h⟩); rfl; (intro u hu; simp at hu); omega; omega; intro A5 c5 w5 h1 h2 h3; simp only [Nat.zero_add, List.nil_append] at h1 h3; have hP3 := HP1.out.drew.chg (Chg.grownBy h2) (fun e => by simp [Value.ownBlock] at e; omega); have r0 : w5.cell? ⟨p, 0, none⟩ = some (.slice (some ⟨g, 0, none⟩) (0 + 1) 1) := (by rw [hP3.cell]; rfl); have f0 := hP3.fz 0; have HX1 := Lib.hid h1; have HX2 := Lib.hid h2; have HX3 := Lib.hid h3; have HP3 := Lib.hid hP3; clear h1 h2 h3 hP3)
            all_goals
              go_wp2
              refine bodyPost_ret (results_none rfl _ _ _) rfl ⟨rfl, ?_⟩
              refine SetTo.store (l := []) HR2.out HP3.out HR1.out rfl HX1.out (Chg.then ((HNo.out.mono (fun _ _ h => h.elim)).drew) (Chg.grownBy HX2.out) (fun k hk e => .inr e.symm)) ?_
              intro k hk
              rcases HX3.out k hk with h | h
              · exact .inl h
              · have := HNo.out.size; simp at h; exact .inr (by omega)
          · go_region_law (refine step_appS et102 rfl (.tmp 49) (.tmp 56) rfl (.slice (some ⟨g, 0, none⟩) 0 c) 0 [] rfl ?_ (.slice (some ⟨g, 2, none⟩) r.length (c - 1)) rfl r.length (r.flatMap iv2) ?_ ?_ ?_ ?_ ?_ ?_; exact own_less (HL1.out.no (Chg.refl No wx).drew) (m := 0) (by omega); (exact .inl ⟨_, _, rfl, ivs_cells (k := 1) (HL1.out.no (Chg.refl No wx).drew)⟩); (rw [ivs_len]; omega); exact ivs_one _; omega; omega; intro A5 c5 w5 h1 h2 h3; simp only [Nat.zero_add, List.nil_append] at h1 h3; have hP3 := HP1.out.drew.chg (Chg.grownBy h2) (fun e => by simp [Value.ownBlock] at e; omega); have r0 : w5.cell? ⟨p, 0, none⟩ = some (.slice (some ⟨g, 0, none⟩) (r.length + 1) c) := (by rw [hP3.cell]; rfl); have f0 := hP3.fz 0; have HX1 := Lib.hid h1; have HX2 := Lib.hid h2; have HX3 := Lib.hid h3; have HP3 := Lib.hid hP3; clear h1 h2 h3 hP3)
            all_goals
              go_wp2
              refine bodyPost_ret (results_none rfl _ _ _) rfl ⟨rfl, ?_⟩
              refine SetTo.store (l := r) HR2.out HP3.out HR1.out rfl HX1.out (Chg.then ((HNo.out.mono (fun _ _ h => h.elim)).drew) (Chg.grownBy HX2.out) (fun k hk e => .inr e.symm)) ?_
              intro k hk
              rcases HX3.out k hk with h | h
              · exact .inl h
              · have := HNo.out.size; simp at h; exact .inr (by omega)
        · go_wp2
          clear y0 y1 yf yf1 c0 pf
          generalize hq : wr.heap.size = q at *
          have hno : Chg No wr (wr.alloc (.cells #[.int .i64 (-2), .int .i64 0] 104)) := (Chg.refl No wr).alloc _
          have hnw : Blk (wr.alloc (.cells #[.int .i64 (-2), .int .i64 0] 104)) q #[.int .i64 (-2), .int .i64 0] 104 := by subst hq; exact Blk.new _ _ _
          generalize wr.alloc (.cells #[.int .i64 (-2), .int .i64 0] 104) = wx at *
          have hP1 := HB.out.chg hno (fun h => h)
          have hL1 := H5.out.no hno
          have p0 : wx.cell? ⟨p, 0, none⟩ = some (.slice (some ⟨g, 0, none⟩) (r.length + 1) c) := by rw [hP1.cell]; rfl
          have e0 : wx.cell? ⟨q, 0, none⟩ = some (.int .i64 (-2)) := by rw [hnw.cell]; rfl
          have e1 : wx.cell? ⟨q, 1, none⟩ = some (.int .i64 0) := by rw [hnw.cell]; rfl
          have plt := hP1.lt
          have qlt := hnw.lt
          have gp : g ≠ p := Ne.symm hpg
          have gq : g ≠ q := by omega
          have glt2 : g < wx.heap.size := hL1.lt (k := g) rfl
          have yf := hL1.fz 0
          have yf1 := hL1.fz 1
          have y0 : wx.cell? ⟨g, 0, none⟩ = some (.int .i64 (-2)) := hL1.cellAt (ivs_at (l := (-2, 0) :: r) (k := 0) rfl).1
          have y1 : wx.cell? ⟨g, 1, none⟩ = some (.int .i64 0) := hL1.cellAt (ivs_at (l := (-2, 0) :: r) (k := 0) rfl).2
          have HP1 := Lib.hid hP1
          have HL1 := Lib.hid hL1
          have HNo := Lib.hid hno
          have z0 := fun o => (show (wx.alloc o).drew.cell? ⟨g, 0, none⟩ = some (.int .i64 (-2)) from (HL1.out.no ((Chg.refl No wx).alloc o)).cellAt (ivs_at (l := (-2, 0) :: r) (k := 0) rfl).1)
          have z1 := fun o => (show (wx.alloc o).drew.cell? ⟨g, 1, none⟩ = some (.int .i64 0) from (HL1.out.no ((Chg.refl No wx).alloc o)).cellAt (ivs_at (l := (-2, 0) :: r) (k := 0) rfl).2)
          have z2 := fun o => (show (wx.alloc o).drew.frozen? ⟨g, 0, none⟩ = false from (HL1.out.no ((Chg.refl No wx).alloc o)).fz _)
          have z3 := fun o => (show (wx.alloc o).drew.frozen? ⟨g, 1, none⟩ = false from (HL1.out.no ((Chg.refl No wx).alloc o)).fz _)
          clear hP1 hL1 hno hnw
          go_region_held3 (fun w' => w'.cell? ⟨p, 0, none⟩ = some (.slice (some ⟨g, 0, none⟩) (r.length + 1) c) ∧ w'.cell? ⟨q, 0, none⟩ = some (.int .i64 (-2)) ∧ w'.cell? ⟨q, 1, none⟩ = some (.int .i64 0))
            (first | (refine ⟨?_, ?_, ?_⟩ <;> first | assumption | go_keep) | go_keep)
            (first | (go_at_call 100; refine (newInterval_any _ _ _).mono ?_; rintro e w' ⟨rfl, rfl⟩))
          all_goals
            have hL2 : Own (((wx.setCell ⟨g, 0, none⟩ (.int .i64 (IntKind.i64.wrap (-1)))).setCell ⟨g, 1, none⟩ (.int .i64 0)).alloc (.cells #[.int .i64 (IntKind.i64.wrap (-1)), .int .i64 0] 104)).drew 104 2 (.slice (some ⟨g, 0, none⟩) (r.length + 1) c) (r.length + 1) (((-1, 0) :: r).flatMap iv2) :=
              ((HL1.out.set2 (i := 0) (.int .i64 (IntKind.i64.wrap (-1)))).set2 (i := 1) (.int .i64 0)).no ((Chg.refl No _).alloc _).drew
            have hP2 := ((((HP1.out.other (a := ⟨g, 0, none⟩) (Ne.symm gp) (.int .i64 (IntKind.i64.wrap (-1)))).other (a := ⟨g, 1, none⟩) (Ne.symm gp) (.int .i64 0)).alloc (.cells #[.int .i64 (IntKind.i64.wrap (-1)), .int .i64 0] 104))).drew
            have hC2 := (((((Chg.mono (S' := fun k => k = p ∨ (Value.slice (some ⟨g, 0, none⟩) (r.length + 1) c).ownBlock = some k) HNo.out (fun _ _ h => h.elim)).setCell (p := ⟨g, 0, none⟩) (fun _ => .inr rfl) (.int .i64 (IntKind.i64.wrap (-1)))).setCell (p := ⟨g, 1, none⟩) (fun _ => .inr rfl) (.int .i64 0)).alloc (.cells #[.int .i64 (IntKind.i64.wrap (-1)), .int .i64 0] 104))).drew
            generalize (((wx.setCell ⟨g, 0, none⟩ (.int .i64 (IntKind.i64.wrap (-1)))).setCell ⟨g, 1, none⟩ (.int .i64 0)).alloc (.cells #[.int .i64 (IntKind.i64.wrap (-1)), .int .i64 0] 104)).drew = wy at *
            have hR : Pl.canon (m &&& 62) = (-1, 0) :: r := HR1.out.symm
            have hS : SetTo wr wy p (Value.slice (some ⟨g, 0, none⟩) (r.length + 1) c) (m &&& 62) := by
              refine ⟨_, ⟨HR2.out, ⟨ro, hP2⟩, .inr ⟨g, c, ?_, ?_⟩⟩, hC2, fun k hk => .inl hk⟩
              · rw [hR]; rfl
              · rw [hR]; exact hL2
            have HS := Lib.hid hS
            clear hS hL2 hP2 hC2 hR p0 e0 e1 yf yf1 y0 y1 z0 z1 z2 z3
            go_wp2
            refine bodyPost_ret (results_none rfl _ _ _) rfl ⟨rfl, HS.out⟩
end Go.Proofs.YtemdillhbnmjkaaGreatDoor

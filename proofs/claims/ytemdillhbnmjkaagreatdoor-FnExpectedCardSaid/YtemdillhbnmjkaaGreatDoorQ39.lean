/- The search through the network of a grammar: what is wanted of it; the analyzer (40), its Look (41). · What may come behind a state: ZZLook (27), the thin package's Look (10). -/
import Derived.Test.YtemdillhbnmjkaaGreatDoorQ26
import Derived.Test.YtemdillhbnmjkaaGreatDoorQ03
import Derived.Test.YtemdillhbnmjkaaGreatDoorQ38
import Derived.Test.YtemdillhbnmjkaaGreatDoorQ34
namespace Go.Proofs.YtemdillhbnmjkaaGreatDoor
open Go.RowKit

/-- the search through the network of g -/
noncomputable def mkE (g : Pl.Gr) (bot : Bool) (w : World) (la ba : Nat) (bs : List Nat) (p jb cb : Nat) : Env :=
  { w0 := w, la := la, ba := ba, ds := dsOf g, bs := bs, R := g.length, T := T2of (dsOf g) g.length (edOf g), bot := bot, p := p, jb := jb, cb := cb, All := Pl.allCfg g }
theorem tok_toks {t : Int} (h : Pl.TokOk t) : t ∈ Pl.toks := by
  unfold Pl.TokOk at h
  have : t = -1 ∨ t = 1 ∨ t = 2 ∨ t = 3 ∨ t = 4 := by omega
  rcases this with rfl | rfl | rfl | rfl | rfl <;> decide
theorem mkE_row {g : Pl.Gr} (G : Pl.GoodG g) (s : Nat) (d : TD) (hd : d ∈ ((T2of (dsOf g) g.length (edOf g))[s]?).getD []) : TDOk (dsOf g).length g.length d := by
  have h4 := G.states_le
  rw [ds_len]
  by_cases hj : g.length ≤ s ∧ s < 2 * g.length
  · have e : g.length + (s - g.length) = s := by omega
    rw [← e] at hd
    obtain ⟨f, j, rfl, hE⟩ := t2_stop G (by omega) hd
    have := (isEd_ok G hE).2.2
    exact this.2.2
  · rw [t2_row G hj] at hd
    obtain ⟨e, h3, rfl⟩ := List.mem_map.1 hd
    unfold Pl.rowE at h3
    obtain ⟨⟨j', e2⟩, h7, rfl⟩ := List.mem_map.1 h3
    have hE := Pl.allEds_is (List.mem_filter.1 h7).1
    have h5 := (isEd_ok G hE).2.2
    cases e2 with
    | eps x => exact h5
    | call q f => exact ⟨h5.1, rfl, h5.2.2⟩
    | tok x t => exact ⟨h5.1, tok_toks (Pl.isEd_tok G hE)⟩
theorem mkE_fits {g : Pl.Gr} (G : Pl.GoodG g) {bot : Bool} {w : World} {la ba : Nat} {bs : List Nat} (p jb cb : Nat) (hn : ATNv w ba (dsOf g) bs (T2of (dsOf g) g.length (edOf g))) (hla : Blk w la #[.pointer (some ⟨ba, 0, none⟩)] 150) :
    (mkE g bot w la ba bs p jb cb).Fits where
  net := hn
  la := hla
  rules := rules_ok g
  r6 := G.len6
  n0 := by show 0 < (dsOf g).length; rw [ds_len]; have := G.len2; unfold Pl.states; omega
  n := (net_ok G).n
  rn := by show 2 * g.length ≤ (dsOf g).length; rw [ds_len]; unfold Pl.states; omega
  row := fun s d hd => mkE_row G s d hd
  rowlen := by
    intro s
    show (((T2of (dsOf g) g.length (edOf g))[s]?).getD []).length < 1000
    cases h : (T2of (dsOf g) g.length (edOf g))[s]? with
    | none => simp
    | some ts =>
      have hs : s < (dsOf g).length := by
        rw [t2_at] at h
        split at h
        · rw [ds_len]; assumption
        · cases h
      exact (rows_ok G s ts _ h (List.getElem?_eq_getElem hs)).2
  closed := Pl.all_closed G (net_is G) (fun s r d h1 h2 => net_wide G h1 h2)
  allLen := Pl.all_len G
  wide := by
    intro s r d hb hs hd
    obtain ⟨f, rfl, r', a, k, alts, alt, h1, h2, rfl, h4⟩ := net_wide G hs hd
    exact ⟨_, rfl, Pl.pos_ok (net_is G) true G.hsym G.wf h1 h2 k h4⟩
theorem Busy.low {w : World} {bot : Bool} {ds : List Ds} {bs : List Nat} {B B' jb : Nat} {V : List Pl.Cfg} (h : Busy w bot ds bs B jb V) (hB : B' ≤ B) : Busy w bot ds bs B' jb V := by
  obtain ⟨mb, cmp, n, f, F, h1, h2, h3, h4, h5, h6, h7, h8, h9, h10⟩ := h.ex
  exact ⟨mb, cmp, n, f, F, h1, h2, by omega, by omega, fun a v hv => ⟨(h5 a v hv).1, fun k hk => Nat.le_trans hB ((h5 a v hv).2 k hk)⟩, h6, h7, h8, h9, h10⟩

theorem newLL_any (w : World) (ba : Nat) : Calls Tryz.prog 40 #[.pointer (some ⟨ba, 0, none⟩)] w fun e w' => e = .returned (.pointer (some ⟨w.heap.size, 0, none⟩)) ∧ w.alloc (.cells #[.pointer (some ⟨ba, 0, none⟩)] 150) = w' := by
  go_enter Tryz.func40, Tryz.ntmps40
  go_wp2
  go_ret
  exact ⟨rfl, rfl⟩

/-- what Look returns: the set of what can be seen from s -/
def LookRet (g : Pl.Gr) (bot : Bool) (w : World) (s : Nat) (e : Ending) (w' : World) : Prop :=
  ∃ p m, e = .returned (.pointer (some ⟨p, 0, none⟩)) ∧ LookS w' w.heap.size p m ∧ (∀ t, Pl.has m t = true ↔ Pl.TR (netG g.length (T2of (dsOf g) g.length (edOf g))) bot (s, []) t) ∧ Chg No w w'
theorem has_zero (t : Int) : ¬ Pl.has 0 t = true := by unfold Pl.has; simp

set_option maxHeartbeats 1000000 in
set_option maxRecDepth 100000 in
theorem look_any (g : Pl.Gr) (G : Pl.GoodG g) (w : World) (la ba : Nat) (bs : List Nat) (hn : ATNv w ba (dsOf g) bs (T2of (dsOf g) g.length (edOf g))) (hla : Blk w la #[.pointer (some ⟨ba, 0, none⟩)] 150)
    (s : Nat) (hs : s < (dsOf g).length) (hA : (s, []) ∈ Pl.allCfg g) (hok : Pl.Ok (netG g.length (T2of (dsOf g) g.length (edOf g))) false (fun _ => false) s []) :
    Calls Tryz.prog 41 #[.pointer (some ⟨la, 0, none⟩), dv (dsOf g) bs s, .nilIface, .nilIface] w (LookRet g false w s) := by
  obtain ⟨K, sb, hdv, _⟩ := hn.stNum s hs
  have HL := Lib.hid (fun p jb cb => look1_all (mkE g false w la ba bs p jb cb) (mkE_fits G p jb cb hn hla) (s := s) (k := []) (V := []) (C := 0) hs (by simp) hA (by decide) (by
    have e : (fun x => Nat.testBit 0 x) = fun _ => false := by funext x; simp
    rw [e]; exact hok))
  have HDV := Lib.hid hdv
  rw [hdv]
  clear hn hla hs hA hok hdv
  go_enter Tryz.func41, Tryz.ntmps41
  go_wp2_with (first | (go_at_call 49; refine (newSet_any _).mono ?_; rintro e w' ⟨rfl, rfl⟩))
  refine (newStore_any _ false (dsOf g) bs _ _ _).mono ?_
  rintro e w2 ⟨jb, rfl, h1, h2⟩
  have hsz := h2.size
  simp only [World.size_alloc] at hsz h1
  have hc2 : Chg No w w2 := (((Chg.refl No w).alloc _).alloc _).trans h2
  have hp2 := ((Blk.new w #[.slice none 0 0, .bool false] 145).alloc (.cells #[] 163)).chg h2 (fun h => h)
  have hat : (mkE g false w la ba bs w.heap.size jb w2.heap.size).At (w2.alloc (.cells #[.slice none 0 0] 221)) 0 [] 0 := by
    refine ⟨hc2.alloc _, ⟨by decide, Nat.le_refl _, .slice none 0 0, false, hp2.alloc _, .inl ⟨rfl, rfl⟩⟩, ?_, ⟨by decide, hc2.size, .slice none 0 0, Blk.new _ _ _, .inl ⟨rfl, rfl⟩⟩, List.nodup_nil, by simp⟩
    exact (h1.low (show w.heap.size ≤ w.heap.size + 1 + 1 by omega)).no ((Chg.refl No _).alloc _)
  have hl := HL.out w.heap.size jb w2.heap.size (w2.alloc (.cells #[.slice none 0 0] 221)) (.pointer none) 0 hat rfl
  have hl' : Calls Tryz.prog 51 #[.pointer (some ⟨la, 0, none⟩), dv (dsOf g) bs s, .nilIface, .pointer none, .pointer (some ⟨w.heap.size, 0, none⟩), .pointer (some ⟨jb, 0, none⟩), .pointer (some ⟨w2.heap.size, 0, none⟩), .bool true, .bool true] (w2.alloc (.cells #[.slice none 0 0] 221)) _ := hl
  rw [HDV.out] at hl'
  have H1 := Lib.hid hl'
  clear hl hl' hat hp2 hc2 h1 h2 hsz
  go_wp2_with (first | (go_at_call 53; refine (newBits_any _).mono ?_; rintro e w' ⟨rfl, rfl⟩))
  refine H1.out.mono ?_
  rintro e w3 ⟨rfl, m', V', h1, h2, h3⟩
  have H2 := Lib.hid h1.look
  have H3 := Lib.hid h1.base
  have H4 := Lib.hid (Pl.Grow.all h2 has_zero)
  clear h1 h2 h3
  go_wp2
  go_ret
  exact ⟨w.heap.size, m', rfl, H2.out, H4.out, H3.out⟩
end Go.Proofs.YtemdillhbnmjkaaGreatDoor
namespace Go.Proofs.YtemdillhbnmjkaaGreatDoor
open Go.RowKit

def LookRet2 (g : Pl.Gr) (bot : Bool) (w : World) (s : Nat) (e : Ending) (w' : World) : Prop :=
  ∃ p m B, e = .returned (.pointer (some ⟨p, 0, none⟩)) ∧ LookS w' B p m ∧ (∀ t, Pl.has m t = true ↔ Pl.TR (netG g.length (T2of (dsOf g) g.length (edOf g))) bot (s, []) t) ∧ Chg No w w'

set_option maxHeartbeats 1000000 in
set_option maxRecDepth 100000 in
theorem zzlook_any (g : Pl.Gr) (G : Pl.GoodG g) (w : World) (ba : Nat) (bs : List Nat) (hn : ATNv w ba (dsOf g) bs (T2of (dsOf g) g.length (edOf g)))
    (s : Nat) (hs : s < (dsOf g).length) (hA : (s, []) ∈ Pl.allCfg g) (hok : Pl.Ok (netG g.length (T2of (dsOf g) g.length (edOf g))) false (fun _ => false) s []) :
    Calls Tryz.prog 27 #[.pointer (some ⟨ba, 0, none⟩), .int .i64 (s : Int), .int .i64 (-1), .bool false, .slice none 0 0] w (LookRet2 g false w s) := by
  have hnl := (net_ok G).n
  obtain ⟨gg, cp, a9, asx⟩ := hn.states (by omega)
  have as_ := asx s hs
  obtain ⟨K, sb, hdv, _⟩ := hn.stNum s hs
  have hl := fun W la (hc : Chg No w W) (hla : Blk W la #[.pointer (some ⟨ba, 0, none⟩)] 150) => look_any g G W la ba bs (hn.no hc) hla s hs hA hok
  rw [hdv] at as_ hl
  have HL := Lib.hid hl
  have s0 : (0 : Int) ≤ (s : Int) := by omega
  have s1 : (s : Int) < ((dsOf g).length : Int) := by omega
  have b9 := World.new_ne w _ a9
  have bs_ := World.new_ne w _ as_
  clear hn hA hok asx hdv hl
  go_enter Tryz.func27, Tryz.ntmps27
  go_wp2
  go_region_held3 (fun w' => Chg No w w' ∧ w'.cell? ⟨ba, 9, none⟩ = some (.slice (some ⟨gg, 0, none⟩) (dsOf g).length cp) ∧ w'.cell? ⟨gg, s, none⟩ = some (.iface K.ptr (.pointer (some ⟨sb, 0, none⟩))))
    (refine ⟨?_, ?_, ?_⟩ <;> first | with_reducible assumption | with_reducible exact (Chg.refl No w).drew | with_reducible exact ((Chg.refl No w).drew).alloc _ | with_reducible exact ((Chg.refl No w).alloc _).drew | go_keep)
    (first | (go_at_call 40; refine (newLL_any _ _).mono ?_; rintro e w' ⟨rfl, rfl⟩) | (go_at_call 41; have hch := (‹Chg No w _ ∧ _ ∧ _›).1; refine (HL.out _ _ hch (Blk.at_new (by simp) _ _)).mono ?_; rintro e w' ⟨p, m, rfl, h1, h2, h3⟩; have hx := hch.trans h3; have c9 := Chg.kept hx a9 (fun h => h); have cs := Chg.kept hx as_ (fun h => h)))
  have HX := Lib.hid (show LookRet2 g false w s (.returned (.pointer (some ⟨p, 0, none⟩))) _ from ⟨p, m, _, rfl, h1, h2, hx⟩)
  clear h1 h2 hx
  go_wp2
  go_ret
  exact HX.out

/-- a row of ranges: what can be seen from s -/
def RangeRet (g : Pl.Gr) (bot : Bool) (w : World) (s : Nat) (e : Ending) (w' : World) : Prop :=
  ∃ v m, e = .returned v ∧ m < 64 ∧ Own w' 67 2 v (Pl.canon m).length ((Pl.canon m).flatMap iv2) ∧ (∀ t, Pl.has m t = true ↔ Pl.TR (netG g.length (T2of (dsOf g) g.length (edOf g))) bot (s, []) t) ∧ Chg No w w'
/-- the network of g as the thin package takes it -/
structure NetVal (w : World) (g : Pl.Gr) (vS vR vE vD : Value) : Prop where
  s : Own w 82 3 vS (dsOf g).length ((dsOf g).flatMap st3)
  r : Own w 3 1 vR g.length ((List.range g.length).map fun x => .int .i64 (x : Nat))
  e : Own w 85 6 vE (edOf g).length ((edOf g).flatMap ed6)
  d : Own w 3 1 vD g.length ((decOf g).map fun x => .int .i64 (x : Nat))
theorem NetVal.no {w w' : World} {g : Pl.Gr} {vS vR vE vD : Value} (h : NetVal w g vS vR vE vD) (hc : Chg No w w') : NetVal w' g vS vR vE vD := ⟨h.s.no hc, h.r.no hc, h.e.no hc, h.d.no hc⟩
theorem buildN_any (g : Pl.Gr) (G : Pl.GoodG g) (w : World) (vS vR vE vD : Value) (h : NetVal w g vS vR vE vD) :
    Calls Tryz.prog 28 #[.agg #[.int .i64 4, vS, vR, vE, vD]] w fun e w' => ∃ ba bs, e = .returned (.pointer (some ⟨ba, 0, none⟩)) ∧ ATNw w' ba (dsOf g) bs g.length (T2of (dsOf g) g.length (edOf g)) ∧ Chg No w w' ∧ w.heap.size ≤ ba ∧ (∀ b ∈ bs, w.heap.size ≤ b) := by
  have hdl : (decOf g).length = g.length := by unfold decOf; simp
  have h6 := G.len6
  have h2 := G.len2
  refine build_any w 4 vS vR vE vD (dsOf g) g.length (edOf g) (decOf g) (net_fits G) (net_ok G) h.s ?_ h.e (by rw [hdl]; exact h.d) (by omega) ?_
  · refine Own.ri ?_
    have e : (upto 0 g.length) = (List.range g.length).map fun (x : Nat) => (x : Int) := by unfold upto; simp
    rw [e, List.length_map, List.length_range, List.map_map]
    exact h.r
  · intro x hx
    unfold decOf at hx
    simp at hx
    obtain ⟨y, hy, rfl⟩ := hx
    omega
set_option maxHeartbeats 1000000 in
set_option maxRecDepth 100000 in
theorem implLook_any (g : Pl.Gr) (G : Pl.GoodG g) (w : World) (vS vR vE vD : Value) (h : NetVal w g vS vR vE vD)
    (s : Nat) (hs : s < (dsOf g).length) (hA : (s, []) ∈ Pl.allCfg g) (hok : Pl.Ok (netG g.length (T2of (dsOf g) g.length (edOf g))) false (fun _ => false) s []) :
    Calls Tryz.prog 10 #[.agg #[.int .i64 4, vS, vR, vE, vD], .int .i64 (s : Int)] w (RangeRet g false w s) := by
  have HB := Lib.hid (buildN_any g G (w.alloc (.cells #[.int .i64 4, vS, vR, vE, vD] 39)) vS vR vE vD (h.no ((Chg.refl No _).alloc _)))
  have HZ := Lib.hid (fun w1 ba bs (hn : ATNw w1 ba (dsOf g) bs g.length (T2of (dsOf g) g.length (edOf g))) => zzlook_any g G w1 ba bs hn.view s hs hA hok)
  obtain ⟨AS, cS, rfl⟩ := h.s.slice
  obtain ⟨AR, cR, rfl⟩ := h.r.slice
  obtain ⟨AE, cE, rfl⟩ := h.e.slice
  obtain ⟨AD, cD, rfl⟩ := h.d.slice
  clear h hA hok hs
  go_enter Tryz.func10, Tryz.ntmps10
  go_wp2_with fail
  refine HB.out.mono ?_
  rintro e w1 ⟨ba, bs, rfl, h1, h2, h3, h4⟩
  have HZ1 := Lib.hid (HZ.out w1 ba bs h1)
  have HC1 := Lib.hid (((Chg.refl No w).alloc _).trans h2)
  clear h1 h2 h3 h4 HB
  go_wp2_with fail
  refine HZ1.out.mono ?_
  rintro e w2 ⟨p, m, B, rfl, h1, h2, h3⟩
  have HR := Lib.hid (ranges_any w2 B p m h1)
  have hm := h1.1
  have HT := Lib.hid h2
  have HC2 := Lib.hid (HC1.out.trans h3)
  clear h1 h2 h3
  go_wp2_with fail
  refine HR.out.mono ?_
  rintro e w3 ⟨v, rfl, h1⟩
  have HX := Lib.hid (show RangeRet g false w s (.returned v) w3 from ⟨v, m, rfl, hm, h1.own, HT.out, HC2.out.trans h1.chg⟩)
  obtain ⟨A3, c3, rfl⟩ := h1.own.slice
  clear h1
  go_wp2
  go_ret
  exact HX.out
end Go.Proofs.YtemdillhbnmjkaaGreatDoor

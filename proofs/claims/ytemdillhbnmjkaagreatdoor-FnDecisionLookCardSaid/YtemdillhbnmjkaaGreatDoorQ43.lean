/- What the alternatives of a decision begin with: ZZDecisionLookahead (32), the thin package's DecisionLook (15). · The ranges of each alternative's set: the thin package's DecisionLook (15). -/
import Derived.Test.YtemdillhbnmjkaaGreatDoorQ42
import Derived.Test.YtemdillhbnmjkaaGreatDoorQ39
namespace Go.Proofs.YtemdillhbnmjkaaGreatDoor
open Go.RowKit

/-- a row of sets, one for each alternative -/
def DecRet2 (g : Pl.Gr) (r n : Nat) (w : World) (e : Ending) (w' : World) : Prop :=
  ∃ (q B : Nat) (us : List Value), e = .returned (.slice (some ⟨q, 0, none⟩) n n) ∧ us.length = n ∧ Blk w' q us.toArray 71 ∧ (∀ (i : Nat) u, us[i]? = some u → ∃ m, AltSet g r i m ∧ SetP w' B u m) ∧ Chg No w w'
theorem DecRet.two {g : Pl.Gr} {r n : Nat} {w0 w w' : World} {e : Ending} (h : DecRet g r n w e w') (hc : Chg No w0 w) : DecRet2 g r n w0 e w' := by
  obtain ⟨q, rfl, hd⟩ := h
  obtain ⟨us, h1, h2, h3⟩ := hd.ex
  exact ⟨q, _, us, rfl, h1, h2, fun i u hi => h3 i u hi (by have := (List.getElem?_eq_some_iff.1 hi).1; omega), hc.trans hd.chg⟩

set_option maxHeartbeats 1000000 in
set_option maxRecDepth 100000 in
theorem zzDec_any (g : Pl.Gr) (G : Pl.GoodG g) (w : World) (ba : Nat) (bs : List Nat) (hn : ATNv w ba (dsOf g) bs (T2of (dsOf g) g.length (edOf g)))
    (r : Nat) (alts : List (List Int)) (hr : g[r]? = some alts) (hal : alts.length < 1000) (s : Nat) (hs : s = 2 * g.length + r) :
    Calls Tryz.prog 32 #[.pointer (some ⟨ba, 0, none⟩), .int .i64 (s : Int)] w (DecRet2 g r alts.length w) := by
  have hnl := (net_ok G).n
  have hrl := (List.getElem?_eq_some_iff.1 hr).1
  have hsl : s < (dsOf g).length := by rw [ds_len, hs]; unfold Pl.states; omega
  obtain ⟨gg, cp, a9, asx⟩ := hn.states (by omega)
  have as_ := asx s hsl
  obtain ⟨K, sb, hdv, _⟩ := hn.stNum s hsl
  have hl := fun W la (hc : Chg No w W) (hla : Blk W la #[.pointer (some ⟨ba, 0, none⟩)] 150) => getDec_any g G W la ba bs (hn.no hc) hla r alts hr hal
  rw [← hs] at hl
  rw [hdv] at as_ hl
  have HL := Lib.hid hl
  have s0 : (0 : Int) ≤ (s : Int) := by omega
  have s1 : (s : Int) < ((dsOf g).length : Int) := by omega
  have b9 := World.new_ne w _ a9
  have bs_ := World.new_ne w _ as_
  generalize alts.length = n at *
  clear hn asx hdv hl hr hs
  go_enter Tryz.func32, Tryz.ntmps32
  go_wp2
  go_region_held3 (fun w' => Chg No w w' ∧ w'.cell? ⟨ba, 9, none⟩ = some (.slice (some ⟨gg, 0, none⟩) (dsOf g).length cp) ∧ w'.cell? ⟨gg, s, none⟩ = some (.iface K.ptr (.pointer (some ⟨sb, 0, none⟩))))
    (refine ⟨?_, ?_, ?_⟩ <;> first | with_reducible assumption | with_reducible exact (Chg.refl No w).drew | with_reducible exact ((Chg.refl No w).drew).alloc _ | with_reducible exact ((Chg.refl No w).alloc _).drew | go_keep)
    (first | (go_at_call 40; refine (newLL_any _ _).mono ?_; rintro e w' ⟨rfl, rfl⟩) | (go_at_call 44; have hch := (‹Chg No w _ ∧ _ ∧ _›).1; refine (HL.out _ _ hch (Blk.at_new (by simp) _ _)).mono ?_; intro e w' hd0; obtain ⟨q, B, us, rfl, h1, h2, h3, hx⟩ := hd0.two hch; have c9 := Chg.kept hx a9 (fun h => h); have cs := Chg.kept hx as_ (fun h => h)))
  have HX := Lib.hid (show DecRet2 g r n w (.returned (.slice (some ⟨q, 0, none⟩) n n)) _ from ⟨q, B, us, rfl, h1, h2, h3, hx⟩)
  clear h1 h2 h3 hx
  go_wp2
  go_ret
  exact HX.out

theorem ranges_nil (w : World) : Calls Tryz.prog 26 #[.pointer none] w fun e w' => e = .returned (.slice none 0 0) ∧ w = w' := by
  go_enter Tryz.func26, Tryz.ntmps26
  go_wp2
  go_ret
  exact ⟨rfl, rfl⟩
/-- the ranges of a set, or of none -/
theorem rangesP_any (w : World) (B : Nat) (u : Value) (m : Nat) (h : SetP w B u m) : Calls Tryz.prog 26 #[u] w fun e w' => ∃ v, e = .returned v ∧ Own w' 67 2 v (Pl.canon m).length ((Pl.canon m).flatMap iv2) ∧ Chg No w w' := by
  rcases h with ⟨rfl, rfl⟩ | ⟨p, rfl, h⟩
  · refine (ranges_nil w).mono ?_
    rintro e w' ⟨rfl, rfl⟩
    exact ⟨_, rfl, by rw [canon_zero]; exact World.ownsRow_nil _ _ _ _, Chg.refl _ _⟩
  · refine (ranges_any w B p m h).mono ?_
    rintro e w' ⟨v, rfl, h1⟩
    exact ⟨v, rfl, h1.own, h1.chg⟩
end Go.Proofs.YtemdillhbnmjkaaGreatDoor
namespace Go.Proofs.YtemdillhbnmjkaaGreatDoor
open Go.RowKit

/-- v holds the ranges of the set m -/
def RgM (w : World) (v : Value) (m : Nat) : Prop := Own w 67 2 v (Pl.canon m).length ((Pl.canon m).flatMap iv2)
theorem rgM_no : KeepNo RgM := fun _ _ _ _ h hc => Own.no h hc
theorem rgM_t : KeepT 33 RgM := fun _ _ _ _ h hc => TChg.own hc h (by decide)
theorem et45 : ET 45 33 (.slice none 0 0) 1 24 := ⟨by kernel_rfl, by kernel_rfl, rfl, by decide⟩
theorem pick_list {α : Type} {n : Nat} {p : Nat → α → Prop} (h : ∀ i, i < n → ∃ x, p i x) : ∃ ys : List α, ys.length = n ∧ ∀ (i : Nat) y, ys[i]? = some y → p i y := by
  induction n with
  | zero => exact ⟨[], rfl, fun i y hi => by simp at hi⟩
  | succ n ih =>
    obtain ⟨ys, h1, h2⟩ := ih (fun i hi => h i (by omega))
    obtain ⟨x, hx⟩ := h n (by omega)
    refine ⟨ys ++ [x], by simp [h1], fun i y hi => ?_⟩
    rcases Nat.lt_or_ge i ys.length with h3 | h3
    · rw [List.getElem?_append_left h3] at hi
      exact h2 i y hi
    · rw [List.getElem?_append_right h3] at hi
      rcases Nat.lt_or_ge 0 (i - ys.length) with h4 | h4
      · rw [List.getElem?_eq_none (by simp; omega)] at hi
        cases hi
      · have h5 : i = n := by omega
        subst h5
        rw [show i - ys.length = 0 by omega] at hi
        simp at hi
        subst hi
        exact hx
/-- 'append(v, x)': beside it nothing of another type has changed -/
theorem wp_snoc2 {α : Type} {w : World} {ops : Array Oper} {rest : List Oper} {o : Oper} {a : Act} {Q : Exit → Act → World → Prop} {t e : TypeId} {z : Value} {bytes : Nat} (E : ET t e z 1 bytes)
    (hg : o.guard = none) (s x : Operand) (hop : o.op = Op.call { callee := Callee.builtin Builtin.append, args := #[s, x], argTypes := #[t, t] })
    {R : World → Value → α → Prop} (hR : KeepT e R) {B : World} (v : Value) (xs : List α) (hs : a.eval s = v) (h : New e R B w v xs)
    (q : Nat) (hx : a.eval x = .slice (some ⟨q, 0, none⟩) 1 1) (u : Value) (y : α) (hq : Blk w q #[u] e) (h1 : u.oneCell' = true) (hy : R w u y)
    (hb : (xs.length + 1) * bytes ≤ 140737488355328) (h63 : xs.length + 1 ≤ 9223372036854775807)
    (hK : ∀ (g c' : Nat) (w' : World), New e R B w' (.slice (some ⟨g, 0, none⟩) (xs.length + 1) c') (xs ++ [y]) → TChg [e] w w' → wpList Tryz.prog ops Q rest (a.put o.dst (.slice (some ⟨g, 0, none⟩) (xs.length + 1) c')) w') :
    wpList Tryz.prog ops Q (o :: rest) a w := by
  obtain ⟨⟨vs, h2, h3, h4⟩, h5, h6⟩ := h
  refine wp_app E hg s x hop v xs.length vs hs h2 q hx [u] hq rfl (by simpa using h1) hb h63 (fun g c' w' h7 h8 h9 => ?_)
  have hT : TChg [e] w w' := TChg.of (Chg.grownBy h8) (by
    rintro k hk _
    obtain ⟨cur, hcur⟩ := h2.own hk.symm
    exact ⟨_, _, hcur, by simp⟩)
  refine hK g c' w' ⟨TdL.snoc h7 h3 (fun i u x a b => hR _ _ _ _ (h4 i u x a b) hT) (hR _ _ _ _ hy hT), ?_, ?_⟩ hT
  · intro k hk
    simp [Value.ownBlock] at hk
    subst hk
    rcases h9 with h9 | rfl
    · exact h5 _ h9
    · exact h6.size
  · exact h6.grown h8 (fun k hk hlt => absurd hlt (by have := h5 k hk; omega))
theorem LookS.tchg {Ts : List TypeId} {w w' : World} {B p m : Nat} (h : LookS w B p m) (hc : TChg Ts w w') (h1 : (145 : TypeId) ∉ Ts) (h2 : (104 : TypeId) ∉ Ts) : LookS w' B p m :=
  h.off hc (fun k hk _ => by obtain ⟨c, T, hb, hT⟩ := hk; exact ⟨c, T, hb, fun e => h1 (e ▸ hT), fun e => h2 (e ▸ hT)⟩)
theorem SetP.tchg {Ts : List TypeId} {w w' : World} {B m : Nat} {u : Value} (h : SetP w B u m) (hc : TChg Ts w w') (h1 : (145 : TypeId) ∉ Ts) (h2 : (104 : TypeId) ∉ Ts) : SetP w' B u m := by
  rcases h with h | ⟨p, a, b⟩
  · exact .inl h
  · exact .inr ⟨p, a, b.tchg hc h1 h2⟩

/-- what DecisionLook returns: the ranges of each alternative's set -/
def DecVal (g : Pl.Gr) (r n : Nat) (w : World) (e : Ending) (w' : World) : Prop :=
  ∃ v ms, e = .returned v ∧ ms.length = n ∧ (∀ (i : Nat) m, ms[i]? = some m → AltSet g r i m) ∧ New 33 RgM w w' v ms

set_option maxHeartbeats 2000000 in
set_option maxRecDepth 100000 in
theorem implDec_any (g : Pl.Gr) (G : Pl.GoodG g) (w : World) (vS vR vE vD : Value) (h : NetVal w g vS vR vE vD)
    (r : Nat) (alts : List (List Int)) (hr : g[r]? = some alts) (hal : alts.length < 1000) (s : Nat) (hs : s = 2 * g.length + r) :
    Calls Tryz.prog 15 #[.agg #[.int .i64 4, vS, vR, vE, vD], .int .i64 (s : Int)] w (DecVal g r alts.length w) := by
  have HB := Lib.hid (buildN_any g G ((w.alloc (.cells #[.int .i64 4, vS, vR, vE, vD] 39)).alloc (.cells #[] 33)) vS vR vE vD ((h.no ((Chg.refl No _).alloc _)).no ((Chg.refl No _).alloc _)))
  have HZ := Lib.hid (fun w1 ba bs (hn : ATNw w1 ba (dsOf g) bs g.length (T2of (dsOf g) g.length (edOf g))) => zzDec_any g G w1 ba bs hn.view r alts hr hal s hs)
  obtain ⟨AS, cS, rfl⟩ := h.s.slice
  obtain ⟨AR, cR, rfl⟩ := h.r.slice
  obtain ⟨AE, cE, rfl⟩ := h.e.slice
  obtain ⟨AD, cD, rfl⟩ := h.d.slice
  generalize alts.length = n at *
  clear h hs hr
  go_enter Tryz.func15, Tryz.ntmps15
  go_wp2_with fail
  refine HB.out.mono ?_
  rintro e w1 ⟨ba, bs, rfl, h1, h2, h3, h4⟩
  have HZ1 := Lib.hid (HZ.out w1 ba bs h1)
  have hN : New 33 RgM w (((w.alloc (.cells #[.int .i64 4, .slice AS (dsOf g).length cS, .slice AR g.length cR, .slice AE (edOf g).length cE, .slice AD g.length cD] 39)).alloc (.cells #[] 33))) (.slice (some ⟨w.heap.size + 1, 0, none⟩) 0 0) [] := by
    have := New.made (e := 33) (R := RgM) (((Chg.refl No w).alloc (.cells #[.int .i64 4, .slice AS (dsOf g).length cS, .slice AR g.length cR, .slice AE (edOf g).length cE, .slice AD g.length cD] 39)))
    simpa using this
  have HN1 := Lib.hid (hN.no rgM_no h2)
  clear h1 h2 h3 h4 HB hN
  go_wp2_with fail
  refine HZ1.out.mono ?_
  rintro e w2 ⟨q, B, us, rfl, h1, h2, h3, h4⟩
  have HN2 := Lib.hid (HN1.out.no rgM_no h4)
  have HQ := Lib.hid h2
  have HS := Lib.hid h3
  clear h2 h3 h4 HZ1 HN1 HZ
  go_wp2
  go_loopw [5, 14] (fun v i wr => ∃ (j : Nat) (ms : List Nat), j ≤ n ∧ i = .int .i64 (j : Int) ∧ ms.length = j ∧ (∀ (i : Nat) m, ms[i]? = some m → AltSet g r i m) ∧ New 33 RgM w wr v ms ∧ TChg [33] w2 wr) (fun _ i _ => n - (intOf i).toNat)
  case atStart => exact ⟨0, [], Nat.zero_le _, rfl, rfl, fun i m hi => by simp at hi, HN2.out, TChg.refl _ _⟩
  case round =>
    obtain ⟨j, ms, hj, rfl, hml, hms, hn, ht⟩ := hrel
    by_cases hlt : j < n
    · obtain ⟨u, hu⟩ : ∃ u, us[j]? = some u := ⟨_, List.getElem?_eq_getElem (by omega)⟩
      obtain ⟨m, m1, m2⟩ := HS.out j u hu
      have cq : wr.cell? ⟨q, j, none⟩ = some u := by rw [(ht.blk HQ.out (by decide)).cell]; simpa using hu
      have hrg := rangesP_any wr B u m (m2.tchg ht (by decide) (by decide))
      have j0 : (0 : Int) ≤ (j : Int) := by omega
      have j1 : (j : Int) < (n : Int) := by omega
      have hsl := New.slice hn
      rw [hml] at hsl
      obtain ⟨A3, c3, rfl⟩ := hsl
      have HRg := Lib.hid hrg
      have HM1 := Lib.hid m1
      have HMs := Lib.hid hms
      have HN := Lib.hid hn
      have HT := Lib.hid ht
      clear hrg m1 m2 hms hn ht hu
      go_wp2_with fail
      refine HRg.out.mono ?_
      rintro e w4 ⟨v4, rfl, h5, h6⟩
      have H5 := Lib.hid h5
      have H6 := Lib.hid h6
      obtain ⟨A4, c4, rfl⟩ := h5.slice
      clear h5 h6
      go_wp2_with (first | (at_builtin; refine wp_snoc2 et45 rfl _ _ rfl rgM_t (.slice A3 j c3) ms rfl ((HN.out.no rgM_no H6.out).no rgM_no ((Chg.refl No w4).alloc _)) _ rfl _ m (Blk.at_new (by simp) _ _) rfl (rgM_no _ _ _ _ H5.out ((Chg.refl No w4).alloc _)) ?c1 ?c2 ?c3))
      case c1 => omega
      case c2 => omega
      case c3 =>
        intro g2 c2 w5 h7 h8
        have H7 := Lib.hid h7
        have HT5 := Lib.hid ((((HT.out.trans (TChg.no H6.out))).trans (TChg.no ((Chg.refl No w4).alloc _))).trans h8)
        clear h7 h8
        go_wp2
        go_roundw
        case rel =>
          refine ⟨j + 1, ms ++ [m], by omega, by go_num, by simp [hml], fun i m' hi => ?_, H7.out, HT5.out⟩
          rcases Nat.lt_trichotomy i ms.length with h9 | h9 | h9
          · rw [List.getElem?_append_left h9] at hi
            exact HMs.out i m' hi
          · subst h9
            simp at hi
            subst hi
            rw [hml]
            exact HM1.out
          · rw [List.getElem?_eq_none (by simp; omega)] at hi
            cases hi
        case measure => simp [intOf]; omega
    · obtain rfl : j = n := by omega
      obtain ⟨A3, c3, rfl⟩ := New.slice hn
      have HX := Lib.hid (show DecVal g r j w (.returned (.slice A3 ms.length c3)) wr from ⟨_, ms, rfl, hml, hms, hn⟩)
      clear hms hn ht
      go_wp2
      go_ret
      exact HX.out
end Go.Proofs.YtemdillhbnmjkaaGreatDoor

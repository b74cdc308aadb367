/- Whether something is stated of a grammar (8). -/
import Derived.Test.YtemdillhbnmjkaaGreatDoorQ30
namespace Go.Proofs.YtemdillhbnmjkaaGreatDoor
open Go.RowKit

def SymGood (R r : Nat) (s : Int) : Prop := 0 < r → (1 ≤ s ∧ s ≤ 4) ∨ (s ≤ -100 ∧ 1 ≤ Pl.idx s ∧ Pl.idx s < R)
def AltGood (R r : Nat) (alt : List Int) : Prop := alt.length ≤ 5 ∧ ∀ s ∈ alt, SymGood R r s
def RuleGood (R r : Nat) (alts : List (List Int)) : Prop := 1 ≤ alts.length ∧ alts.length ≤ 4 ∧ ∀ alt ∈ alts, AltGood R r alt
/-- the first n rules are good -/
def UptoR (g : Pl.Gr) (n : Nat) : Prop := ∀ r alts, r < n → g[r]? = some alts → RuleGood g.length r alts
theorem UptoR.zero {g : Pl.Gr} : UptoR g 0 := fun _ _ h => absurd h (Nat.not_lt_zero _)
theorem UptoR.succ {g : Pl.Gr} {n : Nat} {alts : List (List Int)} (h : UptoR g n) (hn : g[n]? = some alts) (hr : RuleGood g.length n alts) : UptoR g (n + 1) := by
  intro r x hr' hx
  rcases Nat.lt_succ_iff_lt_or_eq.1 hr' with h1 | rfl
  · exact h r x h1 hx
  · rw [hn] at hx; cases hx; exact hr
/-- none of the first n rules begins with itself -/
def NoLeft (g : Pl.Gr) (n : Nat) : Prop := ∀ r, r < n → Pl.gb (Pl.row (Pl.leftOf g) r) r = false
theorem NoLeft.zero {g : Pl.Gr} : NoLeft g 0 := fun _ h => absurd h (Nat.not_lt_zero _)
theorem NoLeft.succ {g : Pl.Gr} {n : Nat} (h : NoLeft g n) (hn : Pl.gb (Pl.row (Pl.leftOf g) n) n = false) : NoLeft g (n + 1) := by
  intro r hr
  rcases Nat.lt_succ_iff_lt_or_eq.1 hr with h1 | rfl
  · exact h r h1
  · exact hn
/-- it returns a truth, and if it is true, p -/
def TellN (p : Prop) (w : World) (e : Ending) (w' : World) : Prop := ∃ b : Bool, e = .returned (.bool b) ∧ (b = true → p) ∧ Chg No w w'
theorem No2.tell {p : Prop} {w : World} {e : Ending} {w' : World} (h : No2 w e w') : TellN p w e w' := ⟨false, h.1, fun h => by (cases h), h.2⟩

section
theorem good_gb {g : Pl.Gr} (h2 : 2 ≤ g.length) (h6 : g.length ≤ 6) (h0 : g[0]? = some [[-101, -1]]) (hu : UptoR g g.length) (hi : ∀ alts ∈ g, ∀ alt ∈ alts, ∀ s ∈ alt, InI s) : GB g where
  l := h6
  a alts ha := by
    obtain ⟨r, hr⟩ := List.getElem?_of_mem ha
    exact (hu r alts (List.getElem?_eq_some_iff.1 hr).1 hr).2.1
  s alts ha alt hb := by
    obtain ⟨r, hr⟩ := List.getElem?_of_mem ha
    exact ((hu r alts (List.getElem?_eq_some_iff.1 hr).1 hr).2.2 alt hb).1
  i alts ha alt hb s hs := by
    refine ⟨hi alts ha alt hb s hs, fun hle => ?_⟩
    obtain ⟨r, hr⟩ := List.getElem?_of_mem ha
    rcases Nat.eq_zero_or_pos r with rfl | hp
    · rw [h0] at hr
      cases hr
      simp at hb
      subst hb
      simp at hs
      rcases hs with rfl | rfl
      · show (-100 - -101 : Int).toNat < _; simp; omega
      · omega
    · rcases ((hu r alts (List.getElem?_eq_some_iff.1 hr).1 hr).2.2 alt hb).2 s hs hp with h | h
      · omega
      · exact h.2.2
theorem good_goodG {g : Pl.Gr} (h2 : 2 ≤ g.length) (h6 : g.length ≤ 6) (h0 : g[0]? = some [[-101, -1]]) (hu : UptoR g g.length) (hl : NoLeft g g.length) : Pl.GoodG g where
  len2 := h2
  len6 := h6
  first := h0
  alts r alts hr := ⟨(hu r alts (List.getElem?_eq_some_iff.1 hr).1 hr).1, (hu r alts (List.getElem?_eq_some_iff.1 hr).1 hr).2.1⟩
  alt r alts alt hr ha := ((hu r alts (List.getElem?_eq_some_iff.1 hr).1 hr).2.2 alt ha).1
  syms r alts alt hp hr ha s hs := by
    rcases ((hu r alts (List.getElem?_eq_some_iff.1 hr).1 hr).2.2 alt ha).2 s hs hp with h | h
    · exact .inl h
    · exact .inr ⟨Pl.idx s, h.2.1, h.2.2, (Pl.ofR_idx h.1).symm⟩
  left r hr := hl r hr
end

set_option maxHeartbeats 2000000 in
set_option maxRecDepth 100000 in
theorem good_main (w : World) (v : Value) (g : Pl.Gr) (hv : Rd3 w v g) (hf : Fits1 g) (hi : ∀ alts ∈ g, ∀ alt ∈ alts, ∀ s ∈ alt, InI s) (hg2 : 2 ≤ g.length) (hg6 : g.length ≤ 6) (h0 : g[0]? = some [[-101, -1]]) :
    Calls Tryz.prog 8 #[v] w (TellN (Pl.GoodG g) w) := by
  obtain ⟨A, c, rfl⟩ := hv.slice
  have HV := Lib.hid hv
  obtain ⟨b, o, A1, c1, rfl, e1, r1⟩ := Rd3.at_ hv h0
  obtain ⟨b2, o2, A2, c2, rfl, e2, r2⟩ := Rd2.at_ r1 (i := 0) (x := [-101, -1]) rfl
  obtain ⟨b3, o3, hA, e3⟩ := Rd1.at_ r2 (i := 0) (x := -101) rfl
  obtain ⟨b4, o4, hA', e4⟩ := Rd1.at_ r2 (i := 1) (x := -1) rfl
  rw [hA] at hA'
  cases hA'
  subst hA
  have k1 := fun n => show (w.drewN n).cell? ⟨b, o, none⟩ = _ from e1
  have k2 := fun n => show (w.drewN n).cell? ⟨b2, o2, none⟩ = _ from e2
  have k3 := fun n => show (w.drewN n).cell? ⟨b3, o3, none⟩ = _ from e3
  have k4 := fun n => show (w.drewN n).cell? ⟨b3, o3 + 1, none⟩ = _ from e4
  have h1 : decide ((g.length : Int) < 2) = false := decide_eq_false (by omega)
  have h2 : decide (6 < (g.length : Int)) = false := decide_eq_false (by omega)
  have h4 : 0 < g.length := by omega
  simp only [List.length_cons, List.length_nil, Nat.zero_add, Nat.reduceAdd] at k1 k2
  have HF := Lib.hid hf.2
  have HI := Lib.hid hi
  have H0 := Lib.hid h0
  clear hv r1 e1 r2 e2 e3 e4 hf hi h0
  go_enter Tryz.func8, Tryz.ntmps8
  go_wp2
  go_quiet ((go_at_call 21; exact qof (of_one _)))
  go_wp2
  clear k1 k2 k3 k4 h1 h2
  go_loopw [60] (fun i wr => ∃ r : Nat, r ≤ g.length ∧ i = .int .i64 (r : Int) ∧ UptoR g r ∧ Chg No w wr) (fun i _ => g.length - (intOf i).toNat)
  case atStart => exact ⟨0, Nat.zero_le _, rfl, UptoR.zero, (Chg.refl _ _).drewN _⟩
  case round =>
    obtain ⟨r, hr, rfl, hu, hc⟩ := hrel
    by_cases hlt : r < g.length
    · obtain ⟨alts, hal⟩ : ∃ u, g[r]? = some u := ⟨_, List.getElem?_eq_getElem hlt⟩
      obtain ⟨b5, o5, A', c', hA, h10, hr2⟩ := Rd3.at_ HV.out hal
      cases hA
      have k1 := Chg.kept hc h10 (fun h => h)
      have hfa := HF.out alts (List.mem_of_getElem? hal)
      have hfl := hfa.1
      have HFA := Lib.hid hfa.2
      have HAL := Lib.hid hal
      have HU := Lib.hid hu
      have HC := Lib.hid hc
      have HR2 := Lib.hid hr2
      clear hal hu hc hr2 hfa h10
      by_cases hn1 : alts.length < 1
      · go_wp2
        go_ret
        exact ⟨false, rfl, (fun h => by cases h), HC.out⟩
      by_cases hn4 : 4 < alts.length
      · go_wp2
        go_ret
        exact ⟨false, rfl, (fun h => by cases h), HC.out⟩
      go_wp2
      go_loopw [75] (fun i wr => ∃ a : Nat, a ≤ alts.length ∧ i = .int .i64 (a : Int) ∧ Upto (AltGood g.length r) alts a ∧ Chg No w wr) (fun i _ => alts.length - (intOf i).toNat)
      case atStart => exact ⟨0, Nat.zero_le _, rfl, Upto.zero, HC.out⟩
      case round =>
        obtain ⟨a, ha, rfl, hu, hc⟩ := hrel
        clear k1
        by_cases hlt2 : a < alts.length
        · obtain ⟨alt, hal⟩ : ∃ u, alts[a]? = some u := ⟨_, List.getElem?_eq_getElem hlt2⟩
          obtain ⟨b6, o6, A6, c6, rfl, h10, hr3⟩ := Rd2.at_ HR2.out hal
          have k1 := Chg.kept hc h10 (fun h => h)
          have hfl2 := HFA.out alt (List.mem_of_getElem? hal)
          have HIA := Lib.hid (HI.out alts (List.mem_of_getElem? HAL.out) alt (List.mem_of_getElem? hal))
          have HAL2 := Lib.hid hal
          have HU2 := Lib.hid hu
          have HC2 := Lib.hid hc
          have HR3 := Lib.hid hr3
          clear hal hu hc hr3 h10
          by_cases hn5 : 5 < alt.length
          · go_wp2
            go_ret
            exact ⟨false, rfl, (fun h => by cases h), HC2.out⟩
          go_wp2
          go_loopw [84] (fun i wr => ∃ k : Nat, k ≤ alt.length ∧ i = .int .i64 (k : Int) ∧ Upto (SymGood g.length r) alt k ∧ Chg No w wr) (fun i _ => alt.length - (intOf i).toNat)
          case atStart => exact ⟨0, Nat.zero_le _, rfl, Upto.zero, HC2.out⟩
          case round =>
            obtain ⟨k, hk, rfl, hu, hc⟩ := hrel
            clear k1
            by_cases hlt3 : k < alt.length
            · obtain ⟨s, hs⟩ : ∃ u, alt[k]? = some u := ⟨_, List.getElem?_eq_getElem hlt3⟩
              obtain ⟨b7, o7, rfl, h10⟩ := Rd1.at_ HR3.out hs
              have k1 := Chg.kept hc h10 (fun h => h)
              obtain ⟨hs1, hs2⟩ := HIA.out s (List.mem_of_getElem? hs)
              by_cases hok : SymGood g.length r s
              · have HU3 := Lib.hid (hu.succ hs hok)
                have HC3 := Lib.hid hc
                have HS := Lib.hid hok
                clear hu hc hs h10 hok
                rcases (by omega : (1 ≤ s ∧ s ≤ 4) ∨ 4 < s ∨ (s < 1 ∧ -100 < s) ∨ s ≤ -100) with ⟨t1, t2⟩ | t1 | ⟨t1, t2⟩ | t1
                · have ht : -100 < s := by omega
                  by_cases hr0 : 0 < r
                  all_goals
                    go_wp2_with (first | (go_at_call 22; refine (rule_neg _ _ ht).mono ?_; rintro e w' ⟨rfl, rfl⟩))
                    go_roundw
                    case rel => exact ⟨k + 1, by omega, by go_num, HU3.out, HC3.out⟩
                    case measure => simp [intOf]; omega
                · have ht : -100 < s := by omega
                  have hr0 : ¬ 0 < r := fun h => by have := HS.out h; omega
                  go_wp2_with (first | (go_at_call 22; refine (rule_neg _ _ ht).mono ?_; rintro e w' ⟨rfl, rfl⟩))
                  all_goals
                    go_roundw
                    case rel => exact ⟨k + 1, by omega, by go_num, HU3.out, HC3.out⟩
                    case measure => simp [intOf]; omega
                · have hr0 : ¬ 0 < r := fun h => by have := HS.out h; omega
                  go_wp2_with (first | (go_at_call 22; refine (rule_neg _ _ t2).mono ?_; rintro e w' ⟨rfl, rfl⟩))
                  all_goals
                    go_roundw
                    case rel => exact ⟨k + 1, by omega, by go_num, HU3.out, HC3.out⟩
                    case measure => simp [intOf]; omega
                · have hq0 : 0 < r → 1 ≤ Pl.idx s ∧ Pl.idx s < g.length := fun h => by have := HS.out h; omega
                  have HRP := Lib.hid (fun w => rule_pos w s hs1 t1)
                  generalize Pl.idx s = q at *
                  by_cases hr0 : 0 < r
                  · obtain ⟨q1, q2⟩ := hq0 hr0
                    clear hq0
                    go_wp2_with (first | (go_at_call 22; refine (HRP.out _).mono ?_; rintro e w' ⟨rfl, rfl⟩))
                    go_roundw
                    case rel => exact ⟨k + 1, by omega, by go_num, HU3.out, HC3.out⟩
                    case measure => simp [intOf]; omega
                  · clear hq0
                    by_cases q1 : 1 ≤ q
                    · by_cases q2 : q < g.length
                      all_goals
                        go_wp2_with (first | (go_at_call 22; refine (HRP.out _).mono ?_; rintro e w' ⟨rfl, rfl⟩))
                        go_roundw
                        case rel => exact ⟨k + 1, by omega, by go_num, HU3.out, HC3.out⟩
                        case measure => simp [intOf]; omega
                    · go_wp2_with (first | (go_at_call 22; refine (HRP.out _).mono ?_; rintro e w' ⟨rfl, rfl⟩))
                      go_roundw
                      case rel => exact ⟨k + 1, by omega, by go_num, HU3.out, HC3.out⟩
                      case measure => simp [intOf]; omega
              · have hr0 : 0 < r := by
                  rcases Nat.eq_zero_or_pos r with e | e
                  · exact absurd (fun h => by omega) hok
                  · exact e
                have hri : decide ((0 : Int) < (r : Int)) = true := decide_eq_true (by omega)
                have hbad : ¬ ((1 ≤ s ∧ s ≤ 4) ∨ (s ≤ -100 ∧ 1 ≤ Pl.idx s ∧ Pl.idx s < g.length)) := fun h => hok (fun _ => h)
                have HC3 := Lib.hid hc
                clear hu hc hs h10 hok
                rcases (by omega : 4 < s ∨ (s < 1 ∧ -100 < s) ∨ s ≤ -100) with t1 | ⟨t1, t2⟩ | t1
                · have ht : -100 < s := by omega
                  have hd1 : decide (1 ≤ s) = true := decide_eq_true (by omega)
                  have hd2 : decide (s ≤ 4) = false := decide_eq_false (by omega)
                  clear hbad
                  go_wp2_with (first | (go_at_call 22; refine (rule_neg _ _ ht).mono ?_; rintro e w' ⟨rfl, rfl⟩))
                  go_ret
                  exact ⟨false, rfl, (fun h => by cases h), HC3.out⟩
                · clear hbad
                  have hd1 : decide (1 ≤ s) = false := decide_eq_false (by omega)
                  go_wp2_with (first | (go_at_call 22; refine (rule_neg _ _ t2).mono ?_; rintro e w' ⟨rfl, rfl⟩))
                  go_ret
                  exact ⟨false, rfl, (fun h => by cases h), HC3.out⟩
                · have hq0 : Pl.idx s < 1 ∨ (1 ≤ Pl.idx s ∧ g.length ≤ Pl.idx s) := by omega
                  have HRP := Lib.hid (fun w => rule_pos w s hs1 t1)
                  have hd1 : decide (1 ≤ s) = false := decide_eq_false (by omega)
                  have hqm : (Pl.idx s : Int) ≤ 9223372036854775708 := by unfold Pl.idx; omega
                  clear hbad
                  generalize Pl.idx s = q at *
                  rcases hq0 with q1 | ⟨q1, q2⟩
                  · have e1 : decide ((1 : Int) ≤ (q : Int)) = false := decide_eq_false (by omega)
                    have e2 : decide (1 ≤ q) = false := decide_eq_false (by omega)
                    go_wp2_with (first | (go_at_call 22; refine (HRP.out _).mono ?_; rintro e w' ⟨rfl, rfl⟩))
                    go_ret
                    exact ⟨false, rfl, (fun h => by cases h), HC3.out⟩
                  · have e1 : decide ((1 : Int) ≤ (q : Int)) = true := decide_eq_true (by omega)
                    have e2 : decide (q < g.length) = false := decide_eq_false (by omega)
                    go_wp2_with (first | (go_at_call 22; refine (HRP.out _).mono ?_; rintro e w' ⟨rfl, rfl⟩))
                    go_ret
                    exact ⟨false, rfl, (fun h => by cases h), HC3.out⟩
            · have HU3 := Lib.hid (HU2.out.succ HAL2.out ⟨by omega, hu.all (by omega)⟩)
              have HC3 := Lib.hid hc
              clear hu hc
              go_wp2
              go_roundw
              case rel => exact ⟨a + 1, by omega, by go_num, HU3.out, HC3.out⟩
              case measure => simp [intOf]; omega
        · have HU3 := Lib.hid (HU.out.succ HAL.out ⟨by omega, by omega, hu.all (by omega)⟩)
          have HC3 := Lib.hid hc
          clear hu hc
          go_wp2
          go_roundw
          case rel => exact ⟨r + 1, by omega, by go_num, HU3.out, HC3.out⟩
          case measure => simp [intOf]; omega
    · have hrr : r = g.length := by omega
      subst hrr
      have hgb := good_gb hg2 hg6 H0.out hu HI.out
      have HE := Lib.hid (emptyOf_any wr _ g hgb (HV.out.no hc))
      have HLf := Lib.hid (fun w' bn (h : Chg No wr w') (hb : Blk w' bn (bcells (Pl.emptyOf g)) 4) => left_any w' _ bn g h4 hgb (HV.out.no (hc.trans h)) hb)
      have HU := Lib.hid hu
      have HC := Lib.hid hc
      clear hu hc hgb
      go_wp2_with fail
      refine HE.out.mono ?_
      rintro e w1 ⟨bn, rfl, h5, h6, h7⟩
      have hl := HLf.out w1 bn h6 h5
      have HL := Lib.hid hl
      have HC1 := Lib.hid (HC.out.trans h6)
      clear hl h5 h6 h7
      go_wp2_with fail
      refine HL.out.mono ?_
      rintro e w2 ⟨bm, rfl, h5, h6, h7, h8⟩
      have HM := Lib.hid h5
      have HSq := Lib.hid h6
      have HC2 := Lib.hid (HC1.out.trans h7)
      clear h5 h6 h7 h8
      go_wp2
      go_loopw [122] (fun i wr => ∃ r : Nat, r ≤ g.length ∧ i = .int .i64 (r : Int) ∧ NoLeft g r ∧ Chg No w2 wr) (fun i _ => g.length - (intOf i).toNat)
      case atStart => exact ⟨0, Nat.zero_le _, rfl, NoLeft.zero, Chg.refl _ _⟩
      case round =>
        obtain ⟨r, hr, rfl, hn, hc⟩ := hrel
        by_cases hlt : r < g.length
        · have hm := HM.out.no hc
          have k1 := MatAt.head hm hlt
          have k2 := MatAt.cell hm HSq.out hlt hlt
          obtain ⟨z, hz⟩ : ∃ z, z = Pl.gb (Pl.row (Pl.leftOf g) r) r := ⟨_, rfl⟩
          rw [← hz] at k2
          have HZ := Lib.hid hz
          have HN := Lib.hid hn
          have HC3 := Lib.hid hc
          clear hm hz hn hc
          cases z with
          | true =>
            go_wp2
            go_ret
            exact ⟨false, rfl, (fun h => by cases h), HC2.out.trans HC3.out⟩
          | false =>
            go_wp2
            go_roundw
            case rel => exact ⟨r + 1, by omega, by go_num, HN.out.succ HZ.out.symm, HC3.out⟩
            case measure => simp [intOf]; omega
        · have hrr : r = g.length := by omega
          subst hrr
          have HN := Lib.hid hn
          have HC3 := Lib.hid hc
          clear hn hc
          go_wp2
          go_ret
          exact ⟨true, rfl, fun _ => good_goodG hg2 hg6 H0.out HU.out HN.out, HC2.out.trans HC3.out⟩

theorem good_any (w : World) (v : Value) (g : Pl.Gr) (hv : Rd3 w v g) (hf : Fits1 g) (hi : ∀ alts ∈ g, ∀ alt ∈ alts, ∀ s ∈ alt, InI s) :
    Calls Tryz.prog 8 #[v] w (TellN (Pl.GoodG g) w) := by
  rcases Nat.lt_or_ge g.length 2 with h2 | h2
  · exact (good_short w v g hv h2).mono fun _ _ h => h.tell
  rcases Nat.lt_or_ge 6 g.length with h6 | h6
  · exact (good_long w v g hv h6 hf.1).mono fun _ _ h => h.tell
  obtain ⟨alts, h0⟩ : ∃ alts, g[0]? = some alts := ⟨_, List.getElem?_eq_getElem (by omega)⟩
  have hfa := hf.2 alts (List.mem_of_getElem? h0)
  match alts, hfa, h0 with
  | [], hfa, h0 => exact (good_alts w v g hv h2 h6 _ h0 (by simp) hfa.1).mono fun _ _ h => h.tell
  | a :: b :: r, hfa, h0 => exact (good_alts w v g hv h2 h6 _ h0 (by simp) hfa.1).mono fun _ _ h => h.tell
  | [alt], hfa, h0 =>
    have hfb := hfa.2 alt (by simp)
    match alt, hfb, h0 with
    | [], hfb, h0 => exact (good_alt w v g hv h2 h6 _ h0 (by simp) hfb).mono fun _ _ h => h.tell
    | [a], hfb, h0 => exact (good_alt w v g hv h2 h6 _ h0 (by simp) hfb).mono fun _ _ h => h.tell
    | a :: b :: c :: r, hfb, h0 => exact (good_alt w v g hv h2 h6 _ h0 (by simp) hfb).mono fun _ _ h => h.tell
    | [x, y], hfb, h0 =>
      by_cases hx : x = -101
      · subst hx
        by_cases hy : y = -1
        · subst hy
          exact good_main w v g hv hf hi h2 h6 h0
        · exact (good_sym1 w v g hv h2 h6 y h0 hy).mono fun _ _ h => h.tell
      · exact (good_sym0 w v g hv h2 h6 x y h0 hx).mono fun _ _ h => h.tell
end Go.Proofs.YtemdillhbnmjkaaGreatDoor

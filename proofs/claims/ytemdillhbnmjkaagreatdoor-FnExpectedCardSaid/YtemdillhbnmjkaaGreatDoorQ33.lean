/- With which tokens symbols can begin (31, 14). -/
import Derived.Test.YtemdillhbnmjkaaGreatDoorQ28
import Derived.Test.YtemdillhbnmjkaaGreatDoorQ03
namespace Go.Proofs.YtemdillhbnmjkaaGreatDoor
open Go.RowKit

/-- the first l have been joined -/
def tailPart (l : Nat) (a b : List Bool) : List Bool := (List.range a.length).map fun i => if i < l then Pl.gb a i || (Pl.gb b i && decide (0 < i)) else Pl.gb a i
theorem tailPart_len (k : Nat) (a b : List Bool) : (tailPart k a b).length = a.length := by simp [tailPart]
theorem tailPart_at (k : Nat) (a b : List Bool) (i : Nat) (h : i < a.length) : Pl.gb (tailPart k a b) i = if i < k then Pl.gb a i || (Pl.gb b i && decide (0 < i)) else Pl.gb a i := by
  unfold tailPart
  rw [Pl.gb, List.getElem?_map, List.getElem?_range h]
  rfl
theorem tailPart_zero (a b : List Bool) : tailPart 0 a b = a := by
  refine Pl.gb_ext (tailPart_len _ _ _) (fun i => ?_)
  rcases Nat.lt_or_ge i a.length with h | h
  · rw [tailPart_at _ _ _ _ h]; simp
  · rw [Pl.gb_ge _ _ (by rw [tailPart_len]; exact h), Pl.gb_ge _ _ h]
theorem orTail_len (a b : List Bool) : (Pl.orTail a b).length = a.length := by simp [Pl.orTail]
theorem tailPart_all (a b : List Bool) : tailPart a.length a b = Pl.orTail a b := by
  refine Pl.gb_ext (by rw [tailPart_len, orTail_len]) (fun i => ?_)
  rcases Nat.lt_or_ge i a.length with h | h
  · rw [tailPart_at _ _ _ _ h, Pl.orTail_at _ _ _ h, if_pos h]
  · rw [Pl.gb_ge _ _ (by rw [tailPart_len]; exact h), Pl.gb_ge _ _ (by rw [orTail_len]; exact h)]
theorem tailPart_succ (k : Nat) (a b : List Bool) (h : k < a.length) : (tailPart k a b).set k (Pl.gb (tailPart k a b) k || (Pl.gb b k && decide (0 < k))) = tailPart (k + 1) a b := by
  refine Pl.gb_ext (by simp [tailPart_len]) (fun i => ?_)
  rw [Pl.gb_set _ _ _ _ (by rw [tailPart_len]; exact h)]
  rcases Nat.lt_or_ge i a.length with hi | hi
  · rw [tailPart_at _ _ _ _ hi, tailPart_at _ _ _ _ h]
    by_cases e : i = k
    · subst e; simp; rw [tailPart_at _ _ _ _ hi, if_pos (by omega)]
    · rw [if_neg e, tailPart_at _ _ _ _ hi]
      by_cases h1 : i < k
      · rw [if_pos h1, if_pos (by omega)]
      · rw [if_neg h1, if_neg (by omega)]
  · rw [Pl.gb_ge (tailPart (k + 1) a b) i (by rw [tailPart_len]; exact hi), if_neg (by omega), Pl.gb_ge _ _ (by rw [tailPart_len]; exact hi)]
theorem tails_len (f : List Int → List Bool) (l : List (List Int)) (o : List Bool) : (l.foldl (fun o alt => Pl.orTail o (f alt)) o).length = o.length := (Pl.foldTail f l o).1
theorem begL_len (g : Pl.Gr) (nn : List Bool) (f : List Int → List Bool) : ∀ (l : List Int) (o : List Bool), (Pl.begL g nn f l o).length = o.length
  | [], o => by simp [Pl.begL]
  | s :: rest, o => by
    unfold Pl.begL
    split
    · simp
    · simp only
      split
      · rw [begL_len g nn f rest, tails_len]
      · rw [tails_len]
theorem beg_seven (g : Pl.Gr) (nn : List Bool) (d : Nat) (l : List Int) : (Pl.beg g nn d l).length = 7 := by
  cases d with
  | zero => simp [Pl.beg]
  | succ d => unfold Pl.beg; rw [begL_len]; simp

/-- what the symbols before have come to; what is left comes to Ot -/
structure BRel (w wr : World) (b : Nat) (g : Pl.Gr) (nn : List Bool) (f : List Int → List Bool) (rest : List Int) (o Ot : List Bool) : Prop where
  len : o.length = 7
  at_ : Blk wr b (bcells o) 4
  chg : Chg No w wr
  eq : Pl.begL g nn f rest o = Ot
def BRet (w : World) (o : List Bool) (e : Ending) (w' : World) : Prop := ∃ b, e = .returned (.slice (some ⟨b, 0, none⟩) 7 7) ∧ Blk w' b (bcells o) 4 ∧ Chg No w w' ∧ w.heap.size ≤ b
theorem make_seven (w : World) : (Instr.makeSlice 30 (.int .i64 7) (.int .i64 7)).run Tryz.prog w = .ok (.slice (some ⟨w.heap.size, 0, none⟩) 7 7) (w.alloc (.cells (bcells (List.replicate 7 false)) 4)) := make_bools 7 (by omega) w

set_option maxHeartbeats 2000000 in
set_option maxRecDepth 100000 in
theorem begins_any (g : Pl.Gr) (G : Pl.GoodG g) (bn : Nat) : ∀ (d : Nat), d < 1000 → ∀ (w : World) (v vl : Value) (list : List Int), Rd3 w v g → Blk w bn (bcells (Pl.emptyOf g)) 4 → Rd1 w vl list → Pl.SymsOk g list → list.length ≤ maxLen →
    Calls Tryz.prog 31 #[v, .slice (some ⟨bn, 0, none⟩) g.length g.length, vl, .int .i64 (d : Int)] w (BRet w (Pl.beg g (Pl.emptyOf g) d list)) := by
  intro d
  induction d with
  | zero =>
    intro _ w v vl list hv hn hl hs hm
    obtain ⟨A, c, rfl⟩ := hv.slice
    obtain ⟨A2, c2, rfl⟩ := hl.slice
    have hmk := make_seven
    clear hv hn hl hs hm G
    go_enter Tryz.func31, Tryz.ntmps31
    go_wp2
    go_ret
    exact ⟨_, rfl, Blk.new _ _ _, (Chg.refl _ _).alloc _, Nat.le_refl _⟩
  | succ d ih =>
    intro hd w v vl list hv hn hl hs hm
    obtain ⟨A, c, rfl⟩ := hv.slice
    obtain ⟨A2, c2, rfl⟩ := hl.slice
    have hmk := make_seven
    have hg6 := G.len6
    have hd0 : ((d : Int) + 1 == 0) = false := by simpa using (by omega : ¬ (d : Int) + 1 = 0)
    have hel := (Pl.emptyOf_fix g).1
    obtain ⟨nn, hnn⟩ : ∃ nn, nn = Pl.emptyOf g := ⟨_, rfl⟩
    have HT := Lib.hid (show Pl.beg g (Pl.emptyOf g) (d + 1) list = Pl.begL g nn (Pl.beg g nn d) list (List.replicate 7 false) by rw [hnn]; rfl)
    have hih := ih (by omega)
    rw [← hnn] at hn hel hih
    have HIH := Lib.hid hih
    have HEL := Lib.hid hel
    have HG := Lib.hid G
    have HV := Lib.hid hv
    have HN := Lib.hid hn
    have HL := Lib.hid hl
    have HS := Lib.hid hs
    have hbn := hn.lt
    obtain ⟨f, hf⟩ : ∃ f, f = Pl.beg g nn d := ⟨_, rfl⟩
    have Hf := Lib.hid hf
    have HF7 := Lib.hid (show ∀ l, (f l).length = 7 by intro l; rw [hf]; exact beg_seven g nn d l)
    rw [← hf] at HT
    unfold maxLen at hm
    clear hv hn hl hs hnn hih hel ih G hf
    obtain ⟨Ot, hOt⟩ : ∃ o, o = Pl.begL g nn f list (List.replicate 7 false) := ⟨_, rfl⟩
    have HOt := Lib.hid hOt
    have HOl := Lib.hid (show Ot.length = 7 by rw [hOt, begL_len]; simp)
    clear hOt
    rw [show ((d + 1 : Nat) : Int) = (d : Int) + 1 from by omega]
    go_enter Tryz.func31, Tryz.ntmps31
    go_wp2
    clear hmk
    go_loopw [23] (fun i wr => ∃ (k : Nat) (o : List Bool), k ≤ list.length ∧ i = .int .i64 (k : Int) ∧ BRel w wr w.heap.size g nn f (list.drop k) o Ot) (fun i _ => list.length - (intOf i).toNat)
    case atStart => exact ⟨0, _, Nat.zero_le _, rfl, by simp, Blk.new _ _ _, (Chg.refl _ _).alloc _, HOt.out.symm⟩
    case round =>
      obtain ⟨k, o, hk, rfl, hb⟩ := hrel
      by_cases hlt : k < list.length
      · obtain ⟨s, hu⟩ : ∃ u, list[k]? = some u := ⟨_, List.getElem?_eq_getElem hlt⟩
        obtain ⟨b2, o2, rfl, h10⟩ := Rd1.at_ HL.out hu
        have k1 := Chg.kept hb.chg h10 (fun h => h)
        have hd1 : list.drop k = s :: list.drop (k + 1) := by
          rw [List.drop_eq_getElem_cons hlt]
          congr 1
          rw [List.getElem?_eq_getElem hlt] at hu
          exact Option.some.inj hu
        have heq := hb.eq
        rw [hd1] at heq
        unfold Pl.begL at heq
        rcases HS.out s (List.mem_of_getElem? hu) with ht | ⟨q, hq, rfl⟩
        · unfold Pl.TokOk at ht
          obtain ⟨t, rfl⟩ : ∃ t : Nat, s = (t : Int) - 2 := ⟨(s + 2).toNat, by omega⟩
          have ht7 : t < 7 := by omega
          have hgt : -100 < (t : Int) - 2 := by omega
          rw [if_pos hgt, show ((t : Int) - 2 + 2).toNat = t by omega] at heq
          have hcell : wr.cell? ⟨w.heap.size, t, none⟩ = some (.bool (Pl.gb o t)) := by rw [hb.at_.cell]; exact bcells_at (by rw [hb.len]; exact ht7)
          have hfz := hb.at_.fz t
          have hset := hb.at_.set t (.bool true)
          rw [bcells_set, heq] at hset
          have HSE := Lib.hid hset
          have HCH := Lib.hid (show Chg No w (wr.setCell ⟨w.heap.size, t, none⟩ (.bool true)) from Chg.setCell hb.chg (fun h => absurd h (Nat.lt_irrefl _)) _)
          have hwl := hb.at_.lt
          have HRP := Lib.hid (rule_neg wr ((t : Int) - 2) hgt)
          have ht0 : (0 : Int) ≤ (t : Int) := by omega
          have ht1 : (t : Int) < 7 := by omega
          clear hb hd1 heq hset hu h10 ht
          go_wp2_with (first | (go_at_call 22; refine HRP.out.mono ?_; rintro e w' ⟨rfl, rfl⟩))
          go_ret
          exact ⟨_, rfl, by rw [HT.out, ← HOt.out]; exact HSE.out, HCH.out, Nat.le_refl _⟩
        · have hle : Pl.ofR q ≤ -100 := by unfold Pl.ofR; omega
          rw [if_neg (by omega), Pl.idx_ofR] at heq
          simp only at heq
          obtain ⟨alts, hal⟩ : ∃ u, g[q]? = some u := ⟨_, List.getElem?_eq_getElem hq⟩
          rw [hal, Option.getD_some] at heq
          have hal4 := (HG.out.alts q alts hal).2
          obtain ⟨b3, o3, A3, c3, rfl, h11, hr2⟩ := Rd3.at_ HV.out hal
          have k2 := Chg.kept hb.chg h11 (fun h => h)
          have hrp := rule_pos wr (Pl.ofR q) (by unfold Pl.ofR; omega) hle
          rw [Pl.idx_ofR] at hrp
          have HRP := Lib.hid hrp
          have HR2 := Lib.hid hr2
          have HAL := Lib.hid hal
          have HEQ := Lib.hid heq
          have HB := Lib.hid hb
          have hq0 : (0 : Int) ≤ (q : Int) := by omega
          have hqn : (q : Int) < (g.length : Int) := by omega
          have hwl := hb.at_.lt
          clear hb hd1 heq hu h10 h11 hr2 hal hrp
          generalize Pl.ofR q = s at *
          go_wp2_with (first | (go_at_call 22; refine HRP.out.mono ?_; rintro e w' ⟨rfl, rfl⟩))
          clear k1 k2
          obtain ⟨wb, rfl⟩ : ∃ wb : World, wb = wr := ⟨_, rfl⟩
          go_loopw [41] (fun i wr => ∃ a : Nat, a ≤ alts.length ∧ i = .int .i64 (a : Int) ∧ Blk wr w.heap.size (bcells ((alts.take a).foldl (fun o alt => Pl.orTail o (f alt)) o)) 4 ∧ Chg No w wr) (fun i _ => alts.length - (intOf i).toNat)
          case atStart => exact ⟨0, Nat.zero_le _, rfl, HB.out.at_, HB.out.chg⟩
          case round =>
            obtain ⟨a, ha, rfl, hb, hc⟩ := hrel
            by_cases hlt2 : a < alts.length
            · obtain ⟨alt, hu⟩ : ∃ u, alts[a]? = some u := ⟨_, List.getElem?_eq_getElem hlt2⟩
              obtain ⟨b4, o4, A4, c4, rfl, h10, hr3⟩ := Rd2.at_ HR2.out hu
              have k1 := Chg.kept hc h10 (fun h => h)
              have hso := HG.out.symsOk q alts alt HAL.out (List.mem_of_getElem? hu)
              have hal5 := HG.out.alt q alts alt HAL.out (List.mem_of_getElem? hu)
              have hcall := HIH.out wr (.slice (some ⟨b3, o3, none⟩) g.length c) (.slice A4 alt.length c4) alt (HV.out.no hc) (HN.out.chg hc (fun h => h)) (hr3.no hc) hso (by unfold maxLen; omega)
              rw [← Hf.out] at hcall
              have hstep := foldl_take (fun o alt => Pl.orTail o (f alt)) alts a alt o hu
              obtain ⟨oc, hoc⟩ : ∃ oc, oc = (alts.take a).foldl (fun o alt => Pl.orTail o (f alt)) o := ⟨_, rfl⟩
              have hl7 : oc.length = 7 := by rw [hoc, tails_len]; exact HB.out.len
              rw [← hoc] at hstep hb
              have HST := Lib.hid hstep
              have HBB := Lib.hid hb
              have HCC := Lib.hid hc
              have HL7 := Lib.hid hl7
              have HCL := Lib.hid hcall
              have hwl2 := hb.lt
              clear hcall hstep hb hc hu hr3 hoc hl7 h10
              go_wp2_with fail
              refine HCL.out.mono ?_
              rintro e w2 ⟨b5, rfl, h12, h13, h14⟩
              obtain ⟨ra, hra⟩ : ∃ ra, ra = f alt := ⟨_, rfl⟩
              have hra7 : ra.length = 7 := by rw [hra]; exact HF7.out alt
              rw [← hra] at h12
              have hstep := HST.out
              rw [← hra] at hstep
              have HST2 := Lib.hid hstep
              have HRA := Lib.hid h12
              have HRL := Lib.hid hra7
              have HB2 := Lib.hid (HBB.out.chg h13 (fun h => h))
              have HC2 := Lib.hid (HCC.out.trans h13)
              have hne : b5 ≠ w.heap.size := by omega
              have hwl3 := h12.lt
              clear h12 h13 h14 hra hra7 hstep HST HBB HCC k1
              go_wp2
              go_loopw [52] (fun i wr => ∃ l : Nat, l ≤ 7 ∧ i = .int .i64 (l : Int) ∧ Blk wr w.heap.size (bcells (tailPart l oc ra)) 4 ∧ Chg No w wr ∧ Blk wr b5 (bcells ra) 4) (fun i _ => 7 - (intOf i).toNat)
              case atStart => exact ⟨0, Nat.zero_le _, rfl, by rw [tailPart_zero]; exact HB2.out, HC2.out, HRA.out⟩
              case round =>
                obtain ⟨l, hl, rfl, h1, h2, h3⟩ := hrel
                by_cases hlt3 : l < 7
                · have e1 : wr.cell? ⟨w.heap.size, l, none⟩ = some (.bool (Pl.gb (tailPart l oc ra) l)) := by rw [h1.cell]; exact bcells_at (by rw [tailPart_len, HL7.out]; exact hlt3)
                  have e2 : wr.cell? ⟨b5, l, none⟩ = some (.bool (Pl.gb ra l)) := by rw [h3.cell]; exact bcells_at (by rw [HRL.out]; exact hlt3)
                  have e3 := h1.fz l
                  have hset := h1.set l (.bool (Pl.gb (tailPart l oc ra) l || (Pl.gb ra l && decide (0 < l))))
                  rw [bcells_set, tailPart_succ l oc ra (by rw [HL7.out]; exact hlt3)] at hset
                  have hch : ∀ u, Chg No w (wr.setCell ⟨w.heap.size, l, none⟩ u) := fun u => Chg.setCell h2 (fun h => absurd h (Nat.lt_irrefl _)) _
                  have hra' : ∀ u, Blk (wr.setCell ⟨w.heap.size, l, none⟩ u) b5 (bcells ra) 4 := fun u => h3.other (by simpa using hne) u
                  obtain ⟨x, hx⟩ : ∃ x, x = Pl.gb (tailPart l oc ra) l := ⟨_, rfl⟩
                  obtain ⟨y, hy⟩ : ∃ y, y = Pl.gb ra l := ⟨_, rfl⟩
                  obtain ⟨z, hz⟩ : ∃ z, z = decide (0 < l) := ⟨_, rfl⟩
                  have hz2 : decide ((0 : Int) < (l : Int)) = z := by
                    rw [hz, decide_eq_decide]; omega
                  rw [← hx, ← hy, ← hz] at hset
                  rw [← hx] at e1
                  rw [← hy] at e2
                  have HSE := Lib.hid hset
                  have HCH := Lib.hid hch
                  have HRA2 := Lib.hid hra'
                  clear h1 h2 h3 hset hch hra' hx hy
                  have hz3 := hz.symm
                  clear hz
                  cases x <;> cases y <;> cases z
                  all_goals
                    go_wp2
                    go_roundw
                    case rel => exact ⟨l + 1, by omega, by go_num, HSE.out, HCH.out _, HRA2.out _⟩
                    case measure => simp [intOf]; omega
                · have hl7 : l = 7 := by omega
                  have e : tailPart l oc ra = Pl.orTail oc ra := by rw [hl7, ← HL7.out]; exact tailPart_all oc ra
                  rw [e, ← HST2.out] at h1
                  have H1 := Lib.hid h1
                  have H2 := Lib.hid h2
                  clear h1 h2 h3 e hl7
                  go_wp2
                  go_roundw
                  case rel => exact ⟨a + 1, by omega, by go_num, H1.out, H2.out⟩
                  case measure => simp [intOf]; omega
            · have haa : a = alts.length := by omega
              rw [haa, List.take_length] at hb
              have hbn2 : wr.cell? ⟨bn, q, none⟩ = some (.bool (Pl.gb nn q)) := by
                rw [(HN.out.chg hc (fun h => h)).cell]; exact bcells_at (by rw [HEL.out]; exact hq)
              obtain ⟨z, hz⟩ : ∃ z, z = Pl.gb nn q := ⟨_, rfl⟩
              have heq := HEQ.out
              rw [← hz] at heq hbn2
              obtain ⟨oc, hoc⟩ : ∃ oc, oc = alts.foldl (fun o alt => Pl.orTail o (f alt)) o := ⟨_, rfl⟩
              have hl7 : oc.length = 7 := by rw [hoc, tails_len]; exact HB.out.len
              rw [← hoc] at heq hb
              have hc' := hc
              clear hz hoc
              cases z with
              | true =>
                have H1 := Lib.hid (show BRel w wr w.heap.size g nn f (list.drop (k + 1)) oc Ot from ⟨hl7, hb, hc, by simpa using heq⟩)
                clear hb hc hc' heq hl7 haa
                go_wp2
                go_roundw
                case rel => exact ⟨k + 1, oc, by omega, by go_num, H1.out⟩
                case measure => simp [intOf]; omega
              | false =>
                have e : oc = Ot := by simpa using heq
                rw [e] at hb
                have H1 := Lib.hid hb
                have H2 := Lib.hid hc
                clear hb hc hc' heq hl7 haa e
                go_wp2
                go_ret
                exact ⟨_, rfl, by rw [HT.out, ← HOt.out]; exact H1.out, H2.out, Nat.le_refl _⟩
      · have hkk : k = list.length := by omega
        have heq := hb.eq
        rw [hkk, List.drop_length] at heq
        unfold Pl.begL at heq
        have hcell : wr.cell? ⟨w.heap.size, 0, none⟩ = some (.bool (Pl.gb o 0)) := by rw [hb.at_.cell]; exact bcells_at (by rw [hb.len]; omega)
        have hfz := hb.at_.fz 0
        have hset := hb.at_.set 0 (.bool true)
        rw [bcells_set, heq] at hset
        have HSE := Lib.hid hset
        have HCH := Lib.hid (show Chg No w (wr.setCell ⟨w.heap.size, 0, none⟩ (.bool true)) from Chg.setCell hb.chg (fun h => absurd h (Nat.lt_irrefl _)) _)
        have hwl := hb.at_.lt
        clear hb heq hset hkk
        go_wp2
        go_ret
        exact ⟨_, rfl, by rw [HT.out, ← HOt.out]; exact HSE.out, HCH.out, Nat.le_refl _⟩

theorem Pl.GoodG.gb {g : Pl.Gr} (G : Pl.GoodG g) : GB g where
  l := G.len6
  a alts h := by obtain ⟨r, hr⟩ := List.getElem?_of_mem h; exact (G.alts r alts hr).2
  s alts h alt ha := by obtain ⟨r, hr⟩ := List.getElem?_of_mem h; exact G.alt r alts alt hr ha
  i alts h alt ha s hs := by
    obtain ⟨r, hr⟩ := List.getElem?_of_mem h
    have h6 := G.len6
    refine ⟨?_, fun hle => G.inG r alts alt hr ha s hs hle⟩
    rcases G.symsOk r alts alt hr ha s hs with h1 | ⟨q, h1, rfl⟩
    · unfold Pl.TokOk at h1; unfold InI; omega
    · unfold InI Pl.ofR; omega

set_option maxRecDepth 100000 in
theorem begins_of (w : World) (v vl : Value) (g : Pl.Gr) (list : List Int) (G : Pl.GoodG g) (hv : Rd3 w v g) (hl : Rd1 w vl list) (hs : Pl.SymsOk g list) (hm : list.length ≤ maxLen) :
    Calls Tryz.prog 14 #[v, vl] w (BRet w (Pl.beg g (Pl.emptyOf g) 7 list)) := by
  obtain ⟨A, c, rfl⟩ := hv.slice
  obtain ⟨A2, c2, rfl⟩ := hl.slice
  have HE := Lib.hid (emptyOf_any w _ g G.gb hv)
  have HB := Lib.hid (fun w1 bn (h : Chg No w w1) (hb : Blk w1 bn (bcells (Pl.emptyOf g)) 4) => begins_any g G bn 7 (by omega) w1 _ _ list (hv.no h) hb (hl.no h) hs hm)
  clear hv hl hs hm G
  go_enter Tryz.func14, Tryz.ntmps14
  go_wp2_with fail
  refine HE.out.mono ?_
  rintro e w1 ⟨bn, rfl, h5, h6, h7⟩
  have hb := HB.out w1 bn h6 h5
  have H1 := Lib.hid (show Calls Tryz.prog 31 #[.slice A g.length c, .slice (some ⟨bn, 0, none⟩) g.length g.length, .slice A2 list.length c2, .int .i64 7] w1 _ from hb)
  have H6 := Lib.hid h6
  have hsz := h6.size
  clear hb h5 h6 h7
  go_wp2_with fail
  refine H1.out.mono ?_
  rintro e w2 ⟨b, rfl, h5, h8, h7⟩
  have H5 := Lib.hid h5
  have H8 := Lib.hid h8
  clear h5 h8
  go_wp2
  go_ret
  exact ⟨_, rfl, H5.out, H6.out.trans H8.out, Nat.le_trans hsz h7⟩
end Go.Proofs.YtemdillhbnmjkaaGreatDoor

/- The statement's own function: FnLook (3). -/
import Derived.Test.YtemdillhbnmjkaaGreatDoorQ31
import Derived.Test.YtemdillhbnmjkaaGreatDoorQ37
import Derived.Test.YtemdillhbnmjkaaGreatDoorQ39
namespace Go.Proofs.YtemdillhbnmjkaaGreatDoor
open Go.RowKit

/-- what came in fits the machine -/
structure In3 (w : World) (v : Value) (g : Pl.Gr) : Prop where
  rd : Rd3 w v g
  len : g.length ≤ maxLen
  len2 : ∀ u ∈ g, u.length ≤ maxLen
  ints : ∀ alts ∈ g, ∀ alt ∈ alts, ∀ s ∈ alt, InI s
def True2 (w : World) (e : Ending) (w' : World) : Prop := e = .returned (.bool true) ∧ Chg No w w'
theorem T2.at_ {w : World} {A : Option Addr} {n c : Nat} {xs : List (List Int)} (h : T2 w (.slice A n c) xs) {i : Nat} {x : List Int} (hi : xs[i]? = some x) :
    ∃ b A' c', A = some ⟨b, 0, none⟩ ∧ w.cell? ⟨b, i, none⟩ = some (.slice A' x.length c') ∧ T1 w (.slice A' x.length c') x := by
  obtain ⟨vs, h1, h2, h3⟩ := h
  have hl := (List.getElem?_eq_some_iff.1 hi).1
  obtain ⟨u, hu⟩ : ∃ u, vs[i]? = some u := ⟨_, List.getElem?_eq_getElem (by omega)⟩
  have hn : n = xs.length := by
    obtain ⟨A', c', he⟩ := h1.slice
    cases he; rfl
  subst hn
  obtain ⟨g, cap, cur, he, _, _⟩ := Own.blk h1 (by omega)
  cases he
  have h4 := h3 i u x hu hi
  obtain ⟨A', c', rfl⟩ := RdL.slice (TdL.rd h4)
  exact ⟨g, A', c', rfl, h1.cellAt hu, h4⟩
theorem T3.at_ {w : World} {A : Option Addr} {n c : Nat} {xs : List (List (List Int))} (h : T3 w (.slice A n c) xs) {i : Nat} {x : List (List Int)} (hi : xs[i]? = some x) :
    ∃ b A' c', A = some ⟨b, 0, none⟩ ∧ w.cell? ⟨b, i, none⟩ = some (.slice A' x.length c') ∧ T2 w (.slice A' x.length c') x := by
  obtain ⟨vs, h1, h2, h3⟩ := h
  have hl := (List.getElem?_eq_some_iff.1 hi).1
  obtain ⟨u, hu⟩ : ∃ u, vs[i]? = some u := ⟨_, List.getElem?_eq_getElem (by omega)⟩
  have hn : n = xs.length := by
    obtain ⟨A', c', he⟩ := h1.slice
    cases he; rfl
  subst hn
  obtain ⟨g, cap, cur, he, _, _⟩ := Own.blk h1 (by omega)
  cases he
  have h4 := h3 i u x hu hi
  obtain ⟨A', c', rfl⟩ := RdL.slice (TdL.rd h4)
  exact ⟨g, A', c', rfl, h1.cellAt hu, h4⟩
/-- a row of numbers: where it lies, or nothing is there -/
theorem T1.lies {w : World} {A : Option Addr} {n c : Nat} {xs : List Int} (h : T1 w (.slice A n c) xs) : n ≤ c ∧ n = xs.length ∧ (c = 0 ∨ ∃ b, A = some ⟨b, 0, none⟩) ∧ ∀ b, A = some ⟨b, 0, none⟩ → ∀ (j : Nat) x, xs[j]? = some x → w.cell? ⟨b, j, none⟩ = some (.int .i64 x) := by
  obtain ⟨vs, h1, h2, h3⟩ := h
  have hn : n = xs.length := by
    obtain ⟨A', c', he⟩ := h1.slice
    cases he; rfl
  subst hn
  refine ⟨?_, rfl, ?_, ?_⟩
  · rcases h1.2 with ⟨he, _⟩ | ⟨g, cap, cur, he, _, _, h4, _⟩
    · simp at he; omega
    · simp at he; omega
  · rcases h1.2 with ⟨he, _⟩ | ⟨g, cap, cur, he, _⟩
    · simp at he; exact .inl he.2.2
    · simp at he; exact .inr ⟨g, he.1⟩
  · intro b hb j x hj
    subst hb
    have hl := (List.getElem?_eq_some_iff.1 hj).1
    obtain ⟨u, hu⟩ : ∃ u, vs[j]? = some u := ⟨_, List.getElem?_eq_getElem (by omega)⟩
    have := h3 j u x hu hj
    cases this
    exact h1.cellAt hu
theorem rd1_nil (w : World) (A : Option Addr) (c : Nat) : Rd1 w (.slice A 0 c) [] := ⟨[], ⟨A, c, rfl, fun j u hj => by simp at hj⟩, rfl, fun i u x h => by simp at h⟩
theorem rd1_drop {w : World} {b n c k : Nat} {xs : List Int} (hn : n = xs.length) (h : ∀ (j : Nat) x, xs[j]? = some x → w.cell? ⟨b, j, none⟩ = some (.int .i64 x)) :
    Rd1 w (.slice (some ⟨b, k, none⟩) (n - k) c) (xs.drop k) := by
  refine ⟨(xs.drop k).map (.int .i64 ·), ⟨some ⟨b, k, none⟩, c, by simp [hn], fun j u hj => ?_⟩, by simp, fun i u x h1 h2 => ?_⟩
  · rw [List.getElem?_map, List.getElem?_drop] at hj
    cases hx : xs[k + j]? with
    | none => rw [hx] at hj; cases hj
    | some x =>
      rw [hx] at hj
      simp at hj
      subst hj
      exact ⟨b, k, rfl, h _ x hx⟩
  · rw [List.getElem?_map, h2] at h1
    simp at h1
    exact h1.symm

set_option maxHeartbeats 2000000 in
set_option maxRecDepth 100000 in
theorem fnLook_any (w : World) (v : Value) (g : Pl.Gr) (r a k : Int) (hv : In3 w v g) : Calls Tryz.prog 3 #[v, .int .i64 r, .int .i64 a, .int .i64 k] w (True2 w) := by
  obtain ⟨A, c, rfl⟩ := hv.rd.slice
  have HF := Lib.hid (fits1_any w _ g hv.len hv.len2 hv.rd)
  have HGr := Lib.hid (fun hf => grammar_any w _ g hf hv.rd)
  have HI := Lib.hid hv.ints
  clear hv
  go_enter Tryz.func3, Tryz.ntmps3
  go_wp2_with fail
  refine HF.out.mono ?_
  rintro e w' ⟨b, rfl, hb, rfl⟩
  cases b with
  | false =>
    clear hb
    go_wp2
    go_ret
    exact ⟨rfl, Chg.refl _ _⟩
  | true =>
    have hfit := hb rfl
    have HGG := Lib.hid (HGr.out hfit)
    have HFit := Lib.hid hfit
    clear hb hfit HGr
    go_wp2_with fail
    refine HGG.out.mono ?_
    rintro e w1 ⟨v1, rfl, hn⟩
    have hsl := New.slice hn
    obtain ⟨A1, c1, rfl⟩ := hsl
    have HN := Lib.hid hn
    have HGD := Lib.hid (good_any w1 _ g (T3.rd hn.td) HFit.out HI.out)
    clear hn
    go_wp2_with fail
    refine HGD.out.mono ?_
    rintro e w2 ⟨b, rfl, hb, hc⟩
    have HC2 := Lib.hid (HN.out.chg.trans hc)
    have HT3 := Lib.hid (t3_no _ _ _ _ HN.out.td hc)
    clear hc
    cases b with
    | false =>
      clear hb
      go_wp2
      go_ret
      exact ⟨rfl, HC2.out⟩
    | true =>
      have HG := Lib.hid (hb rfl)
      have hg6 := (hb rfl).len6
      clear hb HGG HGD HFit HF
      by_cases h1 : r < 0
      · go_wp2
        go_ret
        exact ⟨rfl, HC2.out⟩
      obtain ⟨rn, rfl⟩ : ∃ rn : Nat, r = (rn : Int) := ⟨r.toNat, by omega⟩
      clear h1
      by_cases h2 : rn < g.length
      case neg =>
        have h2' : decide (g.length ≤ rn) = true := decide_eq_true (by omega)
        go_wp2
        go_ret
        exact ⟨rfl, HC2.out⟩
      case pos =>
        have h2a : decide (g.length ≤ rn) = false := decide_eq_false (by omega)
        obtain ⟨alts, hal⟩ : ∃ u, g[rn]? = some u := ⟨_, List.getElem?_eq_getElem h2⟩
        obtain ⟨b2, A2, c2, rfl, k1, ht2⟩ := T3.at_ HT3.out hal
        have HT2 := Lib.hid ht2
        have HAL := Lib.hid hal
        clear ht2 hal
        by_cases h3 : a < 0
        · go_wp2
          go_ret
          exact ⟨rfl, HC2.out⟩
        obtain ⟨an, rfl⟩ : ∃ an : Nat, a = (an : Int) := ⟨a.toNat, by omega⟩
        clear h3
        by_cases h4 : an < alts.length
        case neg =>
          have h4a : decide (alts.length ≤ an) = true := decide_eq_true (by omega)
          go_wp2
          go_ret
          exact ⟨rfl, HC2.out⟩
        case pos =>
          have h4a : decide (alts.length ≤ an) = false := decide_eq_false (by omega)
          obtain ⟨alt, hu⟩ : ∃ u, alts[an]? = some u := ⟨_, List.getElem?_eq_getElem h4⟩
          obtain ⟨b3, A3, c3, rfl, k2, ht1⟩ := T2.at_ HT2.out hu
          have HT1 := Lib.hid ht1
          have HU := Lib.hid hu
          clear ht1 hu
          by_cases h5 : k < 0
          · go_wp2
            go_ret
            exact ⟨rfl, HC2.out⟩
          obtain ⟨kn, rfl⟩ : ∃ kn : Nat, k = (kn : Int) := ⟨k.toNat, by omega⟩
          clear h5
          by_cases h6 : kn ≤ alt.length
          case neg =>
            have h6a : decide (alt.length < kn) = true := decide_eq_true (by omega)
            go_wp2
            go_ret
            exact ⟨rfl, HC2.out⟩
          case pos =>
            have h6a : decide (alt.length < kn) = false := decide_eq_false (by omega)
            have hal5 := HG.out.alt rn alts alt HAL.out (List.mem_of_getElem? HU.out)
            have hnet := net_any w2 _ g HG.out (T3.rd HT3.out)
            obtain ⟨s, hs⟩ : ∃ s, s = Pl.place g rn an + kn := ⟨_, rfl⟩
            have hat := fun w' (h : Chg No w2 w') => at_any w' _ g rn an kn alts HG.out (Rd3.no (T3.rd HT3.out) h) HAL.out h4 (by omega)
            rw [← hs] at hat
            have hsl : s < (dsOf g).length := by rw [ds_len, hs]; have := Pl.place_end g HAL.out HU.out; omega
            have hsA : (s, []) ∈ Pl.allCfg g := by rw [hs]; exact Pl.all_pos HAL.out HU.out h6
            have hsO : Pl.Ok (netG g.length (T2of (dsOf g) g.length (edOf g))) false (fun _ => false) s [] := by
              rw [hs]; exact Pl.pos_ok (net_is HG.out) false HG.out.hsym HG.out.wf HAL.out HU.out kn h6
            have hlook := fun w' vS vR vE vD (h : NetVal w' g vS vR vE vD) => implLook_any g HG.out w' vS vR vE vD h s hsl hsA hsO
            have hrow := fun (m : Nat) (hm : ∀ t, Pl.has m t = true ↔ Pl.TR (netG g.length (T2of (dsOf g) g.length (edOf g))) false (s, []) t) => Pl.look_row HG.out (net_is HG.out) HAL.out HU.out h6 (m := m) (by rw [← hs]; exact hm)
            have HNet := Lib.hid hnet
            have HAt := Lib.hid hat
            have HLk := Lib.hid hlook
            have HRow := Lib.hid hrow
            clear hnet hat hsl hsA hsO hlook hrow hs
            go_wp2_with fail
            refine HNet.out.mono ?_
            rintro e w3 ⟨vS, vR, vE, vD, rfl, o1, o2, o3, o4, hc3⟩
            have HA3 := Lib.hid (HAt.out w3 hc3)
            have HL3 := Lib.hid (HLk.out w3 vS vR vE vD ⟨o1, o2, o3, o4⟩)
            have HC3 := Lib.hid hc3
            obtain ⟨AS, cS, rfl⟩ := o1.slice
            obtain ⟨AR, cR, rfl⟩ := o2.slice
            obtain ⟨AE, cE, rfl⟩ := o3.slice
            obtain ⟨AD, cD, rfl⟩ := o4.slice
            clear o1 o2 o3 o4 hc3
            go_wp2_with (first | (go_at_call 12; refine HA3.out.mono ?_; rintro e w' ⟨rfl, rfl⟩))
            refine HL3.out.mono ?_
            rintro e w4 ⟨v4, m, rfl, hm, o5, htr, hc4⟩
            have HMk := Lib.hid (marks_any w4 v4 (Pl.canon m) o5 (fun i hi => (Pl.canon_facts m hm).2.1 i hi) (by have := (Pl.canon_facts m hm).1; omega))
            rw [Pl.marksOf_canon hm, HRow.out m htr] at HMk
            have HC4 := Lib.hid (HC3.out.trans hc4)
            obtain ⟨A4, c4, rfl⟩ := o5.slice
            clear o5 htr hc4 hm
            go_wp2_with fail
            refine HMk.out.mono ?_
            rintro e w5 ⟨b5, rfl, h7, h8, h9⟩
            have HC5 := Lib.hid (HC4.out.trans h8)
            have HB5 := Lib.hid h7
            clear h7 h8 h9
            have k3 := Chg.kept HC5.out k1 (fun h => h)
            have k4 := Chg.kept HC5.out k2 (fun h => h)
            have hbg := fun vl (hl : Rd1 w5 vl (alt.drop kn)) => begins_of w5 _ vl g (alt.drop kn) HG.out (Rd3.no (T3.rd HT3.out) HC5.out) hl (fun s hs => HG.out.symsOk rn alts alt HAL.out (List.mem_of_getElem? HU.out) s (List.mem_of_mem_drop hs)) (by simp; unfold maxLen; omega)
            obtain ⟨q1, q2, q3, q4⟩ := T1.lies (t1_no _ _ _ _ HT1.out HC5.out)
            have HBG := Lib.hid hbg
            have HQ4 := Lib.hid q4
            have HSame := Lib.hid (fun w6 b6 (h : Chg No w5 w6) (hb : Blk w6 b6 _ 4) => same_any w6 b5 b6 7 _ (by have := beg_seven g (Pl.emptyOf g) 7 (alt.drop kn); exact this) (by omega) (HB5.out.chg h (fun h => h)) hb)
            have HCC := Lib.hid (HC2.out.trans HC5.out)
            have kn0 : (0 : Int) ≤ (kn : Int) := by omega
            have kn1 : (kn : Int) ≤ (alt.length : Int) := by omega
            clear hbg q4 k1 k2 q2
            by_cases hck : c3 = kn
            · have hnil : alt.drop kn = [] := List.drop_eq_nil_of_le (by omega)
              subst hck
              have hlen0 : alt.length = c3 := by omega
              have HNil := Lib.hid hnil
              have HL0 := Lib.hid hlen0
              clear hnil hlen0 q3
              go_wp2_with fail
              refine (HBG.out _ (by rw [HNil.out]; exact rd1_nil _ _ _)).mono ?_
              rintro e w6 ⟨b6, rfl, h7, h8, h9⟩
              have HS6 := Lib.hid (HSame.out w6 b6 h8 h7)
              have HC6 := Lib.hid (HCC.out.trans h8)
              clear h7 h8 h9
              go_wp2_with fail
              refine HS6.out.mono ?_
              rintro e w7 ⟨rfl, nd, rfl⟩
              go_wp2
              go_ret
              exact ⟨rfl, HC6.out.drewN nd⟩
            · obtain ⟨b7, rfl⟩ : ∃ b, A3 = some ⟨b, 0, none⟩ := by
                rcases q3 with q3 | q3
                · omega
                · exact q3
              clear q3
              go_wp2_with fail
              refine (HBG.out _ (rd1_drop rfl (HQ4.out b7 rfl))).mono ?_
              rintro e w6 ⟨b6, rfl, h7, h8, h9⟩
              have HS6 := Lib.hid (HSame.out w6 b6 h8 h7)
              have HC6 := Lib.hid (HCC.out.trans h8)
              clear h7 h8 h9
              go_wp2_with fail
              refine HS6.out.mono ?_
              rintro e w7 ⟨rfl, nd, rfl⟩
              go_wp2
              go_ret
              exact ⟨rfl, HC6.out.drewN nd⟩
end Go.Proofs.YtemdillhbnmjkaaGreatDoor

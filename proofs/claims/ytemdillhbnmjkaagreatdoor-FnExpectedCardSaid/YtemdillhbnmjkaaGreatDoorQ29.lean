/- With which rules each rule can begin: the walk (23). -/
import Derived.Test.YtemdillhbnmjkaaGreatDoorQ28
namespace Go.Proofs.YtemdillhbnmjkaaGreatDoor
open Go.RowKit

/-- what a symbol's step has come to: what is left comes to Mt -/
structure LRel (w wr : World) (b0 R : Nat) (none : List Bool) (r : Nat) (rest : List Int) (M Mt : Pl.Mat) : Prop where
  sq : Pl.Sq R M
  at_ : MatAt wr b0 R M
  chg : Chg No w wr
  eq : Pl.leftAlt none r rest M = Mt
structure MRel (w wr : World) (b0 R : Nat) (M : Pl.Mat) : Prop where
  sq : Pl.Sq R M
  at_ : MatAt wr b0 R M
  chg : Chg No w wr
structure ORel (w wr : World) (R r : Nat) : Prop where
  m : MatN wr w.heap.size R r (List.replicate R (List.replicate R false))
  size : wr.heap.size = w.heap.size + 1 + r
  chg : Chg No w wr
theorem row_rep {R i : Nat} (h : i < R) (l : List Bool) : Pl.row (List.replicate R l) i = l := by
  unfold Pl.row
  rw [List.getElem?_replicate, if_pos h]; rfl
theorem ORel.next {w wr : World} {R r : Nat} (h : ORel w wr R r) (hr : r < R) :
    ORel w ((wr.setCell ⟨w.heap.size, r, none⟩ (.slice (some ⟨wr.heap.size, 0, none⟩) R R)).alloc (.cells (bcells (List.replicate R false)) 4)) R (r + 1) := by
  have hsz : (wr.setCell ⟨w.heap.size, r, none⟩ (.slice (some ⟨wr.heap.size, 0, none⟩) R R)).heap.size = w.heap.size + 1 + r := by rw [heapSize_setCell, h.size]
  refine ⟨⟨?_, fun i hi => ?_⟩, ?_, ?_⟩
  · have h1 := (h.m.o.set r (.slice (some ⟨wr.heap.size, 0, none⟩) R R)).alloc (.cells (bcells (List.replicate R false)) 4)
    rw [h.size] at h1 ⊢
    rwa [ocells_set _ _ _ hr] at h1
  · by_cases e : i = r
    · subst e
      rw [row_rep hr]
      exact Blk.at_new hsz.symm _ _
    · rw [row_rep (by omega)]
      have := h.m.r i (by omega)
      rw [row_rep (by omega)] at this
      exact Blk.alloc (Blk.other this (by simp; omega) _) _
  · rw [World.size_alloc, hsz]; omega
  · exact Chg.alloc (Chg.setCell h.chg (fun h => absurd h (Nat.lt_irrefl _)) _) _

set_option maxHeartbeats 2000000 in
set_option maxRecDepth 100000 in
theorem left_any (w : World) (v : Value) (bn : Nat) (g : Pl.Gr) (h0 : 0 < g.length) (hg : GB g) (hv : Rd3 w v g) (hn : Blk w bn (bcells (Pl.emptyOf g)) 4) :
    Calls Tryz.prog 23 #[v, .slice (some ⟨bn, 0, none⟩) g.length g.length] w fun e w' => ∃ b, e = .returned (.slice (some ⟨b, 0, none⟩) g.length g.length) ∧ MatAt w' b g.length (Pl.leftOf g) ∧ Pl.Sq g.length (Pl.leftOf g) ∧ Chg No w w' ∧ w.heap.size ≤ b := by
  obtain ⟨A, c, rfl⟩ := hv.slice
  have hl := hg.l
  have hmk := make_bools g.length (by omega)
  have hmr := make_rows g.length (by omega)
  have HG := Lib.hid hg
  have HV := Lib.hid hv
  have HN := Lib.hid hn
  have hel := (Pl.emptyOf_fix g).1
  obtain ⟨nn, hnn⟩ : ∃ nn, nn = Pl.emptyOf g := ⟨_, rfl⟩
  have HLo := Lib.hid (show Pl.leftOf g = Pl.iter (Pl.leftRound g nn) g.length (List.replicate g.length (List.replicate g.length false)) by rw [hnn]; rfl)
  rw [← hnn] at HN hel
  have HEL := Lib.hid hel
  clear hg hv hn hnn hel
  go_enter Tryz.func23, Tryz.ntmps23
  go_wp2
  go_loopw [21] (fun i wr => ∃ r : Nat, r ≤ g.length ∧ i = .int .i64 (r : Int) ∧ ORel w wr g.length r) (fun i _ => g.length - (intOf i).toNat)
  case atStart => exact ⟨0, Nat.zero_le _, rfl, ⟨Blk.new _ _ _, fun i hi => absurd hi (Nat.not_lt_zero _)⟩, by simp, (Chg.refl _ _).alloc _⟩
  case round =>
    obtain ⟨r, hr, rfl, ho⟩ := hrel
    clear hmr
    by_cases hlt : r < g.length
    · have c0 : wr.cell? ⟨w.heap.size, r, none⟩ = some (.slice none 0 0) := by
        rw [ho.m.o.cell]; unfold ocells; simp [hlt]
      have f0 := ho.m.o.fz r
      have l0 := ho.m.o.lt
      have HO := Lib.hid (ho.next hlt)
      have c1 : ∀ o, (wr.alloc o).cell? ⟨w.heap.size, r, none⟩ = some (.slice none 0 0) := fun o => by rw [World.cell?_alloc_lt _ _ _ l0]; exact c0
      have f1 : ∀ o, (wr.alloc o).frozen? ⟨w.heap.size, r, none⟩ = false := fun o => (ho.m.o.alloc o).fz r
      clear ho c0 f0
      go_wp2
      go_roundw
      case rel => exact ⟨r + 1, by omega, by go_num, HO.out⟩
      case measure => simp [intOf]; omega
    · obtain rfl : r = g.length := by omega
      have hM : MRel w wr w.heap.size g.length (List.replicate g.length (List.replicate g.length false)) := ⟨⟨by simp, fun x hx => by rw [(List.mem_replicate.1 hx).2]; simp⟩, ho.m, ho.chg⟩
      have HM := Lib.hid hM
      clear hM ho hmk
      go_wp2
      go_loopw [33] (fun i wr => ∃ n : Nat, n ≤ g.length ∧ i = .int .i64 (n : Int) ∧ MRel w wr w.heap.size g.length (Pl.iter (Pl.leftRound g nn) n (List.replicate g.length (List.replicate g.length false)))) (fun i _ => g.length - (intOf i).toNat)
      case atStart => exact ⟨0, Nat.zero_le _, rfl, HM.out⟩
      case round =>
        obtain ⟨n, hn, rfl, hm⟩ := hrel
        clear hlt
        by_cases hlt : n < g.length
        · obtain ⟨Ma, hMa⟩ : ∃ x, x = Pl.iter (Pl.leftRound g nn) n (List.replicate g.length (List.replicate g.length false)) := ⟨_, rfl⟩
          rw [← hMa] at hm
          have hround : Pl.iter (Pl.leftRound g nn) (n + 1) (List.replicate g.length (List.replicate g.length false)) = g.zipIdx.foldl (Pl.leftRule nn) Ma := by rw [hMa]; rfl
          have HRO := Lib.hid hround
          have HMA := Lib.hid hm
          clear hMa hround hm
          go_wp2
          go_loopw [37] (fun i wr => ∃ r : Nat, r ≤ g.length ∧ i = .int .i64 (r : Int) ∧ MRel w wr w.heap.size g.length ((g.zipIdx.take r).foldl (Pl.leftRule nn) Ma)) (fun i _ => g.length - (intOf i).toNat)
          case atStart => exact ⟨0, Nat.zero_le _, rfl, HMA.out⟩
          case round =>
            obtain ⟨r, hr, rfl, hm⟩ := hrel
            by_cases hlt2 : r < g.length
            · obtain ⟨alts, hu⟩ : ∃ u, g[r]? = some u := ⟨_, List.getElem?_eq_getElem hlt2⟩
              have hal := HG.out.a alts (List.mem_of_getElem? hu)
              obtain ⟨b2, o2, A', c', rfl, h10, h2⟩ := Rd3.at_ HV.out hu
              have h1 := Chg.kept hm.chg h10 (fun h => h)
              obtain ⟨Mb, hMb⟩ : ∃ x, x = (g.zipIdx.take r).foldl (Pl.leftRule nn) Ma := ⟨_, rfl⟩
              rw [← hMb] at hm
              have hz : g.zipIdx[r]? = some (alts, r) := by rw [List.getElem?_zipIdx, hu]; simp
              have hstep := foldl_take (Pl.leftRule nn) g.zipIdx r (alts, r) Ma hz
              rw [← hMb] at hstep
              have HST := Lib.hid hstep
              have HMB := Lib.hid hm
              have HU := Lib.hid hu
              have HR2 := Lib.hid h2
              clear hMb hm hz hstep hu h2 h10
              go_wp2
              go_loopw [44] (fun i wr => ∃ a : Nat, a ≤ alts.length ∧ i = .int .i64 (a : Int) ∧ MRel w wr w.heap.size g.length ((alts.take a).foldl (fun M alt => Pl.leftAlt nn r alt M) Mb)) (fun i _ => alts.length - (intOf i).toNat)
              case atStart => exact ⟨0, Nat.zero_le _, rfl, HMB.out⟩
              case round =>
                obtain ⟨a, ha, rfl, hm⟩ := hrel
                clear h1
                by_cases hlt3 : a < alts.length
                · obtain ⟨alt, hu⟩ : ∃ u, alts[a]? = some u := ⟨_, List.getElem?_eq_getElem hlt3⟩
                  have hall := HG.out.s alts (List.mem_of_getElem? HU.out) alt (List.mem_of_getElem? hu)
                  have hsym := HG.out.i alts (List.mem_of_getElem? HU.out) alt (List.mem_of_getElem? hu)
                  obtain ⟨b3, o3, A3, c3, rfl, h30, h4⟩ := Rd2.at_ HR2.out hu
                  have h3 := Chg.kept hm.chg h30 (fun h => h)
                  obtain ⟨Mc, hMc⟩ : ∃ x, x = (alts.take a).foldl (fun M alt => Pl.leftAlt nn r alt M) Mb := ⟨_, rfl⟩
                  rw [← hMc] at hm
                  have hstep := foldl_take (fun M alt => Pl.leftAlt nn r alt M) alts a alt Mb hu
                  rw [← hMc] at hstep
                  obtain ⟨Mt, hMt⟩ : ∃ x, x = Pl.leftAlt nn r alt Mc := ⟨_, rfl⟩
                  rw [← hMt] at hstep
                  have HST3 := Lib.hid hstep
                  have HSQ := Lib.hid (show Pl.Sq g.length Mt by rw [hMt]; exact leftAlt_sq nn r hlt2 alt Mc hm.sq (fun s hs => (hsym s hs).2))
                  have HL0 := Lib.hid (show LRel w wr w.heap.size g.length nn r alt Mc Mt from ⟨hm.sq, hm.at_, hm.chg, hMt.symm⟩)
                  have HR3 := Lib.hid h4
                  have HSY := Lib.hid hsym
                  clear hMc hm hstep hMt hu h4 hsym h30
                  go_wp2
                  go_loopw [50] (fun i wr => ∃ (k : Nat) (M : Pl.Mat), k ≤ alt.length ∧ i = .int .i64 (k : Int) ∧ LRel w wr w.heap.size g.length nn r (alt.drop k) M Mt) (fun i _ => alt.length - (intOf i).toNat)
                  case atStart => exact ⟨0, Mc, Nat.zero_le _, rfl, HL0.out⟩
                  case round =>
                    obtain ⟨k, M, hk, rfl, hm⟩ := hrel
                    clear h3
                    by_cases hlt4 : k < alt.length
                    · obtain ⟨s, hu⟩ : ∃ u, alt[k]? = some u := ⟨_, List.getElem?_eq_getElem hlt4⟩
                      obtain ⟨b4, o4, rfl, h50⟩ := Rd1.at_ HR3.out hu
                      have h5 := Chg.kept hm.chg h50 (fun h => h)
                      obtain ⟨⟨hs1, hs2⟩, hs3⟩ := HSY.out s (List.mem_of_getElem? hu)
                      have hd : alt.drop k = s :: alt.drop (k + 1) := by
                        rw [List.drop_eq_getElem_cons hlt4]
                        congr 1
                        rw [List.getElem?_eq_getElem hlt4] at hu
                        exact Option.some.inj hu
                      have heq := hm.eq
                      rw [hd] at heq
                      unfold Pl.leftAlt at heq
                      by_cases hle : s ≤ -100
                      · have hix := hs3 hle
                        rw [if_neg (by omega)] at heq
                        simp only at heq
                        obtain ⟨q, hq⟩ : ∃ q, q = Pl.idx s := ⟨_, rfl⟩
                        rw [← hq] at heq hix
                        have hrule := rule_pos
                        obtain ⟨M1, hM1⟩ : ∃ x, x = M.set r ((Pl.row M r).set q true) := ⟨_, rfl⟩
                        have hsq1 : Pl.Sq g.length M1 := by rw [hM1]; exact sq_put hm.sq hlt2 true
                        have hat1 := hm.at_.set hm.sq hlt2 (k := q) true
                        rw [← hM1] at heq hat1
                        rw [← matPart_all hsq1 hlt2] at heq
                        have e1 := hm.at_.head hlt2
                        have e2 := hm.at_.cell hm.sq hlt2 hix
                        have e3 := (hm.at_.r r hlt2).fz q
                        have e4 := hat1.head hix
                        have hch1 : Chg No w (wr.setCell ⟨w.heap.size + 1 + r, q, none⟩ (.bool true)) := Chg.setCell hm.chg (fun h => absurd h (by simp; omega)) _
                        have hmp0 := matPart_zero (q := q) hsq1 hlt2
                        have HQ := Lib.hid hq
                        have HEQ := Lib.hid heq
                        have HS1 := Lib.hid hsq1
                        have HA1 := Lib.hid (show MatAt _ _ _ (matPart M1 r q 0) by rw [hmp0]; exact hat1)
                        have HC1 := Lib.hid hch1
                        have HRP := Lib.hid (rule_pos wr s hs1 hle)
                        clear hq heq hM1 hsq1 hat1 hch1 hm hd hu h50 hrule hmp0 hs3
                        go_wp2_with (first | (go_at_call 22; refine HRP.out.mono ?_; rw [← HQ.out]; rintro e w' ⟨rfl, rfl⟩))
                        clear h5 e1 e2 e3 e4 HRP hle hs1 hs2
                        go_loopw [69] (fun i wr => ∃ l : Nat, l ≤ g.length ∧ i = .int .i64 (l : Int) ∧ MatAt wr w.heap.size g.length (matPart M1 r q l) ∧ Chg No w wr) (fun i _ => g.length - (intOf i).toNat)
                        case atStart => exact ⟨0, Nat.zero_le _, rfl, HA1.out, HC1.out⟩
                        case round =>
                          obtain ⟨l, hl5, rfl, ha1, hc1⟩ := hrel
                          have hsq2 := matPart_sq HS1.out (q := q) (k := l) hlt2
                          by_cases hlt5 : l < g.length
                          · have e1 := ha1.head hlt2
                            have e2 := ha1.cell hsq2 hlt2 hlt5
                            have e3 := ha1.cell hsq2 hix hlt5
                            rw [matPart_is HS1.out hlt2 hlt5] at e3
                            have e4 := (ha1.r r hlt2).fz l
                            have hset := ha1.set hsq2 hlt2 (k := l) (Pl.gb (Pl.row (matPart M1 r q l) r) l || Pl.gb (Pl.row M1 q) l)
                            rw [matPart_succ HS1.out hlt2 hlt5] at hset
                            obtain ⟨x, hx⟩ : ∃ x, x = Pl.gb (Pl.row (matPart M1 r q l) r) l := ⟨_, rfl⟩
                            obtain ⟨y, hy⟩ : ∃ y, y = Pl.gb (Pl.row M1 q) l := ⟨_, rfl⟩
                            rw [← hx, ← hy] at hset
                            rw [← hx] at e2
                            rw [← hy] at e3
                            have hch : ∀ n u, Chg No w ((wr.drewN n).setCell ⟨w.heap.size + 1 + r, l, none⟩ u) := fun n u => Chg.setCell (hc1.drewN n) (fun h => absurd h (by simp; omega)) u
                            have HSE := Lib.hid hset
                            have HCH := Lib.hid hch
                            clear ha1 hsq2 hx hy hset hch hc1
                            cases x
                            all_goals
                              go_wp2
                              refine wp_tail 16 (by kernel_rfl) ?_
                              simp only [List.take_succ_cons, List.take_zero, List.drop_succ_cons, List.drop_zero]
                              repeat (first | still_step)
                              refine wpStill_nil ?_
                              go_wp2
                              go_roundw
                              case rel => exact ⟨l + 1, by omega, by go_num, HSE.out.no (Chg.refl No _).drew, (HCH.out 0 _).drew⟩
                              case measure => simp [intOf]; omega
                          · obtain rfl : l = g.length := by omega
                            have hbn := Chg.kept hc1 (show w.cell? ⟨bn, q, none⟩ = some (.bool (Pl.gb nn q)) by rw [HN.out.cell]; exact bcells_at (by rw [HEL.out]; exact hix)) (fun h => h)
                            obtain ⟨z, hz⟩ : ∃ z, z = Pl.gb nn q := ⟨_, rfl⟩
                            have heq := HEQ.out
                            rw [← hz] at heq
                            rw [← hz] at hbn
                            clear hz HEQ
                            cases z with
                            | true =>
                              have HL := Lib.hid (show LRel w wr w.heap.size g.length nn r (alt.drop (k + 1)) (matPart M1 r q g.length) Mt from ⟨hsq2, ha1, hc1, by simpa using heq⟩)
                              clear ha1 hsq2 hc1 heq
                              go_wp2
                              go_roundw
                              case rel => exact ⟨k + 1, _, by omega, by go_num, HL.out⟩
                              case measure => simp [intOf]; omega
                            | false =>
                              have HL := Lib.hid (show MRel w wr w.heap.size g.length Mt from (by
                                have e : matPart M1 r q g.length = Mt := by simpa using heq
                                rw [← e]
                                exact ⟨hsq2, ha1, hc1⟩))
                              clear ha1 hsq2 hc1 heq
                              go_wp2
                              go_roundw
                              case rel => exact ⟨a + 1, by omega, by go_num, by rw [HST3.out]; exact HL.out⟩
                              case measure => simp [intOf]; omega
                      · rw [if_pos (by omega)] at heq
                        have HL := Lib.hid (show MRel w wr w.heap.size g.length Mt by rw [← heq]; exact ⟨hm.sq, hm.at_, hm.chg⟩)
                        have HRP := Lib.hid (rule_neg wr s (by omega))
                        clear heq hm hd hu h50 hs3
                        go_wp2_with (first | (go_at_call 22; refine HRP.out.mono ?_; rintro e w' ⟨rfl, rfl⟩))
                        go_roundw
                        case rel => exact ⟨a + 1, by omega, by go_num, by rw [HST3.out]; exact HL.out⟩
                        case measure => simp [intOf]; omega
                    · have hk2 : k = alt.length := by omega
                      have heq := hm.eq
                      rw [hk2, List.drop_length] at heq
                      have HL := Lib.hid (show MRel w wr w.heap.size g.length Mt by rw [← heq]; exact ⟨hm.sq, hm.at_, hm.chg⟩)
                      clear heq hm hk2
                      go_wp2
                      go_roundw
                      case rel => exact ⟨a + 1, by omega, by go_num, by rw [HST3.out]; exact HL.out⟩
                      case measure => simp [intOf]; omega
                · have haa : a = alts.length := by omega
                  subst haa
                  rw [List.take_length] at hm
                  have HL := Lib.hid hm
                  clear hm
                  go_wp2
                  go_roundw
                  case rel => exact ⟨r + 1, by omega, by go_num, by rw [HST.out]; exact HL.out⟩
                  case measure => simp [intOf]; omega
            · have hrr : r = g.length := by omega
              subst hrr
              rw [List.take_of_length_le (by simp)] at hm
              have HL := Lib.hid hm
              clear hm
              go_wp2
              go_roundw
              case rel => exact ⟨n + 1, by omega, by go_num, by rw [HRO.out]; exact HL.out⟩
              case measure => simp [intOf]; omega
        · have hnn : n = g.length := by omega
          subst hnn
          have HL := Lib.hid hm
          clear hm
          go_wp2
          go_ret
          exact ⟨_, rfl, by rw [HLo.out]; exact HL.out.at_, by rw [HLo.out]; exact HL.out.sq, HL.out.chg, Nat.le_refl _⟩
end Go.Proofs.YtemdillhbnmjkaaGreatDoor

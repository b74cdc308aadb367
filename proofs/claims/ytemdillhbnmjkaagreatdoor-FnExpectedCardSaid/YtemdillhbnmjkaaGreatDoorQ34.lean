/- The intervals of a set, as ranges, as truths (38, 26, 9, 25, 13). -/
import Derived.Test.YtemdillhbnmjkaaGreatDoorQ33
import Derived.Test.YtemdillhbnmjkaaGreatDoorQ21
namespace Go.Proofs.YtemdillhbnmjkaaGreatDoor
open Go.RowKit

theorem et33 : ET 33 67 (.agg #[.int .i64 0, .int .i64 0]) 2 16 := ⟨by kernel_rfl, by kernel_rfl, rfl, by decide⟩
theorem et65 : ET 65 68 (.agg #[.int .i64 0, .int .i64 0]) 2 16 := ⟨by kernel_rfl, by kernel_rfl, rfl, by decide⟩

theorem getIv_any (w : World) (p : Nat) (A : Option Addr) (n c : Nat) (h : w.cell? ⟨p, 0, none⟩ = some (.slice A n c)) : Calls Tryz.prog 38 #[.pointer (some ⟨p, 0, none⟩)] w fun e w' => e = .returned (.slice A n c) ∧ w = w' := by
  go_enter Tryz.func38, Tryz.ntmps38
  go_wp2
  go_ret
  exact ⟨rfl, rfl⟩

/-- a row of intervals, of elements of type e, that was made since w0 -/
structure IvN (e : TypeId) (w0 w : World) (v : Value) (l : List Pl.Iv) : Prop where
  own : Own w e 2 v l.length (l.flatMap iv2)
  new : ∀ k, v.ownBlock = some k → w0.heap.size ≤ k
  chg : Chg No w0 w
theorem IvN.made {e : TypeId} {w0 w : World} (h : Chg No w0 w) : IvN e w0 (w.alloc (.cells #[] e)) (.slice (some ⟨w.heap.size, 0, none⟩) 0 0) [] :=
  ⟨own_made w _ rfl e 2, fun k hk => by simp [Value.ownBlock] at hk; subst hk; exact h.size, h.alloc _⟩
theorem IvN.no {e : TypeId} {w0 w w' : World} {v : Value} {l : List Pl.Iv} (h : IvN e w0 w v l) (hc : Chg No w w') : IvN e w0 w' v l := ⟨h.own.no hc, h.new, h.chg.trans hc⟩
theorem IvN.snoc {e : TypeId} {w0 w w' : World} {v : Value} {l : List Pl.Iv} {g c' n : Nat} {x : Pl.Iv} (h : IvN e w0 w v l) (h1 : Own w' e 2 (.slice (some ⟨g, 0, none⟩) (n + 1) c') (n + 1) (l.flatMap iv2 ++ iv2 x)) (hn : n = l.length) (h2 : w.grownBy w' v.ownBlock) (h3 : v.ownBlock = some g ∨ g = w.heap.size) :
    IvN e w0 w' (.slice (some ⟨g, 0, none⟩) (n + 1) c') (l ++ [x]) := by
  refine ⟨?_, ?_, ?_⟩
  · subst hn
    have e1 : (l ++ [x]).flatMap iv2 = l.flatMap iv2 ++ iv2 x := by simp
    rw [e1, List.length_append]
    exact h1
  · intro k hk
    simp [Value.ownBlock] at hk
    subst hk
    rcases h3 with h3 | rfl
    · exact h.new _ h3
    · exact h.chg.size
  · exact h.chg.grown h2 (fun k hk hlt => absurd hlt (by have := h.new k hk; omega))

set_option maxHeartbeats 1000000 in
set_option maxRecDepth 100000 in
theorem ranges_any (w : World) (B p m : Nat) (h : LookS w B p m) : Calls Tryz.prog 26 #[.pointer (some ⟨p, 0, none⟩)] w fun e w' => ∃ v, e = .returned v ∧ IvN 67 w w' v (Pl.canon m) := by
  obtain ⟨hm, hp, v, ro, h3, h4⟩ := h
  have hlen := (Pl.canon_facts m hm).1
  obtain ⟨A, c, hv, hrd⟩ : ∃ A c, v = .slice A (Pl.canon m).length c ∧ ∀ (j : Nat) i, (Pl.canon m)[j]? = some i → ∃ g, A = some ⟨g, 0, none⟩ ∧ w.cell? ⟨g, j * 2, none⟩ = some (.int .i64 i.1) ∧ w.cell? ⟨g, j * 2 + 1, none⟩ = some (.int .i64 i.2) := by
    rcases h4 with ⟨rfl, rfl⟩ | ⟨g, c, rfl, h5, h6⟩
    · exact ⟨none, 0, by rw [canon_zero]; rfl, fun j i hj => by rw [canon_zero] at hj; simp at hj⟩
    · exact ⟨_, c, rfl, fun j i hj => ⟨g, rfl, h5.cellAt (ivs_at hj).1, h5.cellAt (ivs_at hj).2⟩⟩
  subst hv
  have HR := Lib.hid hrd
  have hc0 : ∀ o, (w.alloc o).cell? ⟨p, 0, none⟩ = some (.slice A (Pl.canon m).length c) := fun o => by rw [(h3.alloc o).cell]; rfl
  have HC := Lib.hid hc0
  generalize Pl.canon m = l at *
  clear h4 h3 hrd hc0
  go_enter Tryz.func26, Tryz.ntmps26
  go_wp2_with (first | (go_at_call 38; refine (getIv_any _ _ _ _ _ (HC.out _)).mono ?_; rintro e w' ⟨rfl, rfl⟩))
  go_loopw [3, 12] (fun v i wr => ∃ j : Nat, j ≤ l.length ∧ i = .int .i64 (j : Int) ∧ IvN 67 w wr v (l.take j)) (fun _ i _ => l.length - (intOf i).toNat)
  case atStart => exact ⟨0, Nat.zero_le _, rfl, by simpa using IvN.made (Chg.refl No w)⟩
  case round =>
    obtain ⟨j, hj, rfl, hn⟩ := hrel
    have htl : (l.take j).length = j := by rw [List.length_take, Nat.min_eq_left hj]
    by_cases hlt : j < l.length
    · obtain ⟨x, hx⟩ : ∃ x, l[j]? = some x := ⟨_, List.getElem?_eq_getElem hlt⟩
      obtain ⟨g, rfl, p0, p1⟩ := HR.out j x hx
      have hsl := Own.slice hn.own
      rw [htl] at hsl
      obtain ⟨A3, c3, rfl⟩ := hsl
      have q0 := Chg.kept hn.chg p0 (fun h => h)
      have q1 := Chg.kept hn.chg p1 (fun h => h)
      have htake : l.take (j + 1) = l.take j ++ [x] := by rw [List.take_add_one, hx]; rfl
      have HTK := Lib.hid htake
      have HN := Lib.hid hn
      have HTL := Lib.hid htl
      have HX := Lib.hid hx
      clear htake hn htl hx p0 p1
      go_wp2_with (first | (at_builtin; refine wp_app et33 rfl _ _ rfl (.slice A3 j c3) j ((l.take j).flatMap iv2) rfl ?c1 _ rfl (iv2 x) ?c2 rfl ?c3 ?c4 ?c5 ?c6))
      case c1 =>
        have := (HN.out.no (((Chg.refl No wr).alloc (.cells #[.int .i64 x.1, .int .i64 x.2] 104)).alloc (.cells #[.int .i64 x.1, .int .i64 x.2] 67))).own
        rwa [HTL.out] at this
      case c2 => exact Blk.at_new (by simp) _ _
      case c3 => intro u hu; simp [iv2] at hu; rcases hu with rfl | rfl <;> rfl
      case c4 => omega
      case c5 => omega
      case c6 =>
        intro g2 c2 w4 h5 h6 h7
        have h8 := (HN.out.no (((Chg.refl No wr).alloc (.cells #[.int .i64 x.1, .int .i64 x.2] 104)).alloc (.cells #[.int .i64 x.1, .int .i64 x.2] 67))).snoc h5 HTL.out.symm h6 (h7.imp id (fun e => by rw [e]; simp))
        rw [← HTK.out] at h8
        have H8 := Lib.hid h8
        clear h5 h6 h7 h8
        go_wp2
        go_roundw
        case rel => exact ⟨j + 1, by omega, by go_num, H8.out⟩
        case measure => simp [intOf]; omega
    · obtain rfl : j = l.length := by omega
      rw [List.take_length] at hn
      obtain ⟨A3, c3, rfl⟩ := Own.slice hn.own
      have H8 := Lib.hid hn
      clear hn htl
      go_wp2
      go_ret
      exact ⟨_, rfl, H8.out⟩

/-- from t1 on, ahead of t -/
def markPart (o : List Bool) (t1 t : Nat) : List Bool := (List.range 7).map fun i => Pl.gb o i || (decide (t1 ≤ i) && decide (i < t))
theorem markPart_len (o : List Bool) (t1 t : Nat) : (markPart o t1 t).length = 7 := by simp [markPart]
theorem markPart_at (o : List Bool) (t1 t i : Nat) (h : i < 7) : Pl.gb (markPart o t1 t) i = (Pl.gb o i || (decide (t1 ≤ i) && decide (i < t))) := by
  unfold markPart
  rw [Pl.gb, List.getElem?_map, List.getElem?_range h]
  rfl
theorem markPart_zero (o : List Bool) (t1 : Nat) (h : o.length = 7) : markPart o t1 t1 = o := by
  refine Pl.gb_ext (by rw [markPart_len, h]) (fun i => ?_)
  rcases Nat.lt_or_ge i 7 with hi | hi
  · rw [markPart_at _ _ _ _ hi]
    have : (decide (t1 ≤ i) && decide (i < t1)) = false := by simp
    rw [this, Bool.or_false]
  · rw [Pl.gb_ge _ _ (by rw [markPart_len]; exact hi), Pl.gb_ge _ _ (by omega)]
theorem markPart_succ (o : List Bool) (t1 t : Nat) (h1 : t1 ≤ t) (h7 : t < 7) : (markPart o t1 t).set t true = markPart o t1 (t + 1) := by
  refine Pl.gb_ext (by simp [markPart_len]) (fun i => ?_)
  rw [Pl.gb_set _ _ _ _ (by rw [markPart_len]; exact h7)]
  rcases Nat.lt_or_ge i 7 with hi | hi
  · rw [markPart_at _ _ _ _ hi, markPart_at _ _ _ _ hi]
    by_cases e : i = t
    · subst e; simp [h1]
    · rw [if_neg e]
      congr 2
      rw [decide_eq_decide]
      omega
  · rw [if_neg (by omega), Pl.gb_ge _ _ (by rw [markPart_len]; exact hi), Pl.gb_ge _ _ (by rw [markPart_len]; exact hi)]
theorem marksOf_len (l : List Pl.Iv) : (Pl.marksOf l).length = 7 := by simp [Pl.marksOf]
theorem marksOf_at (l : List Pl.Iv) (i : Nat) (h : i < 7) : Pl.gb (Pl.marksOf l) i = l.any fun v => decide (v.1 ≤ (i : Int) - 2) && decide ((i : Int) - 2 < v.2) := by
  unfold Pl.marksOf
  rw [Pl.gb, List.getElem?_map, List.getElem?_range h]
  rfl
theorem marksOf_snoc (l : List Pl.Iv) (t1 t2 : Nat) : Pl.marksOf (l ++ [((t1 : Int) - 2, (t2 : Int) - 2)]) = markPart (Pl.marksOf l) t1 t2 := by
  refine Pl.gb_ext (by rw [markPart_len, marksOf_len]) (fun i => ?_)
  rcases Nat.lt_or_ge i 7 with hi | hi
  · rw [markPart_at _ _ _ _ hi, marksOf_at _ _ hi, marksOf_at _ _ hi, List.any_append]
    congr 1
    simp
  · rw [Pl.gb_ge _ _ (by rw [marksOf_len]; exact hi), Pl.gb_ge _ _ (by rw [markPart_len]; exact hi)]
theorem marksOf_nil : Pl.marksOf [] = List.replicate 7 false := by decide

def MRet (w : World) (o : List Bool) (e : Ending) (w' : World) : Prop := ∃ b, e = .returned (.tuple #[.slice (some ⟨b, 0, none⟩) 7 7, .bool true]) ∧ Blk w' b (bcells o) 4 ∧ Chg No w w' ∧ w.heap.size ≤ b

set_option maxHeartbeats 1000000 in
set_option maxRecDepth 100000 in
theorem markS_any (w : World) (v : Value) (l : List Pl.Iv) (hv : Own w 68 2 v l.length (l.flatMap iv2)) (hb : ∀ i ∈ l, -2 ≤ i.1 ∧ i.1 < i.2 ∧ i.2 ≤ 5) (hl : l.length ≤ 100) : Calls Tryz.prog 25 #[v] w (MRet w (Pl.marksOf l)) := by
  obtain ⟨A, c, rfl⟩ := hv.slice
  have hmk := make_seven
  have HV := Lib.hid hv
  have HB := Lib.hid hb
  clear hv hb
  go_enter Tryz.func25, Tryz.ntmps25
  go_wp2
  clear hmk
  go_loopw [11] (fun i wr => ∃ j : Nat, j ≤ l.length ∧ i = .int .i64 (j : Int) ∧ Blk wr w.heap.size (bcells (Pl.marksOf (l.take j))) 4 ∧ Chg No w wr) (fun i _ => l.length - (intOf i).toNat)
  case atStart => exact ⟨0, Nat.zero_le _, rfl, by rw [List.take_zero, marksOf_nil]; exact Blk.new _ _ _, (Chg.refl _ _).alloc _⟩
  case round =>
    obtain ⟨j, hj, rfl, hbk, hc⟩ := hrel
    by_cases hlt : j < l.length
    · obtain ⟨⟨x1, x2⟩, hx⟩ : ∃ x, l[j]? = some x := ⟨_, List.getElem?_eq_getElem hlt⟩
      obtain ⟨g1, cap1, cur1, hAA, _, _⟩ := Own.blk HV.out (by omega)
      cases hAA
      have q0 := Chg.kept hc (HV.out.cellAt (ivs_at hx).1) (fun h => h)
      have q1 := Chg.kept hc (HV.out.cellAt (ivs_at hx).2) (fun h => h)
      have hbb := HB.out _ (List.mem_of_getElem? hx)
      simp only at q0 q1 hbb
      obtain ⟨b1, b2, b3⟩ := hbb
      obtain ⟨t1, rfl⟩ : ∃ t : Nat, x1 = (t : Int) - 2 := ⟨(x1 + 2).toNat, by omega⟩
      obtain ⟨t2, rfl⟩ : ∃ t : Nat, x2 = (t : Int) - 2 := ⟨(x2 + 2).toNat, by omega⟩
      have ht12 : t1 < t2 := by omega
      have ht7 : t2 ≤ 7 := by omega
      have htake : Pl.marksOf (l.take (j + 1)) = markPart (Pl.marksOf (l.take j)) t1 t2 := by rw [List.take_add_one, hx]; exact marksOf_snoc _ _ _
      have HTK := Lib.hid htake
      obtain ⟨o, ho⟩ : ∃ o, o = Pl.marksOf (l.take j) := ⟨_, rfl⟩
      have ho7 : o.length = 7 := by rw [ho, marksOf_len]
      rw [← ho] at HTK hbk
      have H0 := Lib.hid (show Blk (wr.alloc (.cells #[.int .i64 ((t1 : Int) - 2), .int .i64 ((t2 : Int) - 2)] 68)) w.heap.size (bcells (markPart o t1 t1)) 4 by rw [markPart_zero o t1 ho7]; exact hbk.alloc _)
      have H1 := Lib.hid (show Chg No w (wr.alloc (.cells #[.int .i64 ((t1 : Int) - 2), .int .i64 ((t2 : Int) - 2)] 68)) from hc.alloc _)
      have H2 := Lib.hid (Blk.new wr #[.int .i64 ((t1 : Int) - 2), .int .i64 ((t2 : Int) - 2)] 68)
      have hwl := hbk.lt
      have d1 : ¬ (t1 : Int) - 2 < -2 := by omega
      have d2 : ¬ 5 < (t2 : Int) - 2 := by omega
      have d3 : ¬ (t2 : Int) - 2 ≤ (t1 : Int) - 2 := by omega
      clear htake hx hbk hc ho
      obtain ⟨wa, rfl⟩ : ∃ wa : World, wa = wr := ⟨_, rfl⟩
      go_wp2
      clear q0 q1 d1 d2 d3
      go_loopw [7] (fun i wr => ∃ t : Nat, t1 ≤ t ∧ t ≤ t2 ∧ i = .int .i64 ((t : Int) - 2) ∧ Blk wr w.heap.size (bcells (markPart o t1 t)) 4 ∧ Chg No w wr ∧ Blk wr wa.heap.size #[.int .i64 ((t1 : Int) - 2), .int .i64 ((t2 : Int) - 2)] 68) (fun i _ => (5 - intOf i).toNat)
      case atStart => exact ⟨t1, Nat.le_refl _, Nat.le_of_lt ht12, rfl, H0.out, H1.out, H2.out⟩
      case round =>
        obtain ⟨t, h1, h2, rfl, h3, h4, h5⟩ := hrel
        have e2 := show wr.cell? ⟨wa.heap.size, 1, none⟩ = some (.int .i64 ((t2 : Int) - 2)) by rw [h5.cell]; rfl
        by_cases hlt2 : t < t2
        · have ht : t < 7 := by omega
          have e1 : wr.cell? ⟨w.heap.size, t, none⟩ = some (.bool (Pl.gb (markPart o t1 t) t)) := by rw [h3.cell]; exact bcells_at (by rw [markPart_len]; exact ht)
          have e3 := h3.fz t
          have hset := h3.set t (.bool true)
          rw [bcells_set, markPart_succ o t1 t h1 ht] at hset
          have hch : Chg No w (wr.setCell ⟨w.heap.size, t, none⟩ (.bool true)) := Chg.setCell h4 (fun h => absurd h (Nat.lt_irrefl _)) _
          have h5' : Blk (wr.setCell ⟨w.heap.size, t, none⟩ (.bool true)) wa.heap.size #[.int .i64 ((t1 : Int) - 2), .int .i64 ((t2 : Int) - 2)] 68 := h5.other (by simp; omega) _
          have HSE := Lib.hid hset
          have HCH := Lib.hid hch
          have H5 := Lib.hid h5'
          have d1 : (t : Int) - 2 < (t2 : Int) - 2 := by omega
          have d2 : (0 : Int) ≤ (t : Int) := by omega
          have d3 : (t : Int) < 7 := by omega
          have hwl2 := h3.lt
          clear h3 h4 h5 hset hch h5'
          go_wp2
          go_roundw
          case rel => exact ⟨t + 1, by omega, by omega, by first | go_num | (congr 1; omega), HSE.out, HCH.out, H5.out⟩
          case measure => simp [intOf]; omega
        · have htt : t = t2 := by omega
          rw [htt, ← HTK.out] at h3
          have HB3 := Lib.hid h3
          have HC3 := Lib.hid h4
          have d1 : ¬ (t : Int) - 2 < (t2 : Int) - 2 := by omega
          clear h3 h4 h5 htt
          go_wp2
          go_roundw
          case rel => exact ⟨j + 1, by omega, by go_num, HB3.out, HC3.out⟩
          case measure => simp [intOf]; omega
    · obtain rfl : j = l.length := by omega
      rw [List.take_length] at hbk
      have HB3 := Lib.hid hbk
      have HC3 := Lib.hid hc
      clear hbk hc
      go_wp2
      go_ret2
      exact ⟨_, rfl, HB3.out, HC3.out, Nat.le_refl _⟩

set_option maxHeartbeats 1000000 in
set_option maxRecDepth 100000 in
theorem marks_any (w : World) (v : Value) (l : List Pl.Iv) (hv : Own w 67 2 v l.length (l.flatMap iv2)) (hb : ∀ i ∈ l, -2 ≤ i.1 ∧ i.1 < i.2 ∧ i.2 ≤ 5) (hl : l.length ≤ 100) : Calls Tryz.prog 9 #[v] w (MRet w (Pl.marksOf l)) := by
  obtain ⟨A, c, rfl⟩ := hv.slice
  have HV := Lib.hid hv
  have HB := Lib.hid hb
  clear hv hb
  go_enter Tryz.func9, Tryz.ntmps9
  go_wp2
  go_loopw [4, 10] (fun v i wr => ∃ j : Nat, j ≤ l.length ∧ i = .int .i64 (j : Int) ∧ IvN 68 w wr v (l.take j)) (fun _ i _ => l.length - (intOf i).toNat)
  case atStart => exact ⟨0, Nat.zero_le _, rfl, by simpa using IvN.made (Chg.refl No w)⟩
  case round =>
    obtain ⟨j, hj, rfl, hn⟩ := hrel
    have htl : (l.take j).length = j := by rw [List.length_take, Nat.min_eq_left hj]
    by_cases hlt : j < l.length
    · obtain ⟨x, hx⟩ : ∃ x, l[j]? = some x := ⟨_, List.getElem?_eq_getElem hlt⟩
      obtain ⟨g1, cap1, cur1, hAA, _, _⟩ := Own.blk HV.out (by omega)
      cases hAA
      have q0 := Chg.kept hn.chg (HV.out.cellAt (ivs_at hx).1) (fun h => h)
      have q1 := Chg.kept hn.chg (HV.out.cellAt (ivs_at hx).2) (fun h => h)
      have hsl := Own.slice hn.own
      rw [htl] at hsl
      obtain ⟨A3, c3, rfl⟩ := hsl
      have htake : l.take (j + 1) = l.take j ++ [x] := by rw [List.take_add_one, hx]; rfl
      have HTK := Lib.hid htake
      have HN := Lib.hid hn
      have HTL := Lib.hid htl
      have HX := Lib.hid hx
      clear htake hn htl hx
      go_wp2_with (first | (at_builtin; refine wp_app et65 rfl _ _ rfl (.slice A3 j c3) j ((l.take j).flatMap iv2) rfl ?c1 _ rfl (iv2 x) ?c2 rfl ?c3 ?c4 ?c5 ?c6))
      case c1 =>
        have := (HN.out.no (((Chg.refl No wr).alloc (.cells #[.int .i64 x.1, .int .i64 x.2] 67)).alloc (.cells #[.int .i64 x.1, .int .i64 x.2] 68))).own
        rwa [HTL.out] at this
      case c2 => exact Blk.at_new (by simp) _ _
      case c3 => intro u hu; simp [iv2] at hu; rcases hu with rfl | rfl <;> rfl
      case c4 => omega
      case c5 => omega
      case c6 =>
        intro g2 c2 w4 h5 h6 h7
        have h8 := (HN.out.no (((Chg.refl No wr).alloc (.cells #[.int .i64 x.1, .int .i64 x.2] 67)).alloc (.cells #[.int .i64 x.1, .int .i64 x.2] 68))).snoc h5 HTL.out.symm h6 (h7.imp id (fun e => by rw [e]; simp))
        rw [← HTK.out] at h8
        have H8 := Lib.hid h8
        clear h5 h6 h7 h8
        go_wp2
        go_roundw
        case rel => exact ⟨j + 1, by omega, by go_num, H8.out⟩
        case measure => simp [intOf]; omega
    · obtain rfl : j = l.length := by omega
      rw [List.take_length] at hn
      obtain ⟨A3, c3, rfl⟩ := Own.slice hn.own
      have H8 := Lib.hid hn.chg
      have HM := Lib.hid (markS_any wr _ l hn.own HB.out hl)
      clear hn htl
      go_wp2_with fail
      refine HM.out.mono ?_
      rintro e w2 ⟨b, rfl, h1, h2, h3⟩
      have H1 := Lib.hid h1
      have H2 := Lib.hid (H8.out.trans h2)
      have hle := Nat.le_trans H8.out.size h3
      clear h1 h2 h3
      go_wp2
      go_ret2
      exact ⟨_, rfl, H1.out, H2.out, hle⟩

set_option maxHeartbeats 1000000 in
set_option maxRecDepth 100000 in
theorem same_any (w : World) (b1 b2 n : Nat) (l : List Bool) (hn : l.length = n) (hm : n < 1000) (h1 : Blk w b1 (bcells l) 4) (h2 : Blk w b2 (bcells l) 4) :
    Calls Tryz.prog 13 #[.slice (some ⟨b1, 0, none⟩) n n, .slice (some ⟨b2, 0, none⟩) n n] w fun e w' => e = .returned (.bool true) ∧ ∃ k, w' = w.drewN k := by
  have HN := Lib.hid hn
  have H1 := Lib.hid h1
  have H2 := Lib.hid h2
  clear hn h1 h2
  go_enter Tryz.func13, Tryz.ntmps13
  go_wp2
  go_loopw [13] (fun i wr => ∃ (j k : Nat), j ≤ n ∧ i = .int .i64 (j : Int) ∧ wr = w.drewN k) (fun i _ => n - (intOf i).toNat)
  case atStart => exact ⟨0, 0, Nat.zero_le _, rfl, rfl⟩
  case round =>
    obtain ⟨j, k, hj, rfl, rfl⟩ := hrel
    by_cases hlt : j < n
    · have e1 : ∀ k, (w.drewN k).cell? ⟨b1, j, none⟩ = some (.bool (Pl.gb l j)) := fun k => by rw [(H1.out.drewN k).cell]; exact bcells_at (by rw [HN.out]; exact hlt)
      have e2 : ∀ k, (w.drewN k).cell? ⟨b2, j, none⟩ = some (.bool (Pl.gb l j)) := fun k => by rw [(H2.out.drewN k).cell]; exact bcells_at (by rw [HN.out]; exact hlt)
      generalize Pl.gb l j = x at *
      have d0 : (0 : Int) ≤ (j : Int) := by omega
      have d1 : (j : Int) < (n : Int) := by omega
      cases x
      all_goals
        go_wp2
        go_quiet (fail)
        go_wp2
        go_roundw
        case rel => exact ⟨j + 1, _, by omega, by go_num, rfl⟩
        case measure => simp [intOf]; omega
    · go_wp2
      go_ret
      exact ⟨rfl, _, rfl⟩
end Go.Proofs.YtemdillhbnmjkaaGreatDoor

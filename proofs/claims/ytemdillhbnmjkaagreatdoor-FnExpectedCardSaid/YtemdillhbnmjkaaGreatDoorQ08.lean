/- Deserializing: transitions are made. · Deserializing: an edge's transition is made. · Deserializing: a transition is added to a state. · Deserializing: the network in memory, its transitions too; a transition more. -/
import Derived.Test.YtemdillhbnmjkaaGreatDoorQ07
namespace Go.Proofs.YtemdillhbnmjkaaGreatDoor
open Go.RowKit

theorem newSet_any (w : World) : Calls Tryz.prog 49 #[] w fun e w' => e = .returned (.pointer (some ⟨w.heap.size, 0, none⟩)) ∧ w.alloc (.cells #[.slice none 0 0, .bool false] 145) = w' := by
  go_enter Tryz.func49, Tryz.ntmps49
  go_wp2
  go_ret
  exact ⟨rfl, rfl⟩

theorem newInterval_any (w : World) (a b : Int) : Calls Tryz.prog 100 #[.int .i64 a, .int .i64 b] w fun e w' => e = .returned (.agg #[.int .i64 a, .int .i64 b]) ∧ w.alloc (.cells #[.int .i64 a, .int .i64 b] 104) = w' := by
  go_enter Tryz.func100, Tryz.ntmps100
  go_wp2
  exact bodyPost_ret (v := .agg #[.int .i64 a, .int .i64 b]) (by simp [results, Tryz.results100, go_sem]) rfl ⟨rfl, rfl⟩

/-- one token is put into an empty set -/
theorem addOne_nil (w : World) (p : Nat) (ro : Value) (a : Int) (ha : -1000 ≤ a) (ha' : a ≤ 1000) (h : Blk w p #[.slice none 0 0, ro] 145) :
    Calls Tryz.prog 64 #[.pointer (some ⟨p, 0, none⟩), .int .i64 a] w fun e w' => e = .returned (.tuple #[]) ∧
      ∃ g c, Blk w' p #[.slice (some ⟨g, 0, none⟩) 1 c, ro] 145 ∧ Own w' 104 2 (.slice (some ⟨g, 0, none⟩) 1 c) 1 [.int .i64 a, .int .i64 (a + 1)] ∧ Chg (fun k => k = p) w w' ∧ w.heap.size ≤ g := by
  have h1 := h.alloc (.cells #[.int .i64 a, .int .i64 (a + 1)] 104)
  have H := Lib.hid h1
  clear h h1
  go_enter Tryz.func64, Tryz.ntmps64
  go_wp2_with (first | (go_at_call 100; refine (newInterval_any _ _ _).mono ?_; rintro e w' ⟨rfl, rfl⟩))
  refine (addInterval_nil _ p ro a (a + 1) H.out).mono ?_
  rintro e w' ⟨rfl, g, c, h1, h2, h3, h4⟩
  have H1 := Lib.hid h1
  have H2 := Lib.hid h2
  have H3 := Lib.hid h3
  have H4 := Lib.hid h4
  clear h1 h2 h3 h4
  go_wp2
  go_end0
  refine ⟨rfl, g, c, H1.out, H2.out, ?_, ?_⟩
  · exact ((Chg.refl _ w).alloc _).then H3.out (fun k _ h => h)
  · have := H4.out; simp at this; omega

theorem makeLabel_any (w : World) (t : Nat) (tok : Int) (h1 : -1000 ≤ tok) (h2 : tok ≤ 1000) (hc : w.cell? ⟨t, 2, none⟩ = some (.int .i64 tok)) :
    Calls Tryz.prog 170 #[.pointer (some ⟨t, 0, none⟩)] w fun e w' => ∃ p, e = .returned (.pointer (some ⟨p, 0, none⟩)) ∧ (w.heap.size ≤ p ∧ Chg No w w' ∧
      ∃ g c, Blk w' p #[.slice (some ⟨g, 0, none⟩) 1 c, .bool false] 145 ∧ Own w' 104 2 (.slice (some ⟨g, 0, none⟩) 1 c) 1 [.int .i64 tok, .int .i64 (tok + 1)] ∧ w.heap.size ≤ g) := by
  have hlt := World.block_lt_of_cell? w _ hc
  simp only at hlt
  go_enter Tryz.func170, Tryz.ntmps170
  go_wp2_with (first | (go_at_call 49; refine (newSet_any _).mono ?_; rintro e w' ⟨rfl, rfl⟩))
  refine (addOne_nil _ w.heap.size (.bool false) tok h1 h2 (Blk.new _ _ _)).mono ?_
  rintro e w' ⟨rfl, g, c, x1, x2, x3, x4⟩
  have H1 := Lib.hid x1
  have H2 := Lib.hid x2
  have H3 := Lib.hid x3
  have H4 := Lib.hid x4
  clear x1 x2 x3 x4
  go_wp2
  go_ret
  refine ⟨_, rfl, Nat.le_refl _, ?_, g, c, H1.out, H2.out, ?_⟩
  · refine ((Chg.refl No w).alloc _).then H3.out (fun k hk h => by omega)
  · have := H4.out; simp at this; omega

theorem newAtom_any (w : World) (x : Value) (tok : Int) (h1 : -1000 ≤ tok) (h2 : tok ≤ 1000) (hx : ∃ t v, x = .iface t v) :
    Calls Tryz.prog 148 #[x, .int .i64 tok] w fun e w' => e = .returned (.pointer (some ⟨w.heap.size, 0, none⟩)) ∧ (Chg No w w' ∧
      ∃ p g c, Blk w' w.heap.size #[x, .bool false, .int .i64 tok, .pointer (some ⟨p, 0, none⟩), .int .i64 5] 384 ∧ Blk w' p #[.slice (some ⟨g, 0, none⟩) 1 c, .bool false] 145 ∧
        Own w' 104 2 (.slice (some ⟨g, 0, none⟩) 1 c) 1 [.int .i64 tok, .int .i64 (tok + 1)] ∧ w.heap.size ≤ p ∧ w.heap.size ≤ g) := by
  obtain ⟨t, v, rfl⟩ := hx
  go_enter Tryz.func148, Tryz.ntmps148
  go_wp2_with fail
  refine (makeLabel_any _ _ tok h1 h2 (by simp)).mono ?_
  rintro e w' ⟨p, rfl, x1, x2, g, c, x3, x4, x5⟩
  have hb : Blk w' w.heap.size #[.iface t v, .bool false, .int .i64 tok, .pointer none, .int .i64 5] 384 := (Blk.new w _ _).chg x2 (fun h => h)
  have c3 := hb.cell 3
  have f3 := hb.fz 3
  simp at c3
  have X1 := Lib.hid x1
  have X2 := Lib.hid x2
  have X3 := Lib.hid x3
  have X4 := Lib.hid x4
  have X5 := Lib.hid x5
  have HB := Lib.hid hb
  clear x1 x2 x3 x4 x5 hb
  go_wp2
  go_ret
  refine ⟨rfl, ?_, p, g, c, ?_, ?_, ?_, ?_, ?_⟩
  · refine Chg.setCell (((Chg.refl No w).alloc _).then X2.out (fun k hk h => h)) ?_ _
    intro h; simp at h
  · have := HB.out.set 3 (.pointer (some ⟨p, 0, none⟩))
    simpa using this
  · exact X3.out.other (by have := X3.out.ne HB.out (by decide); exact this) _
  · refine Own.chg X4.out (S := fun k => k = w.heap.size) (by refine Chg.setCell (Chg.refl _ _) ?_ _; intro _; rfl) (fun k hk hS => by subst hS; exact Own.ne X4.out HB.out (by decide) hk)
  · have := X1.out; simp at this; omega
  · have := X5.out; simp at this; omega

theorem newEps_any (w : World) (x : Value) (n : Int) (hx : ∃ t v, x = .iface t v) :
    Calls Tryz.prog 119 #[x, .int .i64 n] w fun e w' => e = .returned (.pointer (some ⟨w.heap.size, 0, none⟩)) ∧ w.alloc (.cells #[x, .bool true, .int .i64 0, .pointer none, .int .i64 1, .int .i64 n] 346) = w' := by
  obtain ⟨t, v, rfl⟩ := hx
  go_enter Tryz.func119, Tryz.ntmps119
  go_wp2
  go_ret
  exact ⟨rfl, rfl⟩
theorem newRule_any (w : World) (x y : Value) (q n : Int) (hx : ∃ t v, x = .iface t v) (hy : ∃ t v, y = .iface t v) :
    Calls Tryz.prog 145 #[x, .int .i64 q, .int .i64 n, y] w fun e w' => e = .returned (.pointer (some ⟨w.heap.size, 0, none⟩)) ∧ w.alloc (.cells #[x, .bool true, .int .i64 0, .pointer none, .int .i64 3, y, .int .i64 q, .int .i64 n] 190) = w' := by
  obtain ⟨t, v, rfl⟩ := hx
  obtain ⟨t', v', rfl⟩ := hy
  go_enter Tryz.func145, Tryz.ntmps145
  go_wp2
  go_ret
  exact ⟨rfl, rfl⟩
end Go.Proofs.YtemdillhbnmjkaaGreatDoor
namespace Go.Proofs.YtemdillhbnmjkaaGreatDoor
open Go.RowKit

set_option maxHeartbeats 1000000 in
set_option maxRecDepth 100000 in
theorem edge_eps (w : World) (bd ba gv n cap : Nat) (src trg a1 a2 a3 : Int) (j : Nat) (x sets : Value) (hx : ∃ t v, x = .iface t v) (_ : n < 1000) (hj : j < n) (ht : trg = (j : Int))
    (ca : w.cell? ⟨ba, 9, none⟩ = some (.slice (some ⟨gv, 0, none⟩) n cap)) (cx : w.cell? ⟨gv, j, none⟩ = some x) :
    Calls Tryz.prog 118 #[.pointer (some ⟨bd, 0, none⟩), .pointer (some ⟨ba, 0, none⟩), .int .i64 1, .int .i64 src, .int .i64 trg, .int .i64 a1, .int .i64 a2, .int .i64 a3, sets] w fun e w' =>
      e = .returned (.iface TK.eps.ptr (.pointer (some ⟨w.heap.size, 0, none⟩))) ∧ w.alloc (.cells #[x, .bool true, .int .i64 0, .pointer none, .int .i64 1, .int .i64 (-1)] 346) = w' := by
  obtain ⟨t, v, rfl⟩ := hx
  subst ht
  go_enter Tryz.func118, Tryz.ntmps118
  go_wp2_with (first | (go_at_call 119; refine (newEps_any _ _ _ ⟨_, _, rfl⟩).mono ?_; rintro e w' ⟨rfl, rfl⟩))
  go_ret
  exact ⟨rfl, rfl⟩

set_option maxHeartbeats 1000000 in
set_option maxRecDepth 100000 in
theorem edge_rule (w : World) (bd ba gv n cap : Nat) (src trg a1 a2 a3 : Int) (j i : Nat) (x y sets : Value) (hx : ∃ t v, x = .iface t v) (hy : ∃ t v, y = .iface t v) (_ : n < 1000) (hj : j < n) (ht : trg = (j : Int)) (hi : i < n) (ha : a1 = (i : Int))
    (ca : w.cell? ⟨ba, 9, none⟩ = some (.slice (some ⟨gv, 0, none⟩) n cap)) (cx : w.cell? ⟨gv, j, none⟩ = some x) (cy : w.cell? ⟨gv, i, none⟩ = some y) :
    Calls Tryz.prog 118 #[.pointer (some ⟨bd, 0, none⟩), .pointer (some ⟨ba, 0, none⟩), .int .i64 3, .int .i64 src, .int .i64 trg, .int .i64 a1, .int .i64 a2, .int .i64 a3, sets] w fun e w' =>
      e = .returned (.iface TK.rule.ptr (.pointer (some ⟨w.heap.size, 0, none⟩))) ∧ w.alloc (.cells #[y, .bool true, .int .i64 0, .pointer none, .int .i64 3, x, .int .i64 a2, .int .i64 a3] 190) = w' := by
  obtain ⟨t, v, rfl⟩ := hx
  obtain ⟨t', v', rfl⟩ := hy
  subst ht
  subst ha
  go_enter Tryz.func118, Tryz.ntmps118
  go_wp2_with (first | (go_at_call 145; refine (newRule_any _ _ _ _ _ ⟨_, _, rfl⟩ ⟨_, _, rfl⟩).mono ?_; rintro e w' ⟨rfl, rfl⟩))
  go_ret
  exact ⟨rfl, rfl⟩

set_option maxHeartbeats 1000000 in
set_option maxRecDepth 100000 in
theorem edge_atom (w : World) (bd ba gv n cap : Nat) (src trg a1 a2 a3 tok : Int) (j : Nat) (x sets : Value) (hx : ∃ t v, x = .iface t v) (_ : n < 1000) (hj : j < n) (ht : trg = (j : Int))
    (htok : tok = if a3 = 0 then a1 else -1) (h1 : -1000 ≤ tok) (h2 : tok ≤ 1000)
    (ca : w.cell? ⟨ba, 9, none⟩ = some (.slice (some ⟨gv, 0, none⟩) n cap)) (cx : w.cell? ⟨gv, j, none⟩ = some x) :
    Calls Tryz.prog 118 #[.pointer (some ⟨bd, 0, none⟩), .pointer (some ⟨ba, 0, none⟩), .int .i64 5, .int .i64 src, .int .i64 trg, .int .i64 a1, .int .i64 a2, .int .i64 a3, sets] w fun e w' =>
      e = .returned (.iface TK.atom.ptr (.pointer (some ⟨w.heap.size, 0, none⟩))) ∧ (Chg No w w' ∧
      ∃ p g c, Blk w' w.heap.size #[x, .bool false, .int .i64 tok, .pointer (some ⟨p, 0, none⟩), .int .i64 5] 384 ∧ Blk w' p #[.slice (some ⟨g, 0, none⟩) 1 c, .bool false] 145 ∧
        Own w' 104 2 (.slice (some ⟨g, 0, none⟩) 1 c) 1 [.int .i64 tok, .int .i64 (tok + 1)] ∧ w.heap.size ≤ p ∧ w.heap.size ≤ g) := by
  obtain ⟨t, v, rfl⟩ := hx
  subst ht
  by_cases h0 : a3 = 0
  · rw [if_pos h0] at htok
    subst h0
    subst htok
    go_enter Tryz.func118, Tryz.ntmps118
    go_wp2_with fail
    refine (newAtom_any _ _ _ h1 h2 ⟨_, _, rfl⟩).mono ?_
    rintro e w' ⟨rfl, hx⟩
    have HX := Lib.hid hx
    clear hx
    go_wp2
    go_ret
    exact ⟨rfl, HX.out⟩
  · rw [if_neg h0] at htok
    subst htok
    have hb : (a3 != 0) = true := by simpa using h0
    go_enter Tryz.func118, Tryz.ntmps118
    go_wp2_with fail
    refine (newAtom_any _ _ _ h1 h2 ⟨_, _, rfl⟩).mono ?_
    rintro e w' ⟨rfl, hx⟩
    have HX := Lib.hid hx
    clear hx
    go_wp2
    go_ret
    exact ⟨rfl, HX.out⟩
end Go.Proofs.YtemdillhbnmjkaaGreatDoor
namespace Go.Proofs.YtemdillhbnmjkaaGreatDoor
open Go.RowKit

theorem et176 : ET 176 179 .nilIface 1 16 := ⟨by kernel_rfl, by kernel_rfl, rfl, by decide⟩
theorem isEps_any (w : World) (t : Nat) (v : Bool) (c : w.cell? ⟨t, 1, none⟩ = some (.bool v)) : Calls Tryz.prog 213 #[.pointer (some ⟨t, 0, none⟩)] w fun e w' => e = .returned (.bool v) ∧ w = w' := by
  go_enter Tryz.func213, Tryz.ntmps213
  go_wp2
  go_ret
  exact ⟨rfl, rfl⟩

theorem isEps_q (w : World) (t : Nat) (v : Bool) (n : Nat) (c : w.cell? ⟨t, 1, none⟩ = some (.bool v)) : Calls Tryz.prog 213 #[.pointer (some ⟨t, 0, none⟩)] (w.drewN n) fun e w' => e = .returned (.bool v) ∧ ∃ m, w' = w.drewN m :=
  (isEps_any (w.drewN n) t v c).mono fun _ _ h => ⟨h.1, n, h.2.symm⟩
def epsOf (n : Nat) (ep0 ep : Bool) : Bool := if n = 0 then ep else ep0 && ep || (!ep0 && false)
theorem set_same {cs : Array Value} {i : Nat} {v : Value} (h : cs[i]? = some v) : cs.setIfInBounds i v = cs := by
  apply Array.ext_getElem?
  intro j
  rw [Array.getElem?_setIfInBounds]
  split
  · rename_i hij; subst hij
    split
    · exact h.symm
    · rename_i hlt; rw [Array.getElem?_eq_none (by omega)] at h; cases h
  · rfl

set_option maxHeartbeats 1000000 in
set_option maxRecDepth 100000 in
theorem addTrans_any (w : World) (b t : Nat) (tk : TK) (ep ep0 : Bool) (cs : Array Value) (T : TypeId) (v : Value) (n : Nat) (us : List Value) (hs : Blk w b cs T) (hT : T ≠ 179) (c2 : cs[2]? = some (.bool ep0)) (c6 : cs[6]? = some v)
    (ct : w.cell? ⟨t, 1, none⟩ = some (.bool ep)) (hbt : t ≠ b) (hown : Own w 179 1 v n us) (hn : n < 1000) :
    Calls Tryz.prog 120 #[.pointer (some ⟨b, 0, none⟩), .iface tk.ptr (.pointer (some ⟨t, 0, none⟩)), .int .i64 (-1)] w fun e w' => e = .returned (.tuple #[]) ∧
      ∃ g c', Blk w' b ((cs.setIfInBounds 2 (.bool (if n = 0 then ep else if ep0 = ep then ep0 else false))).setIfInBounds 6 (.slice (some ⟨g, 0, none⟩) (n + 1) c')) T ∧
        Own w' 179 1 (.slice (some ⟨g, 0, none⟩) (n + 1) c') (n + 1) (us ++ [.iface tk.ptr (.pointer (some ⟨t, 0, none⟩))]) ∧ Chg (fun j => j = b ∨ v.ownBlock = some j) w w' ∧ (v.ownBlock = some g ∨ w.heap.size ≤ g) := by
  have lb := hs.lt
  have lt := World.block_lt_of_cell? w _ ct
  simp only at lt
  have hob : v.ownBlock ≠ some b := hown.ne hs (Ne.symm hT)
  have k2 : w.cell? ⟨b, 2, none⟩ = some (.bool ep0) := (hs.cell 2).trans c2
  have k6 : w.cell? ⟨b, 6, none⟩ = some v := (hs.cell 6).trans c6
  have f2 := hs.fz 2
  have f6 := hs.fz 6
  obtain ⟨A, c0, rfl⟩ := hown.slice
  have tail : ∀ w1 : World, Chg (fun j => j = b) w w1 → ∀ cs1, Blk w1 b cs1 T → cs1 = cs.setIfInBounds 2 (.bool (if n = 0 then ep else if ep0 = ep then ep0 else false)) →
      ∀ (g c' : Nat) (w2 : World), Own w2 179 1 (.slice (some ⟨g, 0, none⟩) (n + 1) c') (n + 1) (us ++ [.iface tk.ptr (.pointer (some ⟨t, 0, none⟩))]) →
      (w1.alloc (.cells #[.iface tk.ptr (.pointer (some ⟨t, 0, none⟩))] 179)).grownBy w2 (Value.slice A n c0).ownBlock → ((Value.slice A n c0).ownBlock = some g ∨ g = w1.heap.size + 1) →
      (w2.cell? ⟨b, 6, none⟩ = some (.slice A n c0) ∧ w2.frozen? ⟨b, 6, none⟩ = false) ∧
      ∃ g_1 c'_1, Blk (w2.setCell ⟨b, 6, none⟩ (.slice (some ⟨g, 0, none⟩) (n + 1) c')) b ((cs.setIfInBounds 2 (.bool (if n = 0 then ep else if ep0 = ep then ep0 else false))).setIfInBounds 6 (.slice (some ⟨g_1, 0, none⟩) (n + 1) c'_1)) T ∧
        Own (w2.setCell ⟨b, 6, none⟩ (.slice (some ⟨g, 0, none⟩) (n + 1) c')) 179 1 (.slice (some ⟨g_1, 0, none⟩) (n + 1) c'_1) (n + 1) (us ++ [.iface tk.ptr (.pointer (some ⟨t, 0, none⟩))]) ∧
        Chg (fun j => j = b ∨ (Value.slice A n c0).ownBlock = some j) w (w2.setCell ⟨b, 6, none⟩ (.slice (some ⟨g, 0, none⟩) (n + 1) c')) ∧ ((Value.slice A n c0).ownBlock = some g_1 ∨ w.heap.size ≤ g_1) := by
    intro w1 hc1 cs1 hb1 hcs g c' w2 hown2 hgr hloc
    have hb2 := (hb1.alloc (.cells #[.iface tk.ptr (.pointer (some ⟨t, 0, none⟩))] 179)).chg (Chg.grownBy hgr) (fun h => hob h.symm)
    refine ⟨⟨?_, hb2.fz 6⟩, g, c', ?_, ?_, ?_, ?_⟩
    · rw [hb2.cell, hcs, Array.getElem?_setIfInBounds_ne (by decide)]; exact c6
    · have := hb2.set 6 (.slice (some ⟨g, 0, none⟩) (n + 1) c')
      rw [hcs] at this; exact this
    · exact Own.chg hown2 (S := fun k => k = b) (by refine Chg.setCell (Chg.refl _ _) ?_ _; intro _; rfl) (fun k hk hS => by subst hS; exact Own.ne hown2 hb2 (Ne.symm hT) hk)
    · refine Chg.setCell ?_ (fun _ => .inl rfl) _
      refine Chg.grown ((hc1.mono (fun k _ h => .inl h)).alloc _) hgr ?_
      intro k hk _; exact .inr hk
    · rcases hloc with h | h
      · exact .inl h
      · have := hc1.size; exact .inr (by omega)
  have Tail := Lib.hid tail
  have Hs := Lib.hid hs
  have C2 := Lib.hid c2
  have C6 := Lib.hid c6
  have Hob := Lib.hid hob
  clear tail hs c2 c6
  by_cases h0 : n = 0
  · subst h0
    go_enter Tryz.func120, Tryz.ntmps120
    go_wp2_with (first | (go_at_call 213; refine (isEps_any _ t ep (by simpa using ct)).mono ?_; rintro e w' ⟨rfl, rfl⟩) | (at_builtin; refine wp_app et176 rfl _ _ rfl (.slice A 0 c0) 0 us rfl ?c1 _ rfl [.iface tk.ptr (.pointer (some ⟨t, 0, none⟩))] ((Blk.at_new (by simp) _ _)) rfl ?c2 (by omega) (by omega) ?c5))
    case c1 => exact Own.chg hown (S := fun k => k = b) ((Chg.setCell (S := fun k => k = b) (Chg.refl _ w) (fun _ => rfl) _).alloc _) (fun k hk hS => Hob.out (by rw [hk, hS]))
    case c2 => simp [Value.oneCell']
    case c5 =>
      intro g c' w2 hown2 hgr hloc
      obtain ⟨⟨k6', f6'⟩, fin⟩ := Tail.out (w.setCell ⟨b, 2, none⟩ (.bool ep)) (Chg.setCell (S := fun k => k = b) (Chg.refl _ w) (fun _ => rfl) _) (cs.setIfInBounds 2 (.bool ep)) (Hs.out.set 2 _) (by simp) g c' w2 hown2 hgr (by simpa using hloc)
      have Fin := Lib.hid fin
      clear fin hown2 hgr hloc
      go_wp2
      go_end0
      exact ⟨rfl, by first | simpa using Fin.out | simpa [H0.out] using Fin.out⟩
  · have hb0 : ((n : Int) == 0) = false := by simpa using h0
    have H0 := Lib.hid h0
    clear h0
    cases ep0 <;> cases ep
    · go_enter Tryz.func120, Tryz.ntmps120
      go_wp2_with fail
      go_quiet ((go_at_call 213; exact isEps_q w t false _ ct))
      go_wp2_with (first | (at_builtin; refine wp_app et176 rfl _ _ rfl (.slice A n c0) n us rfl ?c1 _ rfl [.iface tk.ptr (.pointer (some ⟨t, 0, none⟩))] ((Blk.at_new (by simp) _ _).drewN nq) rfl ?c2 (by omega) (by omega) ?c5))
      case c1 => exact Own.chg hown (S := fun k => k = b) ((Chg.drewN (Chg.refl (fun k => k = b) w) nq).alloc _) (fun k hk hS => Hob.out (by rw [hk, hS]))
      case c2 => simp [Value.oneCell']
      case c5 =>
        intro g c' w2 hown2 hgr hloc
        obtain ⟨⟨k6', f6'⟩, fin⟩ := Tail.out (w.drewN nq) (Chg.drewN (Chg.refl (fun k => k = b) w) nq) (cs) (Hs.out.drewN nq) (by rw [if_neg H0.out]; exact (set_same C2.out).symm) g c' w2 hown2 hgr (by simpa using hloc)
        have Fin := Lib.hid fin
        clear fin hown2 hgr hloc
        go_wp2
        go_end0
        exact ⟨rfl, by first | simpa using Fin.out | simpa [H0.out] using Fin.out⟩
    · go_enter Tryz.func120, Tryz.ntmps120
      go_wp2_with fail
      go_quiet ((go_at_call 213; exact isEps_q w t true _ ct))
      go_wp2_with (first | (at_builtin; refine wp_app et176 rfl _ _ rfl (.slice A n c0) n us rfl ?c1 _ rfl [.iface tk.ptr (.pointer (some ⟨t, 0, none⟩))] ((Blk.at_new (by simp) _ _).drewN nq) rfl ?c2 (by omega) (by omega) ?c5))
      case c1 => exact Own.chg hown (S := fun k => k = b) ((Chg.setCell (S := fun k => k = b) (Chg.drewN (Chg.refl (fun k => k = b) w) nq) (fun _ => rfl) _).alloc _) (fun k hk hS => Hob.out (by rw [hk, hS]))
      case c2 => simp [Value.oneCell']
      case c5 =>
        intro g c' w2 hown2 hgr hloc
        obtain ⟨⟨k6', f6'⟩, fin⟩ := Tail.out ((w.drewN nq).setCell ⟨b, 2, none⟩ (.bool false)) (Chg.setCell (S := fun k => k = b) (Chg.drewN (Chg.refl (fun k => k = b) w) nq) (fun _ => rfl) _) (cs.setIfInBounds 2 (.bool false)) ((Hs.out.drewN nq).set 2 _) (by rw [if_neg H0.out]; simp) g c' w2 hown2 hgr (by simpa using hloc)
        have Fin := Lib.hid fin
        clear fin hown2 hgr hloc
        go_wp2
        go_end0
        exact ⟨rfl, by first | simpa using Fin.out | simpa [H0.out] using Fin.out⟩
    · go_enter Tryz.func120, Tryz.ntmps120
      go_wp2_with fail
      go_quiet ((go_at_call 213; exact isEps_q w t false _ ct))
      go_wp2_with (first | (at_builtin; refine wp_app et176 rfl _ _ rfl (.slice A n c0) n us rfl ?c1 _ rfl [.iface tk.ptr (.pointer (some ⟨t, 0, none⟩))] ((Blk.at_new (by simp) _ _).drewN nq) rfl ?c2 (by omega) (by omega) ?c5))
      case c1 => exact Own.chg hown (S := fun k => k = b) ((Chg.setCell (S := fun k => k = b) (Chg.drewN (Chg.refl (fun k => k = b) w) nq) (fun _ => rfl) _).alloc _) (fun k hk hS => Hob.out (by rw [hk, hS]))
      case c2 => simp [Value.oneCell']
      case c5 =>
        intro g c' w2 hown2 hgr hloc
        obtain ⟨⟨k6', f6'⟩, fin⟩ := Tail.out ((w.drewN nq).setCell ⟨b, 2, none⟩ (.bool false)) (Chg.setCell (S := fun k => k = b) (Chg.drewN (Chg.refl (fun k => k = b) w) nq) (fun _ => rfl) _) (cs.setIfInBounds 2 (.bool false)) ((Hs.out.drewN nq).set 2 _) (by rw [if_neg H0.out]; simp) g c' w2 hown2 hgr (by simpa using hloc)
        have Fin := Lib.hid fin
        clear fin hown2 hgr hloc
        go_wp2
        go_end0
        exact ⟨rfl, by first | simpa using Fin.out | simpa [H0.out] using Fin.out⟩
    · go_enter Tryz.func120, Tryz.ntmps120
      go_wp2_with fail
      go_quiet ((go_at_call 213; exact isEps_q w t true _ ct))
      go_wp2_with (first | (at_builtin; refine wp_app et176 rfl _ _ rfl (.slice A n c0) n us rfl ?c1 _ rfl [.iface tk.ptr (.pointer (some ⟨t, 0, none⟩))] ((Blk.at_new (by simp) _ _).drewN nq) rfl ?c2 (by omega) (by omega) ?c5))
      case c1 => exact Own.chg hown (S := fun k => k = b) ((Chg.drewN (Chg.refl (fun k => k = b) w) nq).alloc _) (fun k hk hS => Hob.out (by rw [hk, hS]))
      case c2 => simp [Value.oneCell']
      case c5 =>
        intro g c' w2 hown2 hgr hloc
        obtain ⟨⟨k6', f6'⟩, fin⟩ := Tail.out (w.drewN nq) (Chg.drewN (Chg.refl (fun k => k = b) w) nq) (cs) (Hs.out.drewN nq) (by rw [if_neg H0.out]; exact (set_same C2.out).symm) g c' w2 hown2 hgr (by simpa using hloc)
        have Fin := Lib.hid fin
        clear fin hown2 hgr hloc
        go_wp2
        go_end0
        exact ⟨rfl, by first | simpa using Fin.out | simpa [H0.out] using Fin.out⟩
end Go.Proofs.YtemdillhbnmjkaaGreatDoor
namespace Go.Proofs.YtemdillhbnmjkaaGreatDoor
open Go.RowKit

/-- a transition: its kind, and to which states it leads -/
inductive TD where
  | eps (to : Nat)
  | rule (start follow : Nat) (q : Int)
  | atom (to : Nat) (tok : Int)
def TD.isEps : TD → Bool | .eps _ => true | .rule .. => true | .atom .. => false
def TD.tk : TD → TK | .eps _ => .eps | .rule .. => .rule | .atom .. => .atom

/-- the value of state j -/
def dv (ds : List Ds) (bs : List Nat) (j : Nat) : Value := .iface (((ds[j]?).map (·.k.ptr)).getD 0) (.pointer (some ⟨(bs[j]?).getD 0, 0, none⟩))

/-- the transition d lies at the block t -/
def TrAt (w : World) (ds : List Ds) (bs : List Nat) (t : Nat) : TD → Prop
  | .eps to => ∃ o : Int, Blk w t #[dv ds bs to, .bool true, .int .i64 0, .pointer none, .int .i64 1, .int .i64 o] 346
  | .rule st f q => ∃ p : Int, Blk w t #[dv ds bs st, .bool true, .int .i64 0, .pointer none, .int .i64 3, dv ds bs f, .int .i64 q, .int .i64 p] 190
  | .atom to tok => ∃ p g c, Blk w t #[dv ds bs to, .bool false, .int .i64 tok, .pointer (some ⟨p, 0, none⟩), .int .i64 5] 384 ∧ Blk w p #[.slice (some ⟨g, 0, none⟩) 1 c, .bool false] 145 ∧
      Own w 104 2 (.slice (some ⟨g, 0, none⟩) 1 c) 1 [.int .i64 tok, .int .i64 (tok + 1)]

def trTypes : List TypeId := [346, 190, 384, 145, 104]

theorem TrAt.chg {S : Nat → Prop} {w w' : World} {ds : List Ds} {bs : List Nat} {t : Nat} {d : TD} (h : TrAt w ds bs t d) (hc : Chg S w w')
    (hn : ∀ k, S k → k < w.heap.size → ∃ c T, Blk w k c T ∧ T ∉ trTypes) : TrAt w' ds bs t d := by
  have go : ∀ {b : Nat} {c : Array Value} {T : TypeId}, Blk w b c T → T ∈ trTypes → Blk w' b c T := by
    intro b c T hb hT
    refine hb.chg hc (fun hS => ?_)
    obtain ⟨c', T', h1, h2⟩ := hn b hS hb.lt
    exact h2 ((hb.uniq h1).2 ▸ hT)
  cases d with
  | eps to => obtain ⟨o, h⟩ := h; exact ⟨o, go h (by decide)⟩
  | rule st f q => obtain ⟨p, h⟩ := h; exact ⟨p, go h (by decide)⟩
  | atom to tok =>
    obtain ⟨p, g, c, h1, h2, h3⟩ := h
    refine ⟨p, g, c, go h1 (by decide), go h2 (by decide), h3.chgT hc (fun k hS hk => ?_)⟩
    obtain ⟨c', T', h4, h5⟩ := hn k hS hk
    exact ⟨c', T', h4, fun e => h5 (by rw [e]; decide)⟩
theorem TrAt.eps_cell {w : World} {ds : List Ds} {bs : List Nat} {t : Nat} {d : TD} (h : TrAt w ds bs t d) : w.cell? ⟨t, 1, none⟩ = some (.bool d.isEps) := by
  cases d with
  | eps to => obtain ⟨o, h⟩ := h; rw [h.cell]; rfl
  | rule st f q => obtain ⟨o, h⟩ := h; rw [h.cell]; rfl
  | atom to tok => obtain ⟨p, g, c, h, _⟩ := h; rw [h.cell]; rfl
theorem TrAt.ne {w : World} {ds : List Ds} {bs : List Nat} {t b : Nat} {d : TD} {c : Array Value} {T : TypeId} (h : TrAt w ds bs t d) (hb : Blk w b c T) (hT : T ∉ trTypes) : t ≠ b := by
  cases d with
  | eps to => obtain ⟨o, h⟩ := h; exact h.ne hb (fun e => hT (by rw [← e]; decide))
  | rule st f q => obtain ⟨o, h⟩ := h; exact h.ne hb (fun e => hT (by rw [← e]; decide))
  | atom to tok => obtain ⟨p, g, c, h, _⟩ := h; exact h.ne hb (fun e => hT (by rw [← e]; decide))

/-- the transitions ts of a state -/
structure TrRow (w : World) (ds : List Ds) (bs : List Nat) (s : St) (ts : List TD) : Prop where
  mk' ::
  ex : ∃ tb : List Nat, tb.length = ts.length ∧ Own w 179 1 s.trans ts.length ((ts.zip tb).map fun p => .iface p.1.tk.ptr (.pointer (some ⟨p.2, 0, none⟩))) ∧
    ∀ (i : Nat) t d, tb[i]? = some t → ts[i]? = some d → TrAt w ds bs t d
  eps : ts ≠ [] → s.eps = ts.all TD.isEps

theorem TrRow.chg {S : Nat → Prop} {w w' : World} {ds : List Ds} {bs : List Nat} {s : St} {ts : List TD} (h : TrRow w ds bs s ts) (hc : Chg S w w')
    (hn : ∀ k, S k → k < w.heap.size → ∃ c T, Blk w k c T ∧ T ∉ trTypes) (ho : ∀ k, s.trans.ownBlock = some k → ¬ S k) : TrRow w' ds bs s ts := by
  obtain ⟨tb, h1, h2, h3⟩ := h.ex
  exact ⟨⟨tb, h1, h2.chg hc ho, fun i t d ht hd => (h3 i t d ht hd).chg hc hn⟩, h.eps⟩

/-- the network -/
structure Net (w : World) (ba : Nat) (A : AF) (ds : List Ds) (bs : List Nat) (ss : List St) (T : List (List TD)) : Prop where
  core : Core w ba A ss bs
  slen : ss.length = ds.length
  tlen : T.length = ds.length
  kind : ∀ (j : Nat) d s, ds[j]? = some d → ss[j]? = some s → s.k = d.k ∧ s.rule = d.rule
  row : ∀ (j : Nat) s ts, ss[j]? = some s → T[j]? = some ts → TrRow w ds bs s ts
  sep : ∀ (i j : Nat) s s' k, ss[i]? = some s → ss[j]? = some s' → i ≠ j → s.trans.ownBlock = some k → s'.trans.ownBlock ≠ some k

theorem Net.blen {w : World} {ba : Nat} {A : AF} {ds : List Ds} {bs : List Nat} {ss : List St} {T : List (List TD)} (h : Net w ba A ds bs ss T) : bs.length = ds.length := by rw [h.core.sts.len, h.slen]
theorem SK.str_tr (k : SK) : k.str ∉ trTypes ∧ k.str ≠ 179 := by cases k <;> decide

theorem Net.chg {S : Nat → Prop} {w w' : World} {ba : Nat} {A : AF} {ds : List Ds} {bs : List Nat} {ss : List St} {T : List (List TD)} (h : Net w ba A ds bs ss T) (hc : Chg S w w')
    (hn : ∀ k, S k → k < w.heap.size → ∃ c T, Blk w k c T ∧ T ∉ trTypes ∧ T ≠ 118 ∧ T ≠ 109 ∧ T ≠ 179 ∧ ∀ q : SK, q.str ≠ T) : Net w' ba A ds bs ss T := by
  refine ⟨h.core.chg hc (fun k h1 h2 => ?_), h.slen, h.tlen, h.kind, fun j s ts hs ht => (h.row j s ts hs ht).chg hc (fun k h1 h2 => ?_) (fun k hk hS => ?_), h.sep⟩
  · obtain ⟨c, T, a, _, b, c', _, d⟩ := hn k h1 h2; exact ⟨c, T, a, b, c', d⟩
  · obtain ⟨c, T, a, b, _⟩ := hn k h1 h2; exact ⟨c, T, a, b⟩
  · obtain ⟨tb, _, h2, _⟩ := (h.row j s ts hs ht).ex
    obtain ⟨c, T, a, _, _, _, b, _⟩ := hn k hS (h2.lt hk)
    exact h2.ne a (Ne.symm b) hk

/-- A transition is added to state j. -/
theorem addTrans_net (w : World) (ba : Nat) (A : AF) (ds : List Ds) (bs : List Nat) (ss : List St) (T : List (List TD)) (j b t : Nat) (s : St) (ts : List TD) (d : TD) (h : Net w ba A ds bs ss T)
    (hs : ss[j]? = some s) (hb : bs[j]? = some b) (ht : T[j]? = some ts) (hd : TrAt w ds bs t d) (hn : ts.length < 1000) :
    Calls Tryz.prog 120 #[.pointer (some ⟨b, 0, none⟩), .iface d.tk.ptr (.pointer (some ⟨t, 0, none⟩)), .int .i64 (-1)] w fun e w' => e = .returned (.tuple #[]) ∧
      ∃ s', s'.k = s.k ∧ s'.extra = s.extra ∧ s'.next = s.next ∧ Net w' ba A ds bs (ss.set j s') (T.set j (ts ++ [d])) ∧ Chg (fun k => k = b ∨ s.trans.ownBlock = some k) w w' ∧ (s.trans.ownBlock = s'.trans.ownBlock ∨ ∃ g, s'.trans.ownBlock = some g ∧ w.heap.size ≤ g) := by
  have hblk := h.core.sts.at_ j s b hs hb
  have hrow := h.row j s ts hs ht
  obtain ⟨tb, e1, e2, e3⟩ := hrow.ex
  refine (addTrans_any w b t d.tk d.isEps s.eps (s.cells ba j) s.k.str s.trans ts.length _ hblk (SK.str_tr _).2 (St.c2 _ _ _) (St.c6 _ _ _) hd.eps_cell (hd.ne hblk (SK.str_tr _).1) e2 hn).mono ?_
  rintro e w' ⟨rfl, g, c', h1, h2, h3, h4⟩
  have hT : ∀ k, (fun k => k = b ∨ s.trans.ownBlock = some k) k → k < w.heap.size → ∃ c T, Blk w k c T ∧ T ∉ trTypes := by
    rintro k (rfl | hk) _
    · exact ⟨_, _, hblk, (SK.str_tr _).1⟩
    · obtain ⟨c, hc⟩ := Own.own e2 hk
      exact ⟨_, _, hc, by decide⟩
  rw [St.set2, St.set6] at h1
  refine ⟨rfl, { s with eps := (if ts.length = 0 then d.isEps else if s.eps = d.isEps then s.eps else false), trans := .slice (some ⟨g, 0, none⟩) (ts.length + 1) c' }, rfl, rfl, rfl, ⟨⟨?_, ?_, ?_⟩, ?_, ?_, ?_, ?_, ?_⟩, h3, ?_⟩
  · refine h.core.atn.chg h3 ?_
    rintro (rfl | hk)
    · exact h.core.atn.ne hblk (Ne.symm (SK.str_ne2 _).2.2.1) rfl
    · exact e2.ne h.core.atn (by decide) hk
  · rw [stvs_set _ _ _ _ (by rw [hs]; rfl), List.length_set]
    refine h.core.own.chg h3 ?_
    rintro k hk (rfl | hk')
    · exact h.core.own.ne hblk (Ne.symm (SK.str_ne2 _).2.2.2.1) hk
    · exact e2.ne' h.core.own (by decide) hk' hk
  · refine h.core.sts.upd h3 hb ?_ h1
    rintro i b' hi hne (rfl | hk)
    · exact hne (h.core.sts.inj hi hb)
    · have hil : i < ss.length := by have := (List.getElem?_eq_some_iff.1 hi).1; rw [h.core.sts.len] at this; exact this
      exact e2.ne (h.core.sts.at_ i _ b' (List.getElem?_eq_getElem hil) hi) (Ne.symm (SK.str_tr _).2) hk
  · rw [List.length_set]; exact h.slen
  · rw [List.length_set]; exact h.tlen
  · intro i d' s' hd' hs'
    rw [List.getElem?_set] at hs'
    split at hs'
    · rename_i hij; subst hij
      split at hs'
      · cases hs'; exact h.kind j d' s hd' hs
      · cases hs'
    · exact h.kind i d' s' hd' hs'
  · intro i s' ts' hs' ht'
    rw [List.getElem?_set] at hs' ht'
    split at hs'
    · rename_i hij; subst hij
      rw [if_pos rfl] at ht'
      split at hs'
      · cases hs'
        split at ht'
        · cases ht'
          refine ⟨⟨tb ++ [t], by simp [e1], ?_, ?_⟩, ?_⟩
          · rw [List.length_append, List.length_singleton, List.zip_append e1.symm, List.map_append]
            exact h2
          · intro i t' d' hi hi'
            rcases Nat.lt_trichotomy i ts.length with hlt | rfl | hgt
            · rw [List.getElem?_append_left (by omega)] at hi
              rw [List.getElem?_append_left hlt] at hi'
              exact (e3 i t' d' hi hi').chg h3 hT
            · rw [← e1] at hi; simp at hi hi'
              subst hi; subst hi'
              exact hd.chg h3 hT
            · rw [List.getElem?_eq_none (by simp; omega)] at hi'; cases hi'
          · intro _
            rcases ts with _ | ⟨x, ts⟩
            · simp
            · have := hrow.eps (by simp)
              simp only [this, List.length_cons, List.all_append, List.all_cons, List.all_nil, Bool.and_true]
              cases x.isEps <;> cases ts.all TD.isEps <;> cases d.isEps <;> simp
        · cases ht'
      · cases hs'
    · rename_i hij
      rw [if_neg hij] at ht'
      refine (h.row i s' ts' hs' ht').chg h3 hT ?_
      rintro k hk (rfl | hk')
      · obtain ⟨_, _, x2, _⟩ := (h.row i s' ts' hs' ht').ex
        exact x2.ne hblk (Ne.symm (SK.str_tr _).2) hk
      · exact h.sep j i s s' k hs hs' hij hk' hk
  · have hg : ∀ (i : Nat) (s' : St), ss[i]? = some s' → i ≠ j → s'.trans.ownBlock ≠ some g := by
      intro i s' hs' hij hk
      rcases h4 with h4 | h4
      · exact h.sep j i s s' g hs hs' (Ne.symm hij) h4 hk
      · have hil : i < T.length := by rw [h.tlen, ← h.slen]; exact (List.getElem?_eq_some_iff.1 hs').1
        obtain ⟨_, _, x2, _⟩ := (h.row i s' _ hs' (List.getElem?_eq_getElem hil)).ex
        have := x2.lt hk
        omega
    intro i i' s1 s2 k hs1 hs2 hne hk hk2
    rw [List.getElem?_set] at hs1 hs2
    split at hs1
    · rename_i hij; subst hij
      rw [if_neg hne] at hs2
      split at hs1
      · cases hs1
        simp [Value.ownBlock] at hk
        subst hk
        exact hg i' s2 hs2 (Ne.symm hne) hk2
      · cases hs1
    · rename_i hij
      split at hs2
      · rename_i hij2; subst hij2
        split at hs2
        · cases hs2
          simp [Value.ownBlock] at hk2
          subst hk2
          exact hg i s1 hs1 (Ne.symm hij) hk
        · cases hs2
      · exact h.sep i i' s1 s2 k hs1 hs2 hne hk hk2
  · rcases h4 with h4 | h4
    · exact .inl h4
    · exact .inr ⟨g, rfl, h4⟩
end Go.Proofs.YtemdillhbnmjkaaGreatDoor

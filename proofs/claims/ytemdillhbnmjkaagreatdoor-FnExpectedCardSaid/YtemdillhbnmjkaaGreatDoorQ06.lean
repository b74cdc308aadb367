/- Deserializing: the numbers that are still to be read, and how one is read. · Deserializing: the states of a network in memory; how one is made. · Deserializing: the small methods of states; a state is added to a network. · Deserializing: what the states of a network hold while it is made. -/
import Derived.Test.YtemdillhbnmjkaaGreatDoorQ04
import Derived.Test.YtemdillhbnmjkaaGreatDoorQ05
import Derived.Deep.RegionWith
import Derived.StillTailTactics
namespace Go.Proofs.YtemdillhbnmjkaaGreatDoor
open Go.RowKit

/-- The deserializer at block bd, its data in block g, has xs still to read. -/
structure Rd (w : World) (bd g : Nat) (o : Value) (xs : List Int) : Prop where
  mk' ::
  ex : ∃ n c p arr, Blk w bd #[o, .slice (some ⟨g, 0, none⟩) n c, .int .i64 ((p : Nat) : Int)] 225 ∧ Blk w g arr 21 ∧ n ≤ maxLen ∧ p + xs.length ≤ n ∧
    ∀ j x, xs[j]? = some x → arr[p + j]? = some (.int .i32 x) ∧ -2147483648 ≤ x ∧ x ≤ 2147483647

theorem Rd.chg {S : Nat → Prop} {w w' : World} {bd g : Nat} {o : Value} {xs : List Int} (h : Rd w bd g o xs) (hc : Chg S w w') (h1 : ¬ S bd) (h2 : ¬ S g) : Rd w' bd g o xs := by
  obtain ⟨n, c, p, arr, a1, a2, a3⟩ := h.ex
  exact ⟨n, c, p, arr, a1.chg hc h1, a2.chg hc h2, a3⟩

theorem readInt_core (w : World) (bd g n c : Nat) (_ : Value) (p : Nat) (v : Int) (hp : p < n) (hn : n ≤ 9223372036854775807)
    (c1 : w.cell? ⟨bd, 1, none⟩ = some (.slice (some ⟨g, 0, none⟩) n c))
    (c2 : w.cell? ⟨bd, 2, none⟩ = some (.int .i64 p))
    (f2 : w.frozen? ⟨bd, 2, none⟩ = false)
    (hv : w.cell? ⟨g, p, none⟩ = some (.int .i32 v)) (hv1 : -2147483648 ≤ v) (hv2 : v ≤ 2147483647) :
    Calls Tryz.prog 113 #[.pointer (some ⟨bd, 0, none⟩)] w fun e w' => e = .returned (.int .i64 v) ∧ ∃ nq, w' = (w.drewN nq).setCell ⟨bd, 2, none⟩ (.int .i64 ((p : Int) + 1)) := by
  go_enter Tryz.func113, Tryz.ntmps113
  go_wp2
  go_quiet (fail)
  go_wp2
  go_ret
  exact ⟨rfl, _, rfl⟩

theorem readInt_any (w : World) (bd g : Nat) (o : Value) (x : Int) (xs : List Int) (h : Rd w bd g o (x :: xs)) :
    Calls Tryz.prog 113 #[.pointer (some ⟨bd, 0, none⟩)] w fun e w' => e = .returned (.int .i64 x) ∧ Rd w' bd g o xs ∧ Chg (fun k => k = bd) w w' := by
  obtain ⟨n, c, p, arr, a1, a2, a3, a4, a5⟩ := h.ex
  obtain ⟨b1, b2, b3⟩ := a5 0 x rfl
  unfold maxLen at a3
  refine (readInt_core w bd g n c o p x (by simp at a4; omega) a3 ?_ ?_ (a1.fz 2) ?_ b2 b3).mono ?_
  · rw [a1.cell]; rfl
  · rw [a1.cell]; rfl
  · rw [a2.cell]; exact b1
  rintro e w' ⟨rfl, nq, rfl⟩
  have hne : g ≠ bd := a2.ne a1 (by decide)
  refine ⟨rfl, ⟨n, c, p + 1, arr, ?_, (a2.drewN nq).other hne _, a3, by simp at a4; omega, fun j y hy => ?_⟩, ?_⟩
  · have := (a1.drewN nq).set 2 (.int .i64 ((p : Int) + 1))
    simpa using this
  · have := a5 (j + 1) y (by simpa using hy)
    rwa [show p + (j + 1) = p + 1 + j from by omega] at this
  · refine Chg.setCell ((Chg.refl _ _).drewN nq) ?_ _
    intro _; rfl
end Go.Proofs.YtemdillhbnmjkaaGreatDoor
namespace Go.Proofs.YtemdillhbnmjkaaGreatDoor
open Go.RowKit

set_option maxRecDepth 100000 in
theorem stateFactory_basic (w : World) (bd : Nat) (r : Int) :
    Calls Tryz.prog 117 #[.pointer (some ⟨bd, 0, none⟩), .int .i64 1, .int .i64 r] w fun e w' => e = .returned (.iface 317 (.pointer (some ⟨w.heap.size, 0, none⟩))) ∧
      w' = w.alloc (.cells #[.pointer none, .pointer none, .bool false, .int .i64 r, .int .i64 (-1), .int .i64 1, .slice none 0 0] 370) := by
  go_enter Tryz.func117, Tryz.ntmps117
  go_wp2
  go_end0
  go_wp2
  go_ret
  exact ⟨rfl, rfl⟩
set_option maxRecDepth 100000 in
theorem stateFactory_rstart (w : World) (bd : Nat) (r : Int) :
    Calls Tryz.prog 117 #[.pointer (some ⟨bd, 0, none⟩), .int .i64 2, .int .i64 r] w fun e w' => e = .returned (.iface 271 (.pointer (some ⟨w.heap.size, 0, none⟩))) ∧
      w' = w.alloc (.cells #[.pointer none, .pointer none, .bool false, .int .i64 r, .int .i64 (-1), .int .i64 2, .slice none 0 0, .nilIface, .bool false] 270) := by
  go_enter Tryz.func117, Tryz.ntmps117
  go_wp2
  go_end0
  go_wp2
  go_ret
  exact ⟨rfl, rfl⟩
set_option maxRecDepth 100000 in
theorem stateFactory_bstart (w : World) (bd : Nat) (r : Int) :
    Calls Tryz.prog 117 #[.pointer (some ⟨bd, 0, none⟩), .int .i64 3, .int .i64 r] w fun e w' => e = .returned (.iface 320 (.pointer (some ⟨w.heap.size, 0, none⟩))) ∧
      w' = w.alloc (.cells #[.pointer none, .pointer none, .bool false, .int .i64 r, .int .i64 (-1), .int .i64 3, .slice none 0 0, .int .i64 0, .bool false, .pointer none] 365) := by
  go_enter Tryz.func117, Tryz.ntmps117
  go_wp2
  go_end0
  go_wp2
  go_ret
  exact ⟨rfl, rfl⟩
set_option maxRecDepth 100000 in
theorem stateFactory_rstop (w : World) (bd : Nat) (r : Int) :
    Calls Tryz.prog 117 #[.pointer (some ⟨bd, 0, none⟩), .int .i64 7, .int .i64 r] w fun e w' => e = .returned (.iface 199 (.pointer (some ⟨w.heap.size, 0, none⟩))) ∧
      w' = w.alloc (.cells #[.pointer none, .pointer none, .bool false, .int .i64 r, .int .i64 (-1), .int .i64 7, .slice none 0 0] 273) := by
  go_enter Tryz.func117, Tryz.ntmps117
  go_wp2
  go_end0
  go_wp2
  go_ret
  exact ⟨rfl, rfl⟩
set_option maxRecDepth 100000 in
theorem stateFactory_bend (w : World) (bd : Nat) (r : Int) :
    Calls Tryz.prog 117 #[.pointer (some ⟨bd, 0, none⟩), .int .i64 8, .int .i64 r] w fun e w' => e = .returned (.iface 265 (.pointer (some ⟨w.heap.size, 0, none⟩))) ∧
      w' = w.alloc (.cells #[.pointer none, .pointer none, .bool false, .int .i64 r, .int .i64 (-1), .int .i64 8, .slice none 0 0, .nilIface] 281) := by
  go_enter Tryz.func117, Tryz.ntmps117
  go_wp2
  go_end0
  go_wp2
  go_ret
  exact ⟨rfl, rfl⟩
theorem stateFactory_any (w : World) (bd : Nat) (k : SK) (r : Int) :
    Calls Tryz.prog 117 #[.pointer (some ⟨bd, 0, none⟩), .int .i64 k.num, .int .i64 r] w fun e w' => e = .returned (.iface k.ptr (.pointer (some ⟨w.heap.size, 0, none⟩))) ∧
      w' = w.alloc (.cells (#[.pointer none, .pointer none, .bool false, .int .i64 r, .int .i64 (-1), .int .i64 k.num, .slice none 0 0] ++ k.zero.toArray) k.str) := by
  cases k
  · exact stateFactory_basic w bd r
  · exact stateFactory_rstart w bd r
  · exact stateFactory_bstart w bd r
  · exact stateFactory_rstop w bd r
  · exact stateFactory_bend w bd r
end Go.Proofs.YtemdillhbnmjkaaGreatDoor
namespace Go.Proofs.YtemdillhbnmjkaaGreatDoor
open Go.RowKit

theorem et116 : ET 116 109 .nilIface 1 16 := ⟨by kernel_rfl, by kernel_rfl, rfl, by decide⟩

theorem setATN_any (w : World) (b : Nat) (x v : Value) (c : w.cell? ⟨b, 1, none⟩ = some x) (f : w.frozen? ⟨b, 1, none⟩ = false) (hv : ∃ p, v = .pointer p) :
    Calls Tryz.prog 225 #[.pointer (some ⟨b, 0, none⟩), v] w fun e w' => e = .returned (.tuple #[]) ∧ w.setCell ⟨b, 1, none⟩ v = w' := by
  obtain ⟨p, rfl⟩ := hv
  go_enter Tryz.func225, Tryz.ntmps225
  go_wp2
  go_end0
  exact ⟨rfl, rfl⟩
theorem setNum_any (w : World) (b : Nat) (x : Value) (n : Int) (c : w.cell? ⟨b, 4, none⟩ = some x) (f : w.frozen? ⟨b, 4, none⟩ = false) :
    Calls Tryz.prog 228 #[.pointer (some ⟨b, 0, none⟩), .int .i64 n] w fun e w' => e = .returned (.tuple #[]) ∧ w.setCell ⟨b, 4, none⟩ (.int .i64 n) = w' := by
  go_enter Tryz.func228, Tryz.ntmps228
  go_wp2
  go_end0
  exact ⟨rfl, rfl⟩

theorem SK.str_ne (k : SK) : k.str ≠ 118 ∧ k.str ≠ 109 := by cases k <;> decide

set_option maxRecDepth 100000 in
theorem addState_any (w : World) (ba bs : Nat) (k : SK) (dec gt la mt mm ms rs rp rt v : Value) (cs : Array Value) (n : Nat) (xs : List Value)
    (ha : Blk w ba #[dec, gt, la, mt, mm, ms, rs, rp, rt, v] 118) (hs : Blk w bs cs k.str) (hcs : 7 ≤ cs.size) (hown : Own w 109 1 v n xs) (hn : n < 1000) :
    Calls Tryz.prog 116 #[.pointer (some ⟨ba, 0, none⟩), .iface k.ptr (.pointer (some ⟨bs, 0, none⟩))] w fun e w' => e = .returned (.tuple #[]) ∧
      ∃ g c', Blk w' ba #[dec, gt, la, mt, mm, ms, rs, rp, rt, .slice (some ⟨g, 0, none⟩) (n + 1) c'] 118 ∧ Blk w' bs ((cs.setIfInBounds 1 (.pointer (some ⟨ba, 0, none⟩))).setIfInBounds 4 (.int .i64 n)) k.str ∧
        Own w' 109 1 (.slice (some ⟨g, 0, none⟩) (n + 1) c') (n + 1) (xs ++ [.iface k.ptr (.pointer (some ⟨bs, 0, none⟩))]) ∧ Chg (fun j => j = ba ∨ j = bs ∨ v.ownBlock = some j) w w' ∧
        (v.ownBlock = some g ∨ w.heap.size ≤ g) := by
  have hne : bs ≠ ba := hs.ne ha k.str_ne.1
  have hne' : ba ≠ bs := fun h => hne h.symm
  have hva : v.ownBlock ≠ some ba := hown.ne ha (by decide)
  have hvs : v.ownBlock ≠ some bs := hown.ne hs (Ne.symm k.str_ne.2)
  have c1 : w.cell? ⟨bs, 1, none⟩ = some cs[1] := by rw [hs.cell]; exact Array.getElem?_eq_getElem _
  have c4 : w.cell? ⟨bs, 4, none⟩ = some cs[4] := by rw [hs.cell]; exact Array.getElem?_eq_getElem _
  have f1 := hs.fz 1
  have f4 := hs.fz 4
  have g9 := ha.fz 9
  have a9 : w.cell? ⟨ba, 9, none⟩ = some v := by rw [ha.cell]; rfl
  generalize cs[1] = x1 at c1
  generalize cs[4] = x4 at c4
  obtain ⟨A, cp, rfl⟩ := hown.slice
  have Ha := Lib.hid ha
  have Hs := Lib.hid hs
  have Hcs := Lib.hid hcs
  clear ha hs hcs
  go_enter Tryz.func116, Tryz.ntmps116
  go_wp2_with (first | (go_at_call 225; refine (setATN_any _ _ _ _ c1 f1 ⟨_, rfl⟩).mono ?_; rintro e w' ⟨rfl, rfl⟩))
  have hmf : ∀ (fn : Fn) (first cap : Array Value) (w : World), (Instr.makeFunc fn first cap).run Tryz.prog w = .ok (.func fn first cap) w := fun _ _ _ _ => rfl
  refine wp_tail 9 (by kernel_rfl) ?_
  simp only [List.take_succ_cons, List.take_zero, List.drop_succ_cons, List.drop_zero]
  repeat still_step
  refine wpStill_nil ?_
  go_wp2_with (first | (go_at_call 228; refine (setNum_any _ _ x4 _ (by simp [World.cell?_setCell_other, c4]) (by simp [f4])).mono ?_; rintro e w' ⟨rfl, rfl⟩) | (at_builtin; refine wp_app et116 rfl _ _ rfl (.slice A n cp) n xs rfl ?c1 _ rfl [.iface k.ptr (.pointer (some ⟨bs, 0, none⟩))] ?c2 rfl ?c3 ?c4 ?c5 ?c6))
  case c1 => exact (Own.chg hown (((((Chg.refl (fun j => j = bs) w).setCell (fun _ => rfl) _).setCell (fun _ => rfl) _).alloc _).drew) (fun j hj h => hvs (h ▸ hj)))
  case c2 => exact (Blk.at_new (by simp) _ _).drew
  case c3 => simp [Value.oneCell']
  case c4 => omega
  case c5 => omega
  case c6 =>
    intro g c' w1 hown1 hgr hloc
    have hs1 := (((Hs.out.set 1 (.pointer (some ⟨ba, 0, none⟩))).set 4 (.int .i64 n)).alloc (.cells #[Value.iface k.ptr (.pointer (some ⟨bs, 0, none⟩))] 109)).drew
    have ha1 := (((Ha.out.other (a := ⟨bs, 1, none⟩) hne' (.pointer (some ⟨ba, 0, none⟩))).other (a := ⟨bs, 4, none⟩) hne' (.int .i64 n)).alloc (.cells #[Value.iface k.ptr (.pointer (some ⟨bs, 0, none⟩))] 109)).drew
    have hc := Chg.grownBy hgr
    have hs2 := hs1.chg hc (fun h => hvs h.symm)
    have ha2 := ha1.chg hc (fun h => hva h.symm)
    have ca : w1.cell? ⟨ba, 9, none⟩ = some (.slice A n cp) := by rw [ha2.cell]; rfl
    have fa := ha2.fz 9
    have Hs2 := Lib.hid hs2
    have Ha2 := Lib.hid ha2
    have Hc := Lib.hid hc
    clear hs2 ha2 hc hs1 ha1 hgr
    go_wp2
    go_end0
    refine ⟨rfl, g, c', ?_, ?_, ?_, ?_, ?_⟩
    · have := Ha2.out.set 9 (.slice (some ⟨g, 0, none⟩) (n + 1) c')
      simpa using this
    · exact Hs2.out.other hne _
    · refine Own.chg hown1 ((Chg.refl (fun j => j = ba) w1).setCell (fun _ => rfl) _) ?_
      intro j hj h
      subst h
      exact (Own.ne hown1 Ha2.out (by decide)) hj
    · refine Chg.setCell ?_ (fun _ => .inl rfl) _
      refine Chg.then (((((Chg.refl _ w).setCell (fun _ => .inr (.inl rfl)) _).setCell (fun _ => .inr (.inl rfl)) _).alloc _).drew) Hc.out ?_
      intro j _ hj
      exact .inr (.inr hj.symm)
    · rcases hloc with h | h
      · exact .inl h
      · exact .inr (by omega)
end Go.Proofs.YtemdillhbnmjkaaGreatDoor
namespace Go.Proofs.YtemdillhbnmjkaaGreatDoor
open Go.RowKit

/-- A state: its kind, its rule, and what the fields hold that change. -/
structure St where
  k : SK
  rule : Int
  next : Value
  eps : Bool
  trans : Value
  extra : List Value

/-- the cells of state number j of the network at block ba -/
def St.cells (s : St) (ba j : Nat) : Array Value :=
  #[s.next, .pointer (some ⟨ba, 0, none⟩), .bool s.eps, .int .i64 s.rule, .int .i64 (j : Int), .int .i64 s.k.num, s.trans] ++ s.extra.toArray

theorem St.cells_size (s : St) (ba j : Nat) : 7 ≤ (s.cells ba j).size := by simp [St.cells]
theorem St.c0 (s : St) (ba j : Nat) : (s.cells ba j)[0]? = some s.next := by simp [St.cells]
theorem St.c1 (s : St) (ba j : Nat) : (s.cells ba j)[1]? = some (.pointer (some ⟨ba, 0, none⟩)) := by simp [St.cells]
theorem St.c2 (s : St) (ba j : Nat) : (s.cells ba j)[2]? = some (.bool s.eps) := by simp [St.cells]
theorem St.c3 (s : St) (ba j : Nat) : (s.cells ba j)[3]? = some (.int .i64 s.rule) := by simp [St.cells]
theorem St.c4 (s : St) (ba j : Nat) : (s.cells ba j)[4]? = some (.int .i64 (j : Int)) := by simp [St.cells]
theorem St.c6 (s : St) (ba j : Nat) : (s.cells ba j)[6]? = some s.trans := by simp [St.cells]
theorem St.c7 (s : St) (ba j i : Nat) : (s.cells ba j)[7 + i]? = s.extra[i]? := by
  rw [Nat.add_comm 7 i]
  simp [St.cells]
theorem St.set0 (s : St) (ba j : Nat) (v : Value) : (s.cells ba j).setIfInBounds 0 v = ({ s with next := v } : St).cells ba j := by
  simp [St.cells]
theorem St.set2 (s : St) (ba j : Nat) (b : Bool) : (s.cells ba j).setIfInBounds 2 (.bool b) = ({ s with eps := b } : St).cells ba j := by
  simp [St.cells]
theorem St.set6 (s : St) (ba j : Nat) (v : Value) : (s.cells ba j).setIfInBounds 6 v = ({ s with trans := v } : St).cells ba j := by
  simp [St.cells]
theorem St.set7 (s : St) (ba j i : Nat) (v : Value) : (s.cells ba j).setIfInBounds (7 + i) v = ({ s with extra := s.extra.set i v } : St).cells ba j := by
  simp only [St.cells]
  rw [Array.setIfInBounds_append_right (by simp)]
  simp

/-- The states ss lie in the blocks bs. -/
structure Sts (w : World) (ba : Nat) (ss : List St) (bs : List Nat) : Prop where
  len : bs.length = ss.length
  at_ : ∀ (j : Nat) s b, ss[j]? = some s → bs[j]? = some b → Blk w b (s.cells ba j) s.k.str

/-- the value of a state: an interface -/
def stv (ss : List St) (bs : List Nat) (j : Nat) : Value := .iface (((ss[j]?).map (·.k.ptr)).getD 0) (.pointer (some ⟨(bs[j]?).getD 0, 0, none⟩))
/-- all of them -/
def stvs (ss : List St) (bs : List Nat) : List Value := (List.range ss.length).map (stv ss bs)

theorem SK.str_inj {a b : SK} (h : a.str = b.str) : a = b := by cases a <;> cases b <;> first | rfl | (exact absurd h (by decide))

theorem Sts.inj {w : World} {ba : Nat} {ss : List St} {bs : List Nat} (h : Sts w ba ss bs) {i j b : Nat} (hi : bs[i]? = some b) (hj : bs[j]? = some b) : i = j := by
  have hil : i < bs.length := (List.getElem?_eq_some_iff.1 hi).1
  have hjl : j < bs.length := (List.getElem?_eq_some_iff.1 hj).1
  have hl := h.len
  have hsi : ss[i]? = some ss[i] := List.getElem?_eq_getElem (by omega)
  have hsj : ss[j]? = some ss[j] := List.getElem?_eq_getElem (by omega)
  have h1 := h.at_ i _ b hsi hi
  have h2 := h.at_ j _ b hsj hj
  have h3 := (h1.uniq h2).1
  have h4 := St.c4 ss[i] ba i
  rw [h3, St.c4] at h4
  simp at h4
  omega
theorem Sts.lt {w : World} {ba : Nat} {ss : List St} {bs : List Nat} (h : Sts w ba ss bs) {i b : Nat} (hi : bs[i]? = some b) : b < w.heap.size := by
  have hil : i < bs.length := (List.getElem?_eq_some_iff.1 hi).1
  have hl := h.len
  exact (h.at_ i _ b (List.getElem?_eq_getElem (by omega)) hi).lt
/-- nothing of them has changed -/
theorem Sts.chg {S : Nat → Prop} {w w' : World} {ba : Nat} {ss : List St} {bs : List Nat} (h : Sts w ba ss bs) (hc : Chg S w w') (hn : ∀ b ∈ bs, ¬ S b) : Sts w' ba ss bs :=
  ⟨h.len, fun j s b hs hb => (h.at_ j s b hs hb).chg hc (hn b (List.mem_of_getElem? hb))⟩
/-- what changed is of other types -/
theorem Sts.chgT {S : Nat → Prop} {w w' : World} {ba : Nat} {ss : List St} {bs : List Nat} (h : Sts w ba ss bs) (hc : Chg S w w')
    (hn : ∀ k, S k → k < w.heap.size → ∃ c T, Blk w k c T ∧ ∀ q : SK, q.str ≠ T) : Sts w' ba ss bs := by
  refine ⟨h.len, fun j s b hs hb => (h.at_ j s b hs hb).chg hc (fun hS => ?_)⟩
  obtain ⟨c, T, h1, h2⟩ := hn b hS (h.lt hb)
  exact ((h.at_ j s b hs hb).ne h1 (h2 _)) rfl
/-- one of them has changed -/
theorem Sts.upd {S : Nat → Prop} {w w' : World} {ba : Nat} {ss : List St} {bs : List Nat} (h : Sts w ba ss bs) (hc : Chg S w w') {j b : Nat} {s' : St} (hb : bs[j]? = some b)
    (hn : ∀ i b', bs[i]? = some b' → i ≠ j → ¬ S b') (hs' : Blk w' b (s'.cells ba j) s'.k.str) : Sts w' ba (ss.set j s') bs := by
  refine ⟨by simp [h.len], fun i s c hs hc' => ?_⟩
  rw [List.getElem?_set] at hs
  split at hs
  · rename_i hij
    subst hij
    split at hs
    · cases hs
      rw [hb] at hc'; cases hc'
      exact hs'
    · cases hs
  · rename_i hij
    exact (h.at_ i s c hs hc').chg hc (hn i c hc' (Ne.symm hij))
/-- one more -/
theorem Sts.push {w : World} {ba : Nat} {ss : List St} {bs : List Nat} (h : Sts w ba ss bs) {s : St} {b : Nat} (hb : Blk w b (s.cells ba ss.length) s.k.str) : Sts w ba (ss ++ [s]) (bs ++ [b]) := by
  refine ⟨by simp [h.len], fun j s' b' hs hb' => ?_⟩
  rcases Nat.lt_trichotomy j ss.length with hj | hj | hj
  · rw [List.getElem?_append_left hj] at hs
    rw [List.getElem?_append_left (by rw [h.len]; exact hj)] at hb'
    exact h.at_ j s' b' hs hb'
  · subst hj
    simp at hs; subst hs
    rw [← h.len] at hb'; simp at hb'; subst hb'
    exact hb
  · rw [List.getElem?_eq_none (by simp; omega)] at hs; cases hs
theorem stvs_push (ss : List St) (bs : List Nat) (s : St) (b : Nat) (hl : bs.length = ss.length) : stvs (ss ++ [s]) (bs ++ [b]) = stvs ss bs ++ [.iface s.k.ptr (.pointer (some ⟨b, 0, none⟩))] := by
  unfold stvs
  rw [List.length_append, List.length_singleton, List.range_succ, List.map_append]
  congr 1
  · refine List.map_congr_left fun j hj => ?_
    have hj' : j < ss.length := by simpa using hj
    unfold stv
    rw [List.getElem?_append_left hj', List.getElem?_append_left (by omega)]
  · simp [stv, ← hl]
theorem stvs_set (ss : List St) (bs : List Nat) (j : Nat) (s : St) (h : (ss[j]?).map (·.k) = some s.k) : stvs (ss.set j s) bs = stvs ss bs := by
  unfold stvs
  rw [List.length_set]
  refine List.map_congr_left fun i _ => ?_
  unfold stv
  congr 2
  rw [List.getElem?_set]
  split
  · rename_i hij
    subst hij
    split
    · cases hs : ss[j]? with
      | none => rw [hs] at h; cases h
      | some x => rw [hs] at h; simp at h; simp [h]
    · rename_i hlt
      rw [List.getElem?_eq_none (by omega)]
  · rfl
theorem stvs_length (ss : List St) (bs : List Nat) : (stvs ss bs).length = ss.length := by simp [stvs]
theorem stvs_at (ss : List St) (bs : List Nat) (j : Nat) (s : St) (b : Nat) (hs : ss[j]? = some s) (hb : bs[j]? = some b) : (stvs ss bs)[j]? = some (.iface s.k.ptr (.pointer (some ⟨b, 0, none⟩))) := by
  have hj : j < ss.length := (List.getElem?_eq_some_iff.1 hs).1
  unfold stvs
  rw [List.getElem?_map, List.getElem?_range hj]
  simp [stv, hs, hb]
end Go.Proofs.YtemdillhbnmjkaaGreatDoor

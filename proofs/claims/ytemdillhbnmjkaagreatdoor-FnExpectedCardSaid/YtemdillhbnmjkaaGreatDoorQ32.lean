/- A block some of whose cells are slices that grow. · Where an alternative's states lie (30, 12, 16). -/
import Derived.Test.YtemdillhbnmjkaaGreatDoorQ04
import Derived.Test.YtemdillhbnmjkaaGreatDoorQ27
import Derived.Test.YtemdillhbnmjkaaGreatDoorQ03
import Derived.LoopTactic
namespace Go.Proofs.YtemdillhbnmjkaaGreatDoor
open Go.RowKit

/-- what a cell is: a value, or a slice of n elements, of cells xs -/
inductive CS where
  | const (v : Value)
  | row (e : TypeId) (size n : Nat) (xs : List Value)
def CS.At (w : World) (v : Value) : CS → Prop
  | .const u => v = u
  | .row e size n xs => Own w e size v n xs
def CS.isRow : CS → Bool
  | .const _ => false
  | .row .. => true
def sideNo (side : List (Nat × Array Value × TypeId)) (k : Nat) : Prop := ∀ x ∈ side, x.1 ≠ k
/-- block b, its cells as said; what they lead to is new since w0; beside it blocks that stay -/
structure Rec (w0 w : World) (b : Nat) (T : TypeId) (specs : List CS) (side : List (Nat × Array Value × TypeId)) : Prop where
  mk' ::
  new : w0.heap.size ≤ b
  chg : Chg No w0 w
  sides : ∀ x ∈ side, Blk w x.1 x.2.1 x.2.2 ∧ x.1 ≠ b
  ex : ∃ vs : List Value, vs.length = specs.length ∧ Blk w b vs.toArray T ∧ (∀ (i : Nat) v s, vs[i]? = some v → specs[i]? = some s → s.At w v) ∧
    (∀ (i : Nat) v s k, vs[i]? = some v → specs[i]? = some s → s.isRow = true → v.ownBlock = some k → w0.heap.size ≤ k ∧ k ≠ b ∧ sideNo side k) ∧
    (∀ (i j : Nat) v v' s s' k, i ≠ j → vs[i]? = some v → vs[j]? = some v' → specs[i]? = some s → specs[j]? = some s' → s.isRow = true → s'.isRow = true → v.ownBlock = some k → v'.ownBlock ≠ some k)

theorem CS.At.no {w w' : World} {v : Value} {s : CS} (h : s.At w v) (hc : Chg No w w') : s.At w' v := by
  cases s with
  | const u => exact h
  | row e size n xs => exact Own.no h hc
theorem Rec.no {w0 w w' : World} {b : Nat} {T : TypeId} {specs : List CS} {side : List (Nat × Array Value × TypeId)} (h : Rec w0 w b T specs side) (hc : Chg No w w') : Rec w0 w' b T specs side := by
  obtain ⟨vs, h1, h2, h3, h4, h5⟩ := h.ex
  exact ⟨h.new, h.chg.trans hc, fun x hx => ⟨(h.sides x hx).1.chg hc (fun h => h), (h.sides x hx).2⟩, vs, h1, h2.chg hc (fun h => h), fun i v s a b => (h3 i v s a b).no hc, h4, h5⟩
theorem Rec.row {w0 w : World} {b : Nat} {T : TypeId} {specs : List CS} {side : List (Nat × Array Value × TypeId)} (h : Rec w0 w b T specs side) {i : Nat} {e : TypeId} {size n : Nat} {xs : List Value} (hi : specs[i]? = some (.row e size n xs)) :
    ∃ A c, w.cell? ⟨b, i, none⟩ = some (.slice A n c) ∧ Own w e size (.slice A n c) n xs := by
  obtain ⟨vs, h1, h2, h3, h4, h5⟩ := h.ex
  have hl := (List.getElem?_eq_some_iff.1 hi).1
  obtain ⟨v, hv⟩ : ∃ v, vs[i]? = some v := ⟨_, List.getElem?_eq_getElem (by omega)⟩
  have := h3 i v _ hv hi
  obtain ⟨A, c, rfl⟩ := Own.slice (show Own w e size v n xs from this)
  exact ⟨A, c, by rw [h2.cell]; simpa using hv, this⟩
theorem Rec.const {w0 w : World} {b : Nat} {T : TypeId} {specs : List CS} {side : List (Nat × Array Value × TypeId)} (h : Rec w0 w b T specs side) {i : Nat} {u : Value} (hi : specs[i]? = some (.const u)) : w.cell? ⟨b, i, none⟩ = some u := by
  obtain ⟨vs, h1, h2, h3, h4, h5⟩ := h.ex
  have hl := (List.getElem?_eq_some_iff.1 hi).1
  obtain ⟨v, hv⟩ : ∃ v, vs[i]? = some v := ⟨_, List.getElem?_eq_getElem (by omega)⟩
  have : v = u := h3 i v _ hv hi
  subst this
  rw [h2.cell]; simpa using hv
theorem Rec.fz {w0 w : World} {b : Nat} {T : TypeId} {specs : List CS} {side : List (Nat × Array Value × TypeId)} (h : Rec w0 w b T specs side) (i : Nat) : w.frozen? ⟨b, i, none⟩ = false := by
  obtain ⟨vs, h1, h2, _⟩ := h.ex
  exact h2.fz i
theorem Rec.lt {w0 w : World} {b : Nat} {T : TypeId} {specs : List CS} {side : List (Nat × Array Value × TypeId)} (h : Rec w0 w b T specs side) : b < w.heap.size := by
  obtain ⟨vs, h1, h2, _⟩ := h.ex
  exact h2.lt

/-- at the beginning: no rows are there yet -/
theorem Rec.start {w0 w : World} {b : Nat} {T : TypeId} {specs : List CS} {side : List (Nat × Array Value × TypeId)} (hn : w0.heap.size ≤ b) (hc : Chg No w0 w) (hs : ∀ x ∈ side, Blk w x.1 x.2.1 x.2.2 ∧ x.1 ≠ b)
    (vs : List Value) (hl : vs.length = specs.length) (hb : Blk w b vs.toArray T) (h : ∀ (i : Nat) v s, vs[i]? = some v → specs[i]? = some s → s = .const v ∨ (v = .slice none 0 0 ∧ ∃ e size, s = .row e size 0 [])) : Rec w0 w b T specs side := by
  have hrow : ∀ (i : Nat) v s k, vs[i]? = some v → specs[i]? = some s → s.isRow = true → v.ownBlock = some k → False := by
    intro i v s k h1 h2 h3 h4
    rcases h i v s h1 h2 with rfl | ⟨rfl, _⟩
    · cases h3
    · cases h4
  refine ⟨hn, hc, hs, vs, hl, hb, fun i v s h1 h2 => ?_, fun i v s k h1 h2 h3 h4 => (hrow i v s k h1 h2 h3 h4).elim, fun i j v v' s s' k _ h1 _ h2 _ h3 _ h4 => (hrow i v s k h1 h2 h3 h4).elim⟩
  rcases h i v s h1 h2 with rfl | ⟨rfl, e, size, rfl⟩
  · rfl
  · exact World.ownsRow_nil _ _ _ _

/-- 'x.f = append(x.f, y)', y's cells in block q -/
theorem wp_rec {w : World} {ops : Array Oper} {rest : List Oper} {o : Oper} {a : Act} {Q : Exit → Act → World → Prop} {t e : TypeId} {z : Value} {size bytes : Nat} (E : ET t e z size bytes)
    (hg : o.guard = none) (s x : Operand) (hop : o.op = Op.call { callee := Callee.builtin Builtin.append, args := #[s, x], argTypes := #[t, t] })
    {w0 : World} {b : Nat} {T : TypeId} {specs : List CS} {side : List (Nat × Array Value × TypeId)} (h : Rec w0 w b T specs side) (i n : Nat) (xs : List Value) (hi : specs[i]? = some (.row e size n xs))
    (v : Value) (hs : a.eval s = v) (hv : w.cell? ⟨b, i, none⟩ = some v)
    (q : Nat) (hx : a.eval x = .slice (some ⟨q, 0, none⟩) 1 1) (cs : List Value) (hq : Blk w q cs.toArray e) (hl : cs.length = size) (h1 : ∀ u ∈ cs, u.oneCell' = true)
    (hb : (n + 1) * bytes ≤ 140737488355328) (h63 : n + 1 ≤ 9223372036854775807)
    (hK : ∀ (g c' : Nat) (w' : World), w'.cell? ⟨b, i, none⟩ = some v → w'.frozen? ⟨b, i, none⟩ = false → b < w'.heap.size →
      Rec w0 (w'.setCell ⟨b, i, none⟩ (.slice (some ⟨g, 0, none⟩) (n + 1) c')) b T (specs.set i (.row e size (n + 1) (xs ++ cs))) side →
      wpList Tryz.prog ops Q rest (a.put o.dst (.slice (some ⟨g, 0, none⟩) (n + 1) c')) w') :
    wpList Tryz.prog ops Q (o :: rest) a w := by
  obtain ⟨vs, g1, g2, g3, g4, g5⟩ := h.ex
  have hil := (List.getElem?_eq_some_iff.1 hi).1
  have hvi : vs[i]? = some v := by rw [g2.cell] at hv; simpa using hv
  have how : Own w e size v n xs := g3 i v _ hvi hi
  refine wp_app E hg s x hop v n xs hs how q hx cs hq hl h1 hb h63 (fun g c' w' k1 k2 k3 => ?_)
  have hne : ∀ k, v.ownBlock = some k → k ≠ b := fun k hk => (g4 i v _ k hvi hi rfl hk).2.1
  have hb' : Blk w' b vs.toArray T := g2.chg (Chg.grownBy k2) (fun h => hne b h.symm rfl)
  have hgb : g ≠ b := by
    rcases k3 with k3 | rfl
    · exact hne g k3
    · have := g2.lt; omega
  have hnew : w0.heap.size ≤ g ∧ sideNo side g := by
    rcases k3 with k3 | rfl
    · exact ⟨(g4 i v _ g hvi hi rfl k3).1, (g4 i v _ g hvi hi rfl k3).2.2⟩
    · refine ⟨h.chg.size, fun x hx hxe => ?_⟩
      have := (h.sides x hx).1.lt
      omega
  have hchg : Chg (fun k => v.ownBlock = some k ∨ k = b) w (w'.setCell ⟨b, i, none⟩ (.slice (some ⟨g, 0, none⟩) (n + 1) c')) :=
    Chg.setCell ((Chg.refl _ w).grown k2 (fun k hk _ => .inl hk)) (fun _ => .inr rfl) _
  refine hK g c' w' (by rw [hb'.cell]; simpa using hvi) (hb'.fz i) hb'.lt ?_
  have keep : ∀ (j : Nat) u s, j ≠ i → vs[j]? = some u → specs[j]? = some s → s.At w u → s.At (w'.setCell ⟨b, i, none⟩ (.slice (some ⟨g, 0, none⟩) (n + 1) c')) u := by
    intro j u s hj hu hsj hat
    cases s with
    | const u' => exact hat
    | row e' size' n' xs' =>
      refine Own.chg hat hchg (fun k hk hS => ?_)
      rcases hS with hS | rfl
      · exact g5 i j v u _ _ k (Ne.symm hj) hvi hu hi hsj rfl rfl hS hk
      · exact (g4 j u _ k hu hsj rfl hk).2.1 rfl
  refine ⟨h.new, ?_, fun x hx => ?_, vs.set i (.slice (some ⟨g, 0, none⟩) (n + 1) c'), by simp [g1], ?_, ?_, ?_, ?_⟩
  · refine h.chg.then hchg (fun k hk hS => ?_)
    rcases hS with hS | rfl
    · have := (g4 i v _ k hvi hi rfl hS).1; omega
    · have := h.new; omega
  · obtain ⟨s1, s2⟩ := h.sides x hx
    refine ⟨s1.chg hchg (fun hS => ?_), s2⟩
    rcases hS with hS | hS
    · exact (g4 i v _ _ hvi hi rfl hS).2.2 x hx rfl
    · exact s2 hS
  · have := hb'.set i (.slice (some ⟨g, 0, none⟩) (n + 1) c')
    have e1 : vs.toArray.setIfInBounds i (.slice (some ⟨g, 0, none⟩) (n + 1) c') = (vs.set i (.slice (some ⟨g, 0, none⟩) (n + 1) c')).toArray := by
      apply Array.ext'; rw [Array.toList_setIfInBounds]
    rwa [e1] at this
  · intro j u s hu hsj
    by_cases hj : j = i
    · subst hj
      rw [List.getElem?_set_self (by omega)] at hu hsj
      cases hu
      cases hsj
      exact k1.chg (Chg.setCell (S := fun k => k = b) (Chg.refl _ _) (fun _ => rfl) _) (fun k hk hS => hgb (by simp [Value.ownBlock] at hk; omega))
    · rw [List.getElem?_set_ne (Ne.symm hj)] at hu hsj
      exact keep j u s hj hu hsj (g3 j u s hu hsj)
  · intro j u s k hu hsj hr hk
    by_cases hj : j = i
    · subst hj
      rw [List.getElem?_set_self (by omega)] at hu
      cases hu
      simp [Value.ownBlock] at hk
      subst hk
      exact ⟨hnew.1, hgb, hnew.2⟩
    · rw [List.getElem?_set_ne (Ne.symm hj)] at hu hsj
      exact g4 j u s k hu hsj hr hk
  · intro j1 j2 u1 u2 s1 s2 k hj hu1 hu2 hs1 hs2 hr1 hr2 hk1 hk2
    by_cases e1 : j1 = i
    · subst e1
      rw [List.getElem?_set_self (by omega)] at hu1
      rw [List.getElem?_set_ne hj] at hu2 hs2
      cases hu1
      simp [Value.ownBlock] at hk1
      subst hk1
      rcases k3 with k3 | rfl
      · exact g5 j1 j2 v u2 _ s2 g hj hvi hu2 hi hs2 rfl hr2 k3 hk2
      · have h9 := g3 j2 u2 s2 hu2 hs2
        cases s2 with
        | const _ => cases hr2
        | row e' size' n' xs' => have := Own.lt (show Own w e' size' u2 n' xs' from h9) hk2; omega
    · rw [List.getElem?_set_ne (Ne.symm e1)] at hu1 hs1
      by_cases e2 : j2 = i
      · subst e2
        rw [List.getElem?_set_self (by omega)] at hu2
        cases hu2
        simp [Value.ownBlock] at hk2
        subst hk2
        rcases k3 with k3 | rfl
        · exact g5 j1 j2 u1 v s1 _ g hj hu1 hvi hs1 hi hr1 rfl hk1 k3
        · have h9 := g3 j1 u1 s1 hu1 hs1
          cases s1 with
          | const _ => cases hr1
          | row e' size' n' xs' => have := Own.lt (show Own w e' size' u1 n' xs' from h9) hk1; omega
      · rw [List.getElem?_set_ne (Ne.symm e2)] at hu2 hs2
        exact g5 j1 j2 u1 u2 s1 s2 k hj hu1 hu2 hs1 hs2 hr1 hr2 hk1 hk2
end Go.Proofs.YtemdillhbnmjkaaGreatDoor
namespace Go.Proofs.YtemdillhbnmjkaaGreatDoor
open Go.RowKit

theorem place_le (g : Pl.Gr) (r a : Nat) : Pl.place g r a ≤ Pl.states g := by
  unfold Pl.place Pl.states
  rcases Nat.lt_or_ge r g.length with h | h
  · have h1 := Pl.sum_take_succ g r g[r] (List.getElem?_eq_getElem h)
    have h2 := Pl.sum_take_mono g (a := r + 1) (b := g.length) h
    have h3 := Pl.altLen_mono g[r] (a := min a g[r].length) (b := g[r].length) (Nat.min_le_right _ _)
    rw [List.take_length] at h2 h3
    rw [List.getElem?_eq_getElem h, Option.getD_some]
    have h4 : g[r].take a = g[r].take (min a g[r].length) := by
      rw [← List.take_take, List.take_length]
    rw [h4]
    omega
  · have h2 := Pl.sum_take_mono g (a := g.length) (b := r) h
    rw [List.getElem?_eq_none h, List.take_of_length_le h]
    simp [Pl.altLen]
theorem place_zero (g : Pl.Gr) (r : Nat) : Pl.place g r 0 = 4 * g.length + ((g.take r).map Pl.altLen).sum := by
  unfold Pl.place; simp [Pl.altLen]
theorem place_succ (g : Pl.Gr) {r a : Nat} {alts : List (List Int)} {alt : List Int} (hr : g[r]? = some alts) (ha : alts[a]? = some alt) : Pl.place g r (a + 1) = Pl.place g r a + (alt.length + 1) := by
  rw [Pl.place_eq g r _ alts hr, Pl.place_eq g r _ alts hr, Pl.altLen_take_succ alts a alt ha]; omega
theorem place_next (g : Pl.Gr) {r : Nat} {alts : List (List Int)} (hr : g[r]? = some alts) : Pl.place g r alts.length = Pl.place g (r + 1) 0 := by
  rw [Pl.place_eq g r _ alts hr, place_zero, Pl.sum_take_succ g r alts hr, List.take_length]; omega

set_option maxRecDepth 100000 in
theorem place_any (w : World) (v : Value) (g : Pl.Gr) (r a : Nat) (alts : List (List Int)) (G : Pl.GoodG g) (hv : Rd3 w v g) (hr : g[r]? = some alts) (ha : a < alts.length) :
    Calls Tryz.prog 30 #[v, .int .i64 (r : Int), .int .i64 (a : Int)] w fun e w' => e = .returned (.int .i64 ((Pl.place g r a : Nat) : Int)) ∧ w = w' := by
  obtain ⟨A, c, rfl⟩ := hv.slice
  have hl := G.len6
  have hrl := (List.getElem?_eq_some_iff.1 hr).1
  have hst := G.states_le
  have HP := Lib.hid (fun r a => Nat.le_trans (place_le g r a) hst)
  have HZ := Lib.hid (show Pl.place g 0 0 = 4 * g.length by rw [place_zero]; simp)
  have HG := Lib.hid G
  have HV := Lib.hid hv
  have HR := Lib.hid hr
  clear G hv hr hst
  go_enter Tryz.func30, Tryz.ntmps30
  go_wp2
  go_loop [7, 17] (fun n i => ∃ j : Nat, j ≤ r ∧ i = .int .i64 (j : Int) ∧ n = .int .i64 ((Pl.place g j 0 : Nat) : Int)) (fun _ i => g.length - (intOf i).toNat)
  case atStart => exact ⟨0, Nat.zero_le _, rfl, by rw [HZ.out]; simp⟩
  case round =>
    obtain ⟨j, hj, rfl, rfl⟩ := hrel
    have hjl : j < g.length := by omega
    obtain ⟨als, hal⟩ : ∃ u, g[j]? = some u := ⟨_, List.getElem?_eq_getElem hjl⟩
    obtain ⟨b2, o2, A', c', rfl, h1, h2⟩ := Rd3.at_ HV.out hal
    have hal4 := (HG.out.alts j als hal).2
    have HAL := Lib.hid hal
    have HR2 := Lib.hid h2
    have hsame := Lib.hid (show j = r → a < als.length by
      intro e; subst e
      have := HR.out
      rw [hal] at this
      cases this
      exact ha)
    clear hal h2
    go_wp2
    go_loop [7, 24] (fun n i => ∃ k : Nat, k ≤ als.length ∧ (j = r → k ≤ a) ∧ i = .int .i64 (k : Int) ∧ n = .int .i64 ((Pl.place g j k : Nat) : Int)) (fun _ i => als.length - (intOf i).toNat)
    case atStart => exact ⟨0, Nat.zero_le _, fun _ => Nat.zero_le _, rfl, rfl⟩
    case round =>
      obtain ⟨k, hk, hka, rfl, rfl⟩ := hrel
      have hkb := HP.out j k
      by_cases hlt : k < als.length
      · obtain ⟨alt, hu⟩ : ∃ u, als[k]? = some u := ⟨_, List.getElem?_eq_getElem hlt⟩
        obtain ⟨b3, o3, A3, c3, rfl, h3, h4⟩ := Rd2.at_ HR2.out hu
        have hal5 := HG.out.alt j als alt HAL.out (List.mem_of_getElem? hu)
        have hps := place_succ g HAL.out hu
        have HPS := Lib.hid hps
        clear hps h4 hu h1
        by_cases hjr : j = r
        · by_cases hkA : k = a
          · subst hjr
            subst hkA
            clear hka
            obtain ⟨pn, hpn⟩ : ∃ x, x = Pl.place g j k := ⟨_, rfl⟩
            rw [← hpn] at hkb ⊢
            have HPN := Lib.hid hpn
            clear hpn
            go_wp2
            go_ret
            exact ⟨by rw [← HPN.out]; rfl, rfl⟩
          · subst hjr
            have hka' := hka rfl
            have hd : decide ((k : Int) = (a : Int)) = false := decide_eq_false (by omega)
            have hd2 : ((k : Int) == (a : Int)) = false := by simpa using (by omega : ¬ (k : Int) = (a : Int))
            have hd3 : (k == a) = false := by simpa using hkA
            obtain ⟨pn, hpn⟩ : ∃ x, x = Pl.place g j k := ⟨_, rfl⟩
            rw [← hpn] at HPS hkb ⊢
            clear hpn hka
            go_wp2
            go_round
            case rel => exact ⟨k + 1, by omega, fun _ => by omega, by go_num, by rw [HPS.out]; go_num⟩
            case measure => simp [intOf]; omega
        · have hd : decide ((j : Int) = (r : Int)) = false := decide_eq_false (by omega)
          have hd2 : ((j : Int) == (r : Int)) = false := by simpa using (by omega : ¬ (j : Int) = (r : Int))
          have hd3 : (j == r) = false := by simpa using hjr
          obtain ⟨pn, hpn⟩ : ∃ x, x = Pl.place g j k := ⟨_, rfl⟩
          rw [← hpn] at HPS hkb ⊢
          clear hpn hka
          go_wp2
          go_round
          case rel => exact ⟨k + 1, by omega, fun h => absurd h hjr, by go_num, by rw [HPS.out]; go_num⟩
          case measure => simp [intOf]; omega
      · have hkk : k = als.length := by omega
        have hjr : j ≠ r := fun e => by have := hka e; have := hsame.out e; omega
        have hpx : Pl.place g j k = Pl.place g (j + 1) 0 := by rw [hkk]; exact place_next g HAL.out
        have HPX := Lib.hid hpx
        obtain ⟨pn, hpn⟩ : ∃ x, x = Pl.place g j k := ⟨_, rfl⟩
        rw [← hpn] at HPX hkb ⊢
        clear hpx hpn hka hkk h1
        go_wp2
        go_round
        case rel => exact ⟨j + 1, by omega, by go_num, by rw [HPX.out]⟩
        case measure => simp [intOf]; omega

set_option maxRecDepth 100000 in
theorem at_any (w : World) (v : Value) (g : Pl.Gr) (r a k : Nat) (alts : List (List Int)) (G : Pl.GoodG g) (hv : Rd3 w v g) (hr : g[r]? = some alts) (ha : a < alts.length) (hk : k < 1000) :
    Calls Tryz.prog 12 #[v, .int .i64 (r : Int), .int .i64 (a : Int), .int .i64 (k : Int)] w fun e w' => e = .returned (.int .i64 ((Pl.place g r a + k : Nat) : Int)) ∧ w = w' := by
  have h1 := Nat.le_trans (place_le g r a) G.states_le
  have HP := Lib.hid (place_any w v g r a alts G hv hr ha)
  obtain ⟨A, c, rfl⟩ := hv.slice
  generalize Pl.place g r a = p at *
  clear hv hr G
  go_enter Tryz.func12, Tryz.ntmps12
  go_wp2_with fail
  refine HP.out.mono ?_
  rintro e w' ⟨rfl, rfl⟩
  go_wp2
  go_ret
  exact ⟨by simp, rfl⟩
set_option maxRecDepth 100000 in
theorem block_any (w : World) (v : Value) (g : Pl.Gr) (r : Nat) (hv : Rd3 w v g) (hg : g.length ≤ 6) (hr : r < 1000) :
    Calls Tryz.prog 16 #[v, .int .i64 (r : Int)] w fun e w' => e = .returned (.int .i64 ((2 * g.length + r : Nat) : Int)) ∧ w = w' := by
  obtain ⟨A, c, rfl⟩ := hv.slice
  clear hv
  go_enter Tryz.func16, Tryz.ntmps16
  go_wp2
  go_ret
  exact ⟨by simp, rfl⟩
end Go.Proofs.YtemdillhbnmjkaaGreatDoor

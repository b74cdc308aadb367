/- Reading slices of slices: what a slice's elements are, whatever they are. · What fits (6, 20), and the grammar of a row of rows of rows (7). · The grammar of a row of rows of rows (7). -/
import Derived.Test.YtemdillhbnmjkaaGreatDoorQ04
import Derived.LoopTactic
namespace Go.Proofs.YtemdillhbnmjkaaGreatDoor
open Go.RowKit

/-- v is a slice whose elements, of one cell each, are vs -/
def RdV (w : World) (v : Value) (vs : List Value) : Prop := ∃ A c, v = .slice A vs.length c ∧ ∀ (j : Nat) u, vs[j]? = some u → ∃ b o, A = some ⟨b, o, none⟩ ∧ w.cell? ⟨b, o + j, none⟩ = some u
/-- v is a slice whose elements are as R says of xs -/
def RdL {α : Type} (R : World → Value → α → Prop) (w : World) (v : Value) (xs : List α) : Prop := ∃ vs, RdV w v vs ∧ vs.length = xs.length ∧ ∀ (i : Nat) u x, vs[i]? = some u → xs[i]? = some x → R w u x
def Rd0 (_ : World) (v : Value) (x : Int) : Prop := v = .int .i64 x
abbrev Rd1 := RdL Rd0
abbrev Rd2 := RdL Rd1
abbrev Rd3 := RdL Rd2
theorem RdL.slice {α : Type} {R : World → Value → α → Prop} {w : World} {v : Value} {xs : List α} (h : RdL R w v xs) : ∃ A c, v = .slice A xs.length c := by
  obtain ⟨vs, ⟨A, c, h1, _⟩, h2, _⟩ := h
  exact ⟨A, c, by rw [h1, h2]⟩
theorem RdL.at_ {α : Type} {R : World → Value → α → Prop} {w : World} {A : Option Addr} {n c : Nat} {xs : List α} (h : RdL R w (.slice A n c) xs) {i : Nat} {x : α} (hi : xs[i]? = some x) :
    ∃ b o u, A = some ⟨b, o, none⟩ ∧ w.cell? ⟨b, o + i, none⟩ = some u ∧ R w u x := by
  obtain ⟨vs, ⟨A', c', h1, h2⟩, h3, h4⟩ := h
  cases h1
  obtain ⟨u, hu⟩ : ∃ u, vs[i]? = some u := ⟨_, List.getElem?_eq_getElem (by have := (List.getElem?_eq_some_iff.1 hi).1; omega)⟩
  obtain ⟨b, o, e1, e2⟩ := h2 i u hu
  exact ⟨b, o, u, e1, e2, h4 i u x hu hi⟩
theorem RdV.no {w w' : World} {v : Value} {vs : List Value} (h : RdV w v vs) (hc : Chg No w w') : RdV w' v vs := by
  obtain ⟨A, c, h1, h2⟩ := h
  refine ⟨A, c, h1, fun j u hj => ?_⟩
  obtain ⟨b, o, e1, e2⟩ := h2 j u hj
  exact ⟨b, o, e1, Chg.kept hc e2 (fun h => h)⟩
theorem RdL.no {α : Type} {R : World → Value → α → Prop} (hR : ∀ w w' v x, R w v x → Chg No w w' → R w' v x) {w w' : World} {v : Value} {xs : List α} (h : RdL R w v xs) (hc : Chg No w w') : RdL R w' v xs := by
  obtain ⟨vs, h1, h2, h3⟩ := h
  exact ⟨vs, h1.no hc, h2, fun i u x a b => hR _ _ _ _ (h3 i u x a b) hc⟩
theorem Rd0.no (w w' : World) (v : Value) (x : Int) (h : Rd0 w v x) (_ : Chg No w w') : Rd0 w' v x := h
theorem Rd1.no {w w' : World} {v : Value} {xs : List Int} (h : Rd1 w v xs) (hc : Chg No w w') : Rd1 w' v xs := RdL.no Rd0.no h hc
theorem Rd2.no {w w' : World} {v : Value} {xs : List (List Int)} (h : Rd2 w v xs) (hc : Chg No w w') : Rd2 w' v xs := RdL.no (R := Rd1) (fun _ _ _ _ h hc => Rd1.no h hc) h hc
theorem Rd3.no {w w' : World} {v : Value} {xs : List (List (List Int))} (h : Rd3 w v xs) (hc : Chg No w w') : Rd3 w' v xs := RdL.no (R := Rd2) (fun _ _ _ _ h hc => Rd2.no h hc) h hc
theorem Rd1.at_ {w : World} {A : Option Addr} {n c : Nat} {xs : List Int} (h : Rd1 w (.slice A n c) xs) {i : Nat} {x : Int} (hi : xs[i]? = some x) : ∃ b o, A = some ⟨b, o, none⟩ ∧ w.cell? ⟨b, o + i, none⟩ = some (.int .i64 x) := by
  obtain ⟨b, o, u, h1, h2, h3⟩ := RdL.at_ h hi
  cases h3
  exact ⟨b, o, h1, h2⟩
theorem Rd2.at_ {w : World} {A : Option Addr} {n c : Nat} {xs : List (List Int)} (h : Rd2 w (.slice A n c) xs) {i : Nat} {x : List Int} (hi : xs[i]? = some x) :
    ∃ b o A' c', A = some ⟨b, o, none⟩ ∧ w.cell? ⟨b, o + i, none⟩ = some (.slice A' x.length c') ∧ Rd1 w (.slice A' x.length c') x := by
  obtain ⟨b, o, u, h1, h2, h3⟩ := RdL.at_ h hi
  obtain ⟨A', c', rfl⟩ := RdL.slice h3
  exact ⟨b, o, A', c', h1, h2, h3⟩
theorem Rd3.at_ {w : World} {A : Option Addr} {n c : Nat} {xs : List (List (List Int))} (h : Rd3 w (.slice A n c) xs) {i : Nat} {x : List (List Int)} (hi : xs[i]? = some x) :
    ∃ b o A' c', A = some ⟨b, o, none⟩ ∧ w.cell? ⟨b, o + i, none⟩ = some (.slice A' x.length c') ∧ Rd2 w (.slice A' x.length c') x := by
  obtain ⟨b, o, u, h1, h2, h3⟩ := RdL.at_ h hi
  obtain ⟨A', c', rfl⟩ := RdL.slice h3
  exact ⟨b, o, A', c', h1, h2, h3⟩

/-- the same, of slices that the program has made: elements of the type e, in a block of their own -/
def TdL {α : Type} (e : TypeId) (R : World → Value → α → Prop) (w : World) (v : Value) (xs : List α) : Prop := ∃ vs, Own w e 1 v xs.length vs ∧ vs.length = xs.length ∧ ∀ (i : Nat) u x, vs[i]? = some u → xs[i]? = some x → R w u x
theorem TdL.rd {α : Type} {e : TypeId} {R : World → Value → α → Prop} {w : World} {v : Value} {xs : List α} (h : TdL e R w v xs) : RdL R w v xs := by
  obtain ⟨vs, h1, h2, h3⟩ := h
  refine ⟨vs, ?_, h2, h3⟩
  obtain ⟨A, c, rfl⟩ := h1.slice
  refine ⟨A, c, by rw [h2], fun j u hj => ?_⟩
  have hjl := (List.getElem?_eq_some_iff.1 hj).1
  obtain ⟨g, cap, cur, he, _, _⟩ := Own.blk h1 (by omega)
  cases he
  exact ⟨g, 0, rfl, by rw [Nat.zero_add]; exact h1.cellAt hj⟩
theorem TdL.chg {α : Type} {e : TypeId} {R : World → Value → α → Prop} {S : Nat → Prop} {w w' : World} (hR : ∀ v x, R w v x → R w' v x) {v : Value} {xs : List α} (h : TdL e R w v xs) (hc : Chg S w w') (hn : ∀ k, v.ownBlock = some k → ¬ S k) : TdL e R w' v xs := by
  obtain ⟨vs, h1, h2, h3⟩ := h
  exact ⟨vs, h1.chg hc hn, h2, fun i u x a b => hR _ _ (h3 i u x a b)⟩
theorem TdL.snoc {α : Type} {e : TypeId} {R : World → Value → α → Prop} {w : World} {v u : Value} {xs : List α} {vs : List Value} {x : α} (h : Own w e 1 v (xs.length + 1) (vs ++ [u])) (h2 : vs.length = xs.length)
    (h3 : ∀ (i : Nat) u x, vs[i]? = some u → xs[i]? = some x → R w u x) (hx : R w u x) : TdL e R w v (xs ++ [x]) := by
  refine ⟨vs ++ [u], by rw [List.length_append]; exact h, by simp [h2], fun i u' x' h4 h5 => ?_⟩
  rcases Nat.lt_trichotomy i vs.length with hi | hi | hi
  · rw [List.getElem?_append_left hi] at h4
    rw [List.getElem?_append_left (by omega)] at h5
    exact h3 i u' x' h4 h5
  · subst hi
    rw [List.getElem?_append_right (Nat.le_refl _)] at h4
    rw [List.getElem?_append_right (by omega), h2] at h5
    simp at h4 h5
    subst h4
    subst h5
    exact hx
  · rw [List.getElem?_eq_none (by simp; omega)] at h4
    cases h4
theorem RdL.mono {α : Type} {R R' : World → Value → α → Prop} {w : World} {v : Value} {xs : List α} (h : RdL R w v xs) (hR : ∀ u x, R w u x → R' w u x) : RdL R' w v xs := by
  obtain ⟨vs, h1, h2, h3⟩ := h
  exact ⟨vs, h1, h2, fun i u x a b => hR _ _ (h3 i u x a b)⟩
end Go.Proofs.YtemdillhbnmjkaaGreatDoor
namespace Go.Proofs.YtemdillhbnmjkaaGreatDoor
open Go.RowKit

def Fits2 (x : List (List Int)) : Prop := x.length ≤ 2147483647 ∧ ∀ v ∈ x, v.length ≤ 2147483647
def Fits1 (x : List (List (List Int))) : Prop := x.length ≤ 2147483647 ∧ ∀ v ∈ x, Fits2 v
/-- it returns a truth, and if it is true, p -/
def Tell (p : Prop) (w : World) (e : Ending) (w' : World) : Prop := ∃ b : Bool, e = .returned (.bool b) ∧ (b = true → p) ∧ w = w'

/-- the first j have p -/
def Upto {α : Type} (p : α → Prop) (x : List α) (j : Nat) : Prop := ∀ (i : Nat) v, i < j → x[i]? = some v → p v
theorem Upto.zero {α : Type} {p : α → Prop} {x : List α} : Upto p x 0 := fun _ _ h => absurd h (Nat.not_lt_zero _)
theorem Upto.all {α : Type} {p : α → Prop} {x : List α} {n : Nat} (h : Upto p x n) (hn : x.length ≤ n) : ∀ v ∈ x, p v := by
  intro v hv
  obtain ⟨j, hj⟩ := List.getElem?_of_mem hv
  exact h j v (Nat.lt_of_lt_of_le (List.getElem?_eq_some_iff.1 hj).1 hn) hj
theorem Upto.succ {α : Type} {p : α → Prop} {x : List α} {j : Nat} {v : α} (h : Upto p x j) (hj : x[j]? = some v) (hp : p v) : Upto p x (j + 1) := by
  intro i u hi hu
  rcases Nat.lt_succ_iff_lt_or_eq.1 hi with h1 | rfl
  · exact h i u h1 hu
  · rw [hj] at hu; cases hu; exact hp

set_option maxRecDepth 100000 in
theorem fits2_any (w : World) (v : Value) (x : List (List Int)) (hl : x.length ≤ maxLen) (hv : Rd2 w v x) : Calls Tryz.prog 20 #[v] w (Tell (Fits2 x) w) := by
  obtain ⟨A, c, rfl⟩ := hv.slice
  unfold maxLen at hl
  by_cases h : x.length ≤ 2147483647
  · go_enter Tryz.func20, Tryz.ntmps20
    go_wp2
    go_loopw [10] (fun i wr => ∃ j : Nat, j ≤ x.length ∧ i = .int .i64 (j : Int) ∧ Upto (fun v => v.length ≤ 2147483647) x j ∧ w = wr) (fun i _ => x.length - (intOf i).toNat)
    case atStart => exact ⟨0, Nat.zero_le _, rfl, Upto.zero, rfl⟩
    case round =>
      obtain ⟨j, hj, rfl, hd, rfl⟩ := hrel
      have HD := Lib.hid hd
      clear hd
      by_cases hlt : j < x.length
      · obtain ⟨u, hu⟩ : ∃ u, x[j]? = some u := ⟨_, List.getElem?_eq_getElem hlt⟩
        obtain ⟨b, o, A', c', rfl, h1, h2⟩ := Rd2.at_ hv hu
        have HU := Lib.hid hu
        clear hu
        by_cases h3 : u.length ≤ 2147483647
        · go_wp2
          go_roundw
          case rel => exact ⟨j + 1, by omega, by go_num, HD.out.succ HU.out h3, by trivial⟩
          case measure => simp [intOf]; omega
        · go_wp2
          go_ret
          exact ⟨false, rfl, (fun h => by cases h), rfl⟩
      · go_wp2
        go_ret
        exact ⟨true, rfl, fun _ => ⟨h, HD.out.all (Nat.le_of_not_lt hlt)⟩, rfl⟩
  · go_enter Tryz.func20, Tryz.ntmps20
    go_wp2
    go_ret
    exact ⟨false, rfl, (fun h => by cases h), rfl⟩

set_option maxRecDepth 100000 in
theorem fits1_any (w : World) (v : Value) (x : List (List (List Int))) (hl : x.length ≤ maxLen) (hl2 : ∀ u ∈ x, u.length ≤ maxLen) (hv : Rd3 w v x) : Calls Tryz.prog 6 #[v] w (Tell (Fits1 x) w) := by
  obtain ⟨A, c, rfl⟩ := hv.slice
  unfold maxLen at hl
  by_cases h : x.length ≤ 2147483647
  · go_enter Tryz.func6, Tryz.ntmps6
    go_wp2
    go_loopw [10] (fun i wr => ∃ j : Nat, j ≤ x.length ∧ i = .int .i64 (j : Int) ∧ Upto Fits2 x j ∧ w = wr) (fun i _ => x.length - (intOf i).toNat)
    case atStart => exact ⟨0, Nat.zero_le _, rfl, Upto.zero, rfl⟩
    case round =>
      obtain ⟨j, hj, rfl, hd, rfl⟩ := hrel
      have HD := Lib.hid hd
      clear hd
      by_cases hlt : j < x.length
      · obtain ⟨u, hu⟩ : ∃ u, x[j]? = some u := ⟨_, List.getElem?_eq_getElem hlt⟩
        obtain ⟨b, o, A', c', rfl, h1, h2⟩ := Rd3.at_ hv hu
        have HC := Lib.hid (fits2_any w (.slice A' u.length c') u (hl2 u (List.mem_of_getElem? hu)) h2)
        have HU := Lib.hid hu
        clear hu
        go_wp2_with fail
        refine HC.out.mono ?_
        rintro e w' ⟨b, rfl, hb, rfl⟩
        cases b with
        | true =>
          have HB := Lib.hid (hb rfl)
          clear hb
          go_wp2
          go_roundw
          case rel => exact ⟨j + 1, by omega, by go_num, HD.out.succ HU.out HB.out, by trivial⟩
          case measure => simp [intOf]; omega
        | false =>
          clear hb
          go_wp2
          go_ret
          exact ⟨false, rfl, (fun h => by cases h), rfl⟩
      · go_wp2
        go_ret
        exact ⟨true, rfl, fun _ => ⟨h, HD.out.all (Nat.le_of_not_lt hlt)⟩, rfl⟩
  · go_enter Tryz.func6, Tryz.ntmps6
    go_wp2
    go_ret
    exact ⟨false, rfl, (fun h => by cases h), rfl⟩
end Go.Proofs.YtemdillhbnmjkaaGreatDoor
namespace Go.Proofs.YtemdillhbnmjkaaGreatDoor
open Go.RowKit

/-- v is a slice that was made since B, its elements as R says; nothing of B has changed -/
structure New {α : Type} (e : TypeId) (R : World → Value → α → Prop) (B w : World) (v : Value) (xs : List α) : Prop where
  td : TdL e R w v xs
  new : ∀ k, v.ownBlock = some k → B.heap.size ≤ k
  chg : Chg No B w
def KeepNo {α : Type} (R : World → Value → α → Prop) : Prop := ∀ w w' v x, R w v x → Chg No w w' → R w' v x
def KeepT {α : Type} (e : TypeId) (R : World → Value → α → Prop) : Prop := ∀ w w' v x, R w v x → TChg [e] w w' → R w' v x
theorem TdL.no {α : Type} {e : TypeId} {R : World → Value → α → Prop} (hR : KeepNo R) {w w' : World} {v : Value} {xs : List α} (h : TdL e R w v xs) (hc : Chg No w w') : TdL e R w' v xs :=
  h.chg (fun v x h => hR _ _ v x h hc) hc (fun _ _ h => h)
theorem TdL.keepT {α : Type} {e e' : TypeId} {R : World → Value → α → Prop} (hR : KeepT e' R) (hne : e ∉ [e']) {w w' : World} {v : Value} {xs : List α} (h : TdL e R w v xs) (hc : TChg [e'] w w') : TdL e R w' v xs := by
  obtain ⟨vs, h1, h2, h3⟩ := h
  exact ⟨vs, TChg.own hc h1 hne, h2, fun i u x a b => hR _ _ _ _ (h3 i u x a b) hc⟩
theorem New.no {α : Type} {e : TypeId} {R : World → Value → α → Prop} (hR : KeepNo R) {B w w' : World} {v : Value} {xs : List α} (h : New e R B w v xs) (hc : Chg No w w') : New e R B w' v xs := ⟨h.td.no hR hc, h.new, h.chg.trans hc⟩
theorem New.slice {α : Type} {e : TypeId} {R : World → Value → α → Prop} {B w : World} {v : Value} {xs : List α} (h : New e R B w v xs) : ∃ A c, v = .slice A xs.length c := RdL.slice h.td.rd
theorem New.made {α : Type} {e : TypeId} {R : World → Value → α → Prop} {B w : World} (h : Chg No B w) : New e R B (w.alloc (.cells #[] e)) (.slice (some ⟨w.heap.size, 0, none⟩) 0 0) ([] : List α) :=
  ⟨⟨[], own_made w _ rfl e 1, rfl, fun i u x a => by simp at a⟩, fun k hk => by simp [Value.ownBlock] at hk; subst hk; exact h.size, h.alloc _⟩

abbrev T1 := TdL 59 Rd0
abbrev T2 := TdL 29 T1
abbrev T3 := TdL 28 T2
theorem rd0_no : KeepNo Rd0 := fun _ _ _ _ h _ => h
theorem t1_no : KeepNo T1 := fun _ _ _ _ h hc => TdL.no rd0_no h hc
theorem t2_no : KeepNo T2 := fun _ _ _ _ h hc => TdL.no t1_no h hc
theorem t3_no : KeepNo T3 := fun _ _ _ _ h hc => TdL.no t2_no h hc
theorem rd0_t (e : TypeId) : KeepT e Rd0 := fun _ _ _ _ h _ => h
theorem t1_t29 : KeepT 29 T1 := fun _ _ _ _ h hc => TdL.keepT (rd0_t 29) (by decide) h hc
theorem t1_t28 : KeepT 28 T1 := fun _ _ _ _ h hc => TdL.keepT (rd0_t 28) (by decide) h hc
theorem t2_t28 : KeepT 28 T2 := fun _ _ _ _ h hc => TdL.keepT t1_t28 (by decide) h hc
theorem T1.rd {w : World} {v : Value} {xs : List Int} (h : T1 w v xs) : Rd1 w v xs := TdL.rd h
theorem T2.rd {w : World} {v : Value} {xs : List (List Int)} (h : T2 w v xs) : Rd2 w v xs := RdL.mono (TdL.rd h) (fun _ _ h => T1.rd h)
theorem T3.rd {w : World} {v : Value} {xs : List (List (List Int))} (h : T3 w v xs) : Rd3 w v xs := RdL.mono (TdL.rd h) (fun _ _ h => T2.rd h)

theorem et25 : ET 25 28 (.slice none 0 0) 1 24 := ⟨by kernel_rfl, by kernel_rfl, rfl, by decide⟩
theorem et28 : ET 28 29 (.slice none 0 0) 1 24 := ⟨by kernel_rfl, by kernel_rfl, rfl, by decide⟩
theorem et29 : ET 29 59 (.int .i64 0) 1 8 := ⟨by kernel_rfl, by kernel_rfl, rfl, by decide⟩

/-- 'append(v, x)' -/
theorem wp_snoc {α : Type} {w : World} {ops : Array Oper} {rest : List Oper} {o : Oper} {a : Act} {Q : Exit → Act → World → Prop} {t e : TypeId} {z : Value} {bytes : Nat} (E : ET t e z 1 bytes)
    (hg : o.guard = none) (s x : Operand) (hop : o.op = Op.call { callee := Callee.builtin Builtin.append, args := #[s, x], argTypes := #[t, t] })
    {R : World → Value → α → Prop} (hR : KeepT e R) {B : World} (v : Value) (xs : List α) (hs : a.eval s = v) (h : New e R B w v xs)
    (q : Nat) (hx : a.eval x = .slice (some ⟨q, 0, none⟩) 1 1) (u : Value) (y : α) (hq : Blk w q #[u] e) (h1 : u.oneCell' = true) (hy : R w u y)
    (hb : (xs.length + 1) * bytes ≤ 140737488355328) (h63 : xs.length + 1 ≤ 9223372036854775807)
    (hK : ∀ (g c' : Nat) (w' : World), New e R B w' (.slice (some ⟨g, 0, none⟩) (xs.length + 1) c') (xs ++ [y]) → wpList Tryz.prog ops Q rest (a.put o.dst (.slice (some ⟨g, 0, none⟩) (xs.length + 1) c')) w') :
    wpList Tryz.prog ops Q (o :: rest) a w := by
  obtain ⟨⟨vs, h2, h3, h4⟩, h5, h6⟩ := h
  refine wp_app E hg s x hop v xs.length vs hs h2 q hx [u] hq rfl (by simpa using h1) hb h63 (fun g c' w' h7 h8 h9 => hK g c' w' ?_)
  have hT : TChg [e] w w' := TChg.of (Chg.grownBy h8) (by
    rintro k hk _
    obtain ⟨cur, hcur⟩ := h2.own hk.symm
    exact ⟨_, _, hcur, by simp⟩)
  refine ⟨TdL.snoc h7 h3 (fun i u x a b => hR _ _ _ _ (h4 i u x a b) hT) (hR _ _ _ _ hy hT), ?_, ?_⟩
  · intro k hk
    simp [Value.ownBlock] at hk
    subst hk
    rcases h9 with h9 | rfl
    · exact h5 _ h9
    · exact h6.size
  · exact h6.grown h8 (fun k hk hlt => absurd hlt (by have := h5 k hk; omega))

set_option maxHeartbeats 1000000 in
set_option maxRecDepth 100000 in
theorem grammar_any (w : World) (v : Value) (g : List (List (List Int))) (hf : Fits1 g) (hv : Rd3 w v g) :
    Calls Tryz.prog 7 #[v] w fun e w' => ∃ v', e = .returned v' ∧ New 28 T2 w w' v' g := by
  obtain ⟨A, c, rfl⟩ := hv.slice
  have hl := hf.1
  have HF := Lib.hid hf.2
  have HV := Lib.hid hv
  clear hf hv
  go_enter Tryz.func7, Tryz.ntmps7
  go_wp2
  go_loopw [3, 15] (fun v i wr => ∃ j : Nat, j ≤ g.length ∧ i = .int .i64 (j : Int) ∧ New 28 T2 w wr v (g.take j)) (fun _ i _ => g.length - (intOf i).toNat)
  case atStart => exact ⟨0, Nat.zero_le _, rfl, by simpa using New.made (Chg.refl No w)⟩
  case round =>
    obtain ⟨j, hj, rfl, hn⟩ := hrel
    by_cases hlt : j < g.length
    · obtain ⟨alts, hu⟩ : ∃ u, g[j]? = some u := ⟨_, List.getElem?_eq_getElem hlt⟩
      have hsl := New.slice hn
      rw [List.length_take, Nat.min_eq_left hj] at hsl
      obtain ⟨A3, c3, rfl⟩ := hsl
      obtain ⟨b, o, A', c', rfl, h1, h2⟩ := Rd3.at_ (HV.out.no hn.chg) hu
      have ha := HF.out alts (List.mem_of_getElem? hu)
      have hal := ha.1
      have HA := Lib.hid ha.2
      have HU := Lib.hid hu
      have HN := Lib.hid hn
      have HR := Lib.hid h2
      clear hu hn h2 ha
      obtain ⟨wb, rfl⟩ : ∃ wb : World, wb = wr := ⟨_, rfl⟩
      go_wp2
      go_loopw [6, 22] (fun v i wr => ∃ k : Nat, k ≤ alts.length ∧ i = .int .i64 (k : Int) ∧ New 29 T1 wb wr v (alts.take k)) (fun _ i _ => alts.length - (intOf i).toNat)
      case atStart => exact ⟨0, Nat.zero_le _, rfl, by simpa using New.made (Chg.refl No wb)⟩
      case round =>
        obtain ⟨k, hk, rfl, hn⟩ := hrel
        by_cases hlt2 : k < alts.length
        · obtain ⟨alt, hu⟩ : ∃ u, alts[k]? = some u := ⟨_, List.getElem?_eq_getElem hlt2⟩
          have hsl := New.slice hn
          rw [List.length_take, Nat.min_eq_left hk] at hsl
          obtain ⟨A6, c6, rfl⟩ := hsl
          obtain ⟨b2, o2, A2, c2, rfl, h3, h4⟩ := Rd2.at_ (HR.out.no hn.chg) hu
          have ha := HA.out alt (List.mem_of_getElem? hu)
          have HU2 := Lib.hid hu
          have HN2 := Lib.hid hn
          have HR2 := Lib.hid h4
          clear hu hn h4 h1
          obtain ⟨wc, rfl⟩ : ∃ wc : World, wc = wr := ⟨_, rfl⟩
          go_wp2
          go_loopw [9, 29] (fun v i wr => ∃ l : Nat, l ≤ alt.length ∧ i = .int .i64 (l : Int) ∧ New 59 Rd0 wc wr v (alt.take l)) (fun _ i _ => alt.length - (intOf i).toNat)
          case atStart => exact ⟨0, Nat.zero_le _, rfl, by simpa using New.made (Chg.refl No wc)⟩
          case round =>
            obtain ⟨l, hll, rfl, hn⟩ := hrel
            have htl : (alt.take l).length = l := by rw [List.length_take, Nat.min_eq_left hll]
            by_cases hlt3 : l < alt.length
            · obtain ⟨x, hu⟩ : ∃ u, alt[l]? = some u := ⟨_, List.getElem?_eq_getElem hlt3⟩
              have hsl := New.slice hn
              rw [htl] at hsl
              obtain ⟨A9, c9, rfl⟩ := hsl
              obtain ⟨b3, o3, rfl, h5⟩ := Rd1.at_ (HR2.out.no hn.chg) hu
              have htake : alt.take (l + 1) = alt.take l ++ [x] := by rw [List.take_add_one, hu]; rfl
              have HTK := Lib.hid htake
              have HN3 := Lib.hid (New.no rd0_no hn ((Chg.refl No wr).alloc (.cells #[.int .i64 x] 59)))
              have HL3 := Lib.hid htl
              clear hu hn htake htl h3
              go_wp2_with (first | (at_builtin; refine wp_snoc (B := wc) et29 rfl _ _ rfl (rd0_t 59) (.slice A9 l c9) (alt.take l) rfl ?c1 _ rfl (.int .i64 x) x ?c2 rfl rfl ?c3 ?c4 ?c5))
              case c1 => exact HN3.out
              case c2 => exact Blk.at_new (by simp) _ _
              case c3 => rw [HL3.out]; omega
              case c4 => rw [HL3.out]; omega
              case c5 =>
                intro g2 c2 w4 h6
                rw [← HTK.out] at h6
                have H6 := Lib.hid h6
                clear h6
                go_wp2
                go_roundw
                case rel => exact ⟨l + 1, by omega, by go_num, H6.out⟩
                case measure => simp [intOf]; omega
            · obtain rfl : l = alt.length := by omega
              rw [List.take_length] at hn htl
              have hsl := New.slice hn
              obtain ⟨A9, c9, rfl⟩ := hsl
              have htl2 : (alts.take k).length = k := by rw [List.length_take, Nat.min_eq_left hk]
              have htake : alts.take (k + 1) = alts.take k ++ [alt] := by rw [List.take_add_one, HU2.out]; rfl
              have HTK := Lib.hid htake
              have HL2 := Lib.hid htl2
              have HN3 := Lib.hid ((New.no t1_no (New.no t1_no HN2.out hn.chg) ((Chg.refl No wr).alloc (.cells #[.slice A9 alt.length c9] 29))))
              have HT := Lib.hid (t1_no _ _ _ _ hn.td ((Chg.refl No wr).alloc (.cells #[.slice A9 alt.length c9] 29)))
              clear hn htake htl htl2 h3
              go_wp2_with (first | (at_builtin; refine wp_snoc (B := wb) et28 rfl _ _ rfl t1_t29 (.slice A6 k c6) (alts.take k) rfl ?d1 _ rfl (.slice A9 alt.length c9) alt ?d2 rfl ?d6 ?d3 ?d4 ?d5))
              case d1 => exact HN3.out
              case d2 => exact Blk.at_new (by simp) _ _
              case d6 => exact HT.out
              case d3 => rw [HL2.out]; omega
              case d4 => rw [HL2.out]; omega
              case d5 =>
                intro g2 c2 w4 h6
                rw [← HTK.out] at h6
                have H6 := Lib.hid h6
                clear h6
                go_wp2
                go_roundw
                case rel => exact ⟨k + 1, by omega, by go_num, H6.out⟩
                case measure => simp [intOf]; omega
        · obtain rfl : k = alts.length := by omega
          rw [List.take_length] at hn
          have hsl := New.slice hn
          obtain ⟨A9, c9, rfl⟩ := hsl
          have htl2 : (g.take j).length = j := by rw [List.length_take, Nat.min_eq_left hj]
          have htake : g.take (j + 1) = g.take j ++ [alts] := by rw [List.take_add_one, HU.out]; rfl
          have HTK := Lib.hid htake
          have HL2 := Lib.hid htl2
          have HN3 := Lib.hid ((New.no t2_no (New.no t2_no HN.out hn.chg) ((Chg.refl No wr).alloc (.cells #[.slice A9 alts.length c9] 28))))
          have HT := Lib.hid (t2_no _ _ _ _ hn.td ((Chg.refl No wr).alloc (.cells #[.slice A9 alts.length c9] 28)))
          clear hn htake htl2 h1
          go_wp2_with (first | (at_builtin; refine wp_snoc (B := w) et25 rfl _ _ rfl t2_t28 (.slice A3 j c3) (g.take j) rfl ?e1 _ rfl (.slice A9 alts.length c9) alts ?e2 rfl ?e6 ?e3 ?e4 ?e5))
          case e1 => exact HN3.out
          case e2 => exact Blk.at_new (by simp) _ _
          case e6 => exact HT.out
          case e3 => rw [HL2.out]; omega
          case e4 => rw [HL2.out]; omega
          case e5 =>
            intro g2 c2 w4 h6
            rw [← HTK.out] at h6
            have H6 := Lib.hid h6
            clear h6
            go_wp2
            go_roundw
            case rel => exact ⟨j + 1, by omega, by go_num, H6.out⟩
            case measure => simp [intOf]; omega
    · obtain rfl : j = g.length := by omega
      rw [List.take_length] at hn
      obtain ⟨A3, c3, rfl⟩ := New.slice hn
      have H6 := Lib.hid hn
      clear hn
      go_wp2
      go_ret
      exact ⟨_, rfl, H6.out⟩
end Go.Proofs.YtemdillhbnmjkaaGreatDoor

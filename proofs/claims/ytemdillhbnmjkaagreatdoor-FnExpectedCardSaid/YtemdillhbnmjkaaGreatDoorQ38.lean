/- A network is built (28). -/
import Derived.Test.YtemdillhbnmjkaaGreatDoorQ15
import Derived.Deep.RegionHeld3
import Derived.Deep.DeepCutAuto
import Derived.Test.YtemdillhbnmjkaaGreatDoorQ13
import Derived.Test.YtemdillhbnmjkaaGreatDoorQ32
namespace Go.Proofs.YtemdillhbnmjkaaGreatDoor
open Go.RowKit

theorem et36b : ET 36 3 (.int .i64 0) 1 8 := ⟨by kernel_rfl, by kernel_rfl, rfl, by decide⟩
theorem et122 : ET 122 129 (.agg #[.int .i64 0, .int .i64 0, .int .i64 0]) 3 24 := ⟨by kernel_rfl, by kernel_rfl, rfl, by decide⟩
theorem et123 : ET 123 131 (.agg #[.int .i64 0, .int .i64 0]) 2 16 := ⟨by kernel_rfl, by kernel_rfl, rfl, by decide⟩
theorem et125 : ET 125 132 (.agg #[.int .i64 0, .int .i64 0, .int .i64 0, .int .i64 0, .int .i64 0, .int .i64 0]) 6 48 := ⟨by kernel_rfl, by kernel_rfl, rfl, by decide⟩
theorem info128 : (Tryz.prog.info? 128).map (·.size) = some 11 := by kernel_rfl
def zB : Array Value := #[.bool false, .int .i64 0, .slice none 0 0, .slice none 0 0, .slice none 0 0, .slice none 0 0, .slice none 0 0, .slice none 0 0, .slice none 0 0, .slice none 0 0, .slice none 0 0]

theorem Blk.there {w : World} {b : Nat} {c : Array Value} {T : TypeId} (h : Blk w b c T) (n : Nat) (hn : n ≤ c.size) : w.there b 0 n := by
  intro j hj
  rw [Nat.zero_add]
  refine ⟨?_, h.fz j⟩
  rw [h.cell, Array.getElem?_eq_getElem (by omega)]
  rfl
theorem Blk.setCells_at {b : Nat} {T : TypeId} : ∀ (vs pre suf : List Value) (w : World), suf.length = vs.length → Blk w b (pre ++ suf).toArray T → Blk (w.setCells b pre.length vs) b (pre ++ vs).toArray T
  | [], pre, suf, w, hl, h => by
    have : suf = [] := List.length_eq_zero_iff.1 hl
    subst this
    exact h
  | v :: r, pre, suf, w, hl, h => by
    match suf, hl with
    | x :: suf', hl =>
      show Blk ((w.setCell ⟨b, pre.length, none⟩ v).setCells b (pre.length + 1) r) b _ T
      have h1 := h.set pre.length v
      have e : (pre ++ x :: suf').toArray.setIfInBounds pre.length v = ((pre ++ [v]) ++ suf').toArray := by
        apply Array.ext'
        rw [Array.toList_setIfInBounds]
        simp
      rw [e] at h1
      have h2 := Blk.setCells_at r (pre ++ [v]) suf' _ (by simpa using hl) h1
      rw [List.length_append] at h2
      have e2 : pre ++ [v] ++ r = pre ++ v :: r := by simp
      rw [e2] at h2
      exact h2
theorem Blk.setCells {w : World} {b : Nat} {c : List Value} {T : TypeId} (h : Blk w b c.toArray T) (vs : List Value) (hl : c.length = vs.length) : Blk (w.setCells b 0 vs) b vs.toArray T := by
  have := Blk.setCells_at vs [] c w hl h
  simpa using this
theorem Chg.setCells {w0 : World} {S : Nat → Prop} {b : Nat} (hb : b < w0.heap.size → S b) : ∀ (vs : List Value) (o : Nat) (w : World), Chg S w0 w → Chg S w0 (w.setCells b o vs)
  | [], _, _, h => h
  | v :: r, o, _, h => Chg.setCells hb r (o + 1) _ (Chg.setCell h hb v)

theorem cell_far2 {w : World} {a b : Addr} {v : Value} (h : a.block ≠ b.block) : (w.setCell a v).cell? b = w.cell? b := World.cell?_setCell_other w _ _ _ (fun e => h (congrArg Addr.block e))
theorem after_app2 {W w1 : World} {b q n c : Nat} {cs : Array Value} {T : TypeId} (hb : Blk W b cs T) (hne : b ≠ q) (h2 : W.grownBy w1 (Value.slice (some ⟨q, 0, none⟩) n c).ownBlock) : Blk w1 b cs T :=
  hb.chg (Chg.grownBy h2) (fun e => hne (by simpa [Value.ownBlock] using e))

theorem cells11 {w : World} {b : Nat} (h : Blk w b #[.bool false, .int .i64 0, .slice none 0 0, .slice none 0 0, .slice none 0 0, .slice none 0 0, .slice none 0 0, .slice none 0 0, .slice none 0 0, .slice none 0 0, .slice none 0 0] 128) : w.cell? ⟨b, 0, none⟩ = some (.bool false) ∧ w.cell? ⟨b, 1, none⟩ = some (.int .i64 0) ∧ w.cell? ⟨b, 2, none⟩ = some (.slice none 0 0) ∧ w.cell? ⟨b, 3, none⟩ = some (.slice none 0 0) ∧ w.cell? ⟨b, 4, none⟩ = some (.slice none 0 0) ∧ w.cell? ⟨b, 5, none⟩ = some (.slice none 0 0) ∧ w.cell? ⟨b, 6, none⟩ = some (.slice none 0 0) ∧ w.cell? ⟨b, 7, none⟩ = some (.slice none 0 0) ∧ w.cell? ⟨b, 8, none⟩ = some (.slice none 0 0) ∧ w.cell? ⟨b, 9, none⟩ = some (.slice none 0 0) ∧ w.cell? ⟨b, 10, none⟩ = some (.slice none 0 0) ∧ w.frozen? ⟨b, 0, none⟩ = false ∧ w.frozen? ⟨b, 1, none⟩ = false ∧ w.frozen? ⟨b, 2, none⟩ = false ∧ w.frozen? ⟨b, 3, none⟩ = false ∧ w.frozen? ⟨b, 4, none⟩ = false ∧ w.frozen? ⟨b, 5, none⟩ = false ∧ w.frozen? ⟨b, 6, none⟩ = false ∧ w.frozen? ⟨b, 7, none⟩ = false ∧ w.frozen? ⟨b, 8, none⟩ = false ∧ w.frozen? ⟨b, 9, none⟩ = false ∧ w.frozen? ⟨b, 10, none⟩ = false := by
  refine ⟨?_, ?_, ?_, ?_, ?_, ?_, ?_, ?_, ?_, ?_, ?_, h.fz _, h.fz _, h.fz _, h.fz _, h.fz _, h.fz _, h.fz _, h.fz _, h.fz _, h.fz _, h.fz _⟩ <;> (rw [h.cell]; rfl)

theorem keep11 {w : World} {b : Nat} {u0 u1 u2 u3 u4 u5 u6 u7 u8 u9 u10 : Value} (x : Nat) (i : Nat) (h : b ≠ x) :
    (((((((((((w.setCell ⟨b, 0, none⟩ u0).setCell ⟨b, 1, none⟩ u1).setCell ⟨b, 2, none⟩ u2).setCell ⟨b, 3, none⟩ u3).setCell ⟨b, 4, none⟩ u4).setCell ⟨b, 5, none⟩ u5).setCell ⟨b, 6, none⟩ u6).setCell ⟨b, 7, none⟩ u7).setCell ⟨b, 8, none⟩ u8).setCell ⟨b, 9, none⟩ u9).setCell ⟨b, 10, none⟩ u10).cell? ⟨x, i, none⟩ = w.cell? ⟨x, i, none⟩ := by
  have k : ∀ (w : World) (j : Nat) (v : Value), (w.setCell ⟨b, j, none⟩ v).cell? ⟨x, i, none⟩ = w.cell? ⟨x, i, none⟩ := fun w j v => cell_far2 h
  rw [k, k, k, k, k, k, k, k, k, k, k]

/-- the cells of a network that is being put together -/
def bcell (mt : Int) (vD : Value) : List Value := [.bool false, .int .i64 mt, .slice none 0 0, .slice none 0 0, .slice none 0 0, .slice none 0 0, .slice none 0 0, .slice none 0 0, .slice none 0 0, vD, .slice none 0 0]
theorem hst_any (w1 : World) (b : Nat) (c : List Value) (T : TypeId) (h : Blk w1 b c.toArray T) (hc : c.length = 11) (mt : Int) (n m : Nat) (A : Option Addr) :
    (Instr.storeAt 128 (.pointer (some ⟨b, 0, none⟩)) (.agg #[.bool false, .int .i64 mt, .slice none 0 0, .slice none 0 0, .slice none 0 0, .slice none 0 0, .slice none 0 0, .slice none 0 0, .slice none 0 0, .slice A n m, .slice none 0 0])).run Tryz.prog w1 = .ok () (w1.setCells b 0 (bcell mt (.slice A n m))) :=
  run_storeAt_mid w1 b 0 128 _ (h.there 11 (by simp [hc])) info128 (by simp [Value.oneCell'])

def specB (mt : Int) (S : List Ds) (Rs : List Int) (E : List (Nat × TD)) (D : List Nat) : List CS :=
  [.const (.bool false), .const (.int .i64 mt), .row 129 3 S.length (S.flatMap st3), .const (.slice none 0 0), .const (.slice none 0 0), .row 131 2 Rs.length (Rs.flatMap ru2), .const (.slice none 0 0), .const (.slice none 0 0), .row 132 6 E.length (E.flatMap ed6), .row 3 1 D.length (D.map fun x => .int .i64 (x : Nat)), .const (.slice none 0 0)]
/-- what has been put together: at block pg, the argument's box beside it -/
structure GRel (w wr : World) (pg : Nat) (box : Array Value) (mt : Int) (S : List Ds) (Rs : List Int) (E : List (Nat × TD)) (D : List Nat) : Prop where
  re : Rec w wr pg 128 (specB mt S Rs E D) [(w.heap.size, box, 39)]
theorem GRel.start {w wr : World} {pg : Nat} {box : Array Value} {mt : Int} {D : List Nat} {vD : Value} (hc : Chg No w wr) (hbox : Blk wr w.heap.size box 39) (hb : Blk wr pg (bcell mt vD).toArray 128) (hpg : w.heap.size ≤ pg)
    (hD : Own wr 3 1 vD D.length (D.map fun x => .int .i64 (x : Nat))) (hn : ∀ k, vD.ownBlock = some k → w.heap.size ≤ k) : GRel w wr pg box mt [] [] [] D := by
  have hpn : w.heap.size ≠ pg := fun e => by
    subst e
    have := (hb.uniq hbox).2
    exact absurd this (by decide)
  refine ⟨hpg, hc, ?_, bcell mt vD, rfl, hb, ?_, ?_, ?_⟩
  · intro x hx
    simp at hx
    subst hx
    exact ⟨hbox, hpn⟩
  · intro i v s h1 h2
    match i, h1, h2 with
    | 0, h1, h2 => cases h1; cases h2; rfl
    | 1, h1, h2 => cases h1; cases h2; rfl
    | 2, h1, h2 => cases h1; cases h2; exact World.ownsRow_nil _ _ _ _
    | 3, h1, h2 => cases h1; cases h2; rfl
    | 4, h1, h2 => cases h1; cases h2; rfl
    | 5, h1, h2 => cases h1; cases h2; exact World.ownsRow_nil _ _ _ _
    | 6, h1, h2 => cases h1; cases h2; rfl
    | 7, h1, h2 => cases h1; cases h2; rfl
    | 8, h1, h2 => cases h1; cases h2; exact World.ownsRow_nil _ _ _ _
    | 9, h1, h2 => cases h1; cases h2; exact hD
    | 10, h1, h2 => cases h1; cases h2; rfl
    | n + 11, h1, _ => simp [bcell] at h1
  · intro i v s k h1 h2 h3 h4
    match i, h1, h2 with
    | 0, h1, h2 => cases h2; cases h3
    | 1, h1, h2 => cases h2; cases h3
    | 2, h1, h2 => cases h1; cases h4
    | 3, h1, h2 => cases h2; cases h3
    | 4, h1, h2 => cases h2; cases h3
    | 5, h1, h2 => cases h1; cases h4
    | 6, h1, h2 => cases h2; cases h3
    | 7, h1, h2 => cases h2; cases h3
    | 8, h1, h2 => cases h1; cases h4
    | 9, h1, h2 =>
      cases h1
      refine ⟨hn k h4, fun e => hD.ne hb (by decide) (e ▸ h4), fun x hx hxe => ?_⟩
      simp at hx
      subst hx
      have e : w.heap.size = k := hxe
      exact hD.ne hbox (by decide) (e ▸ h4)
    | 10, h1, h2 => cases h2; cases h3
    | n + 11, h1, _ => simp [bcell] at h1
  · intro i j v v' s s' k hij h1 h1' h2 h2' h3 h3' h4 h5
    have key : ∀ (i : Nat) v s, (bcell mt vD)[i]? = some v → (specB mt [] [] [] D)[i]? = some s → s.isRow = true → (∃ k, v.ownBlock = some k) → i = 9 := by
      intro i v s h1 h2 h3 h4
      obtain ⟨k, h4⟩ := h4
      match i, h1, h2 with
      | 0, h1, h2 => cases h2; cases h3
      | 1, h1, h2 => cases h2; cases h3
      | 2, h1, h2 => cases h1; cases h4
      | 3, h1, h2 => cases h2; cases h3
      | 4, h1, h2 => cases h2; cases h3
      | 5, h1, h2 => cases h1; cases h4
      | 6, h1, h2 => cases h2; cases h3
      | 7, h1, h2 => cases h2; cases h3
      | 8, h1, h2 => cases h1; cases h4
      | 9, h1, h2 => rfl
      | 10, h1, h2 => cases h2; cases h3
      | n + 11, h1, _ => simp [bcell] at h1
    exact hij ((key i v s h1 h2 h3 ⟨k, h4⟩).trans (key j v' s' h1' h2' h3' ⟨k, h5⟩).symm)

theorem specB_S (mt : Int) (S : List Ds) (Rs : List Int) (E : List (Nat × TD)) (D : List Nat) (x : Ds) : (specB mt S Rs E D).set 2 (.row 129 3 (S.length + 1) (S.flatMap st3 ++ st3 x)) = specB mt (S ++ [x]) Rs E D := by simp [specB]
theorem specB_R (mt : Int) (S : List Ds) (Rs : List Int) (E : List (Nat × TD)) (D : List Nat) (x : Int) : (specB mt S Rs E D).set 5 (.row 131 2 (Rs.length + 1) (Rs.flatMap ru2 ++ ru2 x)) = specB mt S (Rs ++ [x]) E D := by simp [specB]
theorem specB_E (mt : Int) (S : List Ds) (Rs : List Int) (E : List (Nat × TD)) (D : List Nat) (x : Nat × TD) : (specB mt S Rs E D).set 8 (.row 132 6 (E.length + 1) (E.flatMap ed6 ++ ed6 x)) = specB mt S Rs (E ++ [x]) D := by simp [specB]
theorem st3_at' {l : List Ds} {k : Nat} {d : Ds} (h : l[k]? = some d) : (l.flatMap st3)[k * 3]? = some (.int .i64 d.k.num) ∧ (l.flatMap st3)[k * 3 + 1]? = some (.int .i64 d.rule) ∧ (l.flatMap st3)[k * 3 + 2]? = some (.int .i64 d.arg) := by
  have h0 := flat_at st3 3 (fun _ => rfl) l k 0 d h (by omega)
  have h1 := flat_at st3 3 (fun _ => rfl) l k 1 d h (by omega)
  have h2 := flat_at st3 3 (fun _ => rfl) l k 2 d h (by omega)
  exact ⟨h0.trans rfl, h1.trans rfl, h2.trans rfl⟩
theorem ed6_at' {l : List (Nat × TD)} {k : Nat} {d : Nat × TD} (h : l[k]? = some d) (i : Nat) (hi : i < 6) : (l.flatMap ed6)[k * 6 + i]? = (ed6 d)[i]? := flat_at ed6 6 (fun _ => rfl) l k i d h hi
theorem ed6_one' (e : Nat × TD) : ∀ u ∈ ed6 e, u.oneCell' = true := by
  intro u hu
  unfold ed6 at hu
  obtain ⟨x, _, rfl⟩ := List.mem_map.1 hu
  rfl
theorem st3_one' (d : Ds) : ∀ u ∈ st3 d, u.oneCell' = true := by
  intro u hu; simp [st3] at hu; rcases hu with rfl | rfl | rfl <;> rfl
theorem net_small {mt : Int} {ds : List Ds} {R : Nat} {E : List (Nat × TD)} {D : List Nat} (hf : Fits32 mt ds E) (ok : NetOk ds R E D) (hD : ∀ x ∈ D, x < 1000) : ∀ x ∈ netList mt ds R E D, -2147483648 ≤ x ∧ x ≤ 2147483647 := by
  have h1 := ok.n
  have h2 := ok.e
  have h3 := ok.d
  have h4 := ok.rl
  have h5 := hf.mt
  intro x hx
  unfold netList at hx
  simp only [List.mem_cons, List.mem_append, List.mem_flatMap, List.mem_map, List.not_mem_nil, or_false] at hx
  rcases hx with rfl | rfl | rfl | rfl | ⟨d, hd, hx⟩ | rfl | rfl | rfl | hx | rfl | rfl | rfl | ⟨e, he, hx⟩ | rfl | ⟨y, hy, rfl⟩
  all_goals try omega
  · have := hf.ds d hd
    unfold Ds.enc at hx
    have hk : -1000 ≤ d.k.num ∧ d.k.num ≤ 1000 := by cases d.k <;> decide
    split at hx
    · simp at hx; rcases hx with rfl | rfl | rfl <;> omega
    · simp at hx; rcases hx with rfl | rfl <;> omega
  · unfold upto at hx
    simp at hx
    obtain ⟨y, hy, rfl⟩ := hx
    omega
  · have := hf.E e he x hx; omega
  · have := hD y hy; omega
theorem GRel.box {w wr : World} {pg : Nat} {box : Array Value} {mt : Int} {S : List Ds} {Rs : List Int} {E : List (Nat × TD)} {D : List Nat} (h : GRel w wr pg box mt S Rs E D) : Blk wr w.heap.size box 39 := (h.re.sides (w.heap.size, box, 39) (by simp)).1
theorem way_chg {w W w1 : World} {q n c : Nat} (hW : Chg No w W) (hq : w.heap.size ≤ q) (h2 : W.grownBy w1 (Value.slice (some ⟨q, 0, none⟩) n c).ownBlock) : Chg No w w1 :=
  hW.grown h2 (fun k hk hlt => absurd hlt (by simp [Value.ownBlock] at hk; omega))
theorem way_new {w W : World} {q g n c : Nat} (hW : Chg No w W) (hq : w.heap.size ≤ q) (h3 : (Value.slice (some ⟨q, 0, none⟩) n c).ownBlock = some g ∨ g = W.heap.size) : w.heap.size ≤ g := by
  rcases h3 with h | rfl
  · simp [Value.ownBlock] at h; omega
  · exact hW.size
theorem way_alloc {w w1 : World} {g c' : Nat} {box : Array Value} {mt : Int} {D : List Nat} (h0 : Chg No w w1) (hg : w.heap.size ≤ g)
    (h1 : Own w1 3 1 (.slice (some ⟨g, 0, none⟩) (0 + D.length) c') (0 + D.length) ([] ++ D.map fun x => .int .i64 (x : Nat))) (hbb : Blk w1 w.heap.size box 39) :
    GRel w (w1.alloc (.cells (bcell mt (.slice (some ⟨g, 0, none⟩) D.length c')).toArray 128)) w1.heap.size box mt [] [] [] D := by
  rw [Nat.zero_add, List.nil_append] at h1
  exact GRel.start (h0.alloc _) (hbb.alloc _) (Blk.new _ _ _) h0.size (h1.no ((Chg.refl No _).alloc _)) (fun k hk => by simp [Value.ownBlock] at hk; omega)
theorem way_set {w w1 : World} {g c' pg : Nat} {box : Array Value} {mt : Int} {D : List Nat} {c : List Value} (h0 : Chg No w w1) (hg : w.heap.size ≤ g)
    (h1 : Own w1 3 1 (.slice (some ⟨g, 0, none⟩) (0 + D.length) c') (0 + D.length) ([] ++ D.map fun x => .int .i64 (x : Nat))) (hbb : Blk w1 w.heap.size box 39) (hgg : Blk w1 pg c.toArray 128) (hc : c.length = 11) (hpg : w.heap.size < pg) :
    GRel w (w1.setCells pg 0 (bcell mt (.slice (some ⟨g, 0, none⟩) D.length c'))) pg box mt [] [] [] D := by
  rw [Nat.zero_add, List.nil_append] at h1
  have hch : Chg (fun k => k = pg) w1 (w1.setCells pg 0 (bcell mt (.slice (some ⟨g, 0, none⟩) D.length c'))) := Chg.setCells (S := fun k => k = pg) (fun _ => rfl) _ _ _ (Chg.refl _ _)
  refine GRel.start (h0.then hch (fun k hk e => absurd hk (by omega))) (hbb.chg hch (by omega)) (hgg.setCells _ (by rw [hc]; rfl)) (Nat.le_of_lt hpg) (h1.chg hch (fun k hk e => h1.ne hgg (by decide) (e ▸ hk))) (fun k hk => by simp [Value.ownBlock] at hk; omega)

set_option maxHeartbeats 4000000 in
set_option maxRecDepth 100000 in
theorem build_any (w : World) (mt : Int) (vS vT vE vD : Value) (ds : List Ds) (R : Nat) (E : List (Nat × TD)) (D : List Nat) (hf : Fits32 mt ds E) (ok : NetOk ds R E D)
    (hS : Own w 82 3 vS ds.length (ds.flatMap st3)) (hT : RI w vT (upto 0 R)) (hE : Own w 85 6 vE E.length (E.flatMap ed6)) (hD : Own w 3 1 vD D.length (D.map fun x => .int .i64 (x : Nat)))
    (hD0 : 0 < D.length) (hDb : ∀ x ∈ D, x < 1000) :
    Calls Tryz.prog 28 #[.agg #[.int .i64 mt, vS, vT, vE, vD]] w fun e w' => ∃ ba bs, e = .returned (.pointer (some ⟨ba, 0, none⟩)) ∧ ATNw w' ba ds bs R (T2of ds R E) ∧ Chg No w w' ∧ w.heap.size ≤ ba ∧ (∀ b ∈ bs, w.heap.size ≤ b) := by
  obtain ⟨AS, cS, rfl⟩ := hS.slice
  obtain ⟨AR, cR, rfl⟩ := hT.slice
  obtain ⟨AE, cE, rfl⟩ := hE.slice
  obtain ⟨gD, cD, curD, rfl, hbD, hcD⟩ := hD.blk hD0
  have HF := Lib.hid hf
  have Ok := Lib.hid ok
  have HS := Lib.hid hS
  have HT := Lib.hid hT
  have HE := Lib.hid hE
  have HD := Lib.hid hD
  have hDl := ok.d
  have HDb := Lib.hid hDb
  clear hf hS hT hE hD ok hDb
  have hq0 : ∀ W, Chg No w W → ∀ (j : Nat) u, (D.map fun x => Value.int .i64 (x : Nat))[j]? = some u → W.cell? ((⟨gD, 0, none⟩ : Addr).add j) = some u := by
    intro W hW j u hj
    exact Chg.kept hW (World.ownsRow.cells HD.out (g := gD) rfl j u hj) (fun h => h)
  have hone : ∀ u ∈ (D.map fun x => Value.int .i64 (x : Nat)), u.oneCell' = true := by
    intro u hu
    obtain ⟨_, _, rfl⟩ := List.mem_map.1 hu
    rfl
  have Hq := Lib.hid (And.intro hq0 hone)
  clear hq0 hone hbD hcD
  obtain ⟨box, hbox⟩ : ∃ box : Array Value, box = #[.int .i64 mt, .slice AS ds.length cS, .slice AR (upto 0 R).length cR, .slice AE E.length cE, .slice (some ⟨gD, 0, none⟩) D.length cD] := ⟨_, rfl⟩
  have HBX := Lib.hid hbox
  clear hbox
  go_enter Tryz.func28, Tryz.ntmps28
  go_upto_region 1 with fail
  go_cut [3] (fun s3 wx => ∃ pg, s3 = .pointer (some ⟨pg, 0, none⟩) ∧ GRel w wx pg box mt [] [] [] D)
  case first =>
    go_region_held3 (fun w' => w'.cell? ⟨w.heap.size, 0, none⟩ = some (.int .i64 mt) ∧ w'.cell? ⟨w.heap.size, 4, none⟩ = some (.slice (some ⟨gD, 0, none⟩) D.length cD)) (first | (refine And.intro ?_ ?_ <;> with_reducible assumption) | exact ⟨(hkp.out _ _ _ _ _ _ _ _ _ _ _ 0).trans c39, (hkp.out _ _ _ _ _ _ _ _ _ _ _ 4).trans c394⟩ | go_keep) (first
    | (refine step_app et36b rfl _ _ rfl (.slice (some ⟨w.heap.size + 1, 0, none⟩) 0 0) 0 [] rfl ?_ ⟨gD, 0, none⟩ D.length cD rfl (D.map fun x => .int .i64 (x : Nat)) ?_ (by simp) (by omega) ?_ (by omega) (by omega) ?_; exact (own_made (w.alloc _) _ (by simp) 3 1); exact Hq.out.1 _ (((Chg.refl _ _).alloc _).alloc _).drew; exact Hq.out.2; intro g c' w1 h1 h2 h3; have hbb := after_app2 (Blk.drew (Blk.alloc (Blk.new w #[.int .i64 mt, .slice AS ds.length cS, .slice AR (upto 0 R).length cR, .slice AE E.length cE, .slice (some ⟨gD, 0, none⟩) D.length cD] 39) _)) (by omega) h2; have c39 : w1.cell? ⟨w.heap.size, 0, none⟩ = some (.int .i64 mt) := (by rw [hbb.cell]; rfl); have c394 : w1.cell? ⟨w.heap.size, 4, none⟩ = some (.slice (some ⟨gD, 0, none⟩) D.length cD) := (by rw [hbb.cell]; rfl))
    | (refine step_app et36b rfl _ _ rfl (.slice (some ⟨w.heap.size + 1, 0, none⟩) 0 0) 0 [] rfl ?_ ⟨gD, 0, none⟩ D.length cD rfl (D.map fun x => .int .i64 (x : Nat)) ?_ (by simp) (by omega) ?_ (by omega) (by omega) ?_; exact (Own.no (own_made (w.alloc _) _ (by simp) 3 1) (((Chg.refl _ _).alloc _).drew)); exact Hq.out.1 _ ((((Chg.refl _ _).alloc _).alloc _).alloc _).drew; exact Hq.out.2; intro g c' w1 h1 h2 h3; have hbb := after_app2 (Blk.drew (Blk.alloc (Blk.alloc (Blk.new w #[.int .i64 mt, .slice AS ds.length cS, .slice AR (upto 0 R).length cR, .slice AE E.length cE, .slice (some ⟨gD, 0, none⟩) D.length cD] 39) _) _)) (by omega) h2; have c39 : w1.cell? ⟨w.heap.size, 0, none⟩ = some (.int .i64 mt) := (by rw [hbb.cell]; rfl); have c394 : w1.cell? ⟨w.heap.size, 4, none⟩ = some (.slice (some ⟨gD, 0, none⟩) D.length cD) := (by rw [hbb.cell]; rfl); have hgg := after_app2 (Blk.drew (Blk.at_new (w := (w.alloc _).alloc _) (n := w.heap.size + 1 + 1) (by simp) #[.bool false, .int .i64 0, .slice none 0 0, .slice none 0 0, .slice none 0 0, .slice none 0 0, .slice none 0 0, .slice none 0 0, .slice none 0 0, .slice none 0 0, .slice none 0 0] 128)) (by omega) h2; obtain ⟨z0, z1, z2, z3, z4, z5, z6, z7, z8, z9, z10, z11, z12, z13, z14, z15, z16, z17, z18, z19, z20, z21⟩ := cells11 hgg; have hlt1 := hgg.lt; have HGG := Lib.hid hgg; clear hgg; have hkp := Lib.hid (fun (u0 u1 u2 u3 u4 u5 u6 u7 u8 u9 u10 : Value) (i : Nat) => @keep11 w1 (w.heap.size + 1 + 1) u0 u1 u2 u3 u4 u5 u6 u7 u8 u9 u10 w.heap.size i (by omega)))
    | (refine step_app et36b rfl _ _ rfl (.slice (some ⟨w.heap.size + 1 + 1, 0, none⟩) 0 0) 0 [] rfl ?_ ⟨gD, 0, none⟩ D.length cD rfl (D.map fun x => .int .i64 (x : Nat)) ?_ (by simp) (by omega) ?_ (by omega) (by omega) ?_; exact (own_made ((w.alloc _).alloc _) _ (by simp) 3 1); exact Hq.out.1 _ ((((Chg.refl _ _).alloc _).alloc _).alloc _).drew; exact Hq.out.2; intro g c' w1 h1 h2 h3; have hbb := after_app2 (Blk.drew (Blk.alloc (Blk.alloc (Blk.new w #[.int .i64 mt, .slice AS ds.length cS, .slice AR (upto 0 R).length cR, .slice AE E.length cE, .slice (some ⟨gD, 0, none⟩) D.length cD] 39) _) _)) (by omega) h2; have c39 : w1.cell? ⟨w.heap.size, 0, none⟩ = some (.int .i64 mt) := (by rw [hbb.cell]; rfl); have c394 : w1.cell? ⟨w.heap.size, 4, none⟩ = some (.slice (some ⟨gD, 0, none⟩) D.length cD) := (by rw [hbb.cell]; rfl); have hgg := after_app2 (Blk.drew (Blk.alloc (Blk.at_new (w := w.alloc _) (n := w.heap.size + 1) (by simp) #[.bool false, .int .i64 0, .slice none 0 0, .slice none 0 0, .slice none 0 0, .slice none 0 0, .slice none 0 0, .slice none 0 0, .slice none 0 0, .slice none 0 0, .slice none 0 0] 128) _)) (by omega) h2; obtain ⟨z0, z1, z2, z3, z4, z5, z6, z7, z8, z9, z10, z11, z12, z13, z14, z15, z16, z17, z18, z19, z20, z21⟩ := cells11 hgg; have hlt1 := hgg.lt; have HGG := Lib.hid hgg; clear hgg; have hkp := Lib.hid (fun (u0 u1 u2 u3 u4 u5 u6 u7 u8 u9 u10 : Value) (i : Nat) => @keep11 w1 (w.heap.size + 1) u0 u1 u2 u3 u4 u5 u6 u7 u8 u9 u10 w.heap.size i (by omega))))
    · have hw0 := way_chg (((Chg.refl No w).alloc _).alloc _).drew (Nat.le_succ _) h2
      have hg0 := way_new (((Chg.refl No w).alloc (.cells #[.int .i64 mt, .slice AS ds.length cS, .slice AR (upto 0 R).length cR, .slice AE E.length cE, .slice (some ⟨gD, 0, none⟩) D.length cD] 39)).alloc (.cells #[] 3)).drew (Nat.le_succ _) h3
      have HX := Lib.hid (way_alloc (mt := mt) hw0 hg0 h1 (HBX.out ▸ hbb))
      go_wp2_with fail
      go_meet
      exact ⟨_, rfl, HX.out⟩
    · have hw0 := way_chg ((((Chg.refl No w).alloc _).alloc _).alloc _).drew (Nat.le_succ _) h2
      have hg0 := way_new ((((Chg.refl No w).alloc (.cells #[.int .i64 mt, .slice AS ds.length cS, .slice AR (upto 0 R).length cR, .slice AE E.length cE, .slice (some ⟨gD, 0, none⟩) D.length cD] 39)).alloc (.cells #[] 3)).alloc (.cells zB 128)).drew (Nat.le_succ _) h3
      have HX := Lib.hid (way_set (mt := mt) hw0 hg0 h1 (HBX.out ▸ hbb) HGG.out rfl (by omega))
      go_wp2_with fail
      go_meet
      exact ⟨_, rfl, HX.out⟩
    · have hw0 := way_chg ((((Chg.refl No w).alloc _).alloc _).alloc _).drew (by omega) h2
      have hg0 := way_new ((((Chg.refl No w).alloc (.cells #[.int .i64 mt, .slice AS ds.length cS, .slice AR (upto 0 R).length cR, .slice AE E.length cE, .slice (some ⟨gD, 0, none⟩) D.length cD] 39)).alloc (.cells zB 128)).alloc (.cells #[] 3)).drew (by omega) h3
      have HX := Lib.hid (way_set (mt := mt) hw0 hg0 h1 (HBX.out ▸ hbb) HGG.out rfl (by omega))
      go_wp2_with fail
      go_meet
      exact ⟨_, rfl, HX.out⟩
  case rest =>
    obtain ⟨pg, rfl, hg⟩ := hcut
    have y1 : wc.cell? ⟨w.heap.size, 1, none⟩ = some (.slice AS ds.length cS) := by rw [hg.box.cell, HBX.out]; rfl
    have hn := Ok.out.n
    have hEn := Ok.out.e
    have hlt0 := hg.re.lt
    have HG := Lib.hid hg
    have HUL := Lib.hid (show (upto 0 R).length = R by unfold upto; simp)
    have hRn : R < 1000 := by have := Ok.out.rl; omega
    clear hg
    go_wp2
    clear y1
    go_loopw [20] (fun i wr => ∃ j : Nat, j ≤ ds.length ∧ i = .int .i64 (j : Int) ∧ GRel w wr pg box mt (ds.take j) [] [] D) (fun i _ => ds.length - (intOf i).toNat)
    case atStart => exact ⟨0, Nat.zero_le _, rfl, HG.out⟩
    case round =>
      obtain ⟨j, hj, rfl, hi⟩ := hrel
      have htl : (ds.take j).length = j := by rw [List.length_take, Nat.min_eq_left hj]
      by_cases hlt : j < ds.length
      · obtain ⟨d, hd⟩ : ∃ d, ds[j]? = some d := ⟨_, List.getElem?_eq_getElem hlt⟩
        obtain ⟨g1, cap1, cur1, hAA, _, _⟩ := Own.blk HS.out (by omega)
        cases hAA
        obtain ⟨t0, t1, t2⟩ := st3_at' hd
        have p0 := Chg.kept hi.re.chg (HS.out.cellAt t0) (fun h => h)
        have p1 := Chg.kept hi.re.chg (HS.out.cellAt t1) (fun h => h)
        have p2 := Chg.kept hi.re.chg (HS.out.cellAt t2) (fun h => h)
        obtain ⟨A2, c2, q1, _⟩ := hi.re.row (i := 2) rfl
        rw [htl] at q1
        have htake : ds.take (j + 1) = ds.take j ++ [d] := by rw [List.take_add_one, hd]; rfl
        have HTK := Lib.hid htake
        have HTL := Lib.hid htl
        have HI := Lib.hid hi
        have hblt := hi.re.lt
        clear hd htake htl hi t0 t1 t2
        go_wp2_with (first | (at_builtin; refine wp_rec et122 rfl _ _ rfl (w0 := w) (b := pg) (T := 128) (HI.out.re.no (((Chg.refl No _).alloc _).alloc _)) 2 j ((ds.take j).flatMap st3) ?c7 (.slice A2 j c2) rfl ?c1 _ rfl (st3 d) ?c2 rfl (st3_one' d) ?c4 ?c5 ?c6))
        case c7 => simp [specB, HTL.out]
        case c1 => exact Chg.kept (((Chg.refl No _).alloc _).alloc _) q1 (fun h => h)
        case c2 => exact Blk.at_new (by simp) _ _
        case c4 => omega
        case c5 => omega
        case c6 =>
          intro g2 c2' w4 f1 f2 f3 hrec
          have e := specB_S mt (ds.take j) [] [] D d
          rw [HTL.out, ← HTK.out] at e
          rw [e] at hrec
          have HR := Lib.hid (GRel.mk hrec)
          clear hrec e q1 p0 p1 p2
          go_wp2
          go_roundw
          case rel => exact ⟨j + 1, by omega, by go_num, HR.out⟩
          case measure => simp [intOf]; omega
      · obtain rfl : j = ds.length := by omega
        rw [List.take_length] at hi
        have y2 : wr.cell? ⟨w.heap.size, 2, none⟩ = some (.slice AR (upto 0 R).length cR) := by rw [hi.box.cell, HBX.out]; rfl
        rw [HUL.out] at y2
        have HT' := HT.out
        rw [HUL.out] at HT'
        have HT2 := Lib.hid HT'
        have HI := Lib.hid hi
        clear hi htl HT'
        go_wp2
        clear y2
        go_loopw [40] (fun i wr => ∃ j : Nat, j ≤ R ∧ i = .int .i64 (j : Int) ∧ GRel w wr pg box mt ds ((upto 0 R).take j) [] D) (fun i _ => R - (intOf i).toNat)
        case atStart => exact ⟨0, Nat.zero_le _, rfl, HI.out⟩
        case round =>
          obtain ⟨j, hj, rfl, hi⟩ := hrel
          have htl : ((upto 0 R).take j).length = j := by rw [List.length_take, HUL.out, Nat.min_eq_left hj]
          by_cases hlt2 : j < R
          · obtain ⟨d, hd⟩ : ∃ d, (upto 0 R)[j]? = some d := ⟨_, List.getElem?_eq_getElem (by rw [HUL.out]; exact hlt2)⟩
            obtain ⟨b1, rfl, p0'⟩ := RI.at_ HT2.out hd
            have p0 := Chg.kept hi.re.chg p0' (fun h => h)
            obtain ⟨A2, c2, q1, _⟩ := hi.re.row (i := 5) rfl
            rw [htl] at q1
            have htake : (upto 0 R).take (j + 1) = (upto 0 R).take j ++ [d] := by rw [List.take_add_one, hd]; rfl
            have HTK := Lib.hid htake
            have HTL := Lib.hid htl
            have HI := Lib.hid hi
            have hblt := hi.re.lt
            clear hd htake htl hi p0'
            go_wp2_with (first | (at_builtin; refine wp_rec et123 rfl _ _ rfl (w0 := w) (b := pg) (T := 128) (HI.out.re.no ((Chg.refl No _).alloc _)) 5 j (((upto 0 R).take j).flatMap ru2) ?d7 (.slice A2 j c2) rfl ?d1 _ rfl (ru2 d) ?d2 rfl ?d3 ?d4 ?d5 ?d6))
            case d7 => simp [specB, HTL.out]
            case d1 => exact Chg.kept ((Chg.refl No _).alloc _) q1 (fun h => h)
            case d2 => exact Blk.at_new (by simp) _ _
            case d3 => intro u hu; simp [ru2] at hu; rcases hu with rfl | rfl <;> rfl
            case d4 => omega
            case d5 => omega
            case d6 =>
              intro g2 c2' w4 f1 f2 f3 hrec
              have e := specB_R mt ds ((upto 0 R).take j) [] D d
              rw [HTL.out, ← HTK.out] at e
              rw [e] at hrec
              have HR := Lib.hid (GRel.mk hrec)
              clear hrec e q1 p0
              go_wp2
              go_roundw
              case rel => exact ⟨j + 1, by omega, by go_num, HR.out⟩
              case measure => simp [intOf]; omega
          · obtain rfl : j = R := by omega
            rw [List.take_of_length_le (by rw [HUL.out]; exact Nat.le_refl _)] at hi
            have y3 : wr.cell? ⟨w.heap.size, 3, none⟩ = some (.slice AE E.length cE) := by rw [hi.box.cell, HBX.out]; rfl
            have HI := Lib.hid hi
            clear hi htl
            go_wp2
            clear y3
            go_loopw [55] (fun i wr => ∃ k : Nat, k ≤ E.length ∧ i = .int .i64 (k : Int) ∧ GRel w wr pg box mt ds (upto 0 j) (E.take k) D) (fun i _ => E.length - (intOf i).toNat)
            case atStart => exact ⟨0, Nat.zero_le _, rfl, HI.out⟩
            case round =>
              obtain ⟨k, hk, rfl, hi⟩ := hrel
              have htl : (E.take k).length = k := by rw [List.length_take, Nat.min_eq_left hk]
              by_cases hlt3 : k < E.length
              · obtain ⟨d, hd⟩ : ∃ d, E[k]? = some d := ⟨_, List.getElem?_eq_getElem hlt3⟩
                obtain ⟨g1, cap1, cur1, hAA, _, _⟩ := Own.blk HE.out (by omega)
                cases hAA
                have p0 : wr.cell? ⟨g1, k * 6, none⟩ = some (.int .i64 (d.1 : Int)) := Chg.kept hi.re.chg (HE.out.cellAt (ed6_at' hd 0 (by omega))) (fun h => h)
                have p1 : wr.cell? ⟨g1, k * 6 + 1, none⟩ = some (.int .i64 (d.2.trg : Int)) := Chg.kept hi.re.chg (HE.out.cellAt (ed6_at' hd 1 (by omega))) (fun h => h)
                have p2 : wr.cell? ⟨g1, k * 6 + 2, none⟩ = some (.int .i64 d.2.kn) := Chg.kept hi.re.chg (HE.out.cellAt (ed6_at' hd 2 (by omega))) (fun h => h)
                have p3 : wr.cell? ⟨g1, k * 6 + 3, none⟩ = some (.int .i64 d.2.a1) := Chg.kept hi.re.chg (HE.out.cellAt (ed6_at' hd 3 (by omega))) (fun h => h)
                have p4 : wr.cell? ⟨g1, k * 6 + 4, none⟩ = some (.int .i64 d.2.a2) := Chg.kept hi.re.chg (HE.out.cellAt (ed6_at' hd 4 (by omega))) (fun h => h)
                have p5 : wr.cell? ⟨g1, k * 6 + 5, none⟩ = some (.int .i64 d.2.a3) := Chg.kept hi.re.chg (HE.out.cellAt (ed6_at' hd 5 (by omega))) (fun h => h)
                obtain ⟨A2, c2, q1, _⟩ := hi.re.row (i := 8) rfl
                rw [htl] at q1
                have htake : E.take (k + 1) = E.take k ++ [d] := by rw [List.take_add_one, hd]; rfl
                have HTK := Lib.hid htake
                have HTL := Lib.hid htl
                have HI := Lib.hid hi
                have hblt := hi.re.lt
                clear hd htake htl hi
                go_wp2_with (first | (at_builtin; refine wp_rec et125 rfl _ _ rfl (w0 := w) (b := pg) (T := 128) (HI.out.re.no (((Chg.refl No _).alloc _).alloc _)) 8 k ((E.take k).flatMap ed6) ?e7 (.slice A2 k c2) rfl ?e1 _ rfl (ed6 d) ?e2 rfl (ed6_one' d) ?e4 ?e5 ?e6))
                case e7 => simp [specB, HTL.out]
                case e1 => exact Chg.kept (((Chg.refl No _).alloc _).alloc _) q1 (fun h => h)
                case e2 => exact Blk.at_new (by simp) _ _
                case e4 => omega
                case e5 => omega
                case e6 =>
                  intro g2 c2' w4 f1 f2 f3 hrec
                  have e := specB_E mt ds (upto 0 j) (E.take k) D d
                  rw [HTL.out, ← HTK.out] at e
                  rw [e] at hrec
                  have HR := Lib.hid (GRel.mk hrec)
                  clear hrec e q1 p0 p1 p2 p3 p4 p5
                  go_wp2
                  go_roundw
                  case rel => exact ⟨k + 1, by omega, by go_num, HR.out⟩
                  case measure => simp [intOf]; omega
              · obtain rfl : k = E.length := by omega
                rw [List.take_length] at hi
                obtain ⟨A2, c2, q2, o2⟩ := hi.re.row (i := 2) rfl
                obtain ⟨A5, c5, q5, o5⟩ := hi.re.row (i := 5) rfl
                obtain ⟨A8, c8, q8, o8⟩ := hi.re.row (i := 8) rfl
                obtain ⟨A9, c9, q9, o9⟩ := hi.re.row (i := 9) rfl
                have q0 := hi.re.const (i := 0) rfl
                have q1 := hi.re.const (i := 1) rfl
                have q3 := hi.re.const (i := 3) rfl
                have q4 := hi.re.const (i := 4) rfl
                have q6 := hi.re.const (i := 6) rfl
                have q7 := hi.re.const (i := 7) rfl
                have q10 := hi.re.const (i := 10) rfl
                rw [HUL.out] at q5 o5
                have HSE := Lib.hid (serialize_any wr mt _ _ _ _ ds j E D HF.out o2 o5 o8 o9 hn hRn (by omega) (by omega) HDb.out)
                have HC := Lib.hid hi.re.chg
                clear hi o2 o5 o8 o9 htl HG HI
                go_wp2_with fail
                refine HSE.out.mono ?_
                rintro e w2 ⟨v, rfl, h1, h2⟩
                have HZ := Lib.hid (zzatn_any w2 v mt ds j E D Ok.out h2 (net_small HF.out Ok.out HDb.out))
                have HC2 := Lib.hid (HC.out.trans h1)
                clear h1 h2
                go_wp2_with fail
                refine HZ.out.mono ?_
                rintro e w3 ⟨ba, bs, rfl, h1, h2, h3, h4⟩
                have H1 := Lib.hid h1
                have H2 := Lib.hid (HC2.out.trans h2)
                have hle := Nat.le_trans HC2.out.size h3
                have H4 := Lib.hid (fun b hb => Nat.le_trans HC2.out.size (h4 b hb))
                clear h1 h2 h3 h4
                go_wp2
                go_ret
                exact ⟨ba, bs, rfl, H1.out, H2.out, hle, H4.out⟩
end Go.Proofs.YtemdillhbnmjkaaGreatDoor

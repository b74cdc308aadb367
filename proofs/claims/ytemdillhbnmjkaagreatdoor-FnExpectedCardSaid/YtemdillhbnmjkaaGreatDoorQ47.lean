/- The decision that a rule asks for: ask (46). · The first alternative with which tokens go to the end: First (35); the parser's cells, one by one. -/
import Derived.Test.YtemdillhbnmjkaaGreatDoorQ46
import Derived.Test.YtemdillhbnmjkaaGreatDoorQ40
import Derived.Deep.RegionHeld3
import Derived.Deep.RegionLaw
import Derived.Outline
namespace Go.Proofs.YtemdillhbnmjkaaGreatDoor
open Go.RowKit

/-- from where a rule was invoked -/
def posOf (g : Pl.Gr) (f : Pl.Fr) : Nat := Pl.place g f.r f.a + f.k
def iv1 (x : Int) : Value := .int .i64 x
/-- a decision: its rule, its place, the states from which rules were invoked, what is left behind it -/
structure StepV (w : World) (g : Pl.Gr) (fs : List Pl.Fr) (vI vR : Value) : Prop where
  inv : Own w 3 1 vI fs.length (fs.reverse.map fun f => iv1 ((posOf g f : Nat) : Int))
  rest : Own w 59 1 vR (Pl.restOf g fs).length ((Pl.restOf g fs).map iv1)
def AskRet (w : World) (g : Pl.Gr) (fs : List Pl.Fr) (q p : Nat) (e : Ending) (w' : World) : Prop :=
  ∃ vI vR, e = .returned (.agg #[.int .i64 (q : Int), .int .i64 (p : Int), vI, vR, .int .i64 0]) ∧ StepV w' g fs vI vR ∧ Chg No w w' ∧ (∀ k, vI.ownBlock = some k → w.heap.size ≤ k) ∧ ∀ k, vR.ownBlock = some k → w.heap.size ≤ k

/-- the states so far -/
structure AskI (w wr : World) (g : Pl.Gr) (R : List Pl.Fr) (sb q p j : Nat) : Prop where
  chg : Chg No w wr
  res : Blk wr w.heap.size #[.int .i64 0, .int .i64 0, .slice none 0 0, .slice none 0 0, .int .i64 0] 54
  ex : ∃ A c, Blk wr sb #[.int .i64 (q : Int), .int .i64 (p : Int), .slice A j c, .slice none 0 0, .int .i64 0] 54 ∧ Own wr 3 1 (.slice A j c) j ((R.take j).map fun f => iv1 ((posOf g f : Nat) : Int)) ∧ ∀ k, (Value.slice A j c).ownBlock = some k → w.heap.size ≤ k
theorem fr_at {w : World} {sb c L : Nat} {R : List Pl.Fr} (h : Own w 139 3 (.slice (some ⟨sb, 0, none⟩) L c) L (R.flatMap frCells)) {j : Nat} {f : Pl.Fr} (hj : R[j]? = some f) :
    w.cell? ⟨sb, j * 3, none⟩ = some (.int .i64 (f.r : Int)) ∧ w.cell? ⟨sb, j * 3 + 1, none⟩ = some (.int .i64 (f.a : Int)) ∧ w.cell? ⟨sb, j * 3 + 2, none⟩ = some (.int .i64 (f.k : Int)) :=
  ⟨h.cellAt (by have := flat_at frCells 3 frCells_len R j 0 f hj (by omega); rw [Nat.add_zero] at this; rw [this]; rfl), h.cellAt (by rw [flat_at frCells 3 frCells_len R j 1 f hj (by omega)]; rfl), h.cellAt (by rw [flat_at frCells 3 frCells_len R j 2 f hj (by omega)]; rfl)⟩
theorem linked_at {g : Pl.Gr} : ∀ (fs : List Pl.Fr) (q : Nat), Pl.Linked g q fs → ∀ f ∈ fs, ∃ q', Pl.FrAt g f q'
  | [], _, _, f, hf => by cases hf
  | a :: fs, q, h, f, hf => by
    rcases List.mem_cons.1 hf with rfl | hf
    · exact ⟨q, h.1⟩
    · exact linked_at fs a.r h.2 f hf

theorem setS2 (a0 a1 a2 a3 a4 v : Value) : (#[a0, a1, a2, a3, a4] : Array Value).setIfInBounds 2 v = #[a0, a1, v, a3, a4] := rfl
theorem setS3 (a0 a1 a2 a3 a4 v : Value) : (#[a0, a1, a2, a3, a4] : Array Value).setIfInBounds 3 v = #[a0, a1, a2, v, a4] := rfl
theorem AskI.next {w wr wy w5 : World} {g : Pl.Gr} {R : List Pl.Fr} {sb q p j : Nat} {f0 : Pl.Fr} {AI A5 : Option Addr} {cI c5 : Nat} (hI : AskI w wr g R sb q p j) (hsb : w.heap.size < sb) (hj : R[j]? = some f0)
    (i1 : Blk wr sb #[.int .i64 (q : Int), .int .i64 (p : Int), .slice AI j cI, .slice none 0 0, .int .i64 0] 54) (i2 : Own wr 3 1 (.slice AI j cI) j ((R.take j).map fun f => iv1 ((posOf g f : Nat) : Int)))
    (i3 : ∀ k, (Value.slice AI j cI).ownBlock = some k → w.heap.size ≤ k) (hy : Chg No wr wy)
    (h1 : Own w5 3 1 (.slice A5 (j + 1) c5) (j + 1) (((R.take j).map fun f => iv1 ((posOf g f : Nat) : Int)) ++ [iv1 ((posOf g f0 : Nat) : Int)])) (h2 : wy.grownBy w5 (Value.slice AI j cI).ownBlock)
    (h3 : ∀ k, (Value.slice A5 (j + 1) c5).ownBlock = some k → (Value.slice AI j cI).ownBlock = some k ∨ k = wy.heap.size) :
    AskI w (w5.setCell ⟨sb, 2, none⟩ (.slice A5 (j + 1) c5)) g R sb q p (j + 1) := by
  have hc : Chg (fun k => some k = (Value.slice AI j cI).ownBlock) wr w5 := (Chg.mono hy (fun _ _ h => h.elim)).trans (Chg.grownBy h2)
  have e5 : Blk w5 sb #[.int .i64 (q : Int), .int .i64 (p : Int), .slice AI j cI, .slice none 0 0, .int .i64 0] 54 := i1.chg hc (fun e => i2.ne i1 (by decide) e.symm)
  have er : Blk w5 w.heap.size #[.int .i64 0, .int .i64 0, .slice none 0 0, .slice none 0 0, .int .i64 0] 54 := hI.res.chg hc (fun e => i2.ne hI.res (by decide) e.symm)
  have hset := e5.set 2 (.slice A5 (j + 1) c5)
  rw [setS2] at hset
  refine ⟨?_, er.other (by simp; omega) _, A5, c5, hset, ?_, ?_⟩
  · exact (hI.chg.then hc (fun k hk e => by have := i3 k e.symm; omega)).setCell (fun hk => absurd hk (by simp; omega)) _
  · have e : (R.take (j + 1)).map (fun f => iv1 ((posOf g f : Nat) : Int)) = ((R.take j).map fun f => iv1 ((posOf g f : Nat) : Int)) ++ [iv1 ((posOf g f0 : Nat) : Int)] := by
      rw [List.take_add_one, hj, List.map_append]; rfl
    rw [e]
    refine h1.chg (Chg.setCell (S := fun k => k = sb) (Chg.refl _ _) (fun _ => rfl) _) (fun k hk e => ?_)
    subst e
    exact h1.ne e5 (by decide) hk
  · intro k hk
    rcases h3 k hk with h | h
    · exact i3 k h
    · have := hI.chg.size; have := hy.size; omega

theorem blk_of {w : World} {b : Nat} {c : Array Value} {T T' : TypeId} {A : Option Addr} {n k : Nat} {xs : List Value} (h : Blk w b c T) (ho : Own w T' 1 (.slice A n k) n xs) (hne : T' ≠ T) {wr wy w5 : World} (h0 : Chg No w wr) (hy : Chg No wr wy) (h2 : wy.grownBy w5 (Value.slice A n k).ownBlock) : Blk w5 b c T :=
  h.chg ((Chg.mono (h0.trans hy) (fun _ _ h => h.elim)).trans (Chg.grownBy h2)) (fun e => ho.ne h hne e.symm)
theorem ask_cells {wr wx wy w5 : World} {mb sb fb q p j : Nat} {vR vg vM1 vM2 vM3 vM4 vM5 vM6 vM7 : Value} {x0 x1 x2 : Value} {AI : Option Addr} {cI : Nat} {xs : List Value}
    (hm : Blk wr mb #[vg, vM1, vM2, vM3, vM4, vM5, vM6, vM7] 98) (i1 : Blk wr sb #[.int .i64 (q : Int), .int .i64 (p : Int), .slice AI j cI, vR, .int .i64 0] 54) (i2 : Own wr 3 1 (.slice AI j cI) j xs) (hb : Blk wx fb #[x0, x1, x2] 139) (hx : Chg No wr wx) (hy : Chg No wx wy)
    (h2 : wy.grownBy w5 (Value.slice AI j cI).ownBlock) :
    w5.cell? ⟨sb, 2, none⟩ = some (.slice AI j cI) ∧ w5.cell? ⟨mb, 0, none⟩ = some vg ∧ w5.cell? ⟨fb, 0, none⟩ = some x0 ∧ w5.cell? ⟨fb, 1, none⟩ = some x1 ∧ w5.cell? ⟨fb, 2, none⟩ = some x2 ∧ w5.frozen? ⟨sb, 2, none⟩ = false ∧ sb < w5.heap.size ∧ mb < w5.heap.size := by
  have hm5 := blk_of hm i2 (by decide) hx hy h2
  have hs5 := blk_of i1 i2 (by decide) hx hy h2
  have hb5 := blk_of hb (i2.no hx) (by decide) (Chg.refl No wx) hy h2
  exact ⟨by rw [hs5.cell]; rfl, by rw [hm5.cell]; rfl, by rw [hb5.cell]; rfl, by rw [hb5.cell]; rfl, by rw [hb5.cell]; rfl, hs5.fz 2, hs5.lt, hm5.lt⟩

/-- the rests so far -/
structure AskR (w wr : World) (g : Pl.Gr) (fs : List Pl.Fr) (sb q p m : Nat) : Prop where
  chg : Chg No w wr
  res : Blk wr w.heap.size #[.int .i64 0, .int .i64 0, .slice none 0 0, .slice none 0 0, .int .i64 0] 54
  ex : ∃ AI cI A c, Blk wr sb #[.int .i64 (q : Int), .int .i64 (p : Int), .slice AI fs.length cI, .slice A (Pl.restOf g (fs.take m)).length c, .int .i64 0] 54 ∧
    Own wr 3 1 (.slice AI fs.length cI) fs.length (fs.reverse.map fun f => iv1 ((posOf g f : Nat) : Int)) ∧ (∀ k, (Value.slice AI fs.length cI).ownBlock = some k → w.heap.size ≤ k) ∧
    Own wr 59 1 (.slice A (Pl.restOf g (fs.take m)).length c) (Pl.restOf g (fs.take m)).length ((Pl.restOf g (fs.take m)).map iv1) ∧ ∀ k, (Value.slice A (Pl.restOf g (fs.take m)).length c).ownBlock = some k → w.heap.size ≤ k
theorem AskI.all {w wr : World} {g : Pl.Gr} {fs : List Pl.Fr} {sb q p : Nat} (h : AskI w wr g fs.reverse sb q p fs.length) : AskR w wr g fs sb q p 0 := by
  obtain ⟨A, c, h1, h2, h3⟩ := h.ex
  refine ⟨h.chg, h.res, A, c, none, 0, h1, ?_, h3, World.ownsRow_nil _ _ _ _, by simp [Value.ownBlock]⟩
  rw [List.take_of_length_le (by simp)] at h2
  exact h2
theorem rest_next {g : Pl.Gr} {fs : List Pl.Fr} {m : Nat} {f : Pl.Fr} (h : fs[m]? = some f) : Pl.restOf g (fs.take (m + 1)) = Pl.restOf g (fs.take m) ++ Pl.tl g f := by
  unfold Pl.restOf
  rw [List.take_add_one, h, List.flatMap_append]
  simp
theorem AskR.next {w wr wy w5 : World} {g : Pl.Gr} {fs : List Pl.Fr} {sb q p m : Nat} {f : Pl.Fr} {AI A A5 : Option Addr} {cI c c5 : Nat} (hR : AskR w wr g fs sb q p m) (hsb : w.heap.size < sb) (hf : fs[m]? = some f)
    (i1 : Blk wr sb #[.int .i64 (q : Int), .int .i64 (p : Int), .slice AI fs.length cI, .slice A (Pl.restOf g (fs.take m)).length c, .int .i64 0] 54)
    (i2 : Own wr 3 1 (.slice AI fs.length cI) fs.length (fs.reverse.map fun f => iv1 ((posOf g f : Nat) : Int))) (i3 : ∀ k, (Value.slice AI fs.length cI).ownBlock = some k → w.heap.size ≤ k)
    (i4 : Own wr 59 1 (.slice A (Pl.restOf g (fs.take m)).length c) (Pl.restOf g (fs.take m)).length ((Pl.restOf g (fs.take m)).map iv1)) (i5 : ∀ k, (Value.slice A (Pl.restOf g (fs.take m)).length c).ownBlock = some k → w.heap.size ≤ k)
    (hy : Chg No wr wy) (h1 : Own w5 59 1 (.slice A5 ((Pl.restOf g (fs.take m)).length + (Pl.tl g f).length) c5) ((Pl.restOf g (fs.take m)).length + (Pl.tl g f).length) ((Pl.restOf g (fs.take m)).map iv1 ++ (Pl.tl g f).map iv1))
    (h2 : wy.grownBy w5 (Value.slice A (Pl.restOf g (fs.take m)).length c).ownBlock) (h3 : ∀ k, (Value.slice A5 ((Pl.restOf g (fs.take m)).length + (Pl.tl g f).length) c5).ownBlock = some k → (Value.slice A (Pl.restOf g (fs.take m)).length c).ownBlock = some k ∨ k = wy.heap.size) :
    AskR w (w5.setCell ⟨sb, 3, none⟩ (.slice A5 ((Pl.restOf g (fs.take m)).length + (Pl.tl g f).length) c5)) g fs sb q p (m + 1) := by
  have hc : Chg (fun k => some k = (Value.slice A (Pl.restOf g (fs.take m)).length c).ownBlock) wr w5 := (Chg.mono hy (fun _ _ h => h.elim)).trans (Chg.grownBy h2)
  have e5 : Blk w5 sb _ 54 := i1.chg hc (fun e => i4.ne i1 (by decide) e.symm)
  have er : Blk w5 w.heap.size _ 54 := hR.res.chg hc (fun e => i4.ne hR.res (by decide) e.symm)
  have eI : Own w5 3 1 _ fs.length _ := i2.chg hc (fun k hk e => i4.ne' i2 (by decide) e.symm hk)
  have hset := e5.set 3 (.slice A5 ((Pl.restOf g (fs.take m)).length + (Pl.tl g f).length) c5)
  rw [setS3] at hset
  have el : (Pl.restOf g (fs.take (m + 1))).length = (Pl.restOf g (fs.take m)).length + (Pl.tl g f).length := by rw [rest_next hf, List.length_append]
  have em : (Pl.restOf g (fs.take (m + 1))).map iv1 = (Pl.restOf g (fs.take m)).map iv1 ++ (Pl.tl g f).map iv1 := by rw [rest_next hf, List.map_append]
  have hsc : Chg (fun k => k = sb) w5 (w5.setCell ⟨sb, 3, none⟩ (.slice A5 ((Pl.restOf g (fs.take m)).length + (Pl.tl g f).length) c5)) := Chg.setCell (S := fun k => k = sb) (Chg.refl _ _) (fun _ => rfl) _
  refine ⟨?_, er.other (by simp; omega) _, AI, cI, A5, c5, by rw [el]; exact hset, ?_, i3, ?_, ?_⟩
  · exact (hR.chg.then hc (fun k hk e => by have := i5 k e.symm; omega)).setCell (fun hk => absurd hk (by simp; omega)) _
  · exact eI.chg hsc (fun k hk e => by subst e; exact eI.ne e5 (by decide) hk)
  · rw [el, em]
    exact h1.chg hsc (fun k hk e => by subst e; exact h1.ne e5 (by decide) hk)
  · rw [el]
    intro k hk
    rcases h3 k hk with h | h
    · exact i5 k h
    · have := hR.chg.size; have := hy.size; omega
theorem tl_src {w : World} {A : Option Addr} {c k : Nat} {xs : List Int} (h : T1 w (.slice A xs.length c) xs) (hk : k + 1 ≤ xs.length) :
    ∃ b, A = some ⟨b, 0, none⟩ ∧ xs.length ≤ c ∧ ∀ cap, SrcL w (.slice (if c = k + 1 then some ⟨b, 0, none⟩ else some ⟨b, k + 1, none⟩) (xs.length - (k + 1)) cap) (xs.length - (k + 1)) ((xs.drop (k + 1)).map iv1) := by
  obtain ⟨q1, q2, q3, q4⟩ := T1.lies h
  obtain ⟨b, rfl⟩ : ∃ b, A = some ⟨b, 0, none⟩ := by
    rcases q3 with q3 | q3
    · omega
    · exact q3
  refine ⟨b, rfl, q1, fun cap => ?_⟩
  by_cases hc : c = k + 1
  · rw [if_pos hc]
    have : xs.drop (k + 1) = [] := List.drop_eq_nil_of_le (by omega)
    rw [this]
    exact .inl ⟨_, _, rfl, fun j u hj => by simp at hj⟩
  · rw [if_neg hc]
    refine .inl ⟨_, _, rfl, fun j u hj => ?_⟩
    rw [List.getElem?_map, List.getElem?_drop] at hj
    cases hx : xs[k + 1 + j]? with
    | none => rw [hx] at hj; cases hj
    | some x =>
      rw [hx] at hj
      cases hj
      have := q4 b rfl _ x hx
      have hadd : (⟨b, k + 1, none⟩ : Addr).add j = ⟨b, k + 1 + j, none⟩ := by unfold Addr.add; split <;> simp_all
      rw [hadd]
      exact this

theorem put5 {w : World} {r : Nat} {x0 x1 x2 x3 x4 a b c d e : Value} {T : TypeId} (h : Blk w r #[x0, x1, x2, x3, x4] T) : Blk (((((w.setCell ⟨r, 0, none⟩ a).setCell ⟨r, 1, none⟩ b).setCell ⟨r, 2, none⟩ c).setCell ⟨r, 3, none⟩ d).setCell ⟨r, 4, none⟩ e) r #[a, b, c, d, e] T :=
  ((((h.set 0 a).set 1 b).set 2 c).set 3 d).set 4 e
theorem chg5' (w : World) (r : Nat) (a b c d e : Value) : Chg (fun k => k = r) w (((((w.setCell ⟨r, 0, none⟩ a).setCell ⟨r, 1, none⟩ b).setCell ⟨r, 2, none⟩ c).setCell ⟨r, 3, none⟩ d).setCell ⟨r, 4, none⟩ e) :=
  Chg.setCell (Chg.setCell (Chg.setCell (Chg.setCell (Chg.setCell (Chg.refl (fun k => k = r) w) (fun _ => rfl) _) (fun _ => rfl) _) (fun _ => rfl) _) (fun _ => rfl) _) (fun _ => rfl) _

set_option maxHeartbeats 4000000 in
set_option maxRecDepth 100000 in
theorem ask_any (w0 w : World) (mb lo hi p n : Nat) (vg : Value) (g : Pl.Gr) (ts : List Int) (fs : List Pl.Fr) (d f : Bool) (q : Nat) (hM : Mac w0 w mb vg g lo hi ts fs p n d f) (G : Pl.GoodG g) (hv : T3 w0 vg g)
    (hfs : fs.length < 1000) (hl : Pl.Linked g q fs) (hne : 0 < fs.length) :
    Calls Tryz.prog 46 #[.pointer (some ⟨mb, 0, none⟩), .int .i64 (q : Int)] w (AskRet w g fs q p) := by
  obtain ⟨vl, ve, A2, c2, e1, e2, e3, e4⟩ := hM.ex
  obtain ⟨A, c, rfl⟩ := (T3.rd hv).slice
  obtain ⟨sk, cap, cur, he, _, _⟩ := Own.blk e3 hne
  simp at he
  obtain ⟨rfl, rfl⟩ := he
  have m0 : w.cell? ⟨mb, 0, none⟩ = some (.slice A g.length c) := by rw [e1.cell]; rfl
  have m3 : w.cell? ⟨mb, 3, none⟩ = some (.slice (some ⟨sk, 0, none⟩) fs.length c2) := by rw [e1.cell]; rfl
  have m4 : w.cell? ⟨mb, 4, none⟩ = some (.int .i64 (p : Int)) := by rw [e1.cell]; rfl
  have hlt := e1.lt
  have HM0 := Lib.hid m0
  have HM3 := Lib.hid m3
  have HE3 := Lib.hid e3
  have HE1 := Lib.hid e1
  have HG := Lib.hid G
  have HV := Lib.hid (T3.rd hv)
  have HT3 := Lib.hid hv
  have HC0 := Lib.hid hM.chg
  have HLn := Lib.hid hl
  clear hM G hv hl e1 e2 e3 e4
  go_enter Tryz.func46, Tryz.ntmps46
  go_wp2
  go_loopw [21] (fun i wr => ∃ j : Nat, j ≤ fs.length ∧ i = .int .i64 (j : Int) ∧ AskI w wr g fs.reverse (w.heap.size + 1) q p j) (fun i _ => fs.length - (intOf i).toNat)
  case atStart => exact ⟨0, Nat.zero_le _, rfl, ((Chg.refl No w).alloc _).alloc _, (Blk.new w _ 54).alloc _, none, 0, Blk.at_new (by simp) _ _, World.ownsRow_nil _ _ _ _, by simp [Value.ownBlock]⟩
  case round =>
    obtain ⟨j, hj, rfl, hI⟩ := hrel
    by_cases hlt2 : j < fs.length
    · obtain ⟨f0, hf0⟩ : ∃ u, fs.reverse[j]? = some u := ⟨_, List.getElem?_eq_getElem (by simpa using hlt2)⟩
      obtain ⟨y0, y1, y2⟩ := fr_at HE3.out hf0
      obtain ⟨q', hq'⟩ := linked_at fs q HLn.out f0 (by have := List.mem_of_getElem? hf0; simpa using this)
      obtain ⟨alts, a1, a2, a3, a4⟩ := hq'.alt
      have a5 := (List.getElem?_eq_some_iff.1 a2).1
      have a6 := HG.out.alt f0.r alts _ a1 (List.mem_of_getElem? a2)
      have hAt := fun w' (h : Chg No wr w') => at_any w' (.slice A g.length c) g f0.r f0.a f0.k alts HG.out (HV.out.no ((HC0.out.trans hI.chg).trans h)) a1 a5 (by omega)
      obtain ⟨AI, cI, i1, i2, i3⟩ := hI.ex
      have z0 := Chg.kept hI.chg y0 (fun h => h)
      have z1 := Chg.kept hI.chg y1 (fun h => h)
      have z2 := Chg.kept hI.chg y2 (fun h => h)
      have zm := Chg.kept hI.chg HM0.out (fun h => h)
      have zs : wr.cell? ⟨w.heap.size + 1, 2, none⟩ = some (.slice AI j cI) := by rw [i1.cell]; rfl
      have j0 : (0 : Int) ≤ (j : Int) := by omega
      have j1 : (j : Int) < (fs.length : Int) := by omega
      have hwl := i1.lt
      have hmb : mb < wr.heap.size := Nat.lt_of_lt_of_le hlt hI.chg.size
      have HAt := Lib.hid hAt
      have HI := Lib.hid hI
      have HI1 := Lib.hid i1
      have HM98 := Lib.hid (HE1.out.chg hI.chg (fun h => h))
      have HI2 := Lib.hid i2
      have HI3 := Lib.hid i3
      have HF0 := Lib.hid hf0
      clear hI hAt i1 i2 i3 y0 y1 y2 hq' a1 a2 a3 a4 a5 a6 hf0 m0 m3 m4
      obtain ⟨P, hP⟩ : ∃ P, P = Pl.place g f0.r f0.a + f0.k := ⟨_, rfl⟩
      rw [← hP] at HAt
      have HP := Lib.hid (show P = posOf g f0 from hP)
      clear hP
      go_wp2
      obtain ⟨wx, hwx⟩ : ∃ wx, wx = wr.alloc (.cells #[.int .i64 (f0.r : Int), .int .i64 (f0.a : Int), .int .i64 (f0.k : Int)] 139) := ⟨_, rfl⟩
      have hx : Chg No wr wx := by rw [hwx]; exact (Chg.refl _ _).alloc _
      have hbx : Blk wx wr.heap.size #[.int .i64 (f0.r : Int), .int .i64 (f0.a : Int), .int .i64 (f0.k : Int)] 139 := by rw [hwx]; exact Blk.new _ _ _
      have xs := Chg.kept hx zs (fun h => h)
      have xm := Chg.kept hx zm (fun h => h)
      have x0 : wx.cell? ⟨wr.heap.size, 0, none⟩ = some (.int .i64 (f0.r : Int)) := by rw [hbx.cell]; rfl
      have x1 : wx.cell? ⟨wr.heap.size, 1, none⟩ = some (.int .i64 (f0.a : Int)) := by rw [hbx.cell]; rfl
      have x2 : wx.cell? ⟨wr.heap.size, 2, none⟩ = some (.int .i64 (f0.k : Int)) := by rw [hbx.cell]; rfl
      have l1 : w.heap.size + 1 < wx.heap.size := Nat.lt_of_lt_of_le hwl hx.size
      have l2 : mb < wx.heap.size := Nat.lt_of_lt_of_le hmb hx.size
      have l3 : wr.heap.size < wx.heap.size := hbx.lt
      rw [← hwx]
      have HX := Lib.hid hx
      clear hwx hx z0 z1 z2 zm zs
      have HBX := Lib.hid hbx
      have HMB := Lib.hid xm
      clear hbx
      refine wp_late (fun w' => w'.cell? ⟨w.heap.size + 1, 2, none⟩ = some (.slice AI j cI) ∧ w'.cell? ⟨mb, 0, none⟩ = some (.slice A g.length c) ∧ w'.cell? ⟨wr.heap.size, 0, none⟩ = some (.int .i64 (f0.r : Int)) ∧ w'.cell? ⟨wr.heap.size, 1, none⟩ = some (.int .i64 (f0.a : Int)) ∧ w'.cell? ⟨wr.heap.size, 2, none⟩ = some (.int .i64 (f0.k : Int))) 16 (by kernel_rfl) ⟨xs, xm, x0, x1, x2⟩ (fun hS0 => ?_)
      refine Late.take (i := 0) (v := ?_) rfl (by kernel_rfl) (by kernel_rfl) (by kernel_rfl) (by kernel_rfl) (fun _ _ _ h => h) (Or.inl ⟨by rfl, ?_⟩) (by assumption) ?_
      rotate_left
      · intro w' hSw
        go_simp
        try with_reducible rfl
      simp only [Act.put, List.setIfInBounds_toArray]
      refine Late.take (i := 1) (v := ?_) rfl (by kernel_rfl) (by kernel_rfl) (by kernel_rfl) (by kernel_rfl) (fun _ _ _ h => h) (Or.inl ⟨by rfl, ?_⟩) (by assumption) ?_
      rotate_left
      · intro w' hSw
        go_simp
        try with_reducible rfl
      simp only [Act.put]
      refine Late.take (i := 2) (v := ?_) rfl (by kernel_rfl) (by kernel_rfl) (by kernel_rfl) (by kernel_rfl) (fun _ _ _ h => h) (Or.inl ⟨by rfl, ?_⟩) (by assumption) ?_
      rotate_left
      · intro w' hSw
        go_simp
        try with_reducible rfl
      simp only [Act.put]
      refine Late.take (i := 3) (v := ?_) rfl (by kernel_rfl) (by kernel_rfl) (by kernel_rfl) (by kernel_rfl) (fun _ _ _ h => h) (Or.inl ⟨by rfl, ?_⟩) (by assumption) ?_
      rotate_left
      · intro w' hSw
        go_simp
        try with_reducible rfl
      simp only [Act.put]
      refine Late.take (i := 4) (v := ?_) rfl (by kernel_rfl) (by kernel_rfl) (by kernel_rfl) (by kernel_rfl) (fun _ _ _ h => h) (Or.inl ⟨by rfl, ?_⟩) (by assumption) ?_
      rotate_left
      · intro w' hSw
        go_simp
        try with_reducible rfl
      simp only [Act.put]
      refine Late.take (i := 5) (v := ?_) rfl (by kernel_rfl) (by kernel_rfl) (by kernel_rfl) (by kernel_rfl) (fun _ _ _ h => h) (Or.inl ⟨by rfl, ?_⟩) (by assumption) ?_
      rotate_left
      · intro w' hSw
        go_simp
        try with_reducible rfl
      simp only [Act.put]
      refine Late.take (i := 6) (v := ?_) rfl (by kernel_rfl) (by kernel_rfl) (by kernel_rfl) (by kernel_rfl) (fun _ _ _ h => h) (Or.inl ⟨by rfl, ?_⟩) (by assumption) ?_
      rotate_left
      · intro w' hSw
        go_simp
        try with_reducible rfl
      simp only [Act.put]
      refine Late.take (i := 7) (v := ?_) rfl (by kernel_rfl) (by kernel_rfl) (by kernel_rfl) (by kernel_rfl) (fun _ _ _ h => h) (Or.inl ⟨by rfl, ?_⟩) (by assumption) ?_
      rotate_left
      · intro w' hSw
        go_simp
        try with_reducible rfl
      simp only [Act.put]
      refine Late.take (i := 8) (v := ?_) rfl (by kernel_rfl) (by kernel_rfl) (by kernel_rfl) (by kernel_rfl) (fun _ _ _ h => h) (Or.inl ⟨by rfl, ?_⟩) (by assumption) ?_
      rotate_left
      · intro w' hSw
        go_simp
        try with_reducible rfl
      simp only [Act.put]
      refine Late.take (i := 9) (v := ?_) rfl (by kernel_rfl) (by kernel_rfl) (by kernel_rfl) (by kernel_rfl) (fun _ _ _ h => h) (Or.inl ⟨by rfl, ?_⟩) (by assumption) ?_
      rotate_left
      · intro w' hSw
        go_simp
        try with_reducible rfl
      simp only [Act.put]
      refine Late.take (i := 10) (v := ?_) rfl (by kernel_rfl) (by kernel_rfl) (by kernel_rfl) (by kernel_rfl) (fun _ _ _ h => h) (Or.inl ⟨by rfl, ?_⟩) (by assumption) ?_
      rotate_left
      · intro w' hSw
        go_simp
        try with_reducible rfl
      simp only [Act.put]
      refine Late.take (i := 11) (v := ?_) rfl (by kernel_rfl) (by kernel_rfl) (by kernel_rfl) (by kernel_rfl) (fun _ _ _ h => h) (Or.inl ⟨by rfl, ?_⟩) (by assumption) ?_
      rotate_left
      · intro w' hSw
        go_simp
        try with_reducible rfl
      simp only [Act.put]
      refine Late.take (i := 12) (v := ?_) rfl (by kernel_rfl) (by kernel_rfl) (by kernel_rfl) (by kernel_rfl) (fun _ _ _ h => h) (Or.inl ⟨by rfl, ?_⟩) (by assumption) ?_
      rotate_left
      · intro w' hSw
        go_simp
        try with_reducible rfl
      simp only [Act.put]
      refine Late.one (i := 13) rfl (by kernel_rfl) (fun K hK => ?_)
      go_simp
      go_at_call 12
      refine (HAt.out wx.drew (HX.out.trans (Chg.refl No wx).drew)).mono ?_
      rintro e w' ⟨rfl, rfl⟩
      refine hK.out _ _ (fun _ => hS0) ?_
      clear hK K
      try simp only [Act.put, List.setIfInBounds_toArray, List.set_cons_zero, List.set_cons_succ]
      refine Late.one (i := 14) rfl (by kernel_rfl) (fun K hK => ?_)
      go_simp
      refine hK.out _ _ (fun _ => by go_keep) ?_
      clear hK K
      try simp only [Act.put, List.setIfInBounds_toArray, List.set_cons_zero, List.set_cons_succ]
      refine Late.one (i := 15) rfl (by kernel_rfl) (fun K hK => ?_)
      refine step_appS et36 rfl (.tmp 26) (.tmp 39) rfl (.slice AI j cI) j ((fs.reverse.take j).map fun f => iv1 ((posOf g f : Nat) : Int)) rfl ?b1 (.slice (some ⟨wx.heap.size, 0, none⟩) 1 1) rfl 1 [iv1 (P : Int)] ?b2 rfl ?b3 ?b4 ?b5 ?b6
      case b1 => exact HI2.out.no (HX.out.trans (((Chg.refl No wx).alloc _).drew))
      case b2 => exact .inl ⟨_, _, rfl, cells_one ((Blk.new wx #[iv1 (P : Int)] 3).drew)⟩
      case b3 => simp [iv1, Value.oneCell']
      case b4 => omega
      case b5 => omega
      case b6 =>
        intro A5 c5 w5 h1 h2 h3
        obtain ⟨f1, f2, f3, f4, f5, f6, f7, f8⟩ := ask_cells HM98.out HI1.out HI2.out HBX.out HX.out (((Chg.refl No wx).alloc (.cells #[iv1 (P : Int)] 3)).drew) h2
        have HN := Lib.hid (HI.out.next (by omega) HF0.out HI1.out HI2.out HI3.out (HX.out.trans (((Chg.refl No wx).alloc (.cells #[iv1 (P : Int)] 3)).drew)) (HP.out ▸ h1) h2 (fun k hk => by have := h3 k hk; simpa using this))
        clear h1 h2 h3
        refine hK.out _ _ (fun _ => ⟨f1, f2, f3, f4, f5⟩) ?_
        clear hK K hS0 xs xm x0 x1 x2
        try simp only [Act.put, List.setIfInBounds_toArray]
        refine Late.one (i := 16) rfl (by kernel_rfl) (fun K hK => ?_)
        go_simp
        refine hK.out _ _ (fun h => by cases h) ?_
        clear hK K
        try simp only [Act.put, List.setIfInBounds_toArray, List.set_cons_zero, List.set_cons_succ]
        refine Late.one (i := 17) rfl (by kernel_rfl) (fun K hK => ?_)
        go_simp
        refine hK.out _ _ (fun h => by cases h) ?_
        clear hK K
        refine Late.done (by kernel_rfl) ?_ _
        go_wp2
        go_roundw
        case rel => exact ⟨j + 1, by omega, by go_num, HN.out⟩
        case measure => simp [intOf]; omega
    · obtain rfl : j = fs.length := by omega
      have HR := Lib.hid hI.all
      have zm := Chg.kept hI.chg HM3.out (fun h => h)
      clear hI m0 m3 m4
      go_wp2
      clear zm
      go_loopw [8] (fun i wr => (∃ x m : Nat, m + (x + 1) = fs.length ∧ i = .int .i64 (x : Int) ∧ AskR w wr g fs (w.heap.size + 1) q p m) ∨ (i = .int .i64 (-1) ∧ AskR w wr g fs (w.heap.size + 1) q p fs.length)) (fun i _ => (intOf i + 1).toNat)
      case atStart => exact .inl ⟨fs.length - 1, 0, by omega, by congr 1; omega, HR.out⟩
      case round =>
        rcases hrel with ⟨x, m, hxm, rfl, hR⟩ | ⟨rfl, hR⟩
        · obtain ⟨f0, hf0⟩ : ∃ u, fs[m]? = some u := ⟨_, List.getElem?_eq_getElem (by omega)⟩
          have hrev : fs.reverse[x]? = some f0 := by
            rw [List.getElem?_reverse (by omega), ← hf0]
            congr 1; omega
          obtain ⟨y0, y1, y2⟩ := fr_at HE3.out hrev
          obtain ⟨q', hq'⟩ := linked_at fs q HLn.out f0 (List.mem_of_getElem? hf0)
          obtain ⟨alts, a1, a2, a3, a4⟩ := hq'.alt
          have a5 := (List.getElem?_eq_some_iff.1 a2).1
          have a6 := (List.getElem?_eq_some_iff.1 a1).1
          have htl := Pl.tl_len HG.out hq'
          have hrl := Pl.rest_len HG.out fs q HLn.out
          obtain ⟨b1, A1, c1, hA1, k1, t2⟩ := T3.at_ HT3.out a1
          obtain ⟨b2, A3, c3, hA2, k2, t1⟩ := T2.at_ t2 a2
          obtain ⟨b3, hA3, hlc, hsrc⟩ := tl_src t1 a4
          subst hA1
          subst hA2
          subst hA3
          obtain ⟨AI, cI, AR, cR, i1, i2, i3, i4, i5⟩ := hR.ex
          have z0 := Chg.kept hR.chg y0 (fun h => h)
          have z1 := Chg.kept hR.chg y1 (fun h => h)
          have z2 := Chg.kept hR.chg y2 (fun h => h)
          have zm := Chg.kept hR.chg HM0.out (fun h => h)
          have z3 := Chg.kept hR.chg HM3.out (fun h => h)
          have w1 := Chg.kept (HC0.out.trans hR.chg) k1 (fun h => h)
          have w2 := Chg.kept (HC0.out.trans hR.chg) k2 (fun h => h)
          have zs : wr.cell? ⟨w.heap.size + 1, 3, none⟩ = some (.slice AR (Pl.restOf g (fs.take m)).length cR) := by rw [i1.cell]; rfl
          have zf := i1.fz 3
          have x0 : (0 : Int) ≤ (x : Int) := by omega
          have x1 : (x : Int) < (fs.length : Int) := by omega
          have r0 : (0 : Int) ≤ (f0.r : Int) := by omega
          have r1 : (f0.r : Int) < (g.length : Int) := by omega
          have r2 : (0 : Int) ≤ (f0.a : Int) := by omega
          have r3 : (f0.a : Int) < (alts.length : Int) := by omega
          have hwl := i1.lt
          have hb0 : mb < wr.heap.size := World.block_lt_of_cell? wr _ zm
          have hb1 : b1 < wr.heap.size := World.block_lt_of_cell? wr _ w1
          have hb2 : b2 < wr.heap.size := World.block_lt_of_cell? wr _ w2
          have al5 := HG.out.alt f0.r alts _ a1 (List.mem_of_getElem? a2)
          have hlen : (Pl.tl g f0).length = (Pl.altOf g f0).length - (f0.k + 1) := by unfold Pl.tl; rw [List.length_drop]
          have hrm : (Pl.restOf g (fs.take m)).length ≤ 5000 := by
            have e : fs = fs.take m ++ fs.drop m := (List.take_append_drop m fs).symm
            have : (Pl.restOf g fs).length = (Pl.restOf g (fs.take m)).length + (Pl.restOf g (fs.drop m)).length := by
              conv => lhs; rw [e]
              unfold Pl.restOf
              rw [List.flatMap_append, List.length_append]
            omega
          have HR := Lib.hid hR
          have HI1 := Lib.hid i1
          have HI2 := Lib.hid i2
          have HI3 := Lib.hid i3
          have HI4 := Lib.hid i4
          have HI5 := Lib.hid i5
          have HF0 := Lib.hid hf0
          have HSrc := Lib.hid (show ∀ cap, SrcL w0 (.slice (if c3 = f0.k + 1 then some ⟨b3, 0, none⟩ else some ⟨b3, f0.k + 1, none⟩) (Pl.tl g f0).length cap) (Pl.tl g f0).length ((Pl.tl g f0).map iv1) by rw [hlen]; exact hsrc)
          have HLen := Lib.hid hlen
          obtain ⟨k9, hk9⟩ : ∃ k9, k9 = f0.k + 1 := ⟨_, rfl⟩
          have hwr : IntKind.i64.wrap ((f0.k : Int) + 1) = (k9 : Int) := by rw [IntKind.wrap_i64]; omega
          rw [← hk9] at HSrc HLen a4
          have k0 : (0 : Int) ≤ (k9 : Int) := by omega
          generalize hal : (Pl.altOf g f0).length = n3 at *
          have k1' : (k9 : Int) ≤ (n3 : Int) := by omega
          have hhn : n3 - k9 = (Pl.tl g f0).length := HLen.out.symm
          clear hR hf0 hrev i1 i2 i3 i4 i5 a1 a2 a3 t1 t2 k1 k2 y0 y1 y2 hq' hsrc hlen hrl hal hk9
          by_cases hck : c3 = k9
          all_goals
            first | rw [if_pos hck] at HSrc | rw [if_neg hck] at HSrc
            go_wp2
            refine wp_tail 19 (by kernel_rfl) ?_
            simp only [List.take_succ_cons, List.take_zero, List.drop_succ_cons, List.drop_zero]
            repeat still_step
            refine wpStill_nil ?_
            go_wp2_with (first | (at_builtin; refine wp_appS et29 rfl _ _ rfl (.slice AR (Pl.restOf g (fs.take m)).length cR) (Pl.restOf g (fs.take m)).length _ rfl (HI4.out.no (((Chg.refl No wr).alloc _).drew)) _ rfl (Pl.tl g f0).length ((Pl.tl g f0).map iv1) ?c1 ?c2 ?c3 ?c4 ?c5 ?c6))
            case c1 => exact (HSrc.out _).no ((HC0.out.trans HR.out.chg).trans (((Chg.refl No wr).alloc _).drew))
            case c2 => simp
            case c3 => intro u hu; obtain ⟨y, _, rfl⟩ := List.mem_map.1 hu; rfl
            case c4 => have := HLen.out; omega
            case c5 => have := HLen.out; omega
            case c6 =>
              intro A5 c5 w5 h1 h2 h3
              have hN := HR.out.next (by omega) HF0.out HI1.out HI2.out HI3.out HI4.out HI5.out (((Chg.refl No wr).alloc _).drew) h1 h2 (fun k hk => by have := h3 k hk; simpa using this)
              have hc : Chg (fun k => some k = (Value.slice AR (Pl.restOf g (fs.take m)).length cR).ownBlock) wr w5 := (Chg.mono (((Chg.refl No wr).alloc _).drew) (fun _ _ h => h.elim)).trans (Chg.grownBy h2)
              have e5 := HI1.out.chg hc (fun e => HI4.out.ne HI1.out (by decide) e.symm)
              have g3 : w5.cell? ⟨w.heap.size + 1, 3, none⟩ = some (.slice AR (Pl.restOf g (fs.take m)).length cR) := by rw [e5.cell]; rfl
              have g4 := e5.fz 3
              have g5 := e5.lt
              have HN := Lib.hid hN
              clear h1 h2 h3 hN hc e5 z0 z1 z2 z3 zm w1 w2 zs zf HR HI1 HI2 HI3 HI4 HI5 HSrc
              go_wp2
              refine ⟨?_, by simp [intOf]⟩
              rcases Nat.eq_zero_or_pos x with h0 | h0
              · have e : m + 1 = fs.length := by omega
                have h9 := HN.out
                rw [e] at h9
                exact .inr ⟨by rw [show (x : Int) - 1 = -1 by omega], h9⟩
              · exact .inl ⟨x - 1, m + 1, by omega, by rw [show (x : Int) - 1 = ((x - 1 : Nat) : Int) by omega], HN.out⟩
        · obtain ⟨AI, cI, AR, cR, i1, i2, i3, i4, i5⟩ := hR.ex
          have hres := hR.res
          have s0 : wr.cell? ⟨w.heap.size + 1, 0, none⟩ = some (.int .i64 (q : Int)) := by rw [i1.cell]; rfl
          have s1 : wr.cell? ⟨w.heap.size + 1, 1, none⟩ = some (.int .i64 (p : Int)) := by rw [i1.cell]; rfl
          have s2 : wr.cell? ⟨w.heap.size + 1, 2, none⟩ = some (.slice AI fs.length cI) := by rw [i1.cell]; rfl
          have s3 : wr.cell? ⟨w.heap.size + 1, 3, none⟩ = some (.slice AR (Pl.restOf g (fs.take fs.length)).length cR) := by rw [i1.cell]; rfl
          have s4 : wr.cell? ⟨w.heap.size + 1, 4, none⟩ = some (.int .i64 0) := by rw [i1.cell]; rfl
          have r0 : wr.cell? ⟨w.heap.size, 0, none⟩ = some (.int .i64 0) := by rw [hres.cell]; rfl
          have r1 : wr.cell? ⟨w.heap.size, 1, none⟩ = some (.int .i64 0) := by rw [hres.cell]; rfl
          have r2 : wr.cell? ⟨w.heap.size, 2, none⟩ = some (.slice none 0 0) := by rw [hres.cell]; rfl
          have r3 : wr.cell? ⟨w.heap.size, 3, none⟩ = some (.slice none 0 0) := by rw [hres.cell]; rfl
          have r4 : wr.cell? ⟨w.heap.size, 4, none⟩ = some (.int .i64 0) := by rw [hres.cell]; rfl
          have z0 := hres.fz 0
          have z1 := hres.fz 1
          have z2 := hres.fz 2
          have z3 := hres.fz 3
          have z4 := hres.fz 4
          have hwl := hres.lt
          have HRes := Lib.hid hres
          have HI2 := Lib.hid i2
          have HI3 := Lib.hid i3
          have HI4 := Lib.hid i4
          have HI5 := Lib.hid i5
          have HC := Lib.hid hR.chg
          clear hR i1 i2 i3 i4 i5 hres
          rw [List.take_length] at s3 HI4 HI5
          go_wp2
          have hp5 := put5 (a := .int .i64 (q : Int)) (b := .int .i64 (p : Int)) (c := .slice AI fs.length cI) (d := .slice AR (Pl.restOf g fs).length cR) (e := .int .i64 0) HRes.out
          have y0 := hp5.cell 0
          have y1 := hp5.cell 1
          have y2 := hp5.cell 2
          have y3 := hp5.cell 3
          have y4 := hp5.cell 4
          have hc5 := chg5' wr w.heap.size (.int .i64 (q : Int)) (.int .i64 (p : Int)) (.slice AI fs.length cI) (.slice AR (Pl.restOf g fs).length cR) (.int .i64 0)
          refine bodyPost_ret (v := .agg #[.int .i64 (q : Int), .int .i64 (p : Int), .slice AI fs.length cI, .slice AR (Pl.restOf g fs).length cR, .int .i64 0]) (by simp [results, Tryz.results46, go_sem, y0, y1, y2, y3, y4]) rfl ⟨_, _, rfl, ⟨?_, ?_⟩, ?_, HI3.out, HI5.out⟩
          · exact HI2.out.chg hc5 (fun k hk e => by subst e; exact HI2.out.ne HRes.out (by decide) hk)
          · exact HI4.out.chg hc5 (fun k hk e => by subst e; exact HI4.out.ne HRes.out (by decide) hk)
          · exact HC.out.then hc5 (fun k hk e => absurd hk (by omega))
end Go.Proofs.YtemdillhbnmjkaaGreatDoor
namespace Go.Proofs.YtemdillhbnmjkaaGreatDoor
open Go.RowKit

theorem Own.rd1 {w : World} {e : TypeId} {v : Value} {xs : List Int} {n : Nat} (h : Own w e 1 v n (xs.map iv1)) (hn : n = xs.length) : Rd1 w v xs := by
  subst hn
  obtain ⟨A, c, rfl⟩ := h.slice
  refine ⟨xs.map iv1, ⟨A, c, by simp, fun j u hj => ?_⟩, by simp, fun i u x hu hx => ?_⟩
  · have hjl := (List.getElem?_eq_some_iff.1 hj).1
    obtain ⟨g, cap, cur, he, _, _⟩ := Own.blk h (by simpa using Nat.lt_of_le_of_lt (Nat.zero_le _) hjl)
    cases he
    exact ⟨g, 0, rfl, by rw [Nat.zero_add]; exact h.cellAt hj⟩
  · rw [List.getElem?_map, hx] at hu
    cases hu; rfl
theorem own_less {w : World} {e : TypeId} {size n m c : Nat} {A : Option Addr} {xs : List Value} (h : Own w e size (.slice A n c) n xs) (hm : m ≤ n) : Own w e size (.slice A m c) m (xs.take (m * size)) := by
  have hl : m * size ≤ xs.length := by rw [h.1]; exact Nat.mul_le_mul_right _ hm
  refine ⟨by rw [List.length_take]; omega, ?_⟩
  rcases h.2 with ⟨h2, h3⟩ | ⟨g, cap, cur, hv, hb, hg, h1, h2, h3, h4⟩
  · cases h2
    obtain rfl : m = 0 := by omega
    exact .inl ⟨rfl, rfl⟩
  · cases hv
    refine .inr ⟨g, c, cur, rfl, hb, hg, by omega, h2, h3, ?_⟩
    rw [← h4, List.take_take, Nat.min_eq_left (Nat.mul_le_mul_right _ hm)]
theorem own_set {w : World} {e : TypeId} {size g n c i : Nat} {xs : List Value} (h : Own w e size (.slice (some ⟨g, 0, none⟩) n c) n xs) (u : Value) :
    Own (w.setCell ⟨g, i, none⟩ u) e size (.slice (some ⟨g, 0, none⟩) n c) n (xs.set i u) := by
  refine ⟨by simp [h.1], ?_⟩
  rcases h.2 with ⟨h2, _⟩ | ⟨g', cap, cur, hv, hb, hg, h1, h2, h3, h4⟩
  · cases h2
  · simp at hv
    obtain ⟨rfl, rfl⟩ := hv
    refine .inr ⟨g, c, cur.setIfInBounds i u, rfl, hb, (Blk.set (show Blk w g cur e from hg) i u), h1, h2, by simpa using h3, ?_⟩
    rw [Array.toList_setIfInBounds, List.take_set, h4]

/-- one of the parser's own cells is written -/
theorem Mac.put {w0 w : World} {mb lo hi p n : Nat} {vg : Value} {g : Pl.Gr} {ts : List Int} {fs : List Pl.Fr} {d f : Bool} (h : Mac w0 w mb vg g lo hi ts fs p n d f) (i : Nat) (v : Value) (p' n' : Nat) (d' f' : Bool)
    (hs : ∀ a b c : Value, (#[vg, a, b, c, .int .i64 (p : Int), .int .i64 (n : Int), .bool d, .bool f] : Array Value).setIfInBounds i v = #[vg, a, b, c, .int .i64 (p' : Int), .int .i64 (n' : Int), .bool d', .bool f']) :
    Mac w0 (w.setCell ⟨mb, i, none⟩ v) mb vg g lo hi ts fs p' n' d' f' ∧ TChg MT w (w.setCell ⟨mb, i, none⟩ v) := by
  obtain ⟨vl, ve, A, c, e1, e2, e3, e4⟩ := h.ex
  have hset := e1.set i v
  rw [hs] at hset
  have hT : TChg [98] w (w.setCell ⟨mb, i, none⟩ v) := TChg.setCell (TChg.refl _ w) (p := ⟨mb, i, none⟩) e1 (by simp) _
  have hnew := h.new
  exact ⟨⟨h.chg.setCell (fun hk => absurd hk (by simp; omega)) _, h.new, vl, ve, A, c, hset, e2.tchg hT (by decide) (by decide) (by decide) (by decide), hT.own e3 (by decide), e4⟩, hT.mono (by simp)⟩
/-- the innermost rule is left -/
theorem Mac.pop {w0 w : World} {mb lo hi p n : Nat} {vg : Value} {g : Pl.Gr} {ts : List Int} {f0 : Pl.Fr} {fs : List Pl.Fr} {d f : Bool} {A : Option Addr} {c : Nat} (h : Mac w0 w mb vg g lo hi ts (f0 :: fs) p n d f) (hA : w.cell? ⟨mb, 3, none⟩ = some (.slice A (fs.length + 1) c)) :
    Mac w0 (w.setCell ⟨mb, 3, none⟩ (.slice A fs.length c)) mb vg g lo hi ts fs p n d f ∧ TChg MT w (w.setCell ⟨mb, 3, none⟩ (.slice A fs.length c)) := by
  obtain ⟨vl, ve, A', c', e1, e2, e3, e4⟩ := h.ex
  have : (Value.slice A' (f0 :: fs).length c') = .slice A (fs.length + 1) c := by
    rw [e1.cell] at hA; exact Option.some.inj hA
  obtain ⟨rfl, _, rfl⟩ := Value.slice.inj this
  have hset := e1.set 3 (.slice A' fs.length c')
  rw [setIf3] at hset
  have hT : TChg [98] w (w.setCell ⟨mb, 3, none⟩ (.slice A' fs.length c')) := TChg.setCell (TChg.refl _ w) (p := ⟨mb, 3, none⟩) e1 (by simp) _
  have hnew := h.new
  refine ⟨⟨h.chg.setCell (fun hk => absurd hk (by simp; omega)) _, h.new, vl, ve, A', c', hset, e2.tchg hT (by decide) (by decide) (by decide) (by decide), ?_, ?_⟩, hT.mono (by simp)⟩
  · have h1 := own_less (hT.own e3 (by decide)) (m := fs.length) (by simp)
    rw [frs_cons, List.take_append_of_le_length (by rw [frs_len]; simp), List.take_of_length_le (by rw [frs_len]; simp)] at h1
    exact h1
  · intro k hk
    refine e4 k ?_
    cases A' with
    | none => cases hk
    | some a => exact hk
/-- the innermost rule goes on -/
theorem Mac.top {w0 w : World} {mb lo hi p n sk c : Nat} {vg : Value} {g : Pl.Gr} {ts : List Int} {f0 : Pl.Fr} {fs : List Pl.Fr} {d f : Bool} (h : Mac w0 w mb vg g lo hi ts (f0 :: fs) p n d f) (hA : w.cell? ⟨mb, 3, none⟩ = some (.slice (some ⟨sk, 0, none⟩) (fs.length + 1) c)) :
    Mac w0 (w.setCell ⟨sk, fs.length * 3 + 2, none⟩ (.int .i64 ((f0.k : Int) + 1))) mb vg g lo hi ts (⟨f0.r, f0.a, f0.k + 1⟩ :: fs) p n d f ∧ TChg MT w (w.setCell ⟨sk, fs.length * 3 + 2, none⟩ (.int .i64 ((f0.k : Int) + 1))) := by
  obtain ⟨vl, ve, A', c', e1, e2, e3, e4⟩ := h.ex
  have : (Value.slice A' (f0 :: fs).length c') = .slice (some ⟨sk, 0, none⟩) (fs.length + 1) c := by
    rw [e1.cell] at hA; exact Option.some.inj hA
  obtain ⟨rfl, _, rfl⟩ := Value.slice.inj this
  obtain ⟨cur, hcur⟩ := e3.own (k := sk) rfl
  have hT : TChg [139] w (w.setCell ⟨sk, fs.length * 3 + 2, none⟩ (.int .i64 ((f0.k : Int) + 1))) := TChg.setCell (TChg.refl _ w) (p := ⟨sk, fs.length * 3 + 2, none⟩) hcur (by simp) _
  have hk := e4 sk rfl
  refine ⟨⟨h.chg.setCell (fun hk => absurd hk (by simp; omega)) _, h.new, vl, ve, _, c', hT.blk e1 (by decide), e2.tchg hT (by decide) (by decide) (by decide) (by decide), ?_, e4⟩, hT.mono (by simp)⟩
  have h1 := own_set (i := fs.length * 3 + 2) e3 (.int .i64 ((f0.k : Int) + 1))
  have e : ((f0 :: fs).reverse.flatMap frCells).set (fs.length * 3 + 2) (.int .i64 ((f0.k : Int) + 1)) = ((⟨f0.r, f0.a, f0.k + 1⟩ : Pl.Fr) :: fs).reverse.flatMap frCells := by
    rw [frs_cons, frs_cons, List.set_append_right _ _ (by rw [frs_len]; simp), frs_len]
    simp [frCells]
  rw [e] at h1
  exact h1

/-- what grows is a block made since wx -/
theorem fs_first {wx wy w5 : World} {c0 : Array Value} {T : TypeId} {n : Nat} {k : Nat} (hy : wy = (wx.alloc (.cells c0 T)).drew) (h2 : wy.grownBy w5 (Value.slice (some ⟨wx.heap.size, 0, none⟩) n k).ownBlock) : Chg No wx w5 := by
  subst hy
  exact Chg.then (((Chg.refl No wx).alloc _).drew) (Chg.grownBy h2) (fun k hk e => by simp [Value.ownBlock] at e; omega)

theorem fs_own {wr wy : World} {c0 : Array Value} {T : TypeId} {v : Value} {n k0 : Nat} (hy : wy = (wr.alloc (.cells c0 T)).drew) (h3 : ∀ k, v.ownBlock = some k → (Value.slice (some ⟨wr.heap.size, 0, none⟩) n k0).ownBlock = some k ∨ k = wy.heap.size) : ∀ k, v.ownBlock = some k → wr.heap.size ≤ k := by
  intro k hk
  subst hy
  rcases h3 k hk with h | h
  · simp [Value.ownBlock] at h; omega
  · simp at h; omega
theorem own_app {w : World} {e : TypeId} {v : Value} {xs ys : List Int} (h : Own w e 1 v (xs.length + ys.length) (([] ++ xs.map iv1) ++ ys.map iv1)) : Rd1 w v (xs ++ ys) := by
  rw [List.nil_append, ← List.map_append] at h
  exact Own.rd1 h (by rw [List.length_append])

set_option maxHeartbeats 4000000 in
set_option maxRecDepth 100000 in
theorem first_any (w0 w : World) (mb lo hi p n q pp : Nat) (vg vI vR : Value) (g : Pl.Gr) (ts : List Int) (fs gs : List Pl.Fr) (d f : Bool) (alts : List (List Int)) (hM : Mac w0 w mb vg g lo hi ts gs p n d f) (G : Pl.GoodG g) (hv : Rd3 w0 vg g)
    (hts : ts.length < 100) (hr : g[q]? = some alts) (hp : pp ≤ ts.length) (hS : StepV w g fs vI vR) (hl : Pl.Linked g q fs) (hfs : fs.length < 1000) :
    Calls Tryz.prog 35 #[.pointer (some ⟨mb, 0, none⟩), .agg #[.int .i64 (q : Int), .int .i64 (pp : Int), vI, vR, .int .i64 0]] w fun e w' => ∃ x : Nat, e = .returned (.int .i64 (x : Int)) ∧ x ≤ alts.length ∧ Chg No w w' := by
  obtain ⟨vl, ve, A2, c2, e1, e2, e3, e4⟩ := hM.ex
  obtain ⟨A, c, rfl⟩ := hv.slice
  obtain ⟨AL, cL, rfl⟩ := e2.list.slice
  obtain ⟨AE, cE, rfl⟩ := e2.tab.slice
  obtain ⟨AR, cR, rfl⟩ := hS.rest.slice
  have hrl := (List.getElem?_eq_some_iff.1 hr).1
  have hrest := Pl.rest_len G fs q hl
  obtain ⟨b1, o1, A3, c3, rfl, h10, ht2⟩ := Rd3.at_ hv hr
  obtain ⟨w1, hw1⟩ : ∃ w1, w1 = w.alloc (.cells #[.int .i64 (q : Int), .int .i64 (pp : Int), vI, .slice AR (Pl.restOf g fs).length cR, .int .i64 0] 54) := ⟨_, rfl⟩
  have hc1 : Chg No w w1 := by rw [hw1]; exact (Chg.refl _ _).alloc _
  have hbx : Blk w1 w.heap.size #[.int .i64 (q : Int), .int .i64 (pp : Int), vI, .slice AR (Pl.restOf g fs).length cR, .int .i64 0] 54 := by rw [hw1]; exact Blk.new _ _ _
  have b0 : w1.cell? ⟨w.heap.size, 0, none⟩ = some (.int .i64 (q : Int)) := by rw [hbx.cell]; rfl
  have e1' := e1.chg hc1 (fun h => h)
  have m0 : w1.cell? ⟨mb, 0, none⟩ = some (.slice (some ⟨b1, o1, none⟩) g.length c) := by rw [e1'.cell]; rfl
  have k1 := Chg.kept (hM.chg.trans hc1) h10 (fun h => h)
  have q0 : (0 : Int) ≤ (q : Int) := by omega
  have q1 : (q : Int) < (g.length : Int) := by omega
  have HG := Lib.hid G
  have HL := Lib.hid hl
  have HR2 := Lib.hid (ht2.no (hM.chg.trans hc1))
  have HE1 := Lib.hid e1'
  have HE2 := Lib.hid (e2.no hc1)
  have HBX := Lib.hid hbx
  have HRest := Lib.hid ((hS.rest).no hc1)
  have HC1 := Lib.hid hc1
  have HR := Lib.hid hr
  clear hM hv hr hS hl e1 e2 e3 e4 h10 ht2 hc1 hbx e1' G
  go_enter Tryz.func35, Tryz.ntmps35
  go_wp2
  rw [← hw1]
  clear hw1
  go_quiet (fail)
  clear b0 m0
  go_wp2
  clear k1
  go_loopw [17] (fun i wr => ∃ a : Nat, a ≤ alts.length ∧ i = .int .i64 (a : Int) ∧ Chg No w1 wr) (fun i _ => alts.length - (intOf i).toNat)
  case atStart => exact ⟨0, Nat.zero_le _, rfl, (Chg.refl No w1).drewN _⟩
  case round =>
    obtain ⟨a, ha, rfl, hc⟩ := hrel
    by_cases hlt : a < alts.length
    · obtain ⟨alt, hu⟩ : ∃ u, alts[a]? = some u := ⟨_, List.getElem?_eq_getElem hlt⟩
      obtain ⟨b3, o3, A4, c4, rfl, h30, h4⟩ := Rd2.at_ HR2.out hu
      have h3 := Chg.kept hc h30 (fun h => h)
      have hal5 := HG.out.alt q alts alt HR.out (List.mem_of_getElem? hu)
      have hal4 := (HG.out.alts q alts HR.out).2
      have hE1 := HE1.out.chg hc (fun h => h)
      have hB := HBX.out.chg hc (fun h => h)
      have m0 : wr.cell? ⟨mb, 0, none⟩ = some (.slice (some ⟨b1, o1, none⟩) g.length c) := by rw [hE1.cell]; rfl
      have m1 : wr.cell? ⟨mb, 1, none⟩ = some (.slice AL ts.length cL) := by rw [hE1.cell]; rfl
      have m2 : wr.cell? ⟨mb, 2, none⟩ = some (.slice AE g.length cE) := by rw [hE1.cell]; rfl
      have x1 : wr.cell? ⟨w.heap.size, 1, none⟩ = some (.int .i64 (pp : Int)) := by rw [hB.cell]; rfl
      have x3 : wr.cell? ⟨w.heap.size, 3, none⟩ = some (.slice AR (Pl.restOf g fs).length cR) := by rw [hB.cell]; rfl
      have hwm := hE1.lt
      have hwb := hB.lt
      have HA := Lib.hid (SrcL.rd1 (h4.no hc))
      have hro := HRest.out.no hc
      have HRS := Lib.hid (SrcL.rd1 (Own.rd1 hro rfl))
      have HTx := Lib.hid (HE2.out.no hc)
      have HC := Lib.hid hc
      have hsy : ∀ s ∈ alt ++ Pl.restOf g fs, InI s ∧ (s ≤ -100 → Pl.idx s < g.length) := by
        intro s hs
        have hok : Pl.SymsOk g (alt ++ Pl.restOf g fs) := Pl.symsOk_append (HG.out.symsOk q alts alt HR.out (List.mem_of_getElem? hu)) (Pl.rest_syms HG.out fs q HL.out)
        rcases hok s hs with h | ⟨r, h1, rfl⟩
        · unfold Pl.TokOk at h
          unfold InI
          constructor <;> omega
        · have := HG.out.len6
          refine ⟨by unfold InI Pl.ofR; constructor <;> omega, fun _ => by rw [Pl.idx_ofR]; exact h1⟩
      have hg6 := HG.out.len6
      have HF := Lib.hid (fun w2 (h : Chg No wr w2) vs (hs : Rd1 w2 vs (alt ++ Pl.restOf g fs)) => fits_any w2 lo hi g.length (ts.length + 1) (.slice (some ⟨b1, o1, none⟩) g.length c) _ _ vs ts (alt ++ Pl.restOf g fs) pp (by omega) (HTx.out.no h) hs (by rw [List.length_append]; unfold maxLen; omega) hsy (by omega))
      clear hc h30 h4 hu hE1 hB hro hsy
      go_wp2
      clear h3
      go_region_held3 (fun w' => Chg No wr w' ∧ w'.cell? ⟨mb, 0, none⟩ = some (.slice (some ⟨b1, o1, none⟩) g.length c) ∧ w'.cell? ⟨mb, 1, none⟩ = some (.slice AL ts.length cL) ∧ w'.cell? ⟨mb, 2, none⟩ = some (.slice AE g.length cE) ∧ w'.cell? ⟨w.heap.size, 1, none⟩ = some (.int .i64 (pp : Int)) ∧ w'.cell? ⟨w.heap.size, 3, none⟩ = some (.slice AR (Pl.restOf g fs).length cR))
        (refine ⟨?_, ?_, ?_, ?_, ?_, ?_⟩ <;> first | with_reducible assumption | with_reducible exact (Chg.refl No wr).drew | with_reducible exact ((Chg.refl No wr).drew).alloc _ | with_reducible exact ((Chg.refl No wr).alloc _).drew | go_keep)
        (first | (go_at_call 47; refine (HF.out w6 HCH6.out _ HV2.out).mono ?_; rintro e w' ⟨bb, rfl, hcc⟩; have hch := HCH6.out.trans hcc; have HCH := Lib.hid hch; have n0 := Chg.kept hch m0 (fun h => h); have n1 := Chg.kept hch m1 (fun h => h); have n2 := Chg.kept hch m2 (fun h => h); have n3 := Chg.kept hch x1 (fun h => h); have n4 := Chg.kept hch x3 (fun h => h)) | (refine step_appS et29 rfl (.tmp 26) (.tmp 27) rfl (.slice (some ⟨wr.heap.size, 0, none⟩) 0 0) 0 [] rfl ?_ (.slice A4 alt.length c4) rfl alt.length (alt.map iv1) ?_ ?_ ?_ ?_ ?_ ?_; (first | exact own_made wr.drew wr.heap.size rfl 59 1 | exact own_made wr wr.heap.size rfl 59 1); exact HA.out.no (((Chg.refl No wr).alloc _).drew); simp; intro u hu; obtain ⟨y, _, rfl⟩ := List.mem_map.1 hu; rfl; omega; omega; intro A5 c5 w5 h1 h2 h3; have hch := fs_first rfl h2; have HV1 := Lib.hid h1; have HN1 := Lib.hid (fs_own rfl h3); have HCH1 := Lib.hid hch; have n0 := Chg.kept hch m0 (fun h => h); have n1 := Chg.kept hch m1 (fun h => h); have n2 := Chg.kept hch m2 (fun h => h); have n3 := Chg.kept hch x1 (fun h => h); have n4 := Chg.kept hch x3 (fun h => h); clear h1 h2 h3) | (refine step_appS et29 rfl (.tmp 28) (.tmp 30) rfl (.slice A5 (0 + alt.length) c5) (0 + alt.length) ([] ++ alt.map iv1) rfl ?_ (.slice AR (Pl.restOf g fs).length cR) rfl (Pl.restOf g fs).length ((Pl.restOf g fs).map iv1) ?_ ?_ ?_ ?_ ?_ ?_; exact HV1.out; exact HRS.out.no HCH1.out; simp; intro u hu; obtain ⟨y, _, rfl⟩ := List.mem_map.1 hu; rfl; omega; omega; intro A6 c6 w6 h1 h2 h3; have hch6 := HCH1.out.then (Chg.grownBy h2) (fun k hk e => by have := HN1.out k e.symm; omega); rw [Nat.zero_add] at h1; have HV2 := Lib.hid (own_app h1); have HCH6 := Lib.hid hch6; have v0 := Chg.kept hch6 m0 (fun h => h); have v1 := Chg.kept hch6 m1 (fun h => h); have v2 := Chg.kept hch6 m2 (fun h => h); have v3 := Chg.kept hch6 x1 (fun h => h); have v4 := Chg.kept hch6 x3 (fun h => h); clear h1 h2 h3))
      have HCF := Lib.hid (HC.out.trans HCH.out)
      clear hch hcc n0 n1 n2 n3 n4 v0 v1 v2 v3 v4 m0 m1 m2 x1 x3
      cases bb with
      | true =>
        go_wp2
        go_ret
        exact ⟨a + 1, by simp, by omega, HC1.out.trans HCF.out⟩
      | false =>
        go_wp2
        go_roundw
        case rel => exact ⟨a + 1, by omega, by go_num, HCF.out⟩
        case measure => simp [intOf]; omega
    · obtain rfl : a = alts.length := by omega
      have HC := Lib.hid hc
      clear hc
      go_wp2
      go_ret
      exact ⟨0, rfl, Nat.zero_le _, HC1.out.trans HC.out⟩
end Go.Proofs.YtemdillhbnmjkaaGreatDoor

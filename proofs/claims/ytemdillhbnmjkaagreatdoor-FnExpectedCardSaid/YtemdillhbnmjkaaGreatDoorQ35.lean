/- The network of a grammar as it is put together: what has come to be at each point. -/
import Derived.Test.YtemdillhbnmjkaaGreatDoorQ16
import Derived.Test.YtemdillhbnmjkaaGreatDoorQ32
import Derived.Test.YtemdillhbnmjkaaGreatDoorQ28
namespace Go.Proofs.YtemdillhbnmjkaaGreatDoor
open Go.RowKit

theorem flatMap_take {α β : Type} (f : α → List β) (l : List α) (j : Nat) (x : α) (h : l[j]? = some x) : (l.take (j + 1)).flatMap f = (l.take j).flatMap f ++ f x := by
  rw [List.take_add_one, h, List.flatMap_append]; simp
theorem map_take {α β : Type} (f : α → β) (l : List α) (j : Nat) (x : α) (h : l[j]? = some x) : (l.take (j + 1)).map f = (l.take j).map f ++ [f x] := by
  rw [List.take_add_one, h, List.map_append]; rfl
theorem zip_at {α : Type} {l : List α} {j : Nat} {x : α} (h : l[j]? = some x) : l.zipIdx[j]? = some (x, j) := by rw [List.getElem?_zipIdx, h]; simp
theorem range_take_succ {β : Type} (f : Nat → β) (n : Nat) : (List.range (n + 1)).map f = (List.range n).map f ++ [f n] := by rw [List.range_succ, List.map_append]; rfl

/-! states -/
def kindDs (R k r : Nat) : Ds :=
  match k with
  | 0 => ⟨.rstart, r, 0⟩
  | 1 => ⟨.rstop, r, 0⟩
  | 2 => ⟨.bstart, r, ((3 * R + r : Nat) : Int)⟩
  | _ => ⟨.bend, r, 0⟩
def kindN : List Int := [2, 7, 3, 8]
/-- the states of the first k kinds -/
def stK (R k : Nat) : List Ds := (List.range k).flatMap fun k' => (List.range R).map (kindDs R k')
theorem stK_succ (R k : Nat) : stK R (k + 1) = stK R k ++ (List.range R).map (kindDs R k) := by
  unfold stK; rw [List.range_succ, List.flatMap_append]; simp
theorem stK_len (R : Nat) : ∀ k, (stK R k).length = k * R
  | 0 => by simp [stK]
  | k + 1 => by rw [stK_succ, List.length_append, stK_len R k, Nat.add_mul]; simp
theorem stK_four (g : Pl.Gr) : stK g.length 4 ++ dsBasic g = dsOf g := by
  have e : stK g.length 4 = (List.range g.length).map (kindDs g.length 0) ++ ((List.range g.length).map (kindDs g.length 1) ++ ((List.range g.length).map (kindDs g.length 2) ++ (List.range g.length).map (kindDs g.length 3))) := by
    simp [stK, List.range_succ]
  rw [e]
  unfold dsOf
  simp only [List.append_assoc]
  rfl
def basicOf (r n : Nat) : List Ds := List.replicate n ⟨.basic, (r : Nat), 0⟩
/-- the states of the first r rules' alternatives -/
def stR (g : Pl.Gr) (r : Nat) : List Ds := (g.zipIdx.take r).flatMap fun x => basicOf x.2 (Pl.altLen x.1)
theorem stR_all (g : Pl.Gr) : stR g g.length = dsBasic g := by
  unfold stR dsBasic basicOf
  rw [List.take_of_length_le (by simp)]
theorem stR_succ {g : Pl.Gr} {r : Nat} {alts : List (List Int)} (h : g[r]? = some alts) : stR g (r + 1) = stR g r ++ basicOf r (Pl.altLen alts) := flatMap_take _ _ _ _ (zip_at h)
theorem basic_snoc (r n : Nat) : basicOf r n ++ [⟨.basic, (r : Nat), 0⟩] = basicOf r (n + 1) := by
  unfold basicOf; rw [List.replicate_succ']

/-! edges -/
def edm (e : Nat × Pl.Ed) : Nat × TD := (e.1, tdOf e.2)
def edR (g : Pl.Gr) (r : Nat) : List (Nat × Pl.Ed) := (g.zipIdx.take r).flatMap fun x => Pl.ruleEds g x.2 x.1
theorem edR_all (g : Pl.Gr) : (edR g g.length).map edm = edOf g := by
  unfold edR edOf Pl.allEds edm
  rw [List.take_of_length_le (by simp)]
theorem edR_succ {g : Pl.Gr} {r : Nat} {alts : List (List Int)} (h : g[r]? = some alts) : edR g (r + 1) = edR g r ++ Pl.ruleEds g r alts := flatMap_take _ _ _ _ (zip_at h)
def altE (g : Pl.Gr) (r : Nat) (x : List Int × Nat) : List (Nat × Pl.Ed) := (2 * g.length + r, Pl.Ed.eps (Pl.place g r x.2)) :: Pl.altEds g.length r (Pl.place g r x.2) x.1
/-- within rule r, behind the first a alternatives -/
def edA (g : Pl.Gr) (r : Nat) (alts : List (List Int)) (a : Nat) : List (Nat × Pl.Ed) := edR g r ++ (r, Pl.Ed.eps (2 * g.length + r)) :: (alts.zipIdx.take a).flatMap (altE g r)
theorem edA_zero (g : Pl.Gr) (r : Nat) (alts : List (List Int)) : edA g r alts 0 = edR g r ++ [(r, Pl.Ed.eps (2 * g.length + r))] := by simp [edA]
/-- within an alternative, behind its first k symbols -/
def edK (g : Pl.Gr) (r : Nat) (alts : List (List Int)) (a : Nat) (alt : List Int) (k : Nat) : List (Nat × Pl.Ed) :=
  edA g r alts a ++ (2 * g.length + r, Pl.Ed.eps (Pl.place g r a)) :: (alt.zipIdx.take k).map fun x => (Pl.place g r a + x.2, Pl.symEd x.1 (Pl.place g r a + x.2 + 1))
theorem edK_zero (g : Pl.Gr) (r : Nat) (alts : List (List Int)) (a : Nat) (alt : List Int) : edK g r alts a alt 0 = edA g r alts a ++ [(2 * g.length + r, Pl.Ed.eps (Pl.place g r a))] := by simp [edK]
theorem edK_succ {g : Pl.Gr} {r : Nat} {alts : List (List Int)} {a : Nat} {alt : List Int} {k : Nat} {s : Int} (h : alt[k]? = some s) :
    edK g r alts a alt (k + 1) = edK g r alts a alt k ++ [(Pl.place g r a + k, Pl.symEd s (Pl.place g r a + k + 1))] := by
  unfold edK
  rw [map_take _ _ _ _ (zip_at h)]
  simp
theorem edA_succ {g : Pl.Gr} {r : Nat} {alts : List (List Int)} {a : Nat} {alt : List Int} (h : alts[a]? = some alt) :
    edA g r alts (a + 1) = edK g r alts a alt alt.length ++ [(Pl.place g r a + alt.length, Pl.Ed.eps (3 * g.length + r))] := by
  have h1 := flatMap_take (altE g r) alts.zipIdx a (alt, a) (zip_at h)
  have h2 : alt.zipIdx.take alt.length = alt.zipIdx := List.take_of_length_le (by simp)
  unfold edK
  rw [h2]
  unfold edA
  rw [h1]
  simp [altE, Pl.altEds]
theorem edR_end {g : Pl.Gr} {r : Nat} {alts : List (List Int)} (h : g[r]? = some alts) : edR g (r + 1) = edA g r alts alts.length ++ [(3 * g.length + r, Pl.Ed.eps (g.length + r))] := by
  rw [edR_succ h]
  unfold edA Pl.ruleEds Pl.altsEds
  rw [List.take_of_length_le (by simp)]
  simp
  rfl

/-! in memory -/
def specN (S : List Ds) (Rs : List Nat) (E : List (Nat × Pl.Ed)) (D : List Nat) : List CS :=
  [.const (.int .i64 4), .row 81 3 S.length (S.flatMap st3), .row 3 1 Rs.length (Rs.map fun x => .int .i64 (x : Nat)), .row 84 6 E.length ((E.map edm).flatMap ed6), .row 3 1 D.length (D.map fun x => .int .i64 (x : Nat))]
theorem specN_S (S : List Ds) (Rs : List Nat) (E : List (Nat × Pl.Ed)) (D : List Nat) (x : Ds) : (specN S Rs E D).set 1 (.row 81 3 (S.length + 1) (S.flatMap st3 ++ st3 x)) = specN (S ++ [x]) Rs E D := by
  simp [specN]
theorem specN_R (S : List Ds) (Rs : List Nat) (E : List (Nat × Pl.Ed)) (D : List Nat) (x : Nat) : (specN S Rs E D).set 2 (.row 3 1 (Rs.length + 1) ((Rs.map fun x => Value.int .i64 (x : Nat)) ++ [.int .i64 (x : Nat)])) = specN S (Rs ++ [x]) E D := by
  simp [specN]
theorem specN_E (S : List Ds) (Rs : List Nat) (E : List (Nat × Pl.Ed)) (D : List Nat) (x : Nat × Pl.Ed) : (specN S Rs E D).set 3 (.row 84 6 (E.length + 1) ((E.map edm).flatMap ed6 ++ ed6 (edm x))) = specN S Rs (E ++ [x]) D := by
  simp [specN]
theorem specN_D (S : List Ds) (Rs : List Nat) (E : List (Nat × Pl.Ed)) (D : List Nat) (x : Nat) : (specN S Rs E D).set 4 (.row 3 1 (D.length + 1) ((D.map fun x => Value.int .i64 (x : Nat)) ++ [.int .i64 (x : Nat)])) = specN S Rs E (D ++ [x]) := by
  simp [specN]
def zN : Array Value := #[.int .i64 0, .slice none 0 0, .slice none 0 0, .slice none 0 0, .slice none 0 0]
def kN : Array Value := #[.int .i64 2, .int .i64 7, .int .i64 3, .int .i64 8]
def sideN (w : World) : List (Nat × Array Value × TypeId) := [(w.heap.size, zN, 78), (w.heap.size + 2, kN, 3)]
/-- what has been put together -/
structure CRel (w wr : World) (S : List Ds) (Rs : List Nat) (E : List (Nat × Pl.Ed)) (D : List Nat) (nS nE : Nat) : Prop where
  re : Rec w wr (w.heap.size + 1) 78 (specN S Rs E D) (sideN w)
  lS : S.length ≤ nS
  lE : E.length ≤ nE
theorem CRel.no {w wr w' : World} {S : List Ds} {Rs : List Nat} {E : List (Nat × Pl.Ed)} {D : List Nat} {nS nE : Nat} (h : CRel w wr S Rs E D nS nE) (hc : Chg No wr w') : CRel w w' S Rs E D nS nE := ⟨h.re.no hc, h.lS, h.lE⟩
theorem CRel.cells {w wr : World} {S : List Ds} {Rs : List Nat} {E : List (Nat × Pl.Ed)} {D : List Nat} {nS nE : Nat} (h : CRel w wr S Rs E D nS nE) :
    (∃ A c, wr.cell? ⟨w.heap.size + 1, 1, none⟩ = some (.slice A S.length c)) ∧ (∃ A c, wr.cell? ⟨w.heap.size + 1, 2, none⟩ = some (.slice A Rs.length c)) ∧ (∃ A c, wr.cell? ⟨w.heap.size + 1, 3, none⟩ = some (.slice A E.length c)) ∧ (∃ A c, wr.cell? ⟨w.heap.size + 1, 4, none⟩ = some (.slice A D.length c)) := by
  refine ⟨?_, ?_, ?_, ?_⟩
  · obtain ⟨A, c, h1, _⟩ := h.re.row (i := 1) rfl; exact ⟨A, c, h1⟩
  · obtain ⟨A, c, h1, _⟩ := h.re.row (i := 2) rfl; exact ⟨A, c, h1⟩
  · obtain ⟨A, c, h1, _⟩ := h.re.row (i := 3) rfl; exact ⟨A, c, h1⟩
  · obtain ⟨A, c, h1, _⟩ := h.re.row (i := 4) rfl; exact ⟨A, c, h1⟩
theorem CRel.start (w : World) : CRel w (((w.alloc (.cells zN 78)).alloc (.cells #[.int .i64 4, .slice none 0 0, .slice none 0 0, .slice none 0 0, .slice none 0 0] 78)).alloc (.cells kN 3)) [] [] [] [] 0 0 := by
  refine ⟨Rec.start (by omega) ((((Chg.refl _ _).alloc _).alloc _).alloc _) ?_ [.int .i64 4, .slice none 0 0, .slice none 0 0, .slice none 0 0, .slice none 0 0] rfl ((Blk.at_new (by simp) _ _).alloc _) ?_, by simp, by simp⟩
  · intro x hx
    simp [sideN] at hx
    rcases hx with rfl | rfl
    · exact ⟨((Blk.new w _ _).alloc _).alloc _, by simp⟩
    · exact ⟨Blk.at_new (by simp) _ _, by simp⟩
  · intro i v s h1 h2
    match i, h1, h2 with
    | 0, h1, h2 => cases h1; cases h2; exact .inl rfl
    | 1, h1, h2 => cases h1; cases h2; exact .inr ⟨rfl, _, _, rfl⟩
    | 2, h1, h2 => cases h1; cases h2; exact .inr ⟨rfl, _, _, rfl⟩
    | 3, h1, h2 => cases h1; cases h2; exact .inr ⟨rfl, _, _, rfl⟩
    | 4, h1, h2 => cases h1; cases h2; exact .inr ⟨rfl, _, _, rfl⟩
    | n + 5, h1, _ => simp at h1
theorem CRel.kind {w wr : World} {S : List Ds} {Rs : List Nat} {E : List (Nat × Pl.Ed)} {D : List Nat} {nS nE : Nat} (h : CRel w wr S Rs E D nS nE) {k : Nat} {kd : Int} (hk : kindN[k]? = some kd) : wr.cell? ⟨w.heap.size + 2, k, none⟩ = some (.int .i64 kd) := by
  have h1 := (h.re.sides (w.heap.size + 2, kN, 3) (by simp [sideN])).1
  rw [h1.cell]
  match k, hk with
  | 0, hk => cases hk; rfl
  | 1, hk => cases hk; rfl
  | 2, hk => cases hk; rfl
  | 3, hk => cases hk; rfl
  | n + 4, hk => simp [kindN] at hk
theorem CRel.res {w wr : World} {S : List Ds} {Rs : List Nat} {E : List (Nat × Pl.Ed)} {D : List Nat} {nS nE : Nat} (h : CRel w wr S Rs E D nS nE) : Blk wr w.heap.size zN 78 := (h.re.sides (w.heap.size, zN, 78) (by simp [sideN])).1

theorem et75 : ET 75 81 (.agg #[.int .i64 0, .int .i64 0, .int .i64 0]) 3 24 := ⟨by kernel_rfl, by kernel_rfl, rfl, by decide⟩
theorem et76 : ET 76 84 (.agg #[.int .i64 0, .int .i64 0, .int .i64 0, .int .i64 0, .int .i64 0, .int .i64 0]) 6 48 := ⟨by kernel_rfl, by kernel_rfl, rfl, by decide⟩
theorem et36' : ET 36 3 (.int .i64 0) 1 8 := ⟨by kernel_rfl, by kernel_rfl, rfl, by decide⟩
end Go.Proofs.YtemdillhbnmjkaaGreatDoor

/- What can be nothing, what begins with what, and the tokens with which symbols can begin: the reference's own ways of reckoning them, and that they are right. · The search through a network, step by step; and what it finds from the states of a grammar's network. -/
import Derived.Test.YtemdillhbnmjkaaGreatDoorQ01
namespace Go.Proofs.YtemdillhbnmjkaaGreatDoor.Pl

def idx (s : Int) : Nat := (-100 - s).toNat
def gb (l : List Bool) (i : Nat) : Bool := (l[i]?).getD false
theorem idx_ofR (q : Nat) : idx (ofR q) = q := by unfold idx ofR; omega
theorem ofR_idx {s : Int} (h : s ≤ -100) : ofR (idx s) = s := by unfold idx ofR; omega
theorem gb_set (l : List Bool) (i j : Nat) (b : Bool) (hi : i < l.length) : gb (l.set i b) j = if j = i then b else gb l j := by
  unfold gb
  rw [List.getElem?_set]
  by_cases h : i = j
  · subst h; simp [hi]
  · rw [if_neg h, if_neg (Ne.symm h)]
theorem gb_ge (l : List Bool) (i : Nat) (h : l.length ≤ i) : gb l i = false := by unfold gb; rw [List.getElem?_eq_none h]; rfl
theorem gb_ext {a b : List Bool} (hl : a.length = b.length) (h : ∀ i, gb a i = gb b i) : a = b := by
  apply List.ext_getElem hl
  intro i h1 h2
  have := h i
  unfold gb at this
  rwa [List.getElem?_eq_getElem h1, List.getElem?_eq_getElem h2] at this

/-! rows of truths that grow -/
def Le (a b : List Bool) : Prop := a.length = b.length ∧ ∀ i, gb a i = true → gb b i = true
theorem Le.refl (a : List Bool) : Le a a := ⟨rfl, fun _ h => h⟩
theorem Le.trans {a b c : List Bool} (h : Le a b) (k : Le b c) : Le a c := ⟨h.1.trans k.1, fun i hi => k.2 i (h.2 i hi)⟩
theorem Le.antisymm {a b : List Bool} (h : Le a b) (k : Le b a) : a = b := by
  refine gb_ext h.1 (fun i => ?_)
  have h1 := h.2 i
  have h2 := k.2 i
  cases h3 : gb a i <;> cases h4 : gb b i <;> simp_all
theorem Le.tail {x y : Bool} {a b : List Bool} (h : Le (x :: a) (y :: b)) : Le a b ∧ (x = true → y = true) :=
  ⟨⟨by simpa using h.1, fun i hi => by have := h.2 (i + 1); unfold gb at this hi ⊢; simp at this; exact this hi⟩, fun hx => by have := h.2 0; unfold gb at this; simp at this; exact this hx⟩
theorem Le.count : ∀ {a b : List Bool}, Le a b → a.count true ≤ b.count true ∧ (a.count true = b.count true → a = b)
  | [], [], _ => by simp
  | [], _ :: _, h => by have := h.1; simp at this
  | _ :: _, [], h => by have := h.1; simp at this
  | x :: a, y :: b, h => by
    obtain ⟨h1, h2⟩ := h.tail
    obtain ⟨h3, h4⟩ := Le.count h1
    cases x <;> cases y <;> simp at h2 ⊢
    · exact ⟨h3, h4⟩
    · omega
    · exact ⟨h3, h4⟩

def iter {α : Type} (f : α → α) : Nat → α → α
  | 0, x => x
  | n + 1, x => f (iter f n x)
theorem iter_fix (f : List Bool → List Bool) (R : Nat) (hf : ∀ x, x.length = R → Le x (f x)) (x0 : List Bool) (h0 : x0.length = R) : f (iter f R x0) = iter f R x0 ∧ (iter f R x0).length = R := by
  have hlen : ∀ n, (iter f n x0).length = R := by
    intro n
    induction n with
    | zero => exact h0
    | succ n ih => exact ((hf _ ih).1).symm.trans ih
  have key : ∀ n, f (iter f n x0) = iter f n x0 ∨ n ≤ (iter f n x0).count true := by
    intro n
    induction n with
    | zero => exact .inr (Nat.zero_le _)
    | succ n ih =>
      rcases ih with h | h
      · left; show f (f (iter f n x0)) = f (iter f n x0); rw [h, h]
      · by_cases hx : f (iter f n x0) = iter f n x0
        · left; show f (f (iter f n x0)) = f (iter f n x0); rw [hx, hx]
        · right
          obtain ⟨h1, h2⟩ := (hf _ (hlen n)).count
          have : (iter f n x0).count true ≠ (f (iter f n x0)).count true := fun e => hx (h2 e).symm
          show n + 1 ≤ (f (iter f n x0)).count true
          omega
  refine ⟨?_, hlen R⟩
  rcases key R with h | h
  · exact h
  · obtain ⟨h1, h2⟩ := (hf _ (hlen R)).count
    have h3 := List.count_le_length (a := true) (l := f (iter f R x0))
    have h4 : (f (iter f R x0)).length = R := ((hf _ (hlen R)).1).symm.trans (hlen R)
    exact (h2 (by omega)).symm
theorem fold_le {α : Type} (h : List Bool → α → List Bool) (R : Nat) (l : List α) (hh : ∀ x a, a ∈ l → x.length = R → Le x (h x a)) (x : List Bool) (hx : x.length = R) : Le x (l.foldl h x) := by
  induction l generalizing x with
  | nil => exact Le.refl _
  | cons a l ih =>
    have h1 := hh x a (by simp) hx
    exact h1.trans (ih (fun x a ha => hh x a (by simp [ha])) _ (h1.1.symm.trans hx))
theorem fold_fix {α : Type} (h : List Bool → α → List Bool) (R : Nat) (l : List α) (hh : ∀ x a, a ∈ l → x.length = R → Le x (h x a)) (x : List Bool) (hx : x.length = R) (hfix : l.foldl h x = x) : ∀ a ∈ l, h x a = x := by
  induction l with
  | nil => intro a ha; simp at ha
  | cons b l ih =>
    have h1 := hh x b (by simp) hx
    have h2 : Le (h x b) (l.foldl h (h x b)) := fold_le h R l (fun x a ha => hh x a (by simp [ha])) _ (h1.1.symm.trans hx)
    rw [List.foldl_cons] at hfix
    rw [hfix] at h2
    have h3 : h x b = x := h2.antisymm h1
    rw [h3] at hfix
    intro a ha
    rcases List.mem_cons.1 ha with rfl | ha
    · exact h3
    · exact ih (fun x a ha => hh x a (by simp [ha])) hfix a ha

/-! what can be nothing -/
def nullAlt (o : List Bool) (alt : List Int) : Bool := alt.all fun s => decide (s ≤ -100) && gb o (idx s)
def nullStep (r : Nat) (o : List Bool) (alt : List Int) : List Bool := o.set r (gb o r || nullAlt o alt)
def nullRule (o : List Bool) (x : List (List Int) × Nat) : List Bool := x.1.foldl (nullStep x.2) o
def nullRound (g : Gr) (o : List Bool) : List Bool := g.zipIdx.foldl nullRule o
def emptyOf (g : Gr) : List Bool := iter (nullRound g) g.length (List.replicate g.length false)

theorem nullStep_le (r : Nat) (o : List Bool) (alt : List Int) : Le o (nullStep r o alt) := by
  refine ⟨by simp [nullStep], fun i hi => ?_⟩
  unfold nullStep
  rcases Nat.lt_or_ge r o.length with h | h
  · rw [gb_set _ _ _ _ h]
    split
    · subst r; simp [hi]
    · exact hi
  · rw [List.set_eq_of_length_le h]; exact hi
theorem nullRule_le (o : List Bool) (x : List (List Int) × Nat) : Le o (nullRule o x) := fold_le _ o.length _ (fun _ _ _ _ => nullStep_le _ _ _) _ rfl
theorem nullRound_le (g : Gr) (o : List Bool) : Le o (nullRound g o) := fold_le _ o.length _ (fun _ _ _ _ => nullRule_le _ _) _ rfl
theorem zip_mem {α : Type} {l : List α} {x : α} {i : Nat} (h : l[i]? = some x) : (x, i) ∈ l.zipIdx := List.mem_zipIdx_iff_getElem?.2 h

theorem emptyOf_fix (g : Gr) : (emptyOf g).length = g.length ∧ ∀ r alts alt, g[r]? = some alts → alt ∈ alts → nullAlt (emptyOf g) alt = true → gb (emptyOf g) r = true := by
  obtain ⟨h1, h2⟩ := iter_fix (nullRound g) g.length (fun x _ => nullRound_le g x) (List.replicate g.length false) (by simp)
  refine ⟨h2, fun r alts alt hr ha hn => ?_⟩
  have h3 := fold_fix nullRule g.length g.zipIdx (fun y a _ _ => nullRule_le _ _) _ h2 h1 (alts, r) (zip_mem hr)
  have h4 := fold_fix (nullStep r) g.length alts (fun y a _ _ => nullStep_le _ _ _) _ h2 h3 alt ha
  have hrl := (List.getElem?_eq_some_iff.1 hr).1
  have h5 : gb (nullStep r (emptyOf g) alt) r = gb (emptyOf g) r := congrArg (fun l => gb l r) h4
  unfold nullStep at h5
  rw [gb_set _ _ _ _ (by rw [show (emptyOf g).length = g.length from h2]; exact hrl), if_pos rfl, hn, Bool.or_true] at h5
  exact h5.symm

theorem nullAlt_of {g : Gr} {o : List Bool} {alt : List Int} (ho : ∀ r, gb o r = true → NullR g r) (h : nullAlt o alt = true) : Null g alt := by
  induction alt with
  | nil => exact .nil
  | cons s rest ih =>
    unfold nullAlt at h ih
    rw [List.all_cons, Bool.and_eq_true, Bool.and_eq_true] at h
    obtain ⟨⟨h1, h2⟩, h3⟩ := h
    have e := ofR_idx (s := s) (by simpa using h1)
    have h4 : Null g (ofR (idx s) :: rest) := null_cons.2 ⟨ho _ h2, ih h3⟩
    rwa [e] at h4
theorem emptyOf_sound (g : Gr) : ∀ r, gb (emptyOf g) r = true → NullR g r := by
  have step : ∀ o, (∀ r, gb o r = true → NullR g r) → ∀ r, gb (nullRound g o) r = true → NullR g r := by
    intro o ho
    have : ∀ (l : List (List (List Int) × Nat)), (∀ x ∈ l, x ∈ g.zipIdx) → ∀ o, (∀ r, gb o r = true → NullR g r) → ∀ r, gb (l.foldl nullRule o) r = true → NullR g r := by
      intro l
      induction l with
      | nil => intro _ o ho; exact ho
      | cons x l ih =>
        intro hx o ho
        rw [List.foldl_cons]
        refine ih (fun y hy => hx y (by simp [hy])) _ ?_
        have hg : g[x.2]? = some x.1 := List.mem_zipIdx_iff_getElem?.1 (hx x (by simp))
        have : ∀ (as : List (List Int)), (∀ a ∈ as, a ∈ x.1) → ∀ o, (∀ r, gb o r = true → NullR g r) → ∀ r, gb (as.foldl (nullStep x.2) o) r = true → NullR g r := by
          intro as
          induction as with
          | nil => intro _ o ho; exact ho
          | cons a as ih2 =>
            intro ha o ho
            rw [List.foldl_cons]
            refine ih2 (fun b hb => ha b (by simp [hb])) _ (fun r hr => ?_)
            unfold nullStep at hr
            rcases Nat.lt_or_ge x.2 o.length with h | h
            · rw [gb_set _ _ _ _ h] at hr
              split at hr
              · subst r
                rw [Bool.or_eq_true] at hr
                rcases hr with hr | hr
                · exact ho _ hr
                · exact ⟨_, _, hg, ha a (by simp), nullAlt_of ho hr⟩
              · exact ho _ hr
            · rw [List.set_eq_of_length_le h] at hr; exact ho _ hr
        exact this x.1 (fun _ h => h) o ho
    exact this g.zipIdx (fun _ h => h) o ho
  have : ∀ n r, gb (iter (nullRound g) n (List.replicate g.length false)) r = true → NullR g r := by
    intro n
    induction n with
    | zero =>
      intro r hr
      unfold iter gb at hr
      rw [List.getElem?_replicate] at hr
      split at hr <;> simp at hr
    | succ n ih => exact step _ ih
  exact this _
theorem null_alt {g : Gr} {alt : List Int} (h : Null g alt) : nullAlt (emptyOf g) alt = true := by
  induction h with
  | nil => rfl
  | @cons q alts alt rest h1 h2 _ _ ih1 ih2 =>
    unfold nullAlt at ih1 ih2 ⊢
    rw [List.all_cons, ih2, idx_ofR, (emptyOf_fix g).2 q alts alt h1 h2 ih1, Bool.and_true, Bool.and_true]
    exact decide_eq_true (by unfold ofR; omega)
theorem empty_iff (g : Gr) (r : Nat) : gb (emptyOf g) r = true ↔ NullR g r := by
  refine ⟨emptyOf_sound g r, ?_⟩
  rintro ⟨alts, alt, h1, h2, h3⟩
  exact (emptyOf_fix g).2 r alts alt h1 h2 (null_alt h3)

/-! what begins with what -/
abbrev Mat := List (List Bool)
def row (M : Mat) (r : Nat) : List Bool := (M[r]?).getD []
def orRow (a b : List Bool) : List Bool := (List.range a.length).map fun i => gb a i || gb b i
def leftAlt (none : List Bool) (r : Nat) : List Int → Mat → Mat
  | [], M => M
  | s :: rest, M =>
    if -100 < s then M
    else
      let M1 := M.set r ((row M r).set (idx s) true)
      let M2 := M1.set r (orRow (row M1 r) (row M1 (idx s)))
      if gb none (idx s) then leftAlt none r rest M2 else M2
def leftRule (none : List Bool) (M : Mat) (x : List (List Int) × Nat) : Mat := x.1.foldl (fun M alt => leftAlt none x.2 alt M) M
def leftRound (g : Gr) (none : List Bool) (M : Mat) : Mat := g.zipIdx.foldl (leftRule none) M
def leftOf (g : Gr) : Mat := iter (leftRound g (emptyOf g)) g.length (List.replicate g.length (List.replicate g.length false))

/-- one column -/
def col (k : Nat) (M : Mat) : List Bool := M.map fun row => gb row k
def colAlt (none : List Bool) (r k : Nat) : List Int → List Bool → List Bool
  | [], c => c
  | s :: rest, c =>
    if -100 < s then c
    else
      let c2 := c.set r (gb c r || (decide (idx s = k) || gb c (idx s)))
      if gb none (idx s) then colAlt none r k rest c2 else c2
def colRule (none : List Bool) (k : Nat) (c : List Bool) (x : List (List Int) × Nat) : List Bool := x.1.foldl (fun c alt => colAlt none x.2 k alt c) c
def colRound (g : Gr) (none : List Bool) (k : Nat) (c : List Bool) : List Bool := g.zipIdx.foldl (colRule none k) c

/-- a square of R rows -/
def Sq (R : Nat) (M : Mat) : Prop := M.length = R ∧ ∀ row ∈ M, row.length = R
theorem col_at {M : Mat} {k r : Nat} : gb (col k M) r = gb (row M r) k := by
  unfold gb col row
  rw [List.getElem?_map]
  cases M[r]? <;> simp [gb]
theorem col_set {M : Mat} {k r : Nat} {v : List Bool} : col k (M.set r v) = (col k M).set r (gb v k) := by
  unfold col; rw [List.map_set]
theorem row_len {R : Nat} {M : Mat} (h : Sq R M) {r : Nat} (hr : r < R) : (row M r).length = R := by
  unfold row
  rw [List.getElem?_eq_getElem (by rw [h.1]; exact hr)]
  exact h.2 _ (List.getElem_mem _)
theorem sq_set {R : Nat} {M : Mat} (h : Sq R M) {r : Nat} {v : List Bool} (hv : v.length = R) : Sq R (M.set r v) := by
  refine ⟨by simpa using h.1, fun x hx => ?_⟩
  rcases List.mem_or_eq_of_mem_set hx with hx | rfl
  · exact h.2 x hx
  · exact hv
theorem row_set {R : Nat} {M : Mat} (h : Sq R M) {r q : Nat} {v : List Bool} (hr : r < R) : row (M.set r v) q = if q = r then v else row M q := by
  unfold row
  rw [List.getElem?_set]
  by_cases e : r = q
  · subst e; simp [h.1, hr]
  · rw [if_neg e, if_neg (Ne.symm e)]
theorem gb_orRow (a b : List Bool) (i : Nat) (h : i < a.length) : gb (orRow a b) i = (gb a i || gb b i) := by
  unfold orRow
  rw [gb, List.getElem?_map, List.getElem?_range h]
  rfl
theorem orRow_len (a b : List Bool) : (orRow a b).length = a.length := by simp [orRow]

theorem leftAlt_col {R : Nat} (none : List Bool) (r k : Nat) (hr : r < R) (hk : k < R) : ∀ (l : List Int) (M : Mat), Sq R M → (∀ s ∈ l, s ≤ -100 → idx s < R) → Sq R (leftAlt none r l M) ∧ col k (leftAlt none r l M) = colAlt none r k l (col k M)
  | [], M, h, _ => ⟨h, rfl⟩
  | s :: rest, M, h, hs => by
    unfold leftAlt colAlt
    by_cases ht : -100 < s
    · rw [if_pos ht, if_pos ht]; exact ⟨h, rfl⟩
    · rw [if_neg ht, if_neg ht]
      have hq : idx s < R := hs s (by simp) (by omega)
      have h1 : Sq R (M.set r ((row M r).set (idx s) true)) := sq_set h (by simpa using row_len h hr)
      have h2 : Sq R ((M.set r ((row M r).set (idx s) true)).set r (orRow (row (M.set r ((row M r).set (idx s) true)) r) (row (M.set r ((row M r).set (idx s) true)) (idx s)))) :=
        sq_set h1 (by rw [orRow_len]; exact row_len h1 hr)
      have hc : col k ((M.set r ((row M r).set (idx s) true)).set r (orRow (row (M.set r ((row M r).set (idx s) true)) r) (row (M.set r ((row M r).set (idx s) true)) (idx s)))) =
          (col k M).set r (gb (col k M) r || (decide (idx s = k) || gb (col k M) (idx s))) := by
        rw [col_set, col_set, List.set_set, gb_orRow _ _ _ (by rw [row_len h1 hr]; exact hk), row_set h hr, if_pos rfl, row_set h hr, gb_set _ _ _ _ (by rw [row_len h hr]; exact hq), col_at, col_at]
        congr 1
        by_cases e : idx s = r
        · rw [if_pos e, gb_set _ _ _ _ (by rw [row_len h hr]; exact hq), e]
          by_cases e2 : k = r
          · simp [e2]
          · rw [if_neg (by omega)]
            have : decide (r = k) = false := by simpa using fun h => e2 h.symm
            rw [this]; simp
        · rw [if_neg e]
          by_cases e2 : k = idx s
          · simp [e2]
          · rw [if_neg e2]
            have : decide (idx s = k) = false := by simpa using fun h => e2 h.symm
            rw [this]; simp
      split
      · have := leftAlt_col none r k hr hk rest _ h2 (fun s hs' => hs s (by simp [hs']))
        exact ⟨this.1, by rw [this.2, hc]⟩
      · exact ⟨h2, hc⟩

theorem colAlt_le (none : List Bool) (r k : Nat) : ∀ (l : List Int) (c : List Bool), Le c (colAlt none r k l c)
  | [], c => Le.refl c
  | s :: rest, c => by
    unfold colAlt
    have h1 : Le c (c.set r (gb c r || (decide (idx s = k) || gb c (idx s)))) := by
      refine ⟨by simp, fun i hi => ?_⟩
      rcases Nat.lt_or_ge r c.length with h | h
      · rw [gb_set _ _ _ _ h]
        split
        · subst r; simp [hi]
        · exact hi
      · rw [List.set_eq_of_length_le h]; exact hi
    split
    · exact Le.refl c
    · split
      · exact h1.trans (colAlt_le none r k rest _)
      · exact h1

theorem colRule_le (none : List Bool) (k : Nat) (c : List Bool) (x : List (List Int) × Nat) : Le c (colRule none k c x) := fold_le _ c.length _ (fun y a _ _ => colAlt_le none x.2 k a y) _ rfl
theorem colRound_le (g : Gr) (none : List Bool) (k : Nat) (c : List Bool) : Le c (colRound g none k c) := fold_le _ c.length _ (fun y a _ _ => colRule_le none k y a) _ rfl

/-- all rules that are named are there -/
def InG (g : Gr) : Prop := ∀ (r : Nat) alts alt, g[r]? = some alts → alt ∈ alts → ∀ s ∈ alt, s ≤ -100 → idx s < g.length

theorem leftRound_col {g : Gr} (hg : InG g) (none : List Bool) (k : Nat) (hk : k < g.length) (M : Mat) (hM : Sq g.length M) : Sq g.length (leftRound g none M) ∧ col k (leftRound g none M) = colRound g none k (col k M) := by
  have : ∀ (l : List (List (List Int) × Nat)), (∀ x ∈ l, x ∈ g.zipIdx) → ∀ M, Sq g.length M → Sq g.length (l.foldl (leftRule none) M) ∧ col k (l.foldl (leftRule none) M) = l.foldl (colRule none k) (col k M) := by
    intro l
    induction l with
    | nil => intro _ M hM; exact ⟨hM, rfl⟩
    | cons x l ih =>
      intro hx M hM
      have hgx : g[x.2]? = some x.1 := List.mem_zipIdx_iff_getElem?.1 (hx x (by simp))
      have hxl := (List.getElem?_eq_some_iff.1 hgx).1
      have inner : ∀ (as : List (List Int)), (∀ a ∈ as, a ∈ x.1) → ∀ M, Sq g.length M → Sq g.length (as.foldl (fun M alt => leftAlt none x.2 alt M) M) ∧ col k (as.foldl (fun M alt => leftAlt none x.2 alt M) M) = as.foldl (fun c alt => colAlt none x.2 k alt c) (col k M) := by
        intro as
        induction as with
        | nil => intro _ M hM; exact ⟨hM, rfl⟩
        | cons a as ih2 =>
          intro ha M hM
          obtain ⟨h1, h2⟩ := leftAlt_col none x.2 k hxl hk a M hM (hg x.2 x.1 a hgx (ha a (by simp)))
          rw [List.foldl_cons, List.foldl_cons, ← h2]
          exact ih2 (fun b hb => ha b (by simp [hb])) _ h1
      obtain ⟨h1, h2⟩ := inner x.1 (fun _ h => h) M hM
      rw [List.foldl_cons, List.foldl_cons]
      have e : colRule none k (col k M) x = col k (leftRule none M x) := h2.symm
      rw [e]
      exact ih (fun y hy => hx y (by simp [hy])) _ h1
  exact this g.zipIdx (fun _ h => h) M hM

theorem leftOf_col {g : Gr} (hg : InG g) (k : Nat) (hk : k < g.length) : Sq g.length (leftOf g) ∧ col k (leftOf g) = iter (colRound g (emptyOf g) k) g.length (List.replicate g.length false) := by
  have : ∀ n, Sq g.length (iter (leftRound g (emptyOf g)) n (List.replicate g.length (List.replicate g.length false))) ∧
      col k (iter (leftRound g (emptyOf g)) n (List.replicate g.length (List.replicate g.length false))) = iter (colRound g (emptyOf g) k) n (List.replicate g.length false) := by
    intro n
    induction n with
    | zero =>
      refine ⟨⟨by simp [iter], fun row hrow => ?_⟩, ?_⟩
      · simp [iter] at hrow; simp [hrow.2]
      · simp only [iter, col, List.map_replicate]
        have : gb (List.replicate g.length false) k = false := by
          unfold gb; rw [List.getElem?_replicate]; split <;> rfl
        rw [this]
    | succ n ih =>
      obtain ⟨h1, h2⟩ := leftRound_col hg (emptyOf g) k hk _ ih.1
      exact ⟨h1, by show col k (leftRound g (emptyOf g) _) = _; rw [h2, ih.2]; rfl⟩
  exact this _

theorem colAlt_fix {g : Gr} {c : List Bool} {r k q : Nat} (hr : r < c.length) (rest : List Int) : ∀ (pre : List Int), Null g pre → colAlt (emptyOf g) r k (pre ++ ofR q :: rest) c = c → (q = k ∨ gb c q = true) → gb c r = true := by
  have first : ∀ (s : Int) (l : List Int), ¬ (-100 < s) → colAlt (emptyOf g) r k (s :: l) c = c → c.set r (gb c r || (decide (idx s = k) || gb c (idx s))) = c ∧ (gb (emptyOf g) (idx s) = true → colAlt (emptyOf g) r k l c = c) := by
    intro s l hs h
    unfold colAlt at h
    rw [if_neg hs] at h
    have h1 : Le c (c.set r (gb c r || (decide (idx s = k) || gb c (idx s)))) := by
      refine ⟨by simp, fun i hi => ?_⟩
      rw [gb_set _ _ _ _ hr]
      split
      · subst r; simp [hi]
      · exact hi
    simp only at h
    by_cases hn : gb (emptyOf g) (idx s) = true
    · rw [if_pos hn] at h
      have h2 := colAlt_le (emptyOf g) r k l (c.set r (gb c r || (decide (idx s = k) || gb c (idx s))))
      rw [h] at h2
      have h3 := h2.antisymm h1
      rw [h3] at h
      exact ⟨h3, fun _ => h⟩
    · rw [if_neg hn] at h
      exact ⟨h, fun h' => absurd h' hn⟩
  intro pre hpre
  generalize hl : pre = p at hpre
  induction hpre generalizing pre with
  | nil =>
    intro h hq
    obtain ⟨h1, _⟩ := first (ofR q) rest (by unfold ofR; omega) h
    have h2 : gb (c.set r (gb c r || (decide (idx (ofR q) = k) || gb c (idx (ofR q))))) r = gb c r := congrArg (fun l => gb l r) h1
    rw [gb_set _ _ _ _ hr, if_pos rfl, idx_ofR] at h2
    rcases hq with rfl | hq
    · simp at h2; exact h2
    · rw [hq] at h2; simp at h2; exact h2
  | @cons q' alts alt rest' a1 a2 a3 _ _ ih =>
    intro h hq
    obtain ⟨_, h2⟩ := first (ofR q') (rest' ++ ofR q :: rest) (by unfold ofR; omega) h
    exact ih _ rfl (h2 (by rw [idx_ofR, empty_iff]; exact ⟨alts, alt, a1, a2, a3⟩)) hq

theorem left_all {g : Gr} (hg : InG g) {r k : Nat} (h : LeftP g r k) (hk : k < g.length) : gb (row (leftOf g) r) k = true := by
  obtain ⟨_, hc⟩ := leftOf_col hg k hk
  obtain ⟨h1, h2⟩ := iter_fix (colRound g (emptyOf g) k) g.length (fun x _ => colRound_le g _ k x) (List.replicate g.length false) (by simp)
  rw [← hc] at h1 h2
  have one : ∀ r q, LeftC g r q → (q = k ∨ gb (col k (leftOf g)) q = true) → gb (col k (leftOf g)) r = true := by
    rintro r q ⟨alts, alt, pre, rest, hr, ha, rfl, hp⟩ hq
    have h3 := fold_fix (colRule (emptyOf g) k) g.length g.zipIdx (fun y a _ _ => colRule_le _ k _ _) _ h2 h1 (alts, r) (zip_mem hr)
    have h4 := fold_fix (fun c alt => colAlt (emptyOf g) r k alt c) g.length alts (fun y a _ _ => colAlt_le _ _ _ _ _) _ h2 h3 _ ha
    exact colAlt_fix (by rw [h2]; exact (List.getElem?_eq_some_iff.1 hr).1) rest pre hp h4 hq
  rw [← col_at]
  induction h with
  | one h => exact one _ _ h (.inl rfl)
  | step h _ ih => exact one _ _ h (.inr (ih hk hc h1 h2 one))

/-! no rule begins with itself -/
open Classical in
/-- how many rules a rule can begin with -/
noncomputable def rank (g : Gr) (r : Nat) : Nat := (List.range g.length).countP fun k => decide (LeftP g r k)
theorem countP_lt {l : List Nat} {p p' : Nat → Bool} (h : ∀ x ∈ l, p x = true → p' x = true) {y : Nat} (hy : y ∈ l) (h1 : p y = false) (h2 : p' y = true) : l.countP p < l.countP p' := by
  induction l with
  | nil => simp at hy
  | cons a l ih =>
    have hle : l.countP p ≤ l.countP p' := List.countP_mono_left (fun x hx => h x (by simp [hx]))
    rw [List.countP_cons, List.countP_cons]
    rcases List.mem_cons.1 hy with rfl | hy
    · simp [h1, h2]; omega
    · have := ih (fun x hx => h x (by simp [hx])) hy
      have := h a (by simp)
      cases hp : p a <;> cases hp' : p' a <;> simp_all <;> omega
theorem rank_lt {g : Gr} {r q : Nat} (h : LeftC g r q) (hq : q < g.length) (hirr : ¬ LeftP g q q) : rank g q < rank g r := by
  unfold rank
  refine countP_lt (fun x _ hx => ?_) (y := q) (by simpa using hq) (by simpa using hirr) (by simpa using LeftP.one h)
  simp at hx ⊢
  exact .step h hx
theorem rank_le {g : Gr} {q : Nat} (hq : q < g.length) (hirr : ¬ LeftP g q q) : rank g q + 1 ≤ g.length := by
  have : rank g q < (List.range g.length).countP fun _ => true := countP_lt (fun _ _ _ => rfl) (y := q) (by simpa using hq) (by simpa using hirr) rfl
  rw [List.countP_true, List.length_range] at this
  exact this
theorem left_wf {g : Gr} (hg : InG g) (h : ∀ r, r < g.length → gb (row (leftOf g) r) r = false) : WellFounded (fun q r => LeftC g r q) ∧ ∀ q, ¬ LeftP g q q := by
  have hin : ∀ {r q}, LeftC g r q → q < g.length := by
    rintro r q ⟨alts, alt, pre, rest, hr, ha, rfl, _⟩
    have := hg r alts _ hr ha (ofR q) (by simp) (by unfold ofR; omega)
    rwa [idx_ofR] at this
  have hend : ∀ {r q}, LeftP g r q → q < g.length := by
    intro r q hp
    induction hp with
    | one h => exact hin h
    | step _ _ ih => exact ih
  have hirr : ∀ q, ¬ LeftP g q q := by
    intro q hp
    have hq := hend hp
    exact absurd (h q hq) (by simp [left_all hg hp hq])
  refine ⟨?_, hirr⟩
  refine Subrelation.wf ?_ (InvImage.wf (rank g) Nat.lt_wfRel.wf)
  intro q r hlc
  exact rank_lt hlc (hin hlc) (hirr q)

/-! the tokens with which symbols can begin -/
/-- all but the first are or'ed -/
def orTail (a b : List Bool) : List Bool := (List.range a.length).map fun i => gb a i || (gb b i && decide (0 < i))
def begL (g : Gr) (none : List Bool) (rec : List Int → List Bool) : List Int → List Bool → List Bool
  | [], out => out.set 0 true
  | s :: rest, out =>
    if -100 < s then out.set (s + 2).toNat true
    else
      let out' := ((g[idx s]?).getD []).foldl (fun o alt => orTail o (rec alt)) out
      if gb none (idx s) then begL g none rec rest out' else out'
def beg (g : Gr) (none : List Bool) : Nat → List Int → List Bool
  | 0, _ => List.replicate 7 false
  | d + 1, list => begL g none (beg g none d) list (List.replicate 7 false)

/-- tokens are -1 and 1 to 4 -/
def TokOk (s : Int) : Prop := s = -1 ∨ (1 ≤ s ∧ s ≤ 4)
def SymsOk (g : Gr) (l : List Int) : Prop := ∀ s ∈ l, TokOk s ∨ ∃ q, q < g.length ∧ s = ofR q
/-- what a row of seven truths tells of symbols -/
structure Tells (g : Gr) (l : List Int) (o : List Bool) : Prop where
  len : o.length = 7
  nul : gb o 0 = true ↔ Null g l
  tok : ∀ i, 0 < i → i < 7 → (gb o i = true ↔ Starts g l ((i : Int) - 2))

theorem orTail_at (a b : List Bool) (i : Nat) (h : i < a.length) : gb (orTail a b) i = (gb a i || (gb b i && decide (0 < i))) := by
  unfold orTail
  rw [gb, List.getElem?_map, List.getElem?_range h]
  rfl
theorem foldTail (f : List Int → List Bool) : ∀ (alts : List (List Int)) (out : List Bool), (alts.foldl (fun o alt => orTail o (f alt)) out).length = out.length ∧
    ∀ i, i < out.length → gb (alts.foldl (fun o alt => orTail o (f alt)) out) i = (gb out i || (alts.any fun alt => gb (f alt) i && decide (0 < i)))
  | [], out => by simp
  | a :: alts, out => by
    have hl : (orTail out (f a)).length = out.length := by simp [orTail]
    obtain ⟨h1, h2⟩ := foldTail f alts (orTail out (f a))
    rw [List.foldl_cons]
    refine ⟨h1.trans hl, fun i hi => ?_⟩
    rw [h2 i (by rw [hl]; exact hi), orTail_at _ _ _ hi, List.any_cons, Bool.or_assoc]

theorem begL_tells {g : Gr} (f : List Int → List Bool) : ∀ (l : List Int), SymsOk g l →
    (∀ q pre rest, l = pre ++ ofR q :: rest → Null g pre → ∀ alts alt, g[q]? = some alts → alt ∈ alts → Tells g alt (f alt)) →
    ∀ (out : List Bool), out.length = 7 → gb out 0 = false →
      (begL g (emptyOf g) f l out).length = 7 ∧ (gb (begL g (emptyOf g) f l out) 0 = true ↔ Null g l) ∧
      ∀ i, 0 < i → i < 7 → (gb (begL g (emptyOf g) f l out) i = true ↔ gb out i = true ∨ Starts g l ((i : Int) - 2)) := by
  intro l
  induction l with
  | nil =>
    intro _ _ out ho _
    unfold begL
    refine ⟨by simpa using ho, ?_, fun i h0 h7 => ?_⟩
    · rw [gb_set _ _ _ _ (by omega), if_pos rfl]
      exact ⟨fun _ => .nil, fun _ => rfl⟩
    · rw [gb_set _ _ _ _ (by omega), if_neg (by omega)]
      constructor
      · exact .inl
      · rintro (h | h)
        · exact h
        · exact absurd h starts_nil
  | cons s rest ih =>
    intro hs hrec out ho h0
    unfold begL
    rcases hs s (by simp) with ht | ⟨q, hq, rfl⟩
    · have hlt : -100 < s := by rcases ht with rfl | ⟨h1, h2⟩ <;> omega
      have hb : 0 < (s + 2).toNat ∧ (s + 2).toNat < 7 := by rcases ht with rfl | ⟨h1, h2⟩ <;> omega
      rw [if_pos hlt]
      refine ⟨by simpa using ho, ?_, fun i hi0 hi7 => ?_⟩
      · rw [gb_set _ _ _ _ (by omega), if_neg (by omega), h0]
        constructor
        · intro h; cases h
        · intro h; exact absurd h (null_tok hlt)
      · rw [gb_set _ _ _ _ (by omega), starts_tok hlt]
        split
        · rename_i e
          refine ⟨fun _ => .inr (by omega), fun _ => rfl⟩
        · rename_i e
          constructor
          · exact .inl
          · rintro (h | h)
            · exact h
            · exact absurd (by omega) e
    · rw [if_neg (by unfold ofR; omega)]
      simp only [idx_ofR]
      obtain ⟨alts, hg⟩ : ∃ alts, g[q]? = some alts := ⟨_, List.getElem?_eq_getElem hq⟩
      rw [hg]
      simp only [Option.getD_some]
      have hT := hrec q [] rest rfl .nil alts
      obtain ⟨f1, f2⟩ := foldTail f alts out
      generalize hout : alts.foldl (fun o alt => orTail o (f alt)) out = out' at *
      have g0 : gb out' 0 = false := by rw [f2 0 (by omega), h0]; simp
      have gi : ∀ i, 0 < i → i < 7 → (gb out' i = true ↔ gb out i = true ∨ StartsR g q ((i : Int) - 2)) := by
        intro i h1 h2
        rw [f2 i (by omega), Bool.or_eq_true, List.any_eq_true]
        constructor
        · rintro (h | ⟨alt, ha, h⟩)
          · exact .inl h
          · rw [Bool.and_eq_true] at h
            exact .inr ⟨alts, alt, hg, ha, ((hT alt hg ha).tok i h1 h2).1 h.1⟩
        · rintro (h | ⟨alts', alt, hg', ha, h⟩)
          · exact .inl h
          · rw [hg] at hg'; cases hg'
            exact .inr ⟨alt, ha, by rw [((hT alt hg ha).tok i h1 h2).2 h]; simpa using h1⟩
      by_cases hn : gb (emptyOf g) q = true
      · rw [if_pos hn]
        have hnr := (empty_iff g q).1 hn
        obtain ⟨k1, k2, k3⟩ := ih (fun s hs' => hs s (by simp [hs'])) (fun q' pre rest' he hp => hrec q' (ofR q :: pre) rest' (by rw [he]; rfl) (null_cons.2 ⟨hnr, hp⟩)) out' (by omega) g0
        refine ⟨k1, ?_, fun i h1 h2 => ?_⟩
        · rw [k2, null_cons]
          exact ⟨fun h => ⟨hnr, h⟩, fun h => h.2⟩
        · rw [k3 i h1 h2, gi i h1 h2, starts_cons]
          constructor
          · rintro ((h | h) | h)
            · exact .inl h
            · exact .inr (.inl h)
            · exact .inr (.inr ⟨hnr, h⟩)
          · rintro (h | h | ⟨_, h⟩)
            · exact .inl (.inl h)
            · exact .inl (.inr h)
            · exact .inr h
      · rw [if_neg hn]
        have hnr : ¬ NullR g q := fun h => hn ((empty_iff g q).2 h)
        refine ⟨by omega, ?_, fun i h1 h2 => ?_⟩
        · rw [g0, null_cons]
          constructor
          · intro h; cases h
          · intro h; exact absurd h.1 hnr
        · rw [gi i h1 h2, starts_cons]
          constructor
          · rintro (h | h)
            · exact .inl h
            · exact .inr (.inl h)
          · rintro (h | h | ⟨h, _⟩)
            · exact .inl h
            · exact .inr h
            · exact absurd h hnr

theorem beg_tells {g : Gr} (hsym : ∀ (r : Nat) alts alt, g[r]? = some alts → alt ∈ alts → SymsOk g alt) (hirr : ∀ q, ¬ LeftP g q q) : ∀ (d : Nat) (l : List Int), SymsOk g l → 0 < d →
    (∀ q pre rest, l = pre ++ ofR q :: rest → Null g pre → rank g q + 2 ≤ d) → Tells g l (beg g (emptyOf g) d l)
  | 0, _, _, h, _ => by omega
  | d + 1, l, hs, _, hd => by
    have h := begL_tells (beg g (emptyOf g) d) l hs (fun q pre rest he hp alts alt hg ha => by
      have hr := hd q pre rest he hp
      refine beg_tells hsym hirr d alt (hsym q alts alt hg ha) (by omega) (fun q' pre' rest' he' hp' => ?_)
      have hlc : LeftC g q q' := ⟨alts, alt, pre', rest', hg, ha, he', hp'⟩
      have hq' : q' < g.length := by
        rcases hsym q alts alt hg ha (ofR q') (by rw [he']; simp) with h | ⟨q2, h1, h2⟩
        · unfold TokOk ofR at h; omega
        · have := ofR_inj h2; omega
      have := rank_lt hlc hq' (hirr q')
      omega) (List.replicate 7 false) (by simp) (by rfl)
    obtain ⟨h1, h2, h3⟩ := h
    unfold beg
    refine ⟨h1, h2, fun i h4 h5 => ?_⟩
    rw [h3 i h4 h5]
    have : gb (List.replicate 7 false) i = false := by unfold gb; rw [List.getElem?_replicate, if_pos h5]; rfl
    rw [this]
    simp
/-- .. with seven rules within each other -/
theorem begins_tells {g : Gr} (hsym : ∀ (r : Nat) alts alt, g[r]? = some alts → alt ∈ alts → SymsOk g alt) (hirr : ∀ q, ¬ LeftP g q q) (hl : g.length ≤ 6) (l : List Int) (hs : SymsOk g l) : Tells g l (beg g (emptyOf g) 7 l) := by
  refine beg_tells hsym hirr 7 l hs (by omega) (fun q pre rest he _ => ?_)
  have hq : q < g.length := by
    rcases hs (ofR q) (by rw [he]; simp) with h | ⟨q2, h1, h2⟩
    · unfold TokOk ofR at h; omega
    · have := ofR_inj h2; omega
  have := rank_le hq (hirr q)
  omega
end Go.Proofs.YtemdillhbnmjkaaGreatDoor.Pl
namespace Go.Proofs.YtemdillhbnmjkaaGreatDoor.Pl

open Classical in
/-- how many states have not been visited with nothing behind them -/
noncomputable def cnt (n : Nat) (V : List Cfg) : Nat := (List.range n).countP fun s => decide ((s, ([] : List Nat)) ∉ V)
theorem cnt_mono {n : Nat} {V V' : List Cfg} (h : ∀ c ∈ V, c ∈ V') : cnt n V' ≤ cnt n V :=
  List.countP_mono_left (fun x _ hx => by simp at hx ⊢; exact fun hv => hx (h _ hv))
theorem countP_lt' {l : List Nat} {p p' : Nat → Bool} (h : ∀ x ∈ l, p x = true → p' x = true) {y : Nat} (hy : y ∈ l) (h1 : p y = false) (h2 : p' y = true) : l.countP p < l.countP p' := by
  induction l with
  | nil => simp at hy
  | cons a l ih =>
    have hle : l.countP p ≤ l.countP p' := List.countP_mono_left (fun x hx => h x (by simp [hx]))
    rw [List.countP_cons, List.countP_cons]
    rcases List.mem_cons.1 hy with rfl | hy
    · simp [h1, h2]; omega
    · have := ih (fun x hx => h x (by simp [hx])) hy
      have := h a (by simp)
      cases hp : p a <;> cases hp' : p' a <;> simp_all <;> omega
theorem cnt_lt {n : Nat} {V : List Cfg} {s : Nat} (hs : s < n) (h : (s, ([] : List Nat)) ∉ V) : cnt n ((s, []) :: V) < cnt n V :=
  countP_lt' (fun x _ hx => by simp at hx ⊢; exact hx.2) (y := s) (by simpa using hs) (by simp) (by simpa using h)
theorem Grow.sub {N : NetG} {bot : Bool} {Ts : List Int} {Ds V V' : List Cfg} {L L' : Int → Prop} (h : Grow N bot Ts Ds V V' L L') : ∀ c ∈ V, c ∈ V' := by
  obtain ⟨n1, rfl, _⟩ := h
  intro c hc
  exact List.mem_append.2 (.inr hc)

def tokOf : Tr → List Int
  | .tok t => [t]
  | _ => []
def dstOf (k : List Nat) : Tr → List Cfg
  | .eps to => [(to, k)]
  | .call _ st f => [(st, f :: f :: k)]
  | .tok _ => []

/-- the edges of a state, up to the i-th -/
def GrowTo (N : NetG) (bot : Bool) (s : Nat) (k : List Nat) (i : Nat) (V V' : List Cfg) (L L' : Int → Prop) : Prop :=
  Grow N bot (((N.trs s).take i).flatMap tokOf) (((N.trs s).take i).flatMap (dstOf k)) ((s, k) :: V) V' L L'
theorem GrowTo.zero {N : NetG} {bot : Bool} {s : Nat} {k : List Nat} {V : List Cfg} {L : Int → Prop} : GrowTo N bot s k 0 V ((s, k) :: V) L L := by
  unfold GrowTo; simp; exact Grow.refl
theorem GrowTo.next {N : NetG} {bot : Bool} {s : Nat} {k : List Nat} {i : Nat} {V V' V'' : List Cfg} {L L' L'' : Int → Prop} {d : Tr} (h : GrowTo N bot s k i V V' L L') (hd : (N.trs s)[i]? = some d)
    (h' : Grow N bot (tokOf d) (dstOf k d) V' V'' L' L'') : GrowTo N bot s k (i + 1) V V'' L L'' := by
  unfold GrowTo at h ⊢
  rw [List.take_add_one, hd, List.flatMap_append, List.flatMap_append]
  simpa using h.trans h'
theorem GrowTo.done {N : NetG} {bot : Bool} {s : Nat} {k : List Nat} {i : Nat} {V V' : List Cfg} {L L' : Int → Prop} (h : GrowTo N bot s k i V V' L L') (hi : (N.trs s).length ≤ i) (hs : N.stop s = none) : Grow N bot [] [(s, k)] V V' L L' := by
  unfold GrowTo at h
  rw [List.take_of_length_le hi] at h
  refine h.visit (fun d => ?_) (fun t => ?_)
  · rw [List.mem_flatMap]
    constructor
    · intro hd
      cases hd with
      | pop h1 => rw [hs] at h1; cases h1
      | wide h1 => rw [hs] at h1; cases h1
      | eps _ hm => exact ⟨_, hm, by simp [dstOf]⟩
      | call _ hm => exact ⟨_, hm, by simp [dstOf]⟩
    · rintro ⟨d', hm, hd⟩
      cases d' with
      | eps to => simp [dstOf] at hd; subst hd; exact .eps hs hm
      | call q st f => simp [dstOf] at hd; subst hd; exact .call hs hm
      | tok t => simp [dstOf] at hd
  · rw [List.mem_flatMap]
    constructor
    · intro hd
      cases hd with
      | tok _ hm => exact ⟨_, hm, by simp [tokOf]⟩
      | fin h1 => rw [hs] at h1; cases h1
    · rintro ⟨d', hm, hd⟩
      cases d' with
      | eps to => simp [tokOf] at hd
      | call q st f => simp [tokOf] at hd
      | tok t' => simp [tokOf] at hd; subst hd; exact .tok hs hm
/-- .. at the end of a rule, nothing being known of what is behind -/
theorem GrowTo.wide {N : NetG} {s r i : Nat} {V V' : List Cfg} {L L' : Int → Prop} (h : GrowTo N true s [] i V V' L L') (hi : (N.trs s).length ≤ i) (hs : N.stop s = some r) (he : ∀ d ∈ N.trs s, ∃ f, d = .eps f) : Grow N true [] [(s, [])] V V' L L' := by
  unfold GrowTo at h
  rw [List.take_of_length_le hi] at h
  refine h.visit (fun d => ?_) (fun t => ?_)
  · rw [List.mem_flatMap]
    constructor
    · intro hd
      cases hd with
      | wide h1 _ hm => exact ⟨_, hm, by simp [dstOf]⟩
      | eps h1 => rw [hs] at h1; cases h1
      | call h1 => rw [hs] at h1; cases h1
    · rintro ⟨d', hm, hd⟩
      obtain ⟨f, rfl⟩ := he _ hm
      simp [dstOf] at hd
      subst hd
      exact .wide hs rfl hm
  · rw [List.mem_flatMap]
    constructor
    · intro hd
      cases hd with
      | tok h1 _ => rw [hs] at h1; cases h1
      | fin _ h1 => cases h1
    · rintro ⟨d', hm, hd⟩
      obtain ⟨f, rfl⟩ := he _ hm
      simp [tokOf] at hd
/-- .. something being behind it -/
theorem Grow.pop {N : NetG} {bot : Bool} {s r f : Nat} {k : List Nat} {V V' : List Cfg} {L L' : Int → Prop} (h : Grow N bot [] [(f, k)] ((s, f :: k) :: V) V' L L') (hs : N.stop s = some r) : Grow N bot [] [(s, f :: k)] V V' L L' := by
  refine h.visit (fun d => ?_) (fun t => ?_)
  · constructor
    · intro hd
      cases hd with
      | pop h1 => simp
      | eps h1 => rw [hs] at h1; cases h1
      | call h1 => rw [hs] at h1; cases h1
    · intro hd
      simp at hd; subst hd
      exact .pop hs
  · constructor
    · intro hd
      cases hd with
      | tok h1 _ => rw [hs] at h1; cases h1
    · intro hd; simp at hd
/-- .. nothing being behind it -/
theorem Grow.fin {N : NetG} {s r : Nat} {V : List Cfg} {L L' : Int → Prop} (hs : N.stop s = some r) (hL : ∀ t, L' t ↔ L t ∨ t = -2) : Grow N false [] [(s, [])] V ((s, []) :: V) L L' := by
  refine Grow.visit (Ts := [-2]) (Ds := []) (Grow.tok hL) (fun d => ?_) (fun t => ?_)
  · constructor
    · intro hd
      cases hd with
      | wide _ h1 _ => cases h1
      | eps h1 => rw [hs] at h1; cases h1
      | call h1 => rw [hs] at h1; cases h1
    · intro hd; simp at hd
  · constructor
    · intro hd
      cases hd with
      | tok h1 _ => rw [hs] at h1; cases h1
      | fin _ _ => simp
    · intro hd
      simp at hd; subst hd
      exact .fin hs rfl
end Go.Proofs.YtemdillhbnmjkaaGreatDoor.Pl

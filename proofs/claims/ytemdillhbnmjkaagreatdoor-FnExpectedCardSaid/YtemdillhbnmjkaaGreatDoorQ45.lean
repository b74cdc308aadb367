/- What may come at a decision, within rules that were called: plain. · Tables of truths: their shape, and how many falses there are. · To which places symbols go from one: through (60), Fits (47): what they return is a row of truths. -/
import Derived.Test.YtemdillhbnmjkaaGreatDoorQ03
import Derived.Test.YtemdillhbnmjkaaGreatDoorQ28
import Derived.Deep.RegionHeld3
import Derived.Deep.RegionWith
import Derived.Outline
namespace Go.Proofs.YtemdillhbnmjkaaGreatDoor.Pl

/-- a rule that is being parsed: its alternative, how many symbols are behind -/
structure Fr where
  r : Nat
  a : Nat
  k : Nat
/-- the symbols of its alternative -/
def altOf (g : Gr) (f : Fr) : List Int := (((g[f.r]?).getD [])[f.a]?).getD []
/-- what is left of it behind the symbol at which it stands -/
def tl (g : Gr) (f : Fr) : List Int := (altOf g f).drop (f.k + 1)
/-- what is left of all of them, the innermost first -/
def restOf (g : Gr) (fs : List Fr) : List Int := fs.flatMap (tl g)
/-- it stands at rule q -/
structure FrAt (g : Gr) (f : Fr) (q : Nat) : Prop where
  ex : ∃ alts alt, g[f.r]? = some alts ∧ alts[f.a]? = some alt ∧ alt[f.k]? = some (ofR q)
/-- rule q has been called by rules, the innermost first; the outermost is the first rule -/
def Linked (g : Gr) : Nat → List Fr → Prop
  | q, [] => q = 0
  | q, f :: fs => FrAt g f q ∧ Linked g f.r fs

theorem FrAt.alt {g : Gr} {f : Fr} {q : Nat} (h : FrAt g f q) : ∃ alts, g[f.r]? = some alts ∧ alts[f.a]? = some (altOf g f) ∧ (altOf g f)[f.k]? = some (ofR q) ∧ f.k + 1 ≤ (altOf g f).length := by
  obtain ⟨alts, alt, h1, h2, h3⟩ := h.ex
  have e : altOf g f = alt := by unfold altOf; rw [h1, Option.getD_some, h2, Option.getD_some]
  rw [e]
  exact ⟨alts, h1, h2, h3, (List.getElem?_eq_some_iff.1 h3).1⟩
theorem tl_syms {g : Gr} (G : GoodG g) {f : Fr} {q : Nat} (h : FrAt g f q) : SymsOk g (tl g f) := by
  obtain ⟨alts, h1, h2, _, _⟩ := h.alt
  exact fun s hs => G.symsOk f.r alts _ h1 (List.mem_of_getElem? h2) s (List.mem_of_mem_drop hs)
theorem rest_syms {g : Gr} (G : GoodG g) : ∀ (fs : List Fr) (q : Nat), Linked g q fs → SymsOk g (restOf g fs)
  | [], _, _ => by intro s hs; simp [restOf] at hs
  | f :: fs, q, h => by
    intro s hs
    unfold restOf at hs
    rw [List.flatMap_cons, List.mem_append] at hs
    rcases hs with hs | hs
    · exact tl_syms G h.1 s hs
    · exact rest_syms G fs f.r h.2 s hs
theorem tl_len {g : Gr} (G : GoodG g) {f : Fr} {q : Nat} (h : FrAt g f q) : (tl g f).length ≤ 5 := by
  obtain ⟨alts, h1, h2, _, _⟩ := h.alt
  have := G.alt f.r alts _ h1 (List.mem_of_getElem? h2)
  unfold tl
  rw [List.length_drop]; omega
theorem rest_len {g : Gr} (G : GoodG g) : ∀ (fs : List Fr) (q : Nat), Linked g q fs → (restOf g fs).length ≤ 5 * fs.length
  | [], _, _ => by simp [restOf]
  | f :: fs, q, h => by
    have h1 := tl_len G h.1
    have h2 := rest_len G fs f.r h.2
    unfold restOf at *
    rw [List.flatMap_cons, List.length_append, List.length_cons]
    omega
/-- a rule that is called is not the first one -/
theorem frAt_pos {g : Gr} (G : GoodG g) {f : Fr} {q : Nat} (h : FrAt g f q) : 0 < q ∧ q < g.length := by
  obtain ⟨alts, alt, h1, h2, h3⟩ := h.ex
  have hl := G.len2
  rcases Nat.eq_zero_or_pos f.r with e | hp
  · rw [e, G.first] at h1
    cases h1
    have hm := List.mem_of_getElem? h2
    simp at hm
    subst hm
    have hs := List.mem_of_getElem? h3
    simp at hs
    rcases hs with hs | hs
    · have := ofR_inj hs; omega
    · unfold ofR at hs; omega
  · rcases G.syms f.r alts alt hp h1 (List.mem_of_getElem? h2) _ (List.mem_of_getElem? h3) with h | ⟨p, p1, p2, p3⟩
    · unfold ofR at h; omega
    · have := ofR_inj p3; omega
/-- the first rule's rest is the end alone -/
theorem tl_zero {g : Gr} (G : GoodG g) {f : Fr} {q : Nat} (h : FrAt g f q) (h0 : f.r = 0) : tl g f = [-1] := by
  obtain ⟨alts, h1, h2, h3, _⟩ := h.alt
  rw [h0, G.first] at h1
  cases h1
  have ha : f.a = 0 := by
    have := (List.getElem?_eq_some_iff.1 h2).1
    simp at this
    exact this
  rw [ha] at h2
  simp at h2
  unfold tl
  rw [← h2] at h3 ⊢
  have hk : f.k = 0 := by
    have h4 := (List.getElem?_eq_some_iff.1 h3).1
    simp at h4
    have h5 : f.k = 0 ∨ f.k = 1 := by omega
    rcases h5 with h5 | h5
    · exact h5
    · rw [h5] at h3
      simp [ofR] at h3
      omega
  rw [hk]
  rfl

/-- what may come: what rule q can begin with, or what is left behind it, if it can be nothing -/
def Goal (g : Gr) (q : Nat) (l : List Int) (t : Int) : Prop := StartsR g q t ∨ (NullR g q ∧ Starts g l t)
/-- the row that the reference comes to -/
def wantOf (g : Gr) (q : Nat) (l : List Int) : List Bool := ((g[q]?).getD []).foldl (fun o alt => orRow o (beg g (emptyOf g) 7 (alt ++ l))) (List.replicate 7 false)

theorem orRows_at (f : List Int → List Bool) : ∀ (alts : List (List Int)) (o : List Bool), (alts.foldl (fun o alt => orRow o (f alt)) o).length = o.length ∧
    ∀ i, i < o.length → (gb (alts.foldl (fun o alt => orRow o (f alt)) o) i = true ↔ gb o i = true ∨ ∃ alt ∈ alts, gb (f alt) i = true)
  | [], o => by simp
  | a :: alts, o => by
    obtain ⟨h1, h2⟩ := orRows_at f alts (orRow o (f a))
    rw [List.foldl_cons]
    refine ⟨h1.trans (orRow_len _ _), fun i hi => ?_⟩
    rw [h2 i (by rw [orRow_len]; exact hi), gb_orRow _ _ _ hi]
    simp [or_assoc]
theorem want_len (g : Gr) (q : Nat) (l : List Int) : (wantOf g q l).length = 7 := by
  unfold wantOf
  rw [(orRows_at (fun alt => beg g (emptyOf g) 7 (alt ++ l)) _ _).1]
  simp
theorem symsOk_append {g : Gr} {a b : List Int} (h : SymsOk g a) (k : SymsOk g b) : SymsOk g (a ++ b) := by
  intro s hs
  rcases List.mem_append.1 hs with hs | hs
  · exact h s hs
  · exact k s hs
theorem symsOk_syms {g : Gr} {a : List Int} (h : SymsOk g a) : Syms g a := by
  intro s hs
  rcases h s hs with h | h
  · left; unfold TokOk at h; omega
  · exact .inr h
theorem want_at {g : Gr} (G : GoodG g) {q : Nat} (hq : q < g.length) {l : List Int} (hl : SymsOk g l) (i : Nat) (hi : i < 7) :
    gb (wantOf g q l) i = true ↔ (0 < i ∧ Goal g q l ((i : Int) - 2)) ∨ (i = 0 ∧ NullR g q ∧ Null g l) := by
  obtain ⟨alts, hr⟩ : ∃ u, g[q]? = some u := ⟨_, List.getElem?_eq_getElem hq⟩
  have hz : gb (List.replicate 7 false) i = false := by unfold gb; rw [List.getElem?_replicate, if_pos hi]; rfl
  unfold wantOf
  rw [(orRows_at (fun alt => beg g (emptyOf g) 7 (alt ++ l)) _ _).2 i (by simpa using hi), hr, Option.getD_some, hz]
  have hT : ∀ alt ∈ alts, Tells g (alt ++ l) (beg g (emptyOf g) 7 (alt ++ l)) := fun alt ha => G.tells _ (symsOk_append (G.symsOk q alts alt hr ha) hl)
  have hS : ∀ alt ∈ alts, Syms g alt := fun alt ha => G.hsym q alts alt hr ha
  have hN : NullR g q ↔ ∃ alt ∈ alts, Null g alt := by
    constructor
    · rintro ⟨us, alt, h1, h2, h3⟩; rw [hr] at h1; cases h1; exact ⟨alt, h2, h3⟩
    · rintro ⟨alt, h2, h3⟩; exact ⟨alts, alt, hr, h2, h3⟩
  have hR : ∀ t, StartsR g q t ↔ ∃ alt ∈ alts, Starts g alt t := by
    intro t
    constructor
    · rintro ⟨us, alt, h1, h2, h3⟩; rw [hr] at h1; cases h1; exact ⟨alt, h2, h3⟩
    · rintro ⟨alt, h2, h3⟩; exact ⟨alts, alt, hr, h2, h3⟩
  rcases Nat.eq_zero_or_pos i with rfl | hp
  · constructor
    · rintro (h | ⟨alt, ha, h⟩)
      · cases h
      · rw [(hT alt ha).nul, null_append (hS alt ha)] at h
        exact .inr ⟨rfl, hN.2 ⟨alt, ha, h.1⟩, h.2⟩
    · rintro (⟨h, _⟩ | ⟨_, h1, h2⟩)
      · omega
      · obtain ⟨alt, ha, h3⟩ := hN.1 h1
        exact .inr ⟨alt, ha, by rw [(hT alt ha).nul, null_append (hS alt ha)]; exact ⟨h3, h2⟩⟩
  · constructor
    · rintro (h | ⟨alt, ha, h⟩)
      · cases h
      · rw [(hT alt ha).tok i hp hi, starts_append (hS alt ha)] at h
        refine .inl ⟨hp, ?_⟩
        rcases h with h | ⟨h1, h2⟩
        · exact .inl ((hR _).2 ⟨alt, ha, h⟩)
        · exact .inr ⟨hN.2 ⟨alt, ha, h1⟩, h2⟩
    · rintro (⟨_, h⟩ | ⟨h, _⟩)
      · rcases h with h | ⟨h1, h2⟩
        · obtain ⟨alt, ha, h3⟩ := (hR _).1 h
          exact .inr ⟨alt, ha, by rw [(hT alt ha).tok i hp hi, starts_append (hS alt ha)]; exact .inl h3⟩
        · obtain ⟨alt, ha, h3⟩ := hN.1 h1
          exact .inr ⟨alt, ha, by rw [(hT alt ha).tok i hp hi, starts_append (hS alt ha)]; exact .inr ⟨h3, h2⟩⟩
      · omega

/-- what the search finds behind the start of a rule's block -/
theorem block_iff {g : Gr} (G : GoodG g) {N : NetG} (H : IsNet g N (place g)) {q : Nat} (hq : q < g.length) (t : Int) : TR N false (2 * g.length + q, []) t ↔ StartsR g q t ∨ (t = -2 ∧ NullR g q) := by
  obtain ⟨alts, hr⟩ : ∃ u, g[q]? = some u := ⟨_, List.getElem?_eq_getElem hq⟩
  obtain ⟨b1, b2⟩ := H.blockS q alts hr
  rw [tr_block (fun tgt => ∃ a alt, alts[a]? = some alt ∧ tgt = place g q a) ⟨b1, fun x => by
    rw [b2 x]
    constructor
    · rintro ⟨a, alt, h1, rfl⟩; exact ⟨_, ⟨a, alt, h1, rfl⟩, rfl⟩
    · rintro ⟨tgt, ⟨a, alt, h1, rfl⟩, rfl⟩; exact ⟨a, alt, h1, rfl⟩⟩]
  have hl : ∀ (a : Nat) alt, alts[a]? = some alt → (TR N false (place g q a, []) t ↔ Starts g alt t ∨ (t = -2 ∧ Null g alt)) := by
    intro a alt ha
    have := look_iff G H hr ha (Nat.zero_le _) t
    rwa [Nat.add_zero, List.drop_zero] at this
  constructor
  · rintro ⟨tgt, ⟨a, alt, h1, rfl⟩, h⟩
    rcases (hl a alt h1).1 h with h | ⟨h, h2⟩
    · exact .inl ⟨alts, alt, hr, List.mem_of_getElem? h1, h⟩
    · exact .inr ⟨h, alts, alt, hr, List.mem_of_getElem? h1, h2⟩
  · rintro (⟨us, alt, h1, h2, h3⟩ | ⟨ht, us, alt, h1, h2, h3⟩)
    · rw [hr] at h1; cases h1
      obtain ⟨a, ha⟩ := List.getElem?_of_mem h2
      exact ⟨_, ⟨a, alt, ha, rfl⟩, (hl a alt ha).2 (.inl h3)⟩
    · rw [hr] at h1; cases h1
      obtain ⟨a, ha⟩ := List.getElem?_of_mem h2
      exact ⟨_, ⟨a, alt, ha, rfl⟩, (hl a alt ha).2 (.inr ⟨ht, h3⟩)⟩

/-- where a frame goes on -/
def follow (g : Gr) (f : Fr) : Nat := place g f.r f.a + (f.k + 1)
theorem follow_iff {g : Gr} (G : GoodG g) {N : NetG} (H : IsNet g N (place g)) {f : Fr} {q : Nat} (h : FrAt g f q) (t : Int) : TR N false (follow g f, []) t ↔ Starts g (tl g f) t ∨ (t = -2 ∧ Null g (tl g f)) := by
  obtain ⟨alts, h1, h2, h3, h4⟩ := h.alt
  exact look_iff G H h1 h2 h4 t

/-- m: what may come, as far as it has been found; n: what was found last; fs: what is left of the rules -/
structure Exp (g : Gr) (q : Nat) (l : List Int) (m n : Nat) (fs : List Fr) : Prop where
  lm : m < 64
  ln : n < 64
  no : has m (-2) = false
  link : ∃ p, Linked g p fs ∧ (p = 0 → has n (-2) = false)
  goal : ∀ t, TokOk t → (Goal g q l t ↔ has m t = true ∨ (has n (-2) = true ∧ Starts g (restOf g fs) t))

theorem tokOk_toks {t : Int} (h : TokOk t) : t ∈ toks ∧ t ≠ -2 := by
  unfold TokOk at h
  have : t = -1 ∨ t = 1 ∨ t = 2 ∨ t = 3 ∨ t = 4 := by omega
  rcases this with rfl | rfl | rfl | rfl | rfl <;> decide
theorem starts_no2 {g : Gr} (G : GoodG g) {l : List Int} (hs : SymsOk g l) : ¬ Starts g l (-2) := fun h => by
  have := starts_tokOk G h hs; unfold TokOk at this; omega
theorem startsR_no2 {g : Gr} (G : GoodG g) {q : Nat} : ¬ StartsR g q (-2) := by
  rintro ⟨alts, alt, h1, h2, h3⟩
  exact starts_no2 G (G.symsOk q alts alt h1 h2) h3
/-- at the beginning -/
theorem Exp.start {g : Gr} (G : GoodG g) {N : NetG} (H : IsNet g N (place g)) {q : Nat} (hq : q < g.length) {fs : List Fr} (hl : Linked g q fs) (h0 : 0 < q) {n : Nat} (hn : n < 64) (ht : ∀ t, has n t = true ↔ TR N false (2 * g.length + q, []) t) :
    Exp g q (restOf g fs) ((0 ||| n) &&& 62) n fs := by
  obtain ⟨a1, a2, a3⟩ := remI_two (0 ||| n) (has_all 0 (by decide) n hn).1
  have hz : ∀ s ∈ toks, has 0 s = false := by decide
  have hm : ∀ t, t ∈ toks → has ((0 ||| n) &&& 62) t = (has n t && t != -2) := by
    intro t h1
    rw [a3 t h1, (has_all 0 (by decide) n hn).2 t h1, hz t h1, Bool.false_or]
  refine ⟨a2, hn, by rw [hm _ (by decide)]; simp, ⟨q, hl, fun h => by omega⟩, fun t h1 => ?_⟩
  obtain ⟨t1, t2⟩ := tokOk_toks h1
  have hx : has n (-2) = true ↔ NullR g q := by
    rw [ht, block_iff G H hq]
    exact ⟨fun h => h.elim (fun h => absurd h (startsR_no2 G)) (fun h => h.2), fun h => .inr ⟨rfl, h⟩⟩
  have hy : has n t = true ↔ StartsR g q t := by
    rw [ht, block_iff G H hq]
    exact ⟨fun h => h.elim id (fun h => absurd h.1 t2), .inl⟩
  rw [hm t t1, hx]
  have : (has n t && t != -2) = true ↔ StartsR g q t := by
    rw [Bool.and_eq_true, hy]
    exact ⟨fun h => h.1, fun h => ⟨h, by simpa using t2⟩⟩
  rw [this]
  exact Iff.rfl
/-- one rule further out -/
theorem Exp.step {g : Gr} (G : GoodG g) {N : NetG} (H : IsNet g N (place g)) {q : Nat} {l : List Int} {m n n' : Nat} {f : Fr} {fs : List Fr} (h : Exp g q l m n (f :: fs)) (h2 : has n (-2) = true) (hn : n' < 64)
    (ht : ∀ t, has n' t = true ↔ TR N false (follow g f, []) t) : Exp g q l ((m ||| n') &&& 62) n' fs := by
  obtain ⟨p, hp, _⟩ := h.link
  have hf := hp.1
  have hts := tl_syms G hf
  obtain ⟨b1, b2⟩ := has_all m h.lm n' hn
  obtain ⟨a1, a2, a3⟩ := remI_two (m ||| n') b1
  have hx : has n' (-2) = true ↔ Null g (tl g f) := by
    rw [ht, follow_iff G H hf]
    exact ⟨fun h => h.elim (fun h => absurd h (starts_no2 G hts)) (fun h => h.2), fun h => .inr ⟨rfl, h⟩⟩
  refine ⟨a2, hn, by rw [a3 _ (by decide)]; simp, ⟨f.r, hp.2, fun h0 => ?_⟩, fun t h1 => ?_⟩
  · have e : ¬ Null g (tl g f) := by rw [tl_zero G hf h0]; exact null_tok (by omega)
    rw [← hx] at e
    simpa using e
  · obtain ⟨t1, t2⟩ := tokOk_toks h1
    have hy : has n' t = true ↔ Starts g (tl g f) t := by
      rw [ht, follow_iff G H hf]
      exact ⟨fun h => h.elim id (fun h => absurd h.1 t2), .inl⟩
    rw [h.goal t h1, a3 t t1, b2 t t1]
    have e : restOf g (f :: fs) = tl g f ++ restOf g fs := by unfold restOf; rw [List.flatMap_cons]
    rw [e, starts_append (symsOk_syms hts), hx]
    simp only [h2, true_and, Bool.and_eq_true, Bool.or_eq_true, hy]
    constructor
    · rintro (h | h | h)
      · exact .inl ⟨.inl h, by simpa using t2⟩
      · exact .inl ⟨.inr h, by simpa using t2⟩
      · exact .inr h
    · rintro (⟨h | h, _⟩ | h)
      · exact .inl h
      · exact .inr (.inl h)
      · exact .inr (.inr h)
/-- no rule is left: what was found last can't be nothing -/
theorem Exp.out {g : Gr} {q : Nat} {l : List Int} {m n : Nat} (h : Exp g q l m n []) : has n (-2) = false := by
  obtain ⟨p, hp, h0⟩ := h.link
  exact h0 hp
/-- at the end -/
theorem Exp.row {g : Gr} (G : GoodG g) {q : Nat} (hq : q < g.length) {fs0 fs : List Fr} (hl : Linked g q fs0) (hf : fs0 ≠ []) {m n : Nat} (h : Exp g q (restOf g fs0) m n fs) (hn : has n (-2) = false) : rowOf m = wantOf g q (restOf g fs0) := by
  have hs := rest_syms G fs0 q hl
  refine row_ext (rowOf_len m) (want_len _ _ _) (fun i hi => ?_)
  rw [rowOf_at m i hi, want_at G hq hs i hi]
  rcases Nat.eq_zero_or_pos i with rfl | hp
  · rw [show (((0 : Nat) : Int) - 2) = -2 from rfl, h.no]
    constructor
    · intro h; cases h
    · rintro (⟨h, _⟩ | ⟨_, _, h2⟩)
      · omega
      · exact absurd h2 (by
          have key : ∀ (fs : List Fr) (p : Nat), Linked g p fs → fs ≠ [] → ¬ Null g (restOf g fs) := by
            intro fs
            induction fs with
            | nil => intro p _ h; exact absurd rfl h
            | cons f fs ih =>
              intro p hp _ hN
              have e : restOf g (f :: fs) = tl g f ++ restOf g fs := by unfold restOf; rw [List.flatMap_cons]
              rw [e, null_append (symsOk_syms (tl_syms G hp.1))] at hN
              by_cases hfs : fs = []
              · subst hfs
                have h0 : f.r = 0 := hp.2
                rw [tl_zero G hp.1 h0] at hN
                exact null_tok (by omega) hN.1
              · exact ih f.r hp.2 hfs hN.2
          exact key fs0 q hl hf)
  · rcases Nat.lt_or_ge i 3 with h3 | h3
    · have h4 : i = 1 ∨ i = 2 := by omega
      rcases h4 with rfl | rfl
      · have := h.goal (-1) (.inl rfl)
        rw [show (((1 : Nat) : Int) - 2) = -1 from rfl, this, hn]
        simp
      · have e : has m (((2 : Nat) : Int) - 2) = false := by
          show has m 0 = false
          unfold has
          have : toks.contains (0 : Int) = false := by decide
          rw [this]; rfl
        rw [e]
        constructor
        · intro h; cases h
        · rintro (⟨_, h | ⟨_, h⟩⟩ | ⟨h, _⟩)
          · obtain ⟨alts, alt, h1, h2, h3⟩ := h
            have := starts_tokOk G h3 (G.symsOk q alts alt h1 h2); unfold TokOk at this; omega
          · have := starts_tokOk G h hs; unfold TokOk at this; omega
          · omega
    · have := h.goal ((i : Int) - 2) (.inr ⟨by omega, by omega⟩)
      have h9 : ¬ has n (-2) = true := by rw [hn]; simp
      constructor
      · intro h
        exact .inl ⟨hp, this.2 (.inl h)⟩
      · rintro (⟨_, h⟩ | ⟨h, _⟩)
        · rcases this.1 h with h | ⟨h, _⟩
          · exact h
          · exact absurd h h9
        · omega
end Go.Proofs.YtemdillhbnmjkaaGreatDoor.Pl
namespace Go.Proofs.YtemdillhbnmjkaaGreatDoor
open Go.RowKit

def isF : Value → Bool
  | .bool false => true
  | _ => false
/-- the falses of a block -/
def fls (w : World) (k : Nat) : Nat :=
  match w.heap[k]? with
  | some (.cells c _ _) => c.toList.countP isF
  | _ => 0
/-- the falses of the blocks from lo up to hi -/
def flsUp (w : World) (lo hi : Nat) : Nat := ((List.range hi).map fun k => if lo ≤ k then fls w k else 0).sum
theorem fls_same {w w' : World} {k : Nat} (h : w'.heap[k]? = w.heap[k]?) : fls w' k = fls w k := by unfold fls; rw [h]
theorem fls_row {w : World} {b : Nat} {l : List Bool} (h : Blk w b (bcells l) 4) : fls w b = l.count false := by
  unfold fls
  unfold Blk at h
  rw [h]
  show ((l.map Value.bool).toArray.toList).countP isF = _
  simp only [List.countP_map, List.count]
  congr 1
  funext x
  cases x <;> rfl
theorem sum_le {f g : Nat → Nat} : ∀ (l : List Nat), (∀ k ∈ l, f k ≤ g k) → (l.map f).sum ≤ (l.map g).sum
  | [], _ => Nat.le_refl _
  | a :: l, h => by
    have h1 := h a (by simp)
    have h2 := sum_le l (fun k hk => h k (by simp [hk]))
    simp only [List.map_cons, List.sum_cons]
    omega
theorem sum_lt {f g : Nat → Nat} : ∀ (l : List Nat), (∀ k ∈ l, f k ≤ g k) → (∃ k ∈ l, f k < g k) → (l.map f).sum < (l.map g).sum
  | [], _, h => by obtain ⟨k, hk, _⟩ := h; cases hk
  | a :: l, h, h' => by
    have h1 := h a (by simp)
    have h2 := sum_le l (fun k hk => h k (by simp [hk]))
    simp only [List.map_cons, List.sum_cons]
    obtain ⟨k, hk, hlt⟩ := h'
    rcases List.mem_cons.1 hk with rfl | hk
    · omega
    · have := sum_lt l (fun k hk => h k (by simp [hk])) ⟨k, hk, hlt⟩
      omega
theorem flsUp_same {w w' : World} {lo hi : Nat} (h : ∀ k, lo ≤ k → k < hi → w'.heap[k]? = w.heap[k]?) : flsUp w' lo hi = flsUp w lo hi := by
  unfold flsUp
  congr 1
  refine List.map_congr_left (fun k hk => ?_)
  have hk : k < hi := by simpa using hk
  by_cases h1 : lo ≤ k
  · rw [if_pos h1, if_pos h1, fls_same (h k h1 hk)]
  · rw [if_neg h1, if_neg h1]
theorem count_set : ∀ (l : List Bool) (j : Nat), l[j]? = some false → (l.set j true).count false < l.count false
  | [], j, h => by simp at h
  | a :: l, 0, h => by simp at h; subst h; simp
  | a :: l, j + 1, h => by
    have := count_set l j (by simpa using h)
    rw [List.set_cons_succ, List.count_cons, List.count_cons]
    omega
/-- a false becomes true -/
theorem flsUp_set {w : World} {lo hi b j : Nat} {l : List Bool} (h : Blk w b (bcells l) 4) (hb : lo ≤ b) (hb' : b < hi) (hj : l[j]? = some false) : flsUp (w.setCell ⟨b, j, none⟩ (.bool true)) lo hi < flsUp w lo hi := by
  have hset := h.set j (.bool true)
  rw [bcells_set] at hset
  have e1 := fls_row hset
  have e2 := fls_row h
  have hlt := count_set l j hj
  have hoth : ∀ k, k ≠ b → (w.setCell ⟨b, j, none⟩ (.bool true)).heap[k]? = w.heap[k]? := fun k hk => Below.heap_setCell w ⟨b, j, none⟩ (.bool true) k hk
  unfold flsUp
  refine sum_lt _ (fun k _ => ?_) ⟨b, by simpa using hb', ?_⟩
  · by_cases h1 : lo ≤ k
    · rw [if_pos h1, if_pos h1]
      by_cases h2 : k = b
      · subst h2; omega
      · rw [fls_same (hoth k h2)]; exact Nat.le_refl _
    · rw [if_neg h1, if_neg h1]; exact Nat.le_refl _
  · rw [if_pos hb, if_pos hb]; omega

/-- only rows of truths have changed, their lengths have not -/
structure BChg (w w' : World) : Prop where
  t : TChg [4] w w'
  row : ∀ b l, Blk w b (bcells l) 4 → ∃ l', l'.length = l.length ∧ Blk w' b (bcells l') 4
theorem BChg.refl (w : World) : BChg w w := ⟨TChg.refl _ _, fun _ l h => ⟨l, rfl, h⟩⟩
theorem BChg.trans {a b c : World} (h : BChg a b) (k : BChg b c) : BChg a c := by
  refine ⟨h.t.trans k.t, fun x l hl => ?_⟩
  obtain ⟨l1, e1, h1⟩ := h.row x l hl
  obtain ⟨l2, e2, h2⟩ := k.row x l1 h1
  exact ⟨l2, e2.trans e1, h2⟩
theorem BChg.no {a b : World} (h : Chg No a b) : BChg a b := ⟨TChg.no h, fun _ l hl => ⟨l, rfl, hl.chg h (fun h => h)⟩⟩
theorem BChg.set {w0 w : World} (h : BChg w0 w) {b : Nat} {l : List Bool} (hb : Blk w b (bcells l) 4) (j : Nat) (v : Bool) : BChg w0 (w.setCell ⟨b, j, none⟩ (.bool v)) := by
  refine ⟨h.t.setCell hb (by simp) _, fun x m hm => ?_⟩
  obtain ⟨m1, e1, h1⟩ := h.row x m hm
  by_cases hx : x = b
  · subst hx
    refine ⟨m1.set j v, by rw [List.length_set, e1], ?_⟩
    have := h1.set j (.bool v)
    rwa [bcells_set] at this
  · exact ⟨m1, e1, h1.other (by simpa using hx) _⟩

/-- v: G tables of n rows of n truths; the rows lie in the blocks from lo up to hi -/
def TabRow (w : World) (lo hi n : Nat) (x : Value) : Prop := ∃ b l, x = .slice (some ⟨b, 0, none⟩) n n ∧ Blk w b (bcells l) 4 ∧ l.length = n ∧ lo ≤ b ∧ b < hi
def TabRows (w : World) (lo hi n : Nat) (u : Value) : Prop := ∃ us, Own w 30 1 u n us ∧ ∀ x ∈ us, TabRow w lo hi n x
def Tab (w : World) (lo hi G n : Nat) (v : Value) : Prop := ∃ vs, Own w 62 1 v G vs ∧ ∀ u ∈ vs, TabRows w lo hi n u
theorem TabRow.b {w w' : World} {lo hi n : Nat} {x : Value} (h : TabRow w lo hi n x) (hc : BChg w w') : TabRow w' lo hi n x := by
  obtain ⟨b, l, h1, h2, h3, h4, h5⟩ := h
  obtain ⟨l', e, h6⟩ := hc.row b l h2
  exact ⟨b, l', h1, h6, e.trans h3, h4, h5⟩
theorem TabRow.hi {w : World} {lo hi hi' n : Nat} {x : Value} (h : TabRow w lo hi n x) (hh : hi ≤ hi') : TabRow w lo hi' n x := by
  obtain ⟨b, l, h1, h2, h3, h4, h5⟩ := h
  exact ⟨b, l, h1, h2, h3, h4, by omega⟩
/-- beside it: rows of other types have changed -/
theorem TabRow.tchg {Ts : List TypeId} {w w' : World} {lo hi n : Nat} {x : Value} (h : TabRow w lo hi n x) (hc : TChg Ts w w') (h4 : (4 : TypeId) ∉ Ts) : TabRow w' lo hi n x := by
  obtain ⟨b, l, h1, h2, h3, h4', h5⟩ := h
  exact ⟨b, l, h1, hc.blk h2 h4, h3, h4', h5⟩
theorem TabRows.b {w w' : World} {lo hi n : Nat} {u : Value} (h : TabRows w lo hi n u) (hc : BChg w w') : TabRows w' lo hi n u := by
  obtain ⟨us, h1, h2⟩ := h
  exact ⟨us, hc.t.own h1 (by decide), fun x hx => (h2 x hx).b hc⟩
theorem TabRows.tchg {Ts : List TypeId} {w w' : World} {lo hi n : Nat} {u : Value} (h : TabRows w lo hi n u) (hc : TChg Ts w w') (h4 : (4 : TypeId) ∉ Ts) (h30 : (30 : TypeId) ∉ Ts) : TabRows w' lo hi n u := by
  obtain ⟨us, h1, h2⟩ := h
  exact ⟨us, hc.own h1 h30, fun x hx => (h2 x hx).tchg hc h4⟩
theorem TabRows.hi {w : World} {lo hi hi' n : Nat} {u : Value} (h : TabRows w lo hi n u) (hh : hi ≤ hi') : TabRows w lo hi' n u := by
  obtain ⟨us, h1, h2⟩ := h
  exact ⟨us, h1, fun x hx => (h2 x hx).hi hh⟩
theorem Tab.b {w w' : World} {lo hi G n : Nat} {v : Value} (h : Tab w lo hi G n v) (hc : BChg w w') : Tab w' lo hi G n v := by
  obtain ⟨vs, h1, h2⟩ := h
  exact ⟨vs, hc.t.own h1 (by decide), fun x hx => (h2 x hx).b hc⟩
theorem Tab.no {w w' : World} {lo hi G n : Nat} {v : Value} (h : Tab w lo hi G n v) (hc : Chg No w w') : Tab w' lo hi G n v := h.b (.no hc)
theorem Tab.tchg {Ts : List TypeId} {w w' : World} {lo hi G n : Nat} {v : Value} (h : Tab w lo hi G n v) (hc : TChg Ts w w') (h4 : (4 : TypeId) ∉ Ts) (h30 : (30 : TypeId) ∉ Ts) (h62 : (62 : TypeId) ∉ Ts) : Tab w' lo hi G n v := by
  obtain ⟨vs, h1, h2⟩ := h
  exact ⟨vs, hc.own h1 h62, fun x hx => (h2 x hx).tchg hc h4 h30⟩
theorem Tab.slice {w : World} {lo hi G n : Nat} {v : Value} (h : Tab w lo hi G n v) : ∃ A c, v = .slice A G c := by
  obtain ⟨vs, h1, _⟩ := h
  exact h1.slice
/-- the way to one row -/
theorem Tab.at_ {w : World} {lo hi G n : Nat} {A : Option Addr} {c : Nat} (h : Tab w lo hi G n (.slice A G c)) {q i : Nat} (hq : q < G) (hi' : i < n) :
    ∃ g g2 c2 b l, A = some ⟨g, 0, none⟩ ∧ w.cell? ⟨g, q, none⟩ = some (.slice (some ⟨g2, 0, none⟩) n c2) ∧ w.cell? ⟨g2, i, none⟩ = some (.slice (some ⟨b, 0, none⟩) n n) ∧ Blk w b (bcells l) 4 ∧ l.length = n ∧ lo ≤ b ∧ b < hi := by
  obtain ⟨vs, h1, h2⟩ := h
  obtain ⟨g, cap, cur, he, _, _⟩ := Own.blk h1 (by omega)
  simp at he
  obtain ⟨rfl, rfl⟩ := he
  have hvl : vs.length = G := by have := h1.1; omega
  obtain ⟨u, hu⟩ : ∃ u, vs[q]? = some u := ⟨_, List.getElem?_eq_getElem (by omega)⟩
  obtain ⟨us, k1, k2⟩ := h2 u (List.mem_of_getElem? hu)
  obtain ⟨g2, c2, cur2, rfl, _, _⟩ := Own.blk k1 (by omega)
  have hul : us.length = n := by have := k1.1; omega
  obtain ⟨x, hx⟩ : ∃ x, us[i]? = some x := ⟨_, List.getElem?_eq_getElem (by omega)⟩
  obtain ⟨b, l, rfl, m1, m2, m3, m4⟩ := k2 x (List.mem_of_getElem? hx)
  exact ⟨g, g2, c2, b, l, rfl, h1.cellAt hu, k1.cellAt hx, m1, m2, m3, m4⟩
end Go.Proofs.YtemdillhbnmjkaaGreatDoor
namespace Go.Proofs.YtemdillhbnmjkaaGreatDoor
open Go.RowKit

/-- a text to be parsed: G rules, tokens ts, and the table of n rows each -/
structure TextV (w : World) (lo hi G n : Nat) (vl ve : Value) (ts : List Int) : Prop where
  len : ts.length + 1 = n
  list : Own w 3 1 vl ts.length (ts.map fun t => .int .i64 t)
  tab : Tab w lo hi G n ve
theorem TextV.no {w w' : World} {lo hi G n : Nat} {vl ve : Value} {ts : List Int} (h : TextV w lo hi G n vl ve ts) (hc : Chg No w w') : TextV w' lo hi G n vl ve ts := ⟨h.len, h.list.no hc, h.tab.no hc⟩
theorem TextV.b {w w' : World} {lo hi G n : Nat} {vl ve : Value} {ts : List Int} (h : TextV w lo hi G n vl ve ts) (hc : BChg w w') : TextV w' lo hi G n vl ve ts := ⟨h.len, hc.t.own h.list (by decide), h.tab.b hc⟩
/-- a row of n truths, made since w -/
def BRow (w : World) (n : Nat) (e : Ending) (w' : World) : Prop := ∃ b l, e = .returned (.slice (some ⟨b, 0, none⟩) n n) ∧ l.length = n ∧ Blk w' b (bcells l) 4 ∧ Chg No w w' ∧ w.heap.size ≤ b

/-- the row at which the symbols so far have come -/
structure Now (w wr : World) (n b : Nat) : Prop where
  new : w.heap.size ≤ b
  chg : Chg No w wr
  at_ : ∃ l, l.length = n ∧ Blk wr b (bcells l) 4
theorem Now.no {w wr w' : World} {n b : Nat} (h : Now w wr n b) (hc : Chg No wr w') : Now w w' n b := by
  obtain ⟨l, h1, h2⟩ := h.at_
  exact ⟨h.new, h.chg.trans hc, l, h1, h2.chg hc (fun h => h)⟩
/-- two rows: one is read, the other written -/
structure Two (w wr : World) (n b b2 : Nat) : Prop where
  new : w.heap.size ≤ b
  new2 : w.heap.size ≤ b2
  ne : b ≠ b2
  chg : Chg No w wr
  at_ : ∃ l, l.length = n ∧ Blk wr b (bcells l) 4
  at2 : ∃ l, l.length = n ∧ Blk wr b2 (bcells l) 4
theorem Two.set {w wr : World} {n b b2 : Nat} (h : Two w wr n b b2) (j : Nat) (v : Bool) : Two w (wr.setCell ⟨b2, j, none⟩ (.bool v)) n b b2 := by
  obtain ⟨l, h1, h2⟩ := h.at_
  obtain ⟨m, h3, h4⟩ := h.at2
  refine ⟨h.new, h.new2, h.ne, h.chg.setCell (fun hk => absurd hk (by have := h.new2; simp; omega)) _, ⟨l, h1, h2.other (by simpa using h.ne) _⟩, ⟨m.set j v, by simpa using h3, ?_⟩⟩
  have := h4.set j (.bool v)
  rwa [bcells_set] at this
theorem brow_at {w : World} {b n j : Nat} (h : ∃ l : List Bool, l.length = n ∧ Blk w b (bcells l) 4) (hj : j < n) : ∃ v : Bool, w.cell? ⟨b, j, none⟩ = some (.bool v) := by
  obtain ⟨l, h1, h2⟩ := h
  exact ⟨_, by rw [h2.cell]; exact bcells_at (by omega)⟩
/-- a row stays a row, whichever row is written -/
theorem bset {w : World} {b n : Nat} (h : ∃ l : List Bool, l.length = n ∧ Blk w b (bcells l) 4) (b2 j : Nat) (v : Bool) : ∃ l : List Bool, l.length = n ∧ Blk (w.setCell ⟨b2, j, none⟩ (.bool v)) b (bcells l) 4 := by
  obtain ⟨l, h1, h2⟩ := h
  by_cases e : b = b2
  · subst e
    refine ⟨l.set j v, by simpa using h1, ?_⟩
    have := h2.set j (.bool v)
    rwa [bcells_set] at this
  · exact ⟨l, h1, h2.other (by simpa using e) _⟩
theorem bfz {w : World} {b n j : Nat} (h : ∃ l : List Bool, l.length = n ∧ Blk w b (bcells l) 4) : w.frozen? ⟨b, j, none⟩ = false := by
  obtain ⟨l, h1, h2⟩ := h
  exact h2.fz j
theorem blt {w : World} {b n : Nat} (h : ∃ l : List Bool, l.length = n ∧ Blk w b (bcells l) 4) : b < w.heap.size := by
  obtain ⟨l, h1, h2⟩ := h
  exact h2.lt

set_option maxHeartbeats 2000000 in
set_option maxRecDepth 100000 in
theorem through_any (w : World) (lo hi G n : Nat) (vg vl ve vs : Value) (ts syms : List Int) (at_ : Nat) (hn : n < 1000) (hT : TextV w lo hi G n vl ve ts) (hs : Rd1 w vs syms) (hsl : syms.length ≤ maxLen)
    (hsy : ∀ s ∈ syms, InI s ∧ (s ≤ -100 → Pl.idx s < G)) (ha : at_ < n) :
    Calls Tryz.prog 60 #[.agg #[vg, vl, ve], vs, .int .i64 (at_ : Int)] w (BRow w n) := by
  obtain ⟨A, c, rfl⟩ := hs.slice
  obtain ⟨AL, cL, rfl⟩ := hT.list.slice
  obtain ⟨AE, cE, rfl⟩ := hT.tab.slice
  have hlen := hT.len
  obtain ⟨L, hL⟩ : ∃ L, L = ts.length := ⟨_, rfl⟩
  rw [← hL] at hlen ⊢
  subst hlen
  obtain ⟨c0, hc0⟩ : ∃ c0, c0 = bcells (List.replicate (L + 1) false) := ⟨_, rfl⟩
  have hmk : ∀ w : World, (Instr.makeSlice 30 (.int .i64 ((L : Int) + 1)) (.int .i64 ((L : Int) + 1))).run Tryz.prog w = .ok (.slice (some ⟨w.heap.size, 0, none⟩) (L + 1) (L + 1)) (w.alloc (.cells c0 4)) := fun w => by rw [hc0]; exact make_bools (L + 1) hn w
  have hx0 : c0[at_]? = some (.bool (Pl.gb (List.replicate (L + 1) false) at_)) := by rw [hc0]; exact bcells_at (by simpa using ha)
  have hx1 : ∃ l : List Bool, l.length = L + 1 ∧ c0.setIfInBounds at_ (.bool true) = bcells l := ⟨(List.replicate (L + 1) false).set at_ true, by simp, by rw [hc0, bcells_set]⟩
  have hx2 : ∃ l : List Bool, l.length = L + 1 ∧ c0 = bcells l := ⟨List.replicate (L + 1) false, by simp, hc0⟩
  generalize Pl.gb (List.replicate (L + 1) false) at_ = x0 at hx0
  have HX1 := Lib.hid hx1
  have HX2 := Lib.hid hx2
  have HT := Lib.hid hT
  have HS := Lib.hid hs
  have HSy := Lib.hid hsy
  have HL := Lib.hid hL
  unfold maxLen at hsl
  have a0 : (0 : Int) ≤ (at_ : Int) := by omega
  have a1 : (at_ : Int) < (L : Int) + 1 := by omega
  clear hT hs hsy hL hx1 hx2 hc0
  go_enter Tryz.func60, Tryz.ntmps60
  go_wp2
  go_loopw [7, 26] (fun v i wr => ∃ (k b : Nat), k ≤ syms.length ∧ i = .int .i64 (k : Int) ∧ v = .slice (some ⟨b, 0, none⟩) (L + 1) (L + 1) ∧ Now (w.alloc (.cells #[vg, .slice AL L cL, .slice AE G cE] 95)) wr (L + 1) b) (fun _ i _ => syms.length - (intOf i).toNat)
  case atStart =>
    obtain ⟨l, h1, h2⟩ := HX1.out
    exact ⟨0, w.heap.size + 1, Nat.zero_le _, rfl, rfl, by simp, (Chg.refl _ _).alloc _, l, h1, by rw [h2]; exact Blk.at_new (by simp) _ _⟩
  case round =>
    obtain ⟨k, b, hk, rfl, rfl, hN⟩ := hrel
    obtain ⟨w1, hw1⟩ : ∃ w1, w1 = w.alloc (.cells #[vg, .slice AL L cL, .slice AE G cE] 95) := ⟨_, rfl⟩
    rw [← hw1] at hN ⊢
    have HB := Lib.hid (show Blk w1 w.heap.size #[vg, .slice AL L cL, .slice AE G cE] 95 by rw [hw1]; exact Blk.new _ _ _)
    have HW1 := Lib.hid (show Chg No w w1 by rw [hw1]; exact (Chg.refl _ _).alloc _)
    have HS1 := Lib.hid (show w1.heap.size = w.heap.size + 1 by rw [hw1]; simp)
    clear hw1 hx0
    by_cases hlt : k < syms.length
    · obtain ⟨s, hu⟩ : ∃ u, syms[k]? = some u := ⟨_, List.getElem?_eq_getElem hlt⟩
      obtain ⟨b2, o2, rfl, h10⟩ := Rd1.at_ HS.out hu
      have k1 := Chg.kept (HW1.out.trans hN.chg) h10 (fun h => h)
      obtain ⟨⟨hs1, hs2⟩, hs3⟩ := HSy.out s (List.mem_of_getElem? hu)
      have HN := Lib.hid hN
      have HS3 := Lib.hid hs3
      obtain ⟨wb, hwb⟩ : ∃ wb : World, wb = wr := ⟨_, rfl⟩
      rw [← hwb] at k1 ⊢
      rw [← hwb] at HN
      clear hwb hN hs3 hu h10 wr
      go_wp2
      clear k1 hmk
      go_loopw [35] (fun i wr => ∃ (j : Nat), j ≤ L + 1 ∧ i = .int .i64 (j : Int) ∧ Two w1 wr (L + 1) b wb.heap.size) (fun i _ => L + 1 - (intOf i).toNat)
      case atStart =>
        obtain ⟨l, h1, h2⟩ := HX2.out
        obtain ⟨l2, h3, h4⟩ := HN.out.at_
        have := h4.lt
        exact ⟨0, Nat.zero_le _, rfl, HN.out.new, by have := HN.out.chg.size; omega, by omega, HN.out.chg.alloc _, ⟨l2, h3, h4.alloc _⟩, ⟨l, h1, by rw [h2]; exact Blk.new _ _ _⟩⟩
      case round =>
        obtain ⟨j, hj, rfl, hT2⟩ := hrel
        by_cases hlt2 : j < L + 1
        · obtain ⟨x, e1⟩ := brow_at hT2.at_ hlt2
          have j0 : (0 : Int) ≤ (j : Int) := by omega
          have j1 : (j : Int) < (L : Int) + 1 := by omega
          have HT2 := Lib.hid hT2
          cases x with
          | false =>
            clear hT2
            go_wp2
            go_roundw
            case rel => exact ⟨j + 1, by omega, by go_num, HT2.out⟩
            case measure => simp [intOf]; omega
          | true =>
            have cB := HB.out.chg hT2.chg (fun h => h)
            have e5 : wr.cell? ⟨w.heap.size, 1, none⟩ = some (.slice AL L cL) := by rw [cB.cell]; rfl
            have e6 : wr.cell? ⟨w.heap.size, 2, none⟩ = some (.slice AE G cE) := by rw [cB.cell]; rfl
            have hTx := HT.out.no (HW1.out.trans hT2.chg)
            rw [← HL.out] at hTx
            by_cases hle : s ≤ -100
            · have hq := HS3.out hle
              obtain ⟨g, g2, c2, b3, l3, rfl, t1, t2, t3, t4, t5, t6⟩ := hTx.tab.at_ hq hlt2
              have hb3 := t3.lt
              have HRP := Lib.hid (rule_pos wr s hs1 hle)
              have HT3 := Lib.hid (show ∃ l : List Bool, l.length = L + 1 ∧ Blk wr b3 (bcells l) 4 from ⟨l3, t4, t3⟩)
              have hq0 : (0 : Int) ≤ ((Pl.idx s : Nat) : Int) := by omega
              have hq1 : ((Pl.idx s : Nat) : Int) < (G : Int) := by omega
              clear hT2 cB hTx t3 t4 t5 t6 e5
              generalize Pl.idx s = q at *
              go_wp2_with (first | (go_at_call 22; refine HRP.out.mono ?_; rintro e w' ⟨rfl, rfl⟩))
              obtain ⟨wc, hwc⟩ : ∃ wc : World, wc = wr := ⟨_, rfl⟩
              rw [← hwc] at HT2 HT3 ⊢
              clear e1 e6 t1 t2 HRP hb3 hwc wr
              go_loopw [55] (fun i wr => ∃ (m : Nat), m ≤ L + 1 ∧ i = .int .i64 (m : Int) ∧ Two w1 wr (L + 1) b wb.heap.size ∧ (∃ l : List Bool, l.length = L + 1 ∧ Blk wr b3 (bcells l) 4)) (fun i _ => L + 1 - (intOf i).toNat)
              case atStart => exact ⟨0, Nat.zero_le _, rfl, HT2.out, HT3.out⟩
              case round =>
                obtain ⟨m, hm, rfl, hT2, hT3⟩ := hrel
                by_cases hlt3 : m < L + 1
                · obtain ⟨x, e1⟩ := brow_at hT3 hlt3
                  obtain ⟨y, e2⟩ := brow_at hT2.at2 hlt3
                  have e3 := bfz (j := m) hT2.at2
                  have m0 : (0 : Int) ≤ (m : Int) := by omega
                  have m1 : (m : Int) < (L : Int) + 1 := by omega
                  have hwl := blt hT2.at2
                  have HT4 := Lib.hid (fun v => hT2.set m v)
                  have HT5 := Lib.hid (fun (v : Bool) => bset hT3 wb.heap.size m v)
                  clear hT2 hT3
                  cases x <;> cases y
                  all_goals
                    go_wp2
                    go_roundw
                    case rel => exact ⟨m + 1, by omega, by go_num, HT4.out _, HT5.out _⟩
                    case measure => simp [intOf]; omega
                · obtain rfl : m = L + 1 := by omega
                  have HT4 := Lib.hid hT2
                  clear hT2 hT3
                  go_wp2
                  go_roundw
                  case rel => exact ⟨j + 1, by omega, by go_num, HT4.out⟩
                  case measure => simp [intOf]; omega
            · have hgt : -100 < s := by omega
              have HRP := Lib.hid (rule_neg wr s hgt)
              clear HS3
              by_cases hjL : j < L
              · obtain ⟨t, ht⟩ : ∃ t, ts[j]? = some t := ⟨_, List.getElem?_eq_getElem (by have := HL.out; omega)⟩
                have hlist := hTx.list
                rw [← HL.out] at hlist
                obtain ⟨gl, cap, cur, he, _, _⟩ := Own.blk hlist (by omega)
                simp at he
                obtain ⟨rfl, rfl⟩ := he
                have e7 : wr.cell? ⟨gl, j, none⟩ = some (.int .i64 t) := hlist.cellAt (by rw [List.getElem?_map, ht]; rfl)
                have j2 : (j : Int) < (L : Int) := by omega
                obtain ⟨y, e8⟩ := brow_at hT2.at2 (show j + 1 < L + 1 by omega)
                have e9 := bfz (j := j + 1) hT2.at2
                have HT9 := Lib.hid (hT2.set (j + 1) true)
                have hwl := blt hT2.at2
                clear hT2 cB hTx hlist ht e6
                by_cases hts : t = s
                · subst hts
                  go_wp2_with (first | (go_at_call 22; refine HRP.out.mono ?_; rintro e w' ⟨rfl, rfl⟩))
                  go_roundw
                  case rel => exact ⟨j + 1, by omega, by go_num, HT9.out⟩
                  case measure => simp [intOf]; omega
                · have d1 : decide (t = s) = false := decide_eq_false hts
                  have d2 : (t == s) = false := by simpa using hts
                  clear hts
                  go_wp2_with (first | (go_at_call 22; refine HRP.out.mono ?_; rintro e w' ⟨rfl, rfl⟩))
                  go_roundw
                  case rel => exact ⟨j + 1, by omega, by go_num, HT2.out⟩
                  case measure => simp [intOf]; omega
              · obtain rfl : j = L := by omega
                clear hT2 cB hTx e6
                go_wp2_with (first | (go_at_call 22; refine HRP.out.mono ?_; rintro e w' ⟨rfl, rfl⟩))
                go_roundw
                case rel => exact ⟨j + 1, by omega, by go_num, HT2.out⟩
                case measure => simp [intOf]
        · obtain rfl : j = L + 1 := by omega
          have HT2 := Lib.hid hT2
          clear hT2
          go_wp2
          go_roundw
          case rel => exact ⟨k + 1, wb.heap.size, by omega, by go_num, rfl, HT2.out.new2, HT2.out.chg, HT2.out.at2⟩
          case measure => simp [intOf]; omega
    · obtain rfl : k = syms.length := by omega
      have HN := Lib.hid hN
      clear hN
      go_wp2
      go_ret
      obtain ⟨l, h1, h2⟩ := HN.out.at_
      exact ⟨b, l, rfl, h1, h2, HW1.out.trans HN.out.chg, by have := HN.out.new; have := HS1.out; omega⟩

def BVal (w : World) (e : Ending) (w' : World) : Prop := ∃ b : Bool, e = .returned (.bool b) ∧ Chg No w w'
set_option maxHeartbeats 2000000 in
set_option maxRecDepth 100000 in
theorem fits_any (w : World) (lo hi G n : Nat) (vg vl ve vs : Value) (ts syms : List Int) (at_ : Nat) (hn : n < 1000) (hT : TextV w lo hi G n vl ve ts) (hs : Rd1 w vs syms) (hsl : syms.length ≤ maxLen)
    (hsy : ∀ s ∈ syms, InI s ∧ (s ≤ -100 → Pl.idx s < G)) (ha : at_ < n) :
    Calls Tryz.prog 47 #[.agg #[vg, vl, ve], vs, .int .i64 (at_ : Int)] w (BVal w) := by
  obtain ⟨AL, cL, rfl⟩ := hT.list.slice
  obtain ⟨AE, cE, rfl⟩ := hT.tab.slice
  obtain ⟨A, c, rfl⟩ := hs.slice
  have hlen := hT.len
  obtain ⟨w1, hw1⟩ : ∃ w1, w1 = w.alloc (.cells #[vg, .slice AL ts.length cL, .slice AE G cE] 95) := ⟨_, rfl⟩
  have hc1 : Chg No w w1 := by rw [hw1]; exact (Chg.refl _ _).alloc _
  have HC1 := Lib.hid hc1
  have hB : Blk w1 w.heap.size #[vg, .slice AL ts.length cL, .slice AE G cE] 95 := by rw [hw1]; exact Blk.new _ _ _
  have HB := Lib.hid hB
  have HTh := Lib.hid (fun w2 (h : Chg No w1 w2) => through_any w2 lo hi G n vg _ _ _ ts syms at_ hn (hT.no (hc1.trans h)) (RdL.no Rd0.no hs (hc1.trans h)) hsl hsy ha)
  have k0 : w1.cell? ⟨w.heap.size, 0, none⟩ = some vg := by rw [hB.cell]; rfl
  have k1 : w1.cell? ⟨w.heap.size, 1, none⟩ = some (.slice AL ts.length cL) := by rw [hB.cell]; rfl
  have k2 : w1.cell? ⟨w.heap.size, 2, none⟩ = some (.slice AE G cE) := by rw [hB.cell]; rfl
  have hw0 : w.heap.size < w1.heap.size := hB.lt
  have i0 : (0 : Int) ≤ (ts.length : Int) := by omega
  have i1 : (ts.length : Int) < (ts.length : Int) + 1 := by omega
  subst hlen
  clear hT hs hsy hc1 hB
  go_enter Tryz.func47, Tryz.ntmps47
  go_wp2
  rw [← hw1]
  clear hw1
  go_region_with ((go_at_call 60; refine (HTh.out _ (Chg.refl No w1).drew).mono ?_; rintro e w' ⟨b, l, rfl, h1, h2, h3, h4⟩; have c0 := Chg.kept h3 (show w1.drew.cell? _ = _ from k0) (fun h => h); have c1 := Chg.kept h3 (show w1.drew.cell? _ = _ from k1) (fun h => h); have c2 := Chg.kept h3 (show w1.drew.cell? _ = _ from k2) (fun h => h); obtain ⟨x, hx⟩ := brow_at ⟨l, h1, h2⟩ (show ts.length < ts.length + 1 by omega); have HX := Lib.hid ((Chg.refl No w1).drew.trans h3); clear h1 h2 h3 h4))
  all_goals
    go_wp2
    go_ret
    exact ⟨_, rfl, HC1.out.trans HX.out⟩
end Go.Proofs.YtemdillhbnmjkaaGreatDoor

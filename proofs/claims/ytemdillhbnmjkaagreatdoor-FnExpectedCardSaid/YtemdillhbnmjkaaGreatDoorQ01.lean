/- Grammars and their networks, in plain words: what symbols can be nothing, with what they can begin, and what a search through the network comes to. · Rows of intervals of tokens: how one is put in, and what they then have. · The network of a grammar, in plain words: its states by number, its edges, row by row. -/
namespace Go.Proofs.YtemdillhbnmjkaaGreatDoor.Pl

abbrev Gr := List (List (List Int))

/-- the symbol of rule q -/
def ofR (q : Nat) : Int := -100 - (q : Int)

inductive Null (g : Gr) : List Int → Prop
  | nil : Null g []
  | cons {q alts alt rest} : g[q]? = some alts → alt ∈ alts → Null g alt → Null g rest → Null g (ofR q :: rest)

inductive Starts (g : Gr) : List Int → Int → Prop
  | tok {t rest} : -100 < t → Starts g (t :: rest) t
  | rule {q alts alt rest t} : g[q]? = some alts → alt ∈ alts → Starts g alt t → Starts g (ofR q :: rest) t
  | skip {q alts alt rest t} : g[q]? = some alts → alt ∈ alts → Null g alt → Starts g rest t → Starts g (ofR q :: rest) t

theorem ofR_inj {p q : Nat} (h : ofR p = ofR q) : p = q := by unfold ofR at h; omega
theorem ofR_not {q : Nat} : ¬ (-100 < ofR q) := by unfold ofR; omega

/-- rule q can be nothing -/
def NullR (g : Gr) (q : Nat) : Prop := ∃ alts alt, g[q]? = some alts ∧ alt ∈ alts ∧ Null g alt
/-- rule q can start with t -/
def StartsR (g : Gr) (q : Nat) (t : Int) : Prop := ∃ alts alt, g[q]? = some alts ∧ alt ∈ alts ∧ Starts g alt t

theorem null_cons {g : Gr} {q : Nat} {rest : List Int} : Null g (ofR q :: rest) ↔ NullR g q ∧ Null g rest := by
  constructor
  · intro h
    generalize hl : ofR q :: rest = l at h
    cases h with
    | nil => cases hl
    | cons h1 h2 h3 h4 =>
      injection hl with ha hb
      have := ofR_inj ha; subst this; subst hb
      exact ⟨⟨_, _, h1, h2, h3⟩, h4⟩
  · rintro ⟨⟨_, _, h1, h2, h3⟩, h4⟩
    exact .cons h1 h2 h3 h4

theorem null_tok {g : Gr} {t : Int} {rest : List Int} (ht : -100 < t) : ¬ Null g (t :: rest) := by
  intro h
  generalize hl : t :: rest = l at h
  cases h with
  | nil => cases hl
  | cons h1 h2 h3 h4 =>
    injection hl with ha hb
    exact ofR_not (ha ▸ ht)

theorem starts_cons {g : Gr} {q : Nat} {rest : List Int} {t : Int} : Starts g (ofR q :: rest) t ↔ StartsR g q t ∨ (NullR g q ∧ Starts g rest t) := by
  constructor
  · intro h
    generalize hl : ofR q :: rest = l at h
    cases h with
    | tok h1 => injection hl with ha hb; exact absurd (ha ▸ h1) ofR_not
    | rule h1 h2 h3 =>
      injection hl with ha hb
      have := ofR_inj ha; subst this; subst hb
      exact .inl ⟨_, _, h1, h2, h3⟩
    | skip h1 h2 h3 h4 =>
      injection hl with ha hb
      have := ofR_inj ha; subst this; subst hb
      exact .inr ⟨⟨_, _, h1, h2, h3⟩, h4⟩
  · rintro (⟨_, _, h1, h2, h3⟩ | ⟨⟨_, _, h1, h2, h3⟩, h4⟩)
    · exact .rule h1 h2 h3
    · exact .skip h1 h2 h3 h4

theorem starts_tok {g : Gr} {s : Int} {rest : List Int} {t : Int} (hs : -100 < s) : Starts g (s :: rest) t ↔ t = s := by
  constructor
  · intro h
    generalize hl : s :: rest = l at h
    cases h with
    | tok h1 => injection hl with ha hb; exact ha.symm
    | rule h1 h2 h3 => injection hl with ha hb; exact absurd (ha ▸ hs) ofR_not
    | skip h1 h2 h3 h4 => injection hl with ha hb; exact absurd (ha ▸ hs) ofR_not
  · rintro rfl; exact .tok hs

theorem starts_nil {g : Gr} {t : Int} : ¬ Starts g [] t := by
  intro h; cases h

/-- rule r may call rule q before any token -/
def LeftC (g : Gr) (r q : Nat) : Prop := ∃ alts alt pre rest, g[r]? = some alts ∧ alt ∈ alts ∧ alt = pre ++ ofR q :: rest ∧ Null g pre

inductive LeftP (g : Gr) : Nat → Nat → Prop
  | one {r q} : LeftC g r q → LeftP g r q
  | step {r p q} : LeftC g r p → LeftP g p q → LeftP g r q

/-- all symbols are tokens or rules of g -/
def Syms (g : Gr) (l : List Int) : Prop := ∀ s ∈ l, (-100 < s) ∨ ∃ q, q < g.length ∧ s = ofR q

/-! the network -/
inductive Tr where
  | eps (to : Nat)
  | call (q start follow : Nat)
  | tok (t : Int)

structure NetG where
  trs : Nat → List Tr
  stop : Nat → Option Nat

structure IsNet (g : Gr) (N : NetG) (place : Nat → Nat → Nat) : Prop where
  startS : ∀ r, r < g.length → N.stop r = none ∧ N.trs r = [.eps (2 * g.length + r)]
  stopS : ∀ r, r < g.length → N.stop (g.length + r) = some r
  blockS : ∀ r alts, g[r]? = some alts → N.stop (2 * g.length + r) = none ∧ ∀ x, x ∈ N.trs (2 * g.length + r) ↔ ∃ a alt, alts[a]? = some alt ∧ x = .eps (place r a)
  bendS : ∀ r, r < g.length → N.stop (3 * g.length + r) = none ∧ N.trs (3 * g.length + r) = [.eps (g.length + r)]
  lastS : ∀ r a alts alt, g[r]? = some alts → alts[a]? = some alt → N.stop (place r a + alt.length) = none ∧ N.trs (place r a + alt.length) = [.eps (3 * g.length + r)]
  tokS : ∀ (r a k : Nat) alts alt (s : Int), g[r]? = some alts → alts[a]? = some alt → alt[k]? = some s → -100 < s → N.stop (place r a + k) = none ∧ N.trs (place r a + k) = [.tok s]
  ruleS : ∀ (r a k q : Nat) alts alt, g[r]? = some alts → alts[a]? = some alt → alt[k]? = some (ofR q) → N.stop (place r a + k) = none ∧ N.trs (place r a + k) = [.call q q (place r a + k + 1)]

abbrev Cfg := Nat × List Nat

inductive Step (N : NetG) (bot : Bool) : Cfg → Cfg → Prop
  | pop {s r f k} : N.stop s = some r → Step N bot (s, f :: k) (f, k)
  | wide {s r f} : N.stop s = some r → bot = true → Tr.eps f ∈ N.trs s → Step N bot (s, []) (f, [])
  | eps {s k to} : N.stop s = none → Tr.eps to ∈ N.trs s → Step N bot (s, k) (to, k)
  | call {s k q st f} : N.stop s = none → Tr.call q st f ∈ N.trs s → Step N bot (s, k) (st, f :: f :: k)

inductive Toks (N : NetG) (bot : Bool) : Cfg → Int → Prop
  | tok {s k t} : N.stop s = none → Tr.tok t ∈ N.trs s → Toks N bot (s, k) t
  | fin {s r} : N.stop s = some r → bot = false → Toks N bot (s, []) (-2)

inductive Reach (N : NetG) (bot : Bool) : Cfg → Cfg → Prop
  | refl {c} : Reach N bot c c
  | step {c d e} : Step N bot c d → Reach N bot d e → Reach N bot c e

def TR (N : NetG) (bot : Bool) (c : Cfg) (t : Int) : Prop := ∃ d, Reach N bot c d ∧ Toks N bot d t

theorem tr_iff {N : NetG} {bot : Bool} {c : Cfg} {t : Int} : TR N bot c t ↔ Toks N bot c t ∨ ∃ d, Step N bot c d ∧ TR N bot d t := by
  constructor
  · rintro ⟨d, hr, ht⟩
    cases hr with
    | refl => exact .inl ht
    | step h1 h2 => exact .inr ⟨_, h1, _, h2, ht⟩
  · rintro (h | ⟨d, h1, e, h2, h3⟩)
    · exact ⟨c, .refl, h⟩
    · exact ⟨e, .step h1 h2, h3⟩

/-- at a state with one epsilon edge -/
theorem tr_eps {N : NetG} {bot : Bool} {s to : Nat} {k : List Nat} {t : Int} (h : N.stop s = none ∧ N.trs s = [.eps to]) : TR N bot (s, k) t ↔ TR N bot (to, k) t := by
  rw [tr_iff]
  constructor
  · rintro (h1 | ⟨d, h1, h2⟩)
    · cases h1 with
      | tok _ hm => rw [h.2] at hm; simp at hm
      | fin hs _ => rw [h.1] at hs; cases hs
    · cases h1 with
      | pop hs => rw [h.1] at hs; cases hs
      | wide hs => rw [h.1] at hs; cases hs
      | eps _ hm => rw [h.2] at hm; simp at hm; subst hm; exact h2
      | call _ hm => rw [h.2] at hm; simp at hm
  · intro h1
    exact .inr ⟨_, .eps h.1 (by rw [h.2]; simp), h1⟩

theorem tr_call {N : NetG} {bot : Bool} {s q st f : Nat} {k : List Nat} {t : Int} (h : N.stop s = none ∧ N.trs s = [.call q st f]) : TR N bot (s, k) t ↔ TR N bot (st, f :: f :: k) t := by
  rw [tr_iff]
  constructor
  · rintro (h1 | ⟨d, h1, h2⟩)
    · cases h1 with
      | tok _ hm => rw [h.2] at hm; simp at hm
      | fin hs _ => rw [h.1] at hs; cases hs
    · cases h1 with
      | pop hs => rw [h.1] at hs; cases hs
      | wide hs => rw [h.1] at hs; cases hs
      | eps _ hm => rw [h.2] at hm; simp at hm
      | call _ hm => rw [h.2] at hm; simp at hm; obtain ⟨rfl, rfl, rfl⟩ := hm; exact h2
  · intro h1
    exact .inr ⟨_, .call (q := q) h.1 (by rw [h.2]; simp), h1⟩

theorem tr_tok {N : NetG} {bot : Bool} {s : Nat} {x : Int} {k : List Nat} {t : Int} (h : N.stop s = none ∧ N.trs s = [.tok x]) : TR N bot (s, k) t ↔ t = x := by
  rw [tr_iff]
  constructor
  · rintro (h1 | ⟨d, h1, h2⟩)
    · cases h1 with
      | tok _ hm => rw [h.2] at hm; simpa using hm
      | fin hs _ => rw [h.1] at hs; cases hs
    · cases h1 with
      | pop hs => rw [h.1] at hs; cases hs
      | wide hs => rw [h.1] at hs; cases hs
      | eps _ hm => rw [h.2] at hm; simp at hm
      | call _ hm => rw [h.2] at hm; simp at hm
  · rintro rfl
    exact .inl (.tok h.1 (by rw [h.2]; simp))

theorem tr_pop {N : NetG} {bot : Bool} {s r f : Nat} {k : List Nat} {t : Int} (h : N.stop s = some r) : TR N bot (s, f :: k) t ↔ TR N bot (f, k) t := by
  rw [tr_iff]
  constructor
  · rintro (h1 | ⟨d, h1, h2⟩)
    · cases h1 with
      | tok hs hm => rw [h] at hs; cases hs
    · cases h1 with
      | pop hs => exact h2
      | eps hs _ => rw [h] at hs; cases hs
      | call hs _ => rw [h] at hs; cases hs
  · intro h1
    exact .inr ⟨_, .pop h, h1⟩

theorem tr_fin {N : NetG} {s r : Nat} {t : Int} (h : N.stop s = some r) : TR N false (s, []) t ↔ t = -2 := by
  rw [tr_iff]
  constructor
  · rintro (h1 | ⟨d, h1, h2⟩)
    · cases h1 with
      | tok hs hm => rw [h] at hs; cases hs
      | fin _ _ => rfl
    · cases h1 with
      | wide hs hb => cases hb
      | eps hs _ => rw [h] at hs; cases hs
      | call hs _ => rw [h] at hs; cases hs
  · rintro rfl
    exact .inl (.fin h rfl)

theorem tr_block {N : NetG} {bot : Bool} {s : Nat} {k : List Nat} {t : Int} (P : Nat → Prop) (h : N.stop s = none ∧ ∀ x, x ∈ N.trs s ↔ ∃ to, P to ∧ x = .eps to) : TR N bot (s, k) t ↔ ∃ to, P to ∧ TR N bot (to, k) t := by
  rw [tr_iff]
  constructor
  · rintro (h1 | ⟨d, h1, h2⟩)
    · cases h1 with
      | tok _ hm => obtain ⟨_, _, he⟩ := (h.2 _).1 hm; cases he
      | fin hs _ => rw [h.1] at hs; cases hs
    · cases h1 with
      | pop hs => rw [h.1] at hs; cases hs
      | wide hs => rw [h.1] at hs; cases hs
      | eps _ hm => obtain ⟨to, hp, he⟩ := (h.2 _).1 hm; cases he; exact ⟨_, hp, h2⟩
      | call _ hm => obtain ⟨_, _, he⟩ := (h.2 _).1 hm; cases he
  · rintro ⟨to, hp, h1⟩
    exact .inr ⟨_, .eps h.1 ((h.2 _).2 ⟨to, hp, rfl⟩), h1⟩

/-! what a state of an alternative can come to -/
section

/-- rule q, from its start -/
def RuleTR (g : Gr) (N : NetG) (bot : Bool) (q : Nat) : Prop :=
  ∀ ctx t, TR N bot (q, ctx) t ↔ StartsR g q t ∨ (NullR g q ∧ TR N bot (g.length + q, ctx) t)

theorem suffix_tr {g : Gr} {N : NetG} {place : Nat → Nat → Nat} (H : IsNet g N place) (bot : Bool) {r a : Nat} {alts : List (List Int)} {alt : List Int} (hr : g[r]? = some alts) (ha : alts[a]? = some alt) (hsym : Syms g alt) :
    ∀ (n k : Nat), k + n = alt.length → (∀ q pre rest, alt.drop k = pre ++ ofR q :: rest → Null g pre → RuleTR g N bot q) →
      ∀ ctx t, TR N bot (place r a + k, ctx) t ↔ Starts g (alt.drop k) t ∨ (Null g (alt.drop k) ∧ TR N bot (g.length + r, ctx) t) := by
  have hrl : r < g.length := by
    rcases Nat.lt_or_ge r g.length with h | h
    · exact h
    · rw [List.getElem?_eq_none h] at hr; cases hr
  intro n
  induction n with
  | zero =>
    intro k hk _ ctx t
    have hk' : k = alt.length := by omega
    subst hk'
    rw [List.drop_length, tr_eps (H.lastS r a alts alt hr ha), tr_eps (H.bendS r hrl)]
    constructor
    · intro h; exact .inr ⟨.nil, h⟩
    · rintro (h | ⟨_, h⟩)
      · exact absurd h starts_nil
      · exact h
  | succ n ih =>
    intro k hk hA ctx t
    have hlt : k < alt.length := by omega
    have hd : alt.drop k = alt[k] :: alt.drop (k + 1) := List.drop_eq_getElem_cons hlt
    have hg : alt[k]? = some alt[k] := List.getElem?_eq_getElem hlt
    rcases hsym alt[k] (List.getElem_mem hlt) with ht | ⟨q, _, hq⟩
    · rw [hd, tr_tok (H.tokS r a k alts alt _ hr ha hg ht), starts_tok ht]
      constructor
      · intro h; exact .inl h
      · rintro (h | ⟨h, _⟩)
        · exact h
        · exact absurd h (null_tok ht)
    · rw [hq] at hg
      rw [hd, hq, tr_call (H.ruleS r a k q alts alt hr ha hg), starts_cons, null_cons]
      have hq' : RuleTR g N bot q := hA q [] (alt.drop (k + 1)) (by rw [hd, hq]; rfl) .nil
      have hstop := H.stopS
      have hnext : ∀ (_ : NullR g q) ctx t, TR N bot (place r a + k + 1, ctx) t ↔ Starts g (alt.drop (k + 1)) t ∨ (Null g (alt.drop (k + 1)) ∧ TR N bot (g.length + r, ctx) t) := by
        intro hn
        have := ih (k + 1) (by omega) (fun q' pre rest he hp => hA q' (ofR q :: pre) rest (by rw [hd, hq, he]; rfl) (null_cons.2 ⟨hn, hp⟩))
        intro ctx t
        have e : place r a + k + 1 = place r a + (k + 1) := by omega
        rw [e]; exact this ctx t
      rw [hq' _ t]
      by_cases hn : NullR g q
      · have hqlt : q < g.length := by
          obtain ⟨_, _, h, _⟩ := hn
          rcases Nat.lt_or_ge q g.length with h' | h'
          · exact h'
          · rw [List.getElem?_eq_none h'] at h; cases h
        rw [tr_pop (H.stopS q hqlt), hnext hn, tr_pop (H.stopS r hrl), hnext hn]
        constructor
        · rintro (h | ⟨_, h⟩)
          · exact .inl (.inl h)
          · rcases h with h | ⟨_, h | ⟨h, h'⟩⟩
            · exact .inl (.inr ⟨hn, h⟩)
            · exact .inl (.inr ⟨hn, h⟩)
            · exact .inr ⟨⟨hn, h⟩, h'⟩
        · rintro ((h | ⟨_, h⟩) | ⟨⟨_, h⟩, h'⟩)
          · exact .inl h
          · exact .inr ⟨hn, .inl h⟩
          · exact .inr ⟨hn, .inr ⟨h, .inr ⟨h, h'⟩⟩⟩
      · constructor
        · rintro (h | ⟨h, _⟩)
          · exact .inl (.inl h)
          · exact absurd h hn
        · rintro ((h | ⟨h, _⟩) | ⟨⟨h, _⟩, _⟩)
          · exact .inl h
          · exact absurd h hn
          · exact absurd h hn

theorem rule_tr {g : Gr} {N : NetG} {place : Nat → Nat → Nat} (H : IsNet g N place) (bot : Bool) (hsym : ∀ (r : Nat) (alts : List (List Int)) (alt : List Int), g[r]? = some alts → alt ∈ alts → Syms g alt) (hwf : WellFounded (fun q r => LeftC g r q)) :
    ∀ q, q < g.length → RuleTR g N bot q := by
  intro q
  induction q using hwf.induction with
  | _ r ih =>
    intro hrl ctx t
    obtain ⟨alts, hr⟩ : ∃ alts, g[r]? = some alts := ⟨_, List.getElem?_eq_getElem hrl⟩
    rw [tr_eps (H.startS r hrl)]
    obtain ⟨hb1, hb2⟩ := H.blockS r alts hr
    rw [tr_block (fun to => ∃ a alt, alts[a]? = some alt ∧ to = place r a) ⟨hb1, fun x => by
      rw [hb2 x]
      constructor
      · rintro ⟨a, alt, h1, h2⟩; exact ⟨_, ⟨a, alt, h1, rfl⟩, h2⟩
      · rintro ⟨_, ⟨a, alt, h1, rfl⟩, h2⟩; exact ⟨a, alt, h1, h2⟩⟩]
    have key : ∀ a alt, alts[a]? = some alt → (TR N bot (place r a, ctx) t ↔ Starts g alt t ∨ (Null g alt ∧ TR N bot (g.length + r, ctx) t)) := by
      intro a alt ha
      have hm : alt ∈ alts := List.mem_of_getElem? ha
      have := suffix_tr H bot hr ha (hsym r alts alt hr hm) alt.length 0 (by omega) (fun q pre rest he hp => by
        have hs := hsym r alts alt hr hm
        rw [List.drop_zero] at he
        have hqm : ofR q ∈ alt := by rw [he]; simp
        have hql : q < g.length := by
          rcases hs _ hqm with h | ⟨q', h1, h2⟩
          · exact absurd h ofR_not
          · have := ofR_inj h2; omega
        exact ih q ⟨alts, alt, pre, rest, hr, hm, he, hp⟩ hql) ctx t
      simpa using this
    constructor
    · rintro ⟨to, ⟨a, alt, ha, rfl⟩, h⟩
      rcases (key a alt ha).1 h with h | ⟨h, h'⟩
      · exact .inl ⟨alts, alt, hr, List.mem_of_getElem? ha, h⟩
      · exact .inr ⟨⟨alts, alt, hr, List.mem_of_getElem? ha, h⟩, h'⟩
    · rintro (⟨alts', alt, h1, h2, h3⟩ | ⟨⟨alts', alt, h1, h2, h3⟩, h'⟩)
      · rw [hr] at h1; cases h1
        obtain ⟨a, ha, he⟩ := List.getElem_of_mem h2
        have hg : alts[a]? = some alt := by rw [List.getElem?_eq_getElem ha, he]
        exact ⟨_, ⟨a, alt, hg, rfl⟩, (key a alt hg).2 (.inl h3)⟩
      · rw [hr] at h1; cases h1
        obtain ⟨a, ha, he⟩ := List.getElem_of_mem h2
        have hg : alts[a]? = some alt := by rw [List.getElem?_eq_getElem ha, he]
        exact ⟨_, ⟨a, alt, hg, rfl⟩, (key a alt hg).2 (.inr ⟨h3, h'⟩)⟩

/-- what may come behind a state of an alternative -/
theorem pos_tr {g : Gr} {N : NetG} {place : Nat → Nat → Nat} (H : IsNet g N place) (bot : Bool) (hsym : ∀ (r : Nat) (alts : List (List Int)) (alt : List Int), g[r]? = some alts → alt ∈ alts → Syms g alt) (hwf : WellFounded (fun q r => LeftC g r q))
    {r a : Nat} {alts : List (List Int)} {alt : List Int} (hr : g[r]? = some alts) (ha : alts[a]? = some alt) (k : Nat) (hk : k ≤ alt.length) (ctx : List Nat) (t : Int) :
    TR N bot (place r a + k, ctx) t ↔ Starts g (alt.drop k) t ∨ (Null g (alt.drop k) ∧ TR N bot (g.length + r, ctx) t) := by
  refine suffix_tr H bot hr ha (hsym r alts alt hr (List.mem_of_getElem? ha)) (alt.length - k) k (by omega) (fun q pre rest he hp => ?_) ctx t
  refine rule_tr H bot hsym hwf q ?_
  have hqm : ofR q ∈ alt := List.mem_of_mem_drop (by rw [he]; simp)
  rcases hsym r alts alt hr (List.mem_of_getElem? ha) _ hqm with h | ⟨q', h1, h2⟩
  · exact absurd h ofR_not
  · have := ofR_inj h2; omega
end

/-! the rules that are being called -/
inductive Ok (N : NetG) (bot : Bool) : (Nat → Bool) → Nat → List Nat → Prop
  | fin {C s r} : N.stop s = some r → bot = false → Ok N bot C s []
  | wide {C s r} : N.stop s = some r → bot = true → (∀ x, C x = false) → Ok N bot C s []
  | pop {C s r f k} : N.stop s = some r → Ok N bot (fun x => C x && x != r) f k → Ok N bot C s (f :: k)
  | node {C s k} : N.stop s = none → (∀ to, Tr.eps to ∈ N.trs s → Ok N bot C to k) →
      (∀ q st f, Tr.call q st f ∈ N.trs s → C q = false) → (∀ q st f, Tr.call q st f ∈ N.trs s → Ok N bot (fun x => C x || x == q) st (f :: f :: k)) → Ok N bot C s k

theorem Ok.mono {N : NetG} {bot : Bool} {C : Nat → Bool} {s : Nat} {k : List Nat} (h : Ok N bot C s k) : ∀ {C' : Nat → Bool}, (∀ x, C x = false → C' x = false) → Ok N bot C' s k := by
  induction h with
  | fin h1 h2 => intro C' _; exact .fin h1 h2
  | wide h1 h2 h3 => intro C' hc; exact .wide h1 h2 (fun x => hc x (h3 x))
  | pop h1 _ ih =>
    intro C' hc
    refine .pop h1 (ih fun x hx => ?_)
    rw [Bool.and_eq_false_iff] at hx ⊢
    exact hx.imp (hc x) id
  | node h1 _ h3 _ ih1 ih2 =>
    intro C' hc
    refine .node h1 (fun to hm => ih1 to hm hc) (fun q st f hm => hc _ (h3 q st f hm)) (fun q st f hm => ih2 q st f hm fun x hx => ?_)
    rw [Bool.or_eq_false_iff] at hx ⊢
    exact ⟨hc x hx.1, hx.2⟩

theorem leftP_trans {g : Gr} {a b c : Nat} (h : LeftP g a b) (k : LeftP g b c) : LeftP g a c := by
  induction h with
  | one h1 => exact .step h1 k
  | step h1 _ ih => exact .step h1 (ih k)

theorem leftP_irr {g : Gr} (hwf : WellFounded (fun q r => LeftC g r q)) : ∀ q, ¬ LeftP g q q := by
  intro q
  induction q using hwf.induction with
  | _ r ih =>
    intro h
    cases h with
    | one h1 => exact ih r h1 (.one h1)
    | step h1 h2 => exact ih _ h1 (leftP_trans h2 (.one h1))

theorem ok_eps {N : NetG} {bot : Bool} {s to : Nat} {k : List Nat} {C : Nat → Bool} (h : N.stop s = none ∧ N.trs s = [.eps to]) (hk : Ok N bot C to k) : Ok N bot C s k :=
  .node h.1 (fun to' hm => by rw [h.2] at hm; simp at hm; subst hm; exact hk) (fun q st f hm => by rw [h.2] at hm; simp at hm) (fun q st f hm => by rw [h.2] at hm; simp at hm)

/-- rule q, from its start -/
def RuleOk (g : Gr) (N : NetG) (bot : Bool) (q : Nat) : Prop :=
  ∀ (ctx : List Nat) (C : Nat → Bool), (∀ x, LeftP g q x → C x = false) → (NullR g q → Ok N bot C (g.length + q) ctx) → Ok N bot C q ctx

section

theorem suffix_ok {g : Gr} {N : NetG} {place : Nat → Nat → Nat} (H : IsNet g N place) (bot : Bool) {r a : Nat} {alts : List (List Int)} {alt : List Int} (hr : g[r]? = some alts) (ha : alts[a]? = some alt) (hsym : Syms g alt) (hirr : ∀ q, ¬ LeftP g q q) :
    ∀ (n k : Nat), k + n = alt.length → (∀ q pre rest, alt.drop k = pre ++ ofR q :: rest → Null g pre → RuleOk g N bot q) →
      ∀ (ctx : List Nat) (C : Nat → Bool), (∀ q pre rest, alt.drop k = pre ++ ofR q :: rest → Null g pre → C q = false ∧ ∀ x, LeftP g q x → C x = false) →
        (Null g (alt.drop k) → Ok N bot C (g.length + r) ctx) → Ok N bot C (place r a + k) ctx := by
  have hrl : r < g.length := by
    rcases Nat.lt_or_ge r g.length with h | h
    · exact h
    · rw [List.getElem?_eq_none h] at hr; cases hr
  intro n
  induction n with
  | zero =>
    intro k hk _ ctx C _ hO
    have hk' : k = alt.length := by omega
    subst hk'
    rw [List.drop_length] at hO
    exact ok_eps (H.lastS r a alts alt hr ha) (ok_eps (H.bendS r hrl) (hO .nil))
  | succ n ih =>
    intro k hk hA ctx C hC hO
    have hlt : k < alt.length := by omega
    have hd : alt.drop k = alt[k] :: alt.drop (k + 1) := List.drop_eq_getElem_cons hlt
    have hg : alt[k]? = some alt[k] := List.getElem?_eq_getElem hlt
    rcases hsym alt[k] (List.getElem_mem hlt) with ht | ⟨q, hql, hq⟩
    · have h := H.tokS r a k alts alt _ hr ha hg ht
      exact .node h.1 (fun to' hm => by rw [h.2] at hm; simp at hm) (fun q st f hm => by rw [h.2] at hm; simp at hm) (fun q st f hm => by rw [h.2] at hm; simp at hm)
    · rw [hq] at hg
      have h := H.ruleS r a k q alts alt hr ha hg
      have hd' : alt.drop k = [] ++ ofR q :: alt.drop (k + 1) := by rw [hd, hq]; rfl
      obtain ⟨hcq, hcl⟩ := hC q [] _ hd' .nil
      have hqok : RuleOk g N bot q := hA q [] _ hd' .nil
      refine .node h.1 (fun to' hm => by rw [h.2] at hm; simp at hm) (fun q' st f hm => by rw [h.2] at hm; simp at hm; rw [hm.1]; exact hcq) (fun q' st f hm => ?_)
      rw [h.2] at hm
      simp only [List.mem_singleton, Tr.call.injEq] at hm
      obtain ⟨e1, e2, e3⟩ := hm
      rw [e1, e2, e3]
      refine hqok _ _ (fun x hx => ?_) (fun hn => ?_)
      · rw [hcl x hx, Bool.false_or, beq_eq_false_iff_ne]
        rintro rfl
        exact hirr _ hx
      · have hnext : ∀ ctx C', (∀ x, C x = false → C' x = false) → (Null g (alt.drop (k + 1)) → Ok N bot C' (g.length + r) ctx) → Ok N bot C' (place r a + k + 1) ctx := by
          intro ctx C' hsub hO'
          have e : place r a + k + 1 = place r a + (k + 1) := by omega
          rw [e]
          refine ih (k + 1) (by omega) (fun q2 pre rest he hp => hA q2 (ofR q :: pre) rest (by rw [hd, hq, he]; rfl) (null_cons.2 ⟨hn, hp⟩)) ctx C' (fun q2 pre rest he hp => ?_) hO'
          obtain ⟨h1, h2⟩ := hC q2 (ofR q :: pre) rest (by rw [hd, hq, he]; rfl) (null_cons.2 ⟨hn, hp⟩)
          exact ⟨hsub _ h1, fun x hx => hsub _ (h2 x hx)⟩
        refine .pop (H.stopS q hql) (hnext _ _ (fun x hx => by rw [hx]; cases hxq : (x == q) <;> simp_all) (fun hn2 => ?_))
        refine .pop (H.stopS r hrl) (hnext _ _ (fun x hx => by rw [hx]; cases hxq : (x == q) <;> simp_all) (fun hn3 => ?_))
        refine (hO (by rw [hd, hq]; exact null_cons.2 ⟨hn, hn2⟩)).mono (fun x hx => by rw [hx]; cases hxq : (x == q) <;> simp_all)

theorem rule_ok {g : Gr} {N : NetG} {place : Nat → Nat → Nat} (H : IsNet g N place) (bot : Bool) (hsym : ∀ (r : Nat) (alts : List (List Int)) (alt : List Int), g[r]? = some alts → alt ∈ alts → Syms g alt) (hwf : WellFounded (fun q r => LeftC g r q)) :
    ∀ q, q < g.length → RuleOk g N bot q := by
  have hirr := leftP_irr hwf
  intro q
  induction q using hwf.induction with
  | _ r ih =>
    intro hrl ctx C hC hO
    obtain ⟨alts, hr⟩ : ∃ alts, g[r]? = some alts := ⟨_, List.getElem?_eq_getElem hrl⟩
    refine ok_eps (H.startS r hrl) ?_
    obtain ⟨hb1, hb2⟩ := H.blockS r alts hr
    refine .node hb1 (fun to hm => ?_) (fun q st f hm => by obtain ⟨a, alt, ha, he⟩ := (hb2 _).1 hm; cases he) (fun q st f hm => ?_)
    · obtain ⟨a, alt, ha, he⟩ := (hb2 _).1 hm
      cases he
      have hm2 : alt ∈ alts := List.mem_of_getElem? ha
      have hs := hsym r alts alt hr hm2
      have hleft : ∀ q pre rest, alt.drop 0 = pre ++ ofR q :: rest → Null g pre → LeftC g r q := fun q pre rest he hp => ⟨alts, alt, pre, rest, hr, hm2, by simpa using he, hp⟩
      have := suffix_ok H bot hr ha hs hirr alt.length 0 (by omega) (fun q pre rest he hp => by
        have hqm : ofR q ∈ alt := by rw [List.drop_zero] at he; rw [he]; simp
        have hql : q < g.length := by
          rcases hs _ hqm with h | ⟨q', h1, h2⟩
          · exact absurd h ofR_not
          · have := ofR_inj h2; omega
        exact ih q (hleft q pre rest he hp) hql) ctx C (fun q pre rest he hp => ⟨hC q (.one (hleft q pre rest he hp)), fun x hx => hC x (.step (hleft q pre rest he hp) hx)⟩)
        (fun hn => hO ⟨alts, alt, hr, hm2, by simpa using hn⟩)
      simpa using this
    · obtain ⟨a, alt, ha, he⟩ := (hb2 _).1 hm
      cases he

/-- from a state of an alternative, nothing being called -/
theorem pos_ok {g : Gr} {N : NetG} {place : Nat → Nat → Nat} (H : IsNet g N place) (bot : Bool) (hsym : ∀ (r : Nat) (alts : List (List Int)) (alt : List Int), g[r]? = some alts → alt ∈ alts → Syms g alt) (hwf : WellFounded (fun q r => LeftC g r q))
    {r a : Nat} {alts : List (List Int)} {alt : List Int} (hr : g[r]? = some alts) (ha : alts[a]? = some alt) (k : Nat) (hk : k ≤ alt.length) :
    Ok N bot (fun _ => false) (place r a + k) [] := by
  have hrl : r < g.length := by
    rcases Nat.lt_or_ge r g.length with h | h
    · exact h
    · rw [List.getElem?_eq_none h] at hr; cases hr
  have hs := hsym r alts alt hr (List.mem_of_getElem? ha)
  refine suffix_ok H bot hr ha hs (leftP_irr hwf) (alt.length - k) k (by omega) (fun q pre rest he _ => ?_) [] _ (fun _ _ _ _ _ => ⟨rfl, fun _ _ => rfl⟩) (fun _ => ?_)
  · refine rule_ok H bot hsym hwf q ?_
    have hqm : ofR q ∈ alt := List.mem_of_mem_drop (by rw [he]; simp)
    rcases hs _ hqm with h | ⟨q', h1, h2⟩
    · exact absurd h ofR_not
    · have := ofR_inj h2; omega
  · cases bot with
    | false => exact .fin (H.stopS r hrl) rfl
    | true => exact .wide (H.stopS r hrl) rfl (fun _ => rfl)

/-- from the start of a block, nothing being called -/
theorem block_ok {g : Gr} {N : NetG} {place : Nat → Nat → Nat} (H : IsNet g N place) (bot : Bool) (hsym : ∀ (r : Nat) (alts : List (List Int)) (alt : List Int), g[r]? = some alts → alt ∈ alts → Syms g alt) (hwf : WellFounded (fun q r => LeftC g r q))
    {r : Nat} {alts : List (List Int)} (hr : g[r]? = some alts) : Ok N bot (fun _ => false) (2 * g.length + r) [] := by
  obtain ⟨hb1, hb2⟩ := H.blockS r alts hr
  refine .node hb1 (fun to hm => ?_) (fun q st f hm => by obtain ⟨a, alt, ha, he⟩ := (hb2 _).1 hm; cases he) (fun q st f hm => ?_)
  · obtain ⟨a, alt, ha, he⟩ := (hb2 _).1 hm
    cases he
    have := pos_ok H bot hsym hwf hr ha 0 (Nat.zero_le _)
    simpa using this
  · obtain ⟨a, alt, ha, he⟩ := (hb2 _).1 hm
    cases he
end

/-! the visits -/
/-- 'Ds' has been visited, out of V came V', out of the tokens L came L' (and 'Ts' besides). -/
def Grow (N : NetG) (bot : Bool) (Ts : List Int) (Ds : List Cfg) (V V' : List Cfg) (L L' : Int → Prop) : Prop :=
  ∃ Nw, V' = Nw ++ V ∧ (∀ d ∈ Ds, d ∈ V') ∧ (∀ d ∈ Nw, ∀ e, Step N bot d e → e ∈ V') ∧ (∀ d ∈ Nw, ∃ d0 ∈ Ds, Reach N bot d0 d) ∧
    ∀ t, L' t ↔ L t ∨ t ∈ Ts ∨ ∃ d ∈ Nw, Toks N bot d t

theorem Grow.refl {N : NetG} {bot : Bool} {V : List Cfg} {L : Int → Prop} : Grow N bot [] [] V V L L :=
  ⟨[], rfl, by simp, by simp, by simp, by simp⟩

theorem Grow.trans {N : NetG} {bot : Bool} {Ts Ts' : List Int} {Ds Ds' V V' V'' : List Cfg} {L L' L'' : Int → Prop} (h : Grow N bot Ts Ds V V' L L') (h' : Grow N bot Ts' Ds' V' V'' L' L'') :
    Grow N bot (Ts ++ Ts') (Ds ++ Ds') V V'' L L'' := by
  obtain ⟨n1, rfl, a1, b1, c1, d1⟩ := h
  obtain ⟨n2, rfl, a2, b2, c2, d2⟩ := h'
  refine ⟨n2 ++ n1, by simp, ?_, ?_, ?_, ?_⟩
  · intro d hd
    rcases List.mem_append.1 hd with hd | hd
    · exact List.mem_append.2 (.inr (a1 d hd))
    · exact a2 d hd
  · intro d hd e he
    rcases List.mem_append.1 hd with hd | hd
    · exact b2 d hd e he
    · exact List.mem_append.2 (.inr (b1 d hd e he))
  · intro d hd
    rcases List.mem_append.1 hd with hd | hd
    · obtain ⟨d0, h1, h2⟩ := c2 d hd; exact ⟨d0, List.mem_append.2 (.inr h1), h2⟩
    · obtain ⟨d0, h1, h2⟩ := c1 d hd; exact ⟨d0, List.mem_append.2 (.inl h1), h2⟩
  · intro t
    rw [d2, d1]
    constructor
    · rintro ((h | h | ⟨d, h, h'⟩) | h | ⟨d, h, h'⟩)
      · exact .inl h
      · exact .inr (.inl (List.mem_append.2 (.inl h)))
      · exact .inr (.inr ⟨d, List.mem_append.2 (.inr h), h'⟩)
      · exact .inr (.inl (List.mem_append.2 (.inr h)))
      · exact .inr (.inr ⟨d, List.mem_append.2 (.inl h), h'⟩)
    · rintro (h | h | ⟨d, h, h'⟩)
      · exact .inl (.inl h)
      · rcases List.mem_append.1 h with h | h
        · exact .inl (.inr (.inl h))
        · exact .inr (.inl h)
      · rcases List.mem_append.1 h with h | h
        · exact .inr (.inr ⟨d, h, h'⟩)
        · exact .inl (.inr (.inr ⟨d, h, h'⟩))

/-- one token -/
theorem Grow.tok {N : NetG} {bot : Bool} {V : List Cfg} {L L' : Int → Prop} {x : Int} (h : ∀ t, L' t ↔ L t ∨ t = x) : Grow N bot [x] [] V V L L' :=
  ⟨[], rfl, by simp, by simp, by simp, fun t => by rw [h]; simp⟩

/-- what has been visited already -/
theorem Grow.seen {N : NetG} {bot : Bool} {c : Cfg} {V : List Cfg} {L : Int → Prop} (h : c ∈ V) : Grow N bot [] [c] V V L L :=
  ⟨[], rfl, by simpa using h, by simp, by simp, by simp⟩

/-- a visit whole -/
theorem Grow.visit {N : NetG} {bot : Bool} {c : Cfg} {Ts : List Int} {Ds V V' : List Cfg} {L L' : Int → Prop} (h : Grow N bot Ts Ds (c :: V) V' L L')
    (hD : ∀ d, Step N bot c d ↔ d ∈ Ds) (hT : ∀ t, Toks N bot c t ↔ t ∈ Ts) : Grow N bot [] [c] V V' L L' := by
  obtain ⟨n1, rfl, a1, b1, c1, d1⟩ := h
  refine ⟨n1 ++ [c], by simp, ?_, ?_, ?_, ?_⟩
  · intro d hd; simp at hd; subst hd; simp
  · intro d hd e he
    rcases List.mem_append.1 hd with hd | hd
    · exact b1 d hd e he
    · simp at hd; subst hd; exact a1 e ((hD e).1 he)
  · intro d hd
    rcases List.mem_append.1 hd with hd | hd
    · obtain ⟨d0, h1, h2⟩ := c1 d hd; exact ⟨c, by simp, .step ((hD d0).2 h1) h2⟩
    · simp at hd; subst hd; exact ⟨d, by simp, .refl⟩
  · intro t
    rw [d1]
    constructor
    · rintro (h | h | ⟨d, h, h'⟩)
      · exact .inl h
      · exact .inr (.inr ⟨c, by simp, (hT t).2 h⟩)
      · exact .inr (.inr ⟨d, List.mem_append.2 (.inl h), h'⟩)
    · rintro (h | h | ⟨d, h, h'⟩)
      · exact .inl h
      · simp at h
      · rcases List.mem_append.1 h with h | h
        · exact .inr (.inr ⟨d, h, h'⟩)
        · simp at h; subst h; exact .inr (.inl ((hT t).1 h'))

theorem Grow.all {N : NetG} {bot : Bool} {c : Cfg} {V' : List Cfg} {L L' : Int → Prop} (h : Grow N bot [] [c] [] V' L L') (hL : ∀ t, ¬ L t) : ∀ t, L' t ↔ TR N bot c t := by
  obtain ⟨n1, rfl, a1, b1, c1, d1⟩ := h
  simp only [List.append_nil] at *
  intro t
  rw [d1]
  constructor
  · rintro (h | h | ⟨d, h, h'⟩)
    · exact absurd h (hL t)
    · simp at h
    · obtain ⟨d0, h1, h2⟩ := c1 d h
      simp at h1; subst h1
      exact ⟨d, h2, h'⟩
  · rintro ⟨d, h1, h2⟩
    refine .inr (.inr ⟨d, ?_, h2⟩)
    have hc : c ∈ n1 := a1 c (by simp)
    clear h2 d1 c1 a1
    induction h1 with
    | refl => exact hc
    | step hs _ ih => exact ih (b1 _ hc _ hs)
end Go.Proofs.YtemdillhbnmjkaaGreatDoor.Pl
namespace Go.Proofs.YtemdillhbnmjkaaGreatDoor.Pl
abbrev Iv := Int × Int

/-- how an interval is put into a row of them -/
def addI : List Iv → Iv → List Iv
  | [], v => [v]
  | i :: r, v =>
    if v.2 < i.1 then v :: i :: r
    else if v.2 = i.1 then (v.1, i.2) :: r
    else if v.1 ≤ i.2 then
      match r with
      | [] => [(min i.1 v.1, max i.2 v.2)]
      | n :: r' =>
        if n.2 ≤ max i.2 v.2 then (min i.1 v.1, max i.2 v.2) :: r'
        else if n.1 ≤ max i.2 v.2 then (min i.1 v.1, n.2) :: r'
        else (min i.1 v.1, max i.2 v.2) :: n :: r'
    else i :: addI r v

/-- how one is taken out -/
def remI : List Iv → Int → List Iv
  | [], _ => []
  | i :: r, v =>
    if v < i.1 then i :: r
    else if v = i.1 ∧ v = i.2 - 1 then r
    else if v = i.1 then (i.1 + 1, i.2) :: r
    else if v = i.2 - 1 then (i.1, i.2 - 1) :: r
    else if v < i.2 - 1 then (i.1, v) :: (v + 1, i.2) :: r
    else i :: remI r v

/-- the tokens that there are -/
def toks : List Int := [-2, -1, 1, 2, 3, 4]
def bitOf (t : Int) : Nat := if t = -2 then 0 else if t = -1 then 1 else (t + 1).toNat
/-- the tokens of a number below 64 -/
def has (m : Nat) (t : Int) : Bool := toks.contains t && m.testBit (bitOf t)
/-- a row of runs -/
def runs : List Int → List Iv
  | [] => []
  | t :: r => match runs r with
    | [] => [(t, t + 1)]
    | i :: r' => if i.1 = t + 1 then (t, i.2) :: r' else (t, t + 1) :: i :: r'
/-- the row of intervals that has just the tokens of m -/
def canon (m : Nat) : List Iv := runs (toks.filter (has m))
/-- the tokens of an interval -/
def mask (v : Iv) : Nat := ((toks.filter fun t => decide (v.1 ≤ t) && decide (t < v.2)).map fun t => 2 ^ bitOf t).sum

theorem addI_one : ∀ m, m < 64 → ∀ t ∈ toks, addI (canon m) (t, t + 1) = canon (m ||| 2 ^ bitOf t) := by decide +kernel
theorem has_one : ∀ m, m < 64 → ∀ t ∈ toks, (m ||| 2 ^ bitOf t) < 64 ∧ ∀ s ∈ toks, has (m ||| 2 ^ bitOf t) s = (has m s || s == t) := by decide +kernel
theorem addI_all : ∀ m, m < 64 → ∀ n, n < 64 → (canon n).foldl addI (canon m) = canon (m ||| n) := by decide +kernel
theorem has_all : ∀ m, m < 64 → ∀ n, n < 64 → (m ||| n) < 64 ∧ ∀ s ∈ toks, has (m ||| n) s = (has m s || has n s) := by decide +kernel
theorem remI_two : ∀ m, m < 64 → remI (canon m) (-2) = canon (m &&& 62) ∧ (m &&& 62) < 64 ∧ ∀ s ∈ toks, has (m &&& 62) s = (has m s && s != -2) := by decide +kernel
theorem canon_facts : ∀ m, m < 64 → (canon m).length ≤ 3 ∧ (∀ i ∈ canon m, -2 ≤ i.1 ∧ i.1 < i.2 ∧ i.2 ≤ 5) ∧ (canon m = [] → m = 0) ∧
    (∀ t ∈ (0 :: toks), (canon m).any (fun i => decide (i.1 ≤ t) && decide (t < i.2)) = has m t) := by decide +kernel
theorem has_toks {m : Nat} {t : Int} (h : has m t = true) : t ∈ toks := by
  unfold has at h
  rw [Bool.and_eq_true] at h
  simpa using h.1
end Go.Proofs.YtemdillhbnmjkaaGreatDoor.Pl
namespace Go.Proofs.YtemdillhbnmjkaaGreatDoor.Pl

/-- an edge: to where it leads -/
inductive Ed where
  | eps (to : Nat)
  | call (q f : Nat)
  | tok (to : Nat) (t : Int)
def Ed.tr : Ed → Tr
  | .eps to => .eps to
  | .call q f => .call q q f
  | .tok _ t => .tok t
/-- the edge of a symbol -/
def symEd (s : Int) (to : Nat) : Ed := if s ≤ -100 then .call (-100 - s).toNat to else .tok to s

def altLen (alts : List (List Int)) : Nat := (alts.map fun alt => alt.length + 1).sum
/-- the first state of an alternative -/
def place (g : Gr) (r a : Nat) : Nat := 4 * g.length + ((g.take r).map altLen).sum + altLen (((g[r]?).getD []).take a)

def altEds (R r p : Nat) (alt : List Int) : List (Nat × Ed) := (alt.zipIdx.map fun x => (p + x.2, symEd x.1 (p + x.2 + 1))) ++ [(p + alt.length, .eps (3 * R + r))]
def altsEds (g : Gr) (r : Nat) (alts : List (List Int)) : List (Nat × Ed) :=
  alts.zipIdx.flatMap fun x => (2 * g.length + r, .eps (place g r x.2)) :: altEds g.length r (place g r x.2) x.1
def ruleEds (g : Gr) (r : Nat) (alts : List (List Int)) : List (Nat × Ed) :=
  (r, .eps (2 * g.length + r)) :: (altsEds g r alts ++ [(3 * g.length + r, .eps (g.length + r))])
def allEds (g : Gr) : List (Nat × Ed) := g.zipIdx.flatMap fun x => ruleEds g x.2 x.1
/-- the edges that leave a state -/
def rowE (j : Nat) (E : List (Nat × Ed)) : List Ed := (E.filter fun e => e.1 == j).map (·.2)

theorem rowE_append (j : Nat) (E F : List (Nat × Ed)) : rowE j (E ++ F) = rowE j E ++ rowE j F := by simp [rowE]
theorem rowE_cons (j : Nat) (e : Nat × Ed) (E : List (Nat × Ed)) : rowE j (e :: E) = (if e.1 = j then [e.2] else []) ++ rowE j E := by
  unfold rowE
  by_cases h : e.1 = j
  · rw [List.filter_cons_of_pos (by simpa using h), if_pos h]; rfl
  · rw [List.filter_cons_of_neg (by simpa using h), if_neg h]; rfl
theorem rowE_nil (j : Nat) : rowE j [] = [] := rfl
theorem rowE_flatMap {α : Type} (j : Nat) (l : List α) (f : α → List (Nat × Ed)) : rowE j (l.flatMap f) = l.flatMap fun x => rowE j (f x) := by
  induction l with
  | nil => rfl
  | cons a l ih => rw [List.flatMap_cons, rowE_append, ih, List.flatMap_cons]

theorem zip_single {α β : Type} (f : α × Nat → List β) : ∀ (l : List α) (o i : Nat) (x : α), l[i]? = some x → (∀ (i' : Nat) (x' : α), l[i']? = some x' → i' ≠ i → f (x', o + i') = []) → (l.zipIdx o).flatMap f = f (x, o + i)
  | [], o, i, x, h, _ => by simp at h
  | y :: l, o, 0, x, h, hn => by
    simp at h; subst h
    rw [List.zipIdx_cons, List.flatMap_cons, List.flatMap_eq_nil_iff.2, List.append_nil]
    · rfl
    · rintro ⟨z, n⟩ hz
      obtain ⟨h1, h2, h3⟩ := List.mem_zipIdx hz
      have := hn (n - o) z (by
        rw [List.getElem?_cons, if_neg (by omega), h3]
        have e : n - (o + 1) = n - o - 1 := by omega
        rw [← e]
        exact List.getElem?_eq_getElem _) (by omega)
      have e2 : o + (n - o) = n := by omega
      rwa [e2] at this
  | y :: l, o, i + 1, x, h, hn => by
    rw [List.zipIdx_cons, List.flatMap_cons]
    have h0 : f (y, o) = [] := by have := hn 0 y rfl (by omega); simpa using this
    rw [h0, List.nil_append]
    have := zip_single f l (o + 1) i x (by simpa using h) (fun i' x' hi hne => by
      have := hn (i' + 1) x' (by simpa using hi) (by omega)
      have e : o + 1 + i' = o + (i' + 1) := by omega
      rw [e]; exact this)
    rw [this]
    have e : o + 1 + i = o + (i + 1) := by omega
    rw [e]
theorem zip_none {α β : Type} (f : α × Nat → List β) (l : List α) (o : Nat) (hn : ∀ (i' : Nat) (x' : α), l[i']? = some x' → f (x', o + i') = []) : (l.zipIdx o).flatMap f = [] := by
  rw [List.flatMap_eq_nil_iff]
  rintro ⟨z, n⟩ hz
  obtain ⟨h1, h2, h3⟩ := List.mem_zipIdx hz
  have := hn (n - o) z (by rw [h3]; exact List.getElem?_eq_getElem _)
  have e2 : o + (n - o) = n := by omega
  rwa [e2] at this

/-! where the alternatives lie -/
theorem altLen_take_succ (alts : List (List Int)) (a : Nat) (alt : List Int) (h : alts[a]? = some alt) : altLen (alts.take (a + 1)) = altLen (alts.take a) + (alt.length + 1) := by
  unfold altLen; rw [List.take_add_one, h]; simp
theorem altLen_mono (alts : List (List Int)) {a b : Nat} (h : a ≤ b) : altLen (alts.take a) ≤ altLen (alts.take b) := by
  have e : alts.take a = (alts.take b).take a := by rw [List.take_take, Nat.min_eq_left h]
  rw [e]
  have := List.take_append_drop a (alts.take b)
  generalize hl : (alts.take b).take a = x at *
  generalize (alts.take b).drop a = y at *
  rw [← this]
  unfold altLen
  simp
theorem sum_take_succ (g : Gr) (r : Nat) (alts : List (List Int)) (h : g[r]? = some alts) : ((g.take (r + 1)).map altLen).sum = ((g.take r).map altLen).sum + altLen alts := by
  rw [List.take_add_one, h]; simp
theorem sum_take_mono (g : Gr) {a b : Nat} (h : a ≤ b) : ((g.take a).map altLen).sum ≤ ((g.take b).map altLen).sum := by
  have e : g.take a = (g.take b).take a := by rw [List.take_take, Nat.min_eq_left h]
  have := List.take_append_drop a (g.take b)
  rw [← e] at this
  rw [← this]
  simp
theorem place_eq (g : Gr) (r a : Nat) (alts : List (List Int)) (h : g[r]? = some alts) : place g r a = 4 * g.length + ((g.take r).map altLen).sum + altLen (alts.take a) := by
  unfold place; rw [h]; rfl
theorem place_ge (g : Gr) (r a : Nat) : 4 * g.length ≤ place g r a := by unfold place; omega
/-- how many states there are -/
def states (g : Gr) : Nat := 4 * g.length + (g.map altLen).sum
theorem place_end (g : Gr) {r a : Nat} {alts : List (List Int)} {alt : List Int} (hr : g[r]? = some alts) (ha : alts[a]? = some alt) : place g r a + alt.length < states g := by
  rw [place_eq g r a alts hr]
  have h1 := altLen_take_succ alts a alt ha
  have h2 := altLen_mono alts (a := a + 1) (b := alts.length) (List.getElem?_eq_some_iff.1 ha).1
  rw [List.take_length] at h2
  have h3 := sum_take_succ g r alts hr
  have h4 := sum_take_mono g (a := r + 1) (b := g.length) (List.getElem?_eq_some_iff.1 hr).1
  rw [List.take_length] at h4
  unfold states
  omega
theorem place_apart (g : Gr) {r a r' a' : Nat} {alts alts' : List (List Int)} {alt alt' : List Int} (hr : g[r]? = some alts) (ha : alts[a]? = some alt) (hr' : g[r']? = some alts') (ha' : alts'[a']? = some alt')
    (h : r < r' ∨ (r = r' ∧ a < a')) : place g r a + alt.length < place g r' a' := by
  rw [place_eq g r a alts hr, place_eq g r' a' alts' hr']
  have h1 := altLen_take_succ alts a alt ha
  rcases h with h | ⟨rfl, h⟩
  · have h2 := altLen_mono alts (a := a + 1) (b := alts.length) (List.getElem?_eq_some_iff.1 ha).1
    rw [List.take_length] at h2
    have h3 := sum_take_succ g r alts hr
    have h4 := sum_take_mono g (a := r + 1) (b := r') h
    omega
  · rw [hr] at hr'; cases hr'
    have h2 := altLen_mono alts (a := a + 1) (b := a') h
    omega
theorem place_uniq (g : Gr) {r a k r' a' k' : Nat} {alts alts' : List (List Int)} {alt alt' : List Int} (hr : g[r]? = some alts) (ha : alts[a]? = some alt) (hr' : g[r']? = some alts') (ha' : alts'[a']? = some alt')
    (hk : k ≤ alt.length) (hk' : k' ≤ alt'.length) (h : place g r a + k = place g r' a' + k') : r = r' ∧ a = a' := by
  rcases Nat.lt_trichotomy r r' with h1 | h1 | h1
  · have := place_apart g hr ha hr' ha' (.inl h1); omega
  · rcases Nat.lt_trichotomy a a' with h2 | h2 | h2
    · have := place_apart g hr ha hr' ha' (.inr ⟨h1, h2⟩); omega
    · exact ⟨h1, h2⟩
    · have := place_apart g hr' ha' hr ha (.inr ⟨h1.symm, h2⟩); omega
  · have := place_apart g hr' ha' hr ha (.inl h1); omega

/-! the rows -/
theorem altEds_low (R r p j : Nat) (alt : List Int) (h : j < p) : rowE j (altEds R r p alt) = [] := by
  unfold rowE altEds
  rw [List.map_eq_nil_iff, List.filter_eq_nil_iff]
  intro e he
  rcases List.mem_append.1 he with he | he
  · obtain ⟨x, _, rfl⟩ := List.mem_map.1 he
    simp; omega
  · simp at he; subst he; simp; omega
theorem altEds_high (R r p j : Nat) (alt : List Int) (h : p + alt.length < j) : rowE j (altEds R r p alt) = [] := by
  unfold rowE altEds
  rw [List.map_eq_nil_iff, List.filter_eq_nil_iff]
  intro e he
  rcases List.mem_append.1 he with he | he
  · obtain ⟨⟨s, k⟩, hx, rfl⟩ := List.mem_map.1 he
    have := (List.mem_zipIdx hx).2.1
    simp at this ⊢; omega
  · simp at he; subst he; simp; omega
theorem altEds_sym (R r p k : Nat) (alt : List Int) (s : Int) (h : alt[k]? = some s) : rowE (p + k) (altEds R r p alt) = [symEd s (p + k + 1)] := by
  have hk := (List.getElem?_eq_some_iff.1 h).1
  unfold altEds
  rw [rowE_append]
  have e : (alt.zipIdx.map fun x => (p + x.2, symEd x.1 (p + x.2 + 1))) = alt.zipIdx.flatMap fun x => [(p + x.2, symEd x.1 (p + x.2 + 1))] := by rw [List.map_eq_flatMap]
  rw [e, rowE_flatMap, zip_single (fun x => rowE (p + k) [(p + x.2, symEd x.1 (p + x.2 + 1))]) alt 0 k s h (fun i' x' _ hne => by
    rw [rowE_cons, if_neg (by simp; omega)]; rfl)]
  rw [rowE_cons, rowE_cons, if_pos (by simp), if_neg (by simp; omega)]
  simp [rowE_nil]
theorem altEds_last (R r p : Nat) (alt : List Int) : rowE (p + alt.length) (altEds R r p alt) = [.eps (3 * R + r)] := by
  unfold altEds
  rw [rowE_append]
  have e : (alt.zipIdx.map fun x => (p + x.2, symEd x.1 (p + x.2 + 1))) = alt.zipIdx.flatMap fun x => [(p + x.2, symEd x.1 (p + x.2 + 1))] := by rw [List.map_eq_flatMap]
  rw [e, rowE_flatMap, zip_none (fun x => rowE (p + alt.length) [(p + x.2, symEd x.1 (p + x.2 + 1))]) alt 0 (fun i' x' hi => by
    have := (List.getElem?_eq_some_iff.1 hi).1
    rw [rowE_cons, if_neg (by simp; omega)]; rfl)]
  rw [rowE_cons, if_pos rfl]
  simp [rowE_nil]

theorem altsEds_row (g : Gr) (r j : Nat) (alts : List (List Int)) : rowE j (altsEds g r alts) = alts.zipIdx.flatMap fun x => (if 2 * g.length + r = j then [Ed.eps (place g r x.2)] else []) ++ rowE j (altEds g.length r (place g r x.2) x.1) := by
  unfold altsEds
  rw [rowE_flatMap]
  simp only [rowE_cons]
theorem altsEds_block (g : Gr) (r : Nat) (alts : List (List Int)) (hr : r < g.length) : rowE (2 * g.length + r) (altsEds g r alts) = alts.zipIdx.map fun x => Ed.eps (place g r x.2) := by
  rw [altsEds_row, List.map_eq_flatMap]
  congr 1
  funext x
  rw [if_pos rfl, altEds_low _ _ _ _ _ (by have := place_ge g r x.2; omega)]
  rfl
theorem altsEds_low (g : Gr) (r j : Nat) (alts : List (List Int)) (hj : j < 4 * g.length) (hne : j ≠ 2 * g.length + r) : rowE j (altsEds g r alts) = [] := by
  rw [altsEds_row, List.flatMap_eq_nil_iff]
  intro x _
  rw [if_neg (by omega), altEds_low _ _ _ _ _ (by have := place_ge g r x.2; omega)]
  rfl
theorem ruleEds_row (g : Gr) (r j : Nat) (alts : List (List Int)) : rowE j (ruleEds g r alts) = (if r = j then [Ed.eps (2 * g.length + r)] else []) ++ (rowE j (altsEds g r alts) ++ (if 3 * g.length + r = j then [Ed.eps (g.length + r)] else [])) := by
  unfold ruleEds
  rw [rowE_cons, rowE_append, rowE_cons, rowE_nil, List.append_nil]

section
theorem all_at {g : Gr} {r : Nat} {alts : List (List Int)} (hr : g[r]? = some alts) (j : Nat) (h : ∀ (r' : Nat) alts', g[r']? = some alts' → r' ≠ r → rowE j (ruleEds g r' alts') = []) : rowE j (allEds g) = rowE j (ruleEds g r alts) := by
  unfold allEds
  rw [rowE_flatMap, zip_single (fun x => rowE j (ruleEds g x.2 x.1)) g 0 r alts hr (fun i' x' hi hne => by simpa using h i' x' hi hne)]
  simp
theorem row_start {g : Gr} {r : Nat} {alts : List (List Int)} (hr : g[r]? = some alts) : rowE r (allEds g) = [.eps (2 * g.length + r)] := by
  have hl := (List.getElem?_eq_some_iff.1 hr).1
  rw [all_at hr r (fun r' alts' hr' hne => ?_), ruleEds_row, if_pos rfl, altsEds_low _ _ _ _ (by omega) (by omega), if_neg (by omega)]
  · rfl
  · have hl' := (List.getElem?_eq_some_iff.1 hr').1
    rw [ruleEds_row, if_neg hne, altsEds_low _ _ _ _ (by omega) (by omega), if_neg (by omega)]
    rfl
theorem row_stop {g : Gr} {r : Nat} {alts : List (List Int)} (hr : g[r]? = some alts) : rowE (g.length + r) (allEds g) = [] := by
  have hl := (List.getElem?_eq_some_iff.1 hr).1
  rw [all_at hr _ (fun r' alts' hr' hne => ?_), ruleEds_row, if_neg (by omega), altsEds_low _ _ _ _ (by omega) (by omega), if_neg (by omega)]
  · rfl
  · have hl' := (List.getElem?_eq_some_iff.1 hr').1
    rw [ruleEds_row, if_neg (by omega), altsEds_low _ _ _ _ (by omega) (by omega), if_neg (by omega)]
    rfl
theorem row_block {g : Gr} {r : Nat} {alts : List (List Int)} (hr : g[r]? = some alts) : rowE (2 * g.length + r) (allEds g) = alts.zipIdx.map fun x => Ed.eps (place g r x.2) := by
  have hl := (List.getElem?_eq_some_iff.1 hr).1
  rw [all_at hr _ (fun r' alts' hr' hne => ?_), ruleEds_row, if_neg (by omega), altsEds_block _ _ _ hl, if_neg (by omega)]
  · simp
  · have hl' := (List.getElem?_eq_some_iff.1 hr').1
    rw [ruleEds_row, if_neg (by omega), altsEds_low _ _ _ _ (by omega) (by omega), if_neg (by omega)]
    rfl
theorem row_bend {g : Gr} {r : Nat} {alts : List (List Int)} (hr : g[r]? = some alts) : rowE (3 * g.length + r) (allEds g) = [.eps (g.length + r)] := by
  have hl := (List.getElem?_eq_some_iff.1 hr).1
  rw [all_at hr _ (fun r' alts' hr' hne => ?_), ruleEds_row, if_neg (by omega), altsEds_low _ _ _ _ (by omega) (by omega), if_pos rfl]
  · rfl
  · have hl' := (List.getElem?_eq_some_iff.1 hr').1
    rw [ruleEds_row, if_neg (by omega), altsEds_low _ _ _ _ (by omega) (by omega), if_neg (by omega)]
    rfl
theorem row_in {g : Gr} {r : Nat} {alts : List (List Int)} (hr : g[r]? = some alts) {a k : Nat} {alt : List Int} (ha : alts[a]? = some alt) (hk : k ≤ alt.length) : rowE (place g r a + k) (allEds g) = rowE (place g r a + k) (altEds g.length r (place g r a) alt) := by
  have hl := (List.getElem?_eq_some_iff.1 hr).1
  have hp := place_ge g r a
  have inner : ∀ (r' : Nat) alts', g[r']? = some alts' → r' < g.length → rowE (place g r a + k) (altsEds g r' alts') = alts'.zipIdx.flatMap fun x => rowE (place g r a + k) (altEds g.length r' (place g r' x.2) x.1) := by
    intro r' alts' _ hl'
    rw [altsEds_row]
    congr 1
    funext x
    rw [if_neg (by omega)]
    rfl
  have none_at : ∀ (r' a' : Nat) alts' alt', g[r']? = some alts' → alts'[a']? = some alt' → (r' ≠ r ∨ a' ≠ a) → rowE (place g r a + k) (altEds g.length r' (place g r' a') alt') = [] := by
    intro r' a' alts' alt' hr' ha' hne
    have hcase : (r < r' ∨ (r = r' ∧ a < a')) ∨ (r' < r ∨ (r' = r ∧ a' < a)) := by omega
    rcases hcase with h | h
    · exact altEds_low _ _ _ _ _ (by have := place_apart g hr ha hr' ha' h; omega)
    · exact altEds_high _ _ _ _ _ (by have := place_apart g hr' ha' hr ha h; omega)
  rw [all_at hr _ (fun r' alts' hr' hne => ?_), ruleEds_row, if_neg (by omega), if_neg (by omega), inner r alts hr hl,
    zip_single (fun x => rowE (place g r a + k) (altEds g.length r (place g r x.2) x.1)) alts 0 a alt ha (fun a' alt' ha' hne => ?_)]
  · simp
  · simpa using none_at r a' alts alt' hr ha' (.inr hne)
  · have hl' := (List.getElem?_eq_some_iff.1 hr').1
    rw [ruleEds_row, if_neg (by omega), if_neg (by omega), inner r' alts' hr' hl',
      zip_none (fun x => rowE (place g r a + k) (altEds g.length r' (place g r' x.2) x.1)) alts' 0 (fun a' alt' ha' => by simpa using none_at r' a' alts' alt' hr' ha' (.inl hne))]
    rfl
theorem row_sym {g : Gr} {r : Nat} {alts : List (List Int)} (hr : g[r]? = some alts) {a k : Nat} {alt : List Int} (ha : alts[a]? = some alt) {s : Int} (hs : alt[k]? = some s) : rowE (place g r a + k) (allEds g) = [symEd s (place g r a + k + 1)] := by
  rw [row_in hr ha (Nat.le_of_lt (List.getElem?_eq_some_iff.1 hs).1), altEds_sym _ _ _ _ _ _ hs]
theorem row_last {g : Gr} {r : Nat} {alts : List (List Int)} (hr : g[r]? = some alts) {a : Nat} {alt : List Int} (ha : alts[a]? = some alt) : rowE (place g r a + alt.length) (allEds g) = [.eps (3 * g.length + r)] := by
  rw [row_in hr ha (Nat.le_refl _), altEds_last]
end

/-- an edge of the network -/
inductive IsEd (g : Gr) : Nat → Ed → Prop
  | start {r} : r < g.length → IsEd g r (.eps (2 * g.length + r))
  | block {r a alts alt} : g[r]? = some alts → alts[a]? = some alt → IsEd g (2 * g.length + r) (.eps (place g r a))
  | bend {r} : r < g.length → IsEd g (3 * g.length + r) (.eps (g.length + r))
  | sym {r a k alts alt s} : g[r]? = some alts → alts[a]? = some alt → alt[k]? = some s → IsEd g (place g r a + k) (symEd s (place g r a + k + 1))
  | last {r a alts alt} : g[r]? = some alts → alts[a]? = some alt → IsEd g (place g r a + alt.length) (.eps (3 * g.length + r))
theorem allEds_is {g : Gr} {e : Nat × Ed} (h : e ∈ allEds g) : IsEd g e.1 e.2 := by
  unfold allEds at h
  obtain ⟨⟨alts, r⟩, h1, h2⟩ := List.mem_flatMap.1 h
  obtain ⟨_, _, h3⟩ := List.mem_zipIdx h1
  have hr : g[r]? = some alts := by simp at h3; rw [h3]; exact List.getElem?_eq_getElem _
  have hl := (List.getElem?_eq_some_iff.1 hr).1
  simp only [ruleEds, List.mem_cons, List.mem_append, List.not_mem_nil, or_false] at h2
  rcases h2 with rfl | h2 | rfl
  · exact .start hl
  · unfold altsEds at h2
    obtain ⟨⟨alt, a⟩, h4, h5⟩ := List.mem_flatMap.1 h2
    obtain ⟨_, _, h6⟩ := List.mem_zipIdx h4
    have ha : alts[a]? = some alt := by simp at h6; rw [h6]; exact List.getElem?_eq_getElem _
    simp only [altEds, List.mem_cons, List.mem_append, List.not_mem_nil, or_false] at h5
    rcases h5 with rfl | h5 | rfl
    · exact .block hr ha
    · obtain ⟨⟨s, k⟩, h7, rfl⟩ := List.mem_map.1 h5
      obtain ⟨_, _, h8⟩ := List.mem_zipIdx h7
      exact .sym hr ha (by simp at h8; rw [h8]; exact List.getElem?_eq_getElem _)
    · exact .last hr ha
  · exact .bend hl

/-- the network is that of the grammar -/
theorem isNet {g : Gr} {N : NetG} (h1 : ∀ r, r < g.length → N.stop (g.length + r) = some r) (h2 : ∀ j, ¬ (g.length ≤ j ∧ j < 2 * g.length) → N.stop j = none)
    (h3 : ∀ j, ¬ (g.length ≤ j ∧ j < 2 * g.length) → N.trs j = (rowE j (allEds g)).map Ed.tr) : IsNet g N (place g) where
  startS r hr := by
    have e : g[r]? = some g[r] := List.getElem?_eq_getElem hr
    rw [h2 _ (by omega), h3 _ (by omega), row_start e]
    exact ⟨rfl, rfl⟩
  stopS := h1
  blockS r alts hr := by
    have hl := (List.getElem?_eq_some_iff.1 hr).1
    rw [h2 _ (by omega), h3 _ (by omega), row_block hr]
    refine ⟨rfl, fun x => ?_⟩
    rw [List.map_map, List.mem_map]
    constructor
    · rintro ⟨⟨alt, a⟩, hm, rfl⟩
      obtain ⟨_, _, h6⟩ := List.mem_zipIdx hm
      exact ⟨a, alt, by simp at h6; rw [h6]; exact List.getElem?_eq_getElem _, rfl⟩
    · rintro ⟨a, alt, ha, rfl⟩
      exact ⟨(alt, a), List.mem_zipIdx_iff_getElem?.2 ha, rfl⟩
  bendS r hr := by
    have e : g[r]? = some g[r] := List.getElem?_eq_getElem hr
    rw [h2 _ (by omega), h3 _ (by omega), row_bend e]
    exact ⟨rfl, rfl⟩
  lastS r a alts alt hr ha := by
    have := place_ge g r a
    have hl := (List.getElem?_eq_some_iff.1 hr).1
    rw [h2 _ (by omega), h3 _ (by omega), row_last hr ha]
    exact ⟨rfl, rfl⟩
  tokS r a k alts alt s hr ha hs ht := by
    have := place_ge g r a
    have hl := (List.getElem?_eq_some_iff.1 hr).1
    rw [h2 _ (by omega), h3 _ (by omega), row_sym hr ha hs]
    refine ⟨rfl, ?_⟩
    unfold symEd
    rw [if_neg (by omega)]
    rfl
  ruleS r a k q alts alt hr ha hs := by
    have := place_ge g r a
    have hl := (List.getElem?_eq_some_iff.1 hr).1
    rw [h2 _ (by omega), h3 _ (by omega), row_sym hr ha hs]
    refine ⟨rfl, ?_⟩
    have e : (-100 - ofR q).toNat = q := by unfold ofR; omega
    unfold symEd
    rw [if_pos (by unfold ofR; omega), e]
    rfl
end Go.Proofs.YtemdillhbnmjkaaGreatDoor.Pl

/- Good grammars, and what may come behind the states of their networks. · All that a search can come to: a list that is closed, and not too long. · What a search finds, as rows of truths. -/
import Derived.Test.YtemdillhbnmjkaaGreatDoorQ01
import Derived.Test.YtemdillhbnmjkaaGreatDoorQ02
namespace Go.Proofs.YtemdillhbnmjkaaGreatDoor.Pl

/-- something is stated of the grammar -/
structure GoodG (g : Gr) : Prop where
  len2 : 2 ≤ g.length
  len6 : g.length ≤ 6
  first : g[0]? = some [[ofR 1, -1]]
  alts : ∀ (r : Nat) alts, g[r]? = some alts → 1 ≤ alts.length ∧ alts.length ≤ 4
  alt : ∀ (r : Nat) alts alt, g[r]? = some alts → alt ∈ alts → alt.length ≤ 5
  syms : ∀ (r : Nat) alts alt, 0 < r → g[r]? = some alts → alt ∈ alts → ∀ s ∈ alt, (1 ≤ s ∧ s ≤ 4) ∨ ∃ q, 1 ≤ q ∧ q < g.length ∧ s = ofR q
  left : ∀ r, r < g.length → gb (row (leftOf g) r) r = false

section
theorem GoodG.symsOk {g : Gr} (G : GoodG g) (r : Nat) (alts : List (List Int)) (alt : List Int) (hr : g[r]? = some alts) (ha : alt ∈ alts) : SymsOk g alt := by
  intro s hs
  rcases Nat.eq_zero_or_pos r with rfl | hp
  · rw [G.first] at hr
    cases hr
    simp at ha
    subst ha
    simp at hs
    have := G.len2
    rcases hs with rfl | rfl
    · exact .inr ⟨1, by omega, rfl⟩
    · exact .inl (.inl rfl)
  · rcases G.syms r alts alt hp hr ha s hs with h | ⟨q, _, h1, h2⟩
    · exact .inl (.inr h)
    · exact .inr ⟨q, h1, h2⟩
theorem GoodG.inG {g : Gr} (G : GoodG g) : InG g := by
  intro r alts alt hr ha s hs hle
  rcases G.symsOk r alts alt hr ha s hs with h | ⟨q, h1, rfl⟩
  · unfold TokOk at h; omega
  · rwa [idx_ofR]
theorem GoodG.hsym {g : Gr} (G : GoodG g) (r : Nat) (alts : List (List Int)) (alt : List Int) (hr : g[r]? = some alts) (ha : alt ∈ alts) : Syms g alt := by
  intro s hs
  rcases G.symsOk r alts alt hr ha s hs with h | h
  · left; unfold TokOk at h; omega
  · exact .inr h
theorem GoodG.wf {g : Gr} (G : GoodG g) : WellFounded (fun q r => LeftC g r q) := (left_wf G.inG G.left).1
theorem GoodG.irr {g : Gr} (G : GoodG g) : ∀ q, ¬ LeftP g q q := (left_wf G.inG G.left).2
theorem GoodG.tells {g : Gr} (G : GoodG g) (l : List Int) (hs : SymsOk g l) : Tells g l (beg g (emptyOf g) 7 l) := begins_tells G.symsOk G.irr G.len6 l hs
theorem starts_tokOk {g : Gr} (G : GoodG g) {l : List Int} {t : Int} (h : Starts g l t) (hs : SymsOk g l) : TokOk t := by
  induction h with
  | @tok t rest h1 =>
    rcases hs t (by simp) with h | ⟨q, _, rfl⟩
    · exact h
    · exact absurd h1 ofR_not
  | rule h1 h2 _ ih => exact ih (G.symsOk _ _ _ h1 h2)
  | skip _ _ _ _ ih => exact ih (fun s hs' => hs s (by simp [hs']))

/-- how far the states go -/
theorem GoodG.sums {g : Gr} (G : GoodG g) (n : Nat) (hn : n ≤ g.length) : ((g.take n).map altLen).sum ≤ 24 * n := by
  induction n with
  | zero => simp
  | succ n ih =>
    obtain ⟨alts, hr⟩ : ∃ alts, g[n]? = some alts := ⟨_, List.getElem?_eq_getElem (by omega)⟩
    rw [sum_take_succ g n alts hr]
    have h1 := ih (by omega)
    have h2 : altLen alts ≤ 24 := by
      have h3 := (G.alts n alts hr).2
      have h4 : ∀ (l : List (List Int)), (∀ a ∈ l, a.length ≤ 5) → altLen l ≤ 6 * l.length := by
        intro l
        induction l with
        | nil => intro _; simp [altLen]
        | cons a l ih =>
          intro ha
          have h5 := ha a (by simp)
          have h6 := ih (fun b hb => ha b (by simp [hb]))
          unfold altLen at h6 ⊢
          simp only [List.map_cons, List.sum_cons, List.length_cons]
          omega
      have := h4 alts (fun a ha => G.alt n alts a hr ha)
      omega
    omega
theorem GoodG.states_le {g : Gr} (G : GoodG g) : states g ≤ 168 := by
  have := G.sums g.length (Nat.le_refl _)
  rw [List.take_length] at this
  have := G.len6
  unfold states
  omega
end

section
/-- what may come behind a state of an alternative, within its rule -/
theorem look_iff {g : Gr} (G : GoodG g) {N : NetG} (H : IsNet g N (place g)) {r a k : Nat} {alts : List (List Int)} {alt : List Int} (hr : g[r]? = some alts) (ha : alts[a]? = some alt) (hk : k ≤ alt.length) (t : Int) :
    TR N false (place g r a + k, []) t ↔ Starts g (alt.drop k) t ∨ (t = -2 ∧ Null g (alt.drop k)) := by
  have hl := (List.getElem?_eq_some_iff.1 hr).1
  rw [pos_tr H false G.hsym G.wf hr ha k hk [] t, tr_fin (H.stopS r hl)]
  constructor
  · rintro (h | ⟨h1, h2⟩)
    · exact .inl h
    · exact .inr ⟨h2, h1⟩
  · rintro (h | ⟨h1, h2⟩)
    · exact .inl h
    · exact .inr ⟨h2, h1⟩
theorem look_tells {g : Gr} (G : GoodG g) {N : NetG} (H : IsNet g N (place g)) {r a k : Nat} {alts : List (List Int)} {alt : List Int} (hr : g[r]? = some alts) (ha : alts[a]? = some alt) (hk : k ≤ alt.length) (i : Nat) (hi : i < 7) :
    gb (beg g (emptyOf g) 7 (alt.drop k)) i = true ↔ TR N false (place g r a + k, []) ((i : Int) - 2) := by
  have hs : SymsOk g (alt.drop k) := fun s hs => G.symsOk r alts alt hr (List.mem_of_getElem? ha) s (List.mem_of_mem_drop hs)
  have T := G.tells (alt.drop k) hs
  rw [look_iff G H hr ha hk]
  rcases Nat.eq_zero_or_pos i with rfl | hp
  · rw [T.nul]
    constructor
    · intro h; exact .inr ⟨rfl, h⟩
    · rintro (h | ⟨_, h⟩)
      · have := starts_tokOk G h hs; unfold TokOk at this; omega
      · exact h
  · rw [T.tok i hp hi]
    constructor
    · exact .inl
    · rintro (h | ⟨h, _⟩)
      · exact h
      · omega
/-- an alternative that can't be nothing -/
theorem block_tells {g : Gr} (G : GoodG g) {N : NetG} (H : IsNet g N (place g)) {r a : Nat} {alts : List (List Int)} {alt : List Int} (hr : g[r]? = some alts) (ha : alts[a]? = some alt) (hn : gb (beg g (emptyOf g) 7 alt) 0 = false) (i : Nat) (hi : i < 7) :
    gb (beg g (emptyOf g) 7 alt) i = true ↔ TR N true (place g r a, []) ((i : Int) - 2) := by
  have hs := G.symsOk r alts alt hr (List.mem_of_getElem? ha)
  have T := G.tells alt hs
  have hnn : ¬ Null g alt := fun h => by rw [T.nul.2 h] at hn; cases hn
  have := pos_tr H true G.hsym G.wf hr ha 0 (Nat.zero_le _) [] ((i : Int) - 2)
  rw [Nat.add_zero, List.drop_zero] at this
  rw [this]
  rcases Nat.eq_zero_or_pos i with rfl | hp
  · rw [T.nul]
    constructor
    · intro h; exact absurd h hnn
    · rintro (h | ⟨h, _⟩)
      · have := starts_tokOk G h hs; unfold TokOk at this; omega
      · exact h
  · rw [T.tok i hp hi]
    constructor
    · exact .inl
    · rintro (h | ⟨h, _⟩)
      · exact h
      · exact absurd h hnn
/-- which tokens there can be -/
theorem look_toks {g : Gr} (G : GoodG g) {N : NetG} (H : IsNet g N (place g)) {r a k : Nat} {alts : List (List Int)} {alt : List Int} (hr : g[r]? = some alts) (ha : alts[a]? = some alt) (hk : k ≤ alt.length) {t : Int} (h : TR N false (place g r a + k, []) t) : t = -2 ∨ TokOk t := by
  rcases (look_iff G H hr ha hk t).1 h with h | h
  · exact .inr (starts_tokOk G h (fun s hs => G.symsOk r alts alt hr (List.mem_of_getElem? ha) s (List.mem_of_mem_drop hs)))
  · exact .inl h.1
end

section
/-- the edges: tokens are tokens .. -/
theorem isEd_tok {g : Gr} (G : GoodG g) {j to : Nat} {t : Int} (h : IsEd g j (.tok to t)) : TokOk t := by
  generalize he : Ed.tok to t = e at h
  cases h with
  | start => cases he
  | block => cases he
  | bend => cases he
  | last => cases he
  | @sym r a k alts alt s hr ha hs =>
    unfold symEd at he
    split at he
    · cases he
    · rename_i hle
      simp at he
      rcases G.symsOk r alts alt hr (List.mem_of_getElem? ha) s (List.mem_of_getElem? hs) with h | ⟨q, _, rfl⟩
      · rw [he.2]; exact h
      · unfold ofR at hle; omega
/-- .. and calls lead back to a state of an alternative -/
theorem isEd_call {g : Gr} (G : GoodG g) {j q f : Nat} (h : IsEd g j (.call q f)) : ∃ r a k alts alt, g[r]? = some alts ∧ alts[a]? = some alt ∧ alt[k]? = some (ofR q) ∧ q < g.length ∧ j = place g r a + k ∧ f = place g r a + (k + 1) ∧ k + 1 ≤ alt.length := by
  generalize he : Ed.call q f = e at h
  cases h with
  | start => cases he
  | block => cases he
  | bend => cases he
  | last => cases he
  | @sym r a k alts alt s hr ha hs =>
    unfold symEd at he
    split at he
    · rename_i hle
      simp at he
      have e : ofR q = s := by rw [he.1]; exact ofR_idx hle
      refine ⟨r, a, k, alts, alt, hr, ha, by rw [e]; exact hs, ?_, rfl, by omega, ?_⟩
      · have := G.inG r alts alt hr (List.mem_of_getElem? ha) s (List.mem_of_getElem? hs) hle
        unfold idx at this
        omega
      · have := (List.getElem?_eq_some_iff.1 hs).1; omega
    · cases he
end

/-! symbols behind symbols -/
theorem null_append {g : Gr} {a b : List Int} (hs : Syms g a) : Null g (a ++ b) ↔ Null g a ∧ Null g b := by
  induction a with
  | nil => exact ⟨fun h => ⟨.nil, h⟩, fun h => h.2⟩
  | cons s a ih =>
    rcases hs s (by simp) with ht | ⟨q, _, rfl⟩
    · exact ⟨fun h => absurd h (null_tok ht), fun h => absurd h.1 (null_tok ht)⟩
    · rw [List.cons_append, null_cons, null_cons, ih (fun s hs' => hs s (by simp [hs']))]
      exact ⟨fun h => ⟨⟨h.1, h.2.1⟩, h.2.2⟩, fun h => ⟨h.1.1, h.1.2, h.2⟩⟩
theorem starts_append {g : Gr} {a b : List Int} {t : Int} (hs : Syms g a) : Starts g (a ++ b) t ↔ Starts g a t ∨ (Null g a ∧ Starts g b t) := by
  induction a with
  | nil => exact ⟨fun h => .inr ⟨.nil, h⟩, fun h => h.elim (fun h => absurd h starts_nil) (fun h => h.2)⟩
  | cons s a ih =>
    rcases hs s (by simp) with ht | ⟨q, _, rfl⟩
    · rw [List.cons_append, starts_tok ht, starts_tok ht]
      exact ⟨.inl, fun h => h.elim id (fun h => absurd h.1 (null_tok ht))⟩
    · rw [List.cons_append, starts_cons, starts_cons, null_cons, ih (fun s hs' => hs s (by simp [hs']))]
      constructor
      · rintro (h | ⟨h, h1 | ⟨h1, h2⟩⟩)
        · exact .inl (.inl h)
        · exact .inl (.inr ⟨h, h1⟩)
        · exact .inr ⟨⟨h, h1⟩, h2⟩
      · rintro ((h | ⟨h, h1⟩) | ⟨⟨h, h1⟩, h2⟩)
        · exact .inl h
        · exact .inr ⟨h, .inl h1⟩
        · exact .inr ⟨h, .inr ⟨h1, h2⟩⟩
end Go.Proofs.YtemdillhbnmjkaaGreatDoor.Pl
namespace Go.Proofs.YtemdillhbnmjkaaGreatDoor.Pl

open Classical in
/-- from a state of an alternative, its other symbols being l -/
noncomputable def cfgPos (g : Gr) (rec : Nat → List Nat → List Cfg) (r : Nat) : Nat → List Int → List Nat → List Cfg
  | p, [], k => [(p, k)]
  | p, s :: rest, k => (p, k) :: (if s ≤ -100 then rec (idx s) ((p + 1) :: (p + 1) :: k) ++
      (if NullR g (idx s) then cfgPos g rec r (p + 1) rest ((p + 1) :: k) ++ ((3 * g.length + r, (p + 1) :: k) :: (g.length + r, (p + 1) :: k) :: cfgPos g rec r (p + 1) rest k) else []) else [])
open Classical in
/-- from the start of a rule -/
noncomputable def cfgRule (g : Gr) : Nat → Nat → List Nat → List Cfg
  | 0, _, _ => []
  | n + 1, q, k => (q, k) :: (2 * g.length + q, k) :: ((if NullR g q then [(3 * g.length + q, k), (g.length + q, k)] else []) ++ (((g[q]?).getD []).zipIdx.flatMap fun x => cfgPos g (cfgRule g n) q (place g q x.2) x.1 k))
noncomputable def allPos (g : Gr) (r : Nat) (alts : List (List Int)) : List Cfg :=
  alts.zipIdx.flatMap fun x => (List.range (x.1.length + 1)).flatMap fun k => cfgPos g (cfgRule g 6) r (place g r x.2 + k) (x.1.drop k) []
/-- all -/
noncomputable def allCfg (g : Gr) : List Cfg := g.zipIdx.flatMap fun x => (2 * g.length + x.2, []) :: (3 * g.length + x.2, []) :: (g.length + x.2, []) :: allPos g x.2 x.1

theorem cfgPos_head (g : Gr) (rec : Nat → List Nat → List Cfg) (r p : Nat) (l : List Int) (k : List Nat) : (p, k) ∈ cfgPos g rec r p l k := by
  cases l <;> simp [cfgPos]
theorem cfgPos_rule (g : Gr) (rec : Nat → List Nat → List Cfg) (r p q : Nat) (l : List Int) (k : List Nat) (c : Cfg) : c ∈ cfgPos g rec r p (ofR q :: l) k ↔ c = (p, k) ∨ c ∈ rec q ((p + 1) :: (p + 1) :: k) ∨
    (NullR g q ∧ (c ∈ cfgPos g rec r (p + 1) l ((p + 1) :: k) ∨ c = (3 * g.length + r, (p + 1) :: k) ∨ c = (g.length + r, (p + 1) :: k) ∨ c ∈ cfgPos g rec r (p + 1) l k)) := by
  rw [cfgPos, if_pos (by unfold ofR; omega), idx_ofR]
  by_cases h : NullR g q
  · rw [if_pos h]; simp [h]
  · rw [if_neg h]; simp [h]

theorem step_eps {N : NetG} {bot : Bool} {s to : Nat} {k : List Nat} {d : Cfg} (h : N.stop s = none ∧ N.trs s = [.eps to]) (hd : Step N bot (s, k) d) : d = (to, k) := by
  cases hd with
  | pop hs => rw [h.1] at hs; cases hs
  | wide hs => rw [h.1] at hs; cases hs
  | eps _ hm => rw [h.2] at hm; simp at hm; rw [hm]
  | call _ hm => rw [h.2] at hm; simp at hm
theorem step_pop {N : NetG} {bot : Bool} {s r f : Nat} {k : List Nat} {d : Cfg} (h : N.stop s = some r) (hd : Step N bot (s, f :: k) d) : d = (f, k) := by
  cases hd with
  | pop _ => rfl
  | eps hs _ => rw [h] at hs; cases hs
  | call hs _ => rw [h] at hs; cases hs

/-- what is told of a rule -/
def RuleCl (g : Gr) (N : NetG) (bot : Bool) (rec : Nat → List Nat → List Cfg) (q : Nat) : Prop :=
  ∀ k, (q, k) ∈ rec q k ∧ ∀ c ∈ rec q k, ∀ d, Step N bot c d → d ∈ rec q k ∨ (c = (g.length + q, k) ∧ NullR g q)

section

theorem pos_closed {g : Gr} {N : NetG} {bot : Bool} (H : IsNet g N (place g)) {rec : Nat → List Nat → List Cfg} {r a : Nat} {alts : List (List Int)} {alt : List Int} (hr : g[r]? = some alts) (ha : alts[a]? = some alt) (hsym : Syms g alt) :
    ∀ (l : List Int) (m : Nat), alt.drop m = l → m + l.length = alt.length → (∀ q pre rest, l = pre ++ ofR q :: rest → Null g pre → RuleCl g N bot rec q) →
      ∀ k, ∀ c ∈ cfgPos g rec r (place g r a + m) l k, ∀ d, Step N bot c d → d ∈ cfgPos g rec r (place g r a + m) l k ∨ (d = (3 * g.length + r, k) ∧ Null g l) := by
  have hrl := (List.getElem?_eq_some_iff.1 hr).1
  intro l
  induction l with
  | nil =>
    intro m _ hm _ k c hc d hd
    simp [cfgPos] at hc
    subst hc
    have hm' : m = alt.length := by simpa using hm
    subst hm'
    exact .inr ⟨step_eps (H.lastS r a alts alt hr ha) hd, .nil⟩
  | cons s rest ih =>
    intro m hdrop hm hrec k c hc d hd
    have hlt : m < alt.length := by simp at hm; omega
    have hd0 : alt.drop m = alt[m] :: alt.drop (m + 1) := List.drop_eq_getElem_cons hlt
    rw [hdrop] at hd0
    injection hd0 with e1 e2
    have hg : alt[m]? = some s := by rw [e1]; exact List.getElem?_eq_getElem hlt
    rcases hsym s (List.mem_of_getElem? hg) with ht | ⟨q, hq, rfl⟩
    · rw [cfgPos, if_neg (by omega)] at hc
      simp at hc
      subst hc
      have h := H.tokS r a m alts alt s hr ha hg ht
      cases hd with
      | pop hs => rw [h.1] at hs; cases hs
      | wide hs => rw [h.1] at hs; cases hs
      | eps _ hm => rw [h.2] at hm; simp at hm
      | call _ hm => rw [h.2] at hm; simp at hm
    · have h := H.ruleS r a m q alts alt hr ha hg
      have ep : place g r a + (m + 1) = place g r a + m + 1 := by omega
      have hrq := hrec q [] rest rfl .nil
      have ihn : NullR g q → ∀ k, ∀ c ∈ cfgPos g rec r (place g r a + m + 1) rest k, ∀ d, Step N bot c d → d ∈ cfgPos g rec r (place g r a + m + 1) rest k ∨ (d = (3 * g.length + r, k) ∧ Null g rest) := by
        intro hn
        have := ih (m + 1) e2.symm (by simp at hm; omega) (fun q' pre rest' he hp => hrec q' (ofR q :: pre) rest' (by rw [he]; rfl) (null_cons.2 ⟨hn, hp⟩))
        rw [ep] at this
        exact this
      rw [cfgPos_rule] at hc ⊢
      rcases hc with rfl | hc | ⟨hn, hc | rfl | rfl | hc⟩
      · refine .inl (.inr (.inl ?_))
        cases hd with
        | pop hs => rw [h.1] at hs; cases hs
        | wide hs => rw [h.1] at hs; cases hs
        | eps _ hm => rw [h.2] at hm; simp at hm
        | call _ hm =>
          rw [h.2] at hm; simp at hm
          obtain ⟨rfl, rfl, rfl⟩ := hm
          exact (hrq _).1
      · rcases (hrq _).2 c hc d hd with h1 | ⟨rfl, hn⟩
        · exact .inl (.inr (.inl h1))
        · rw [step_pop (H.stopS q hq) hd]
          exact .inl (.inr (.inr ⟨hn, .inl (cfgPos_head ..)⟩))
      · rcases ihn hn _ c hc d hd with h1 | ⟨rfl, _⟩
        · exact .inl (.inr (.inr ⟨hn, .inl h1⟩))
        · exact .inl (.inr (.inr ⟨hn, .inr (.inl rfl)⟩))
      · rw [step_eps (H.bendS r hrl) hd]
        exact .inl (.inr (.inr ⟨hn, .inr (.inr (.inl rfl))⟩))
      · rw [step_pop (H.stopS r hrl) hd]
        exact .inl (.inr (.inr ⟨hn, .inr (.inr (.inr (cfgPos_head ..)))⟩))
      · rcases ihn hn _ c hc d hd with h1 | ⟨rfl, h2⟩
        · exact .inl (.inr (.inr ⟨hn, .inr (.inr (.inr h1))⟩))
        · exact .inr ⟨rfl, null_cons.2 ⟨hn, h2⟩⟩

theorem rule_closed {g : Gr} {N : NetG} {bot : Bool} (H : IsNet g N (place g)) (G : GoodG g) : ∀ (n q : Nat), q < g.length → rank g q < n → RuleCl g N bot (cfgRule g n) q := by
  intro n
  induction n with
  | zero => intro q _ h; omega
  | succ n ih =>
    intro q hq hn k
    obtain ⟨alts, hr⟩ : ∃ alts, g[q]? = some alts := ⟨_, List.getElem?_eq_getElem hq⟩
    have hmem : ∀ c, c ∈ cfgRule g (n + 1) q k ↔ c = (q, k) ∨ c = (2 * g.length + q, k) ∨ (NullR g q ∧ (c = (3 * g.length + q, k) ∨ c = (g.length + q, k))) ∨
        ∃ a alt, alts[a]? = some alt ∧ c ∈ cfgPos g (cfgRule g n) q (place g q a) alt k := by
      intro c
      rw [cfgRule, hr, Option.getD_some, List.mem_cons, List.mem_cons, List.mem_append, List.mem_flatMap]
      have e1 : (∃ x ∈ alts.zipIdx, c ∈ cfgPos g (cfgRule g n) q (place g q x.2) x.1 k) ↔ ∃ a alt, alts[a]? = some alt ∧ c ∈ cfgPos g (cfgRule g n) q (place g q a) alt k := by
        constructor
        · rintro ⟨⟨alt, a⟩, h1, h2⟩; exact ⟨a, alt, List.mem_zipIdx_iff_getElem?.1 h1, h2⟩
        · rintro ⟨a, alt, h1, h2⟩; exact ⟨(alt, a), List.mem_zipIdx_iff_getElem?.2 h1, h2⟩
      rw [e1]
      by_cases hnl : NullR g q
      · rw [if_pos hnl]; simp [hnl]
      · rw [if_neg hnl]; simp [hnl]
    refine ⟨(hmem _).2 (.inl rfl), fun c hc d hd => ?_⟩
    rcases (hmem c).1 hc with rfl | rfl | ⟨hnl, rfl | rfl⟩ | ⟨a, alt, ha, hc⟩
    · rw [step_eps (H.startS q hq) hd]
      exact .inl ((hmem _).2 (.inr (.inl rfl)))
    · obtain ⟨hb1, hb2⟩ := H.blockS q alts hr
      left
      cases hd with
      | pop hs => rw [hb1] at hs; cases hs
      | wide hs => rw [hb1] at hs; cases hs
      | eps _ hm =>
        obtain ⟨a, alt, ha, he⟩ := (hb2 _).1 hm
        cases he
        exact (hmem _).2 (.inr (.inr (.inr ⟨a, alt, ha, cfgPos_head ..⟩)))
      | call _ hm => obtain ⟨a, alt, ha, he⟩ := (hb2 _).1 hm; cases he
    · rw [step_eps (H.bendS q hq) hd]
      exact .inl ((hmem _).2 (.inr (.inr (.inl ⟨hnl, .inr rfl⟩))))
    · exact .inr ⟨rfl, hnl⟩
    · have hm2 : alt ∈ alts := List.mem_of_getElem? ha
      have := pos_closed H (bot := bot) (rec := cfgRule g n) hr ha (G.hsym q alts alt hr hm2) alt 0 rfl (by omega) (fun q' pre rest he hp => by
        have hlc : LeftC g q q' := ⟨alts, alt, pre, rest, hr, hm2, he, hp⟩
        have hq' : q' < g.length := by
          rcases G.hsym q alts alt hr hm2 (ofR q') (by rw [he]; simp) with h | ⟨q2, h1, h2⟩
          · exact absurd h ofR_not
          · have := ofR_inj h2; omega
        have := rank_lt hlc hq' (G.irr q')
        exact ih q' hq' (by omega)) k c (by simpa using hc) d hd
      rw [Nat.add_zero] at this
      rcases this with h | ⟨rfl, h⟩
      · exact .inl ((hmem _).2 (.inr (.inr (.inr ⟨a, alt, ha, h⟩))))
      · exact .inl ((hmem _).2 (.inr (.inr (.inl ⟨⟨alts, alt, hr, hm2, h⟩, .inl rfl⟩))))
end

theorem all_mem {g : Gr} {c : Cfg} : c ∈ allCfg g ↔ ∃ r alts, g[r]? = some alts ∧ (c = (2 * g.length + r, []) ∨ c = (3 * g.length + r, []) ∨ c = (g.length + r, []) ∨
    ∃ a alt k, alts[a]? = some alt ∧ k ≤ alt.length ∧ c ∈ cfgPos g (cfgRule g 6) r (place g r a + k) (alt.drop k) []) := by
  unfold allCfg allPos
  rw [List.mem_flatMap]
  constructor
  · rintro ⟨⟨alts, r⟩, h1, h2⟩
    refine ⟨r, alts, List.mem_zipIdx_iff_getElem?.1 h1, ?_⟩
    simp only [List.mem_cons, List.mem_flatMap] at h2
    rcases h2 with h | h | h | ⟨⟨alt, a⟩, h3, k, h4, h5⟩
    · exact .inl h
    · exact .inr (.inl h)
    · exact .inr (.inr (.inl h))
    · exact .inr (.inr (.inr ⟨a, alt, k, List.mem_zipIdx_iff_getElem?.1 h3, by simp at h4; omega, h5⟩))
  · rintro ⟨r, alts, h1, h2⟩
    refine ⟨(alts, r), List.mem_zipIdx_iff_getElem?.2 h1, ?_⟩
    simp only [List.mem_cons, List.mem_flatMap]
    rcases h2 with h | h | h | ⟨a, alt, k, h3, h4, h5⟩
    · exact .inl h
    · exact .inr (.inl h)
    · exact .inr (.inr (.inl h))
    · exact .inr (.inr (.inr ⟨(alt, a), List.mem_zipIdx_iff_getElem?.2 h3, k, by simp; omega, h5⟩))

theorem all_pos {g : Gr} {r a k : Nat} {alts : List (List Int)} {alt : List Int} (hr : g[r]? = some alts) (ha : alts[a]? = some alt) (hk : k ≤ alt.length) : (place g r a + k, []) ∈ allCfg g :=
  all_mem.2 ⟨r, alts, hr, .inr (.inr (.inr ⟨a, alt, k, ha, hk, cfgPos_head ..⟩))⟩
theorem all_block {g : Gr} {r : Nat} {alts : List (List Int)} (hr : g[r]? = some alts) : (2 * g.length + r, []) ∈ allCfg g := all_mem.2 ⟨r, alts, hr, .inl rfl⟩

/-- it is closed -/
theorem all_closed {g : Gr} (G : GoodG g) {N : NetG} (H : IsNet g N (place g)) {bot : Bool}
    (HW : ∀ s r d, N.stop s = some r → d ∈ N.trs s → ∃ f, d = .eps f ∧ ∃ r' a k alts alt, g[r']? = some alts ∧ alts[a]? = some alt ∧ f = place g r' a + k ∧ k ≤ alt.length) :
    ∀ c ∈ allCfg g, ∀ d, Step N bot c d → d ∈ allCfg g := by
  intro c hc d hd
  obtain ⟨r, alts, hr, h⟩ := all_mem.1 hc
  have hrl := (List.getElem?_eq_some_iff.1 hr).1
  rcases h with rfl | rfl | rfl | ⟨a, alt, k, ha, hk, h⟩
  · obtain ⟨hb1, hb2⟩ := H.blockS r alts hr
    cases hd with
    | wide hs => rw [hb1] at hs; cases hs
    | eps _ hm =>
      obtain ⟨a, alt, ha, he⟩ := (hb2 _).1 hm
      cases he
      have := all_pos hr ha (Nat.zero_le alt.length)
      simpa using this
    | call _ hm => obtain ⟨a, alt, ha, he⟩ := (hb2 _).1 hm; cases he
  · rw [step_eps (H.bendS r hrl) hd]
    exact all_mem.2 ⟨r, alts, hr, .inr (.inr (.inl rfl))⟩
  · cases hd with
    | wide hs _ hm =>
      obtain ⟨f, he, r', a, k, alts', alt, h1, h2, rfl, h4⟩ := HW _ _ _ hs hm
      cases he
      exact all_pos h1 h2 h4
    | eps hs _ => rw [H.stopS r hrl] at hs; cases hs
    | call hs _ => rw [H.stopS r hrl] at hs; cases hs
  · have hsym := G.hsym r alts alt hr (List.mem_of_getElem? ha)
    have := pos_closed H (bot := bot) (rec := cfgRule g 6) hr ha hsym (alt.drop k) k rfl (by simp; omega) (fun q pre rest he _ => by
      have hq : q < g.length := by
        rcases hsym (ofR q) (List.mem_of_mem_drop (by rw [he]; simp)) with h | ⟨q2, h1, h2⟩
        · exact absurd h ofR_not
        · have := ofR_inj h2; omega
      have h1 := rank_le hq (G.irr q)
      have h2 := G.len6
      exact rule_closed H G 6 q hq (by omega)) [] c h d hd
    rcases this with h | ⟨rfl, _⟩
    · exact all_mem.2 ⟨r, alts, hr, .inr (.inr (.inr ⟨a, alt, k, ha, hk, h⟩))⟩
    · exact all_mem.2 ⟨r, alts, hr, .inr (.inl rfl)⟩

/-! how long it is -/
theorem cfgPos_len {g : Gr} {rec : Nat → List Nat → List Cfg} {r B : Nat} : ∀ (l : List Int) (p : Nat) (k : List Nat), (∀ q pre rest, l = pre ++ ofR q :: rest → Null g pre → ∀ k, (rec q k).length ≤ B) → (∀ s ∈ l, s ≤ -100 → ofR (idx s) = s) →
    (cfgPos g rec r p l k).length + (3 + B) ≤ 2 ^ l.length * (4 + B)
  | [], p, k, _, _ => by simp [cfgPos]; omega
  | s :: rest, p, k, hrec, hs => by
    rw [cfgPos]
    have e2 : 2 ^ (s :: rest).length * (4 + B) = 2 * (2 ^ rest.length * (4 + B)) := by rw [List.length_cons, Nat.pow_succ, Nat.mul_comm (2 ^ rest.length) 2, Nat.mul_assoc]
    have hbase : 4 + B ≤ 2 ^ rest.length * (4 + B) := Nat.le_mul_of_pos_left _ (Nat.two_pow_pos _)
    rw [e2]
    split
    · rename_i hle
      have he := hs s (by simp) hle
      have h1 := hrec (idx s) [] rest (by rw [he]; rfl) .nil ((p + 1) :: (p + 1) :: k)
      by_cases hn : NullR g (idx s)
      · rw [if_pos hn]
        have hrec' : ∀ q pre rest', rest = pre ++ ofR q :: rest' → Null g pre → ∀ k, (rec q k).length ≤ B := fun q pre rest' he' hp => hrec q (s :: pre) rest' (by rw [he']; rfl) (by rw [← he]; exact null_cons.2 ⟨hn, hp⟩)
        have hs' : ∀ s ∈ rest, s ≤ -100 → ofR (idx s) = s := fun s h => hs s (by simp [h])
        have h2 := cfgPos_len rest (p + 1) ((p + 1) :: k) hrec' hs' (r := r)
        have h3 := cfgPos_len rest (p + 1) k hrec' hs' (r := r)
        simp only [List.length_cons, List.length_append]
        omega
      · rw [if_neg hn]
        simp only [List.length_cons, List.length_append, List.length_nil]
        omega
    · simp only [List.length_cons, List.length_nil]
      omega
/-- no calls at all -/
theorem cfgPos_one {g : Gr} {rec : Nat → List Nat → List Cfg} {r : Nat} (l : List Int) (p : Nat) (k : List Nat) (hs : ∀ s rest, l = s :: rest → ¬ s ≤ -100) : (cfgPos g rec r p l k).length = 1 := by
  cases l with
  | nil => rfl
  | cons s rest => rw [cfgPos, if_neg (hs s rest rfl)]; rfl

def bnd : Nat → Nat
  | 0 => 8
  | j + 1 => 516 + 128 * bnd j
theorem bnd_mono (j : Nat) : bnd j ≤ bnd (j + 1) := by show _ ≤ 516 + 128 * bnd j; omega
theorem flat_le {α β : Type} (f : α → List β) (c : Nat) : ∀ (l : List α), (∀ x ∈ l, (f x).length ≤ c) → (l.flatMap f).length ≤ c * l.length
  | [], _ => by simp
  | x :: l, h => by
    rw [List.flatMap_cons, List.length_append, List.length_cons, Nat.mul_add]
    have h1 := h x (by simp)
    have h2 := flat_le f c l (fun y hy => h y (by simp [hy]))
    omega
theorem ofR_self (s : Int) (h : s ≤ -100) : ofR (idx s) = s := ofR_idx h

section
open Classical in
theorem cfgRule_len {g : Gr} (G : GoodG g) : ∀ (n j q : Nat) (k : List Nat), q < g.length → rank g q ≤ j → (cfgRule g n q k).length ≤ bnd j := by
  intro n
  induction n with
  | zero => intro j q k _ _; simp [cfgRule]
  | succ n ih =>
    intro j q k hq hj
    obtain ⟨alts, hr⟩ : ∃ alts, g[q]? = some alts := ⟨_, List.getElem?_eq_getElem hq⟩
    have h4 := (G.alts q alts hr).2
    rw [cfgRule, hr, Option.getD_some]
    have hnull : (if NullR g q then [(3 * g.length + q, k), (g.length + q, k)] else []).length ≤ 2 := by split <;> simp
    have hleft : ∀ (a : Nat) alt q' pre rest, alts[a]? = some alt → alt = pre ++ ofR q' :: rest → Null g pre → q' < g.length ∧ rank g q' < rank g q := by
      intro a alt q' pre rest ha he hp
      have hm2 := List.mem_of_getElem? ha
      have hq' : q' < g.length := by
        rcases G.hsym q alts alt hr hm2 (ofR q') (by rw [he]; simp) with h | ⟨q2, h1, h2⟩
        · exact absurd h ofR_not
        · have := ofR_inj h2; omega
      exact ⟨hq', rank_lt ⟨alts, alt, pre, rest, hr, hm2, he, hp⟩ hq' (G.irr q')⟩
    cases j with
    | zero =>
      have := flat_le (fun x : List Int × Nat => cfgPos g (cfgRule g n) q (place g q x.2) x.1 k) 1 alts.zipIdx (by
        rintro ⟨alt, a⟩ hx
        have ha : alts[a]? = some alt := List.mem_zipIdx_iff_getElem?.1 hx
        rw [cfgPos_one]
        · exact Nat.le_refl _
        · intro s rest he hle
          have := (hleft a alt (idx s) [] rest ha (by rw [ofR_idx hle]; exact he) .nil).2
          omega)
      simp only [List.length_cons, List.length_append, List.length_zipIdx] at this ⊢
      show _ ≤ 8
      omega
    | succ j =>
      have := flat_le (fun x : List Int × Nat => cfgPos g (cfgRule g n) q (place g q x.2) x.1 k) (32 * (4 + bnd j)) alts.zipIdx (by
        rintro ⟨alt, a⟩ hx
        have ha : alts[a]? = some alt := List.mem_zipIdx_iff_getElem?.1 hx
        have h5 := G.alt q alts alt hr (List.mem_of_getElem? ha)
        have h6 := cfgPos_len (g := g) (rec := cfgRule g n) (r := q) (B := bnd j) alt (place g q a) k (fun q' pre rest he hp k' => by
          obtain ⟨h7, h8⟩ := hleft a alt q' pre rest ha he hp
          exact ih j q' k' h7 (by omega)) (fun s _ h => ofR_self s h)
        have h7 : 2 ^ alt.length ≤ 2 ^ 5 := Nat.pow_le_pow_right (by omega) h5
        have h8 : 2 ^ alt.length * (4 + bnd j) ≤ 32 * (4 + bnd j) := Nat.mul_le_mul_right _ h7
        show (cfgPos g (cfgRule g n) q (place g q a) alt k).length ≤ _
        omega)
      have h9 : 32 * (4 + bnd j) * alts.zipIdx.length ≤ 32 * (4 + bnd j) * 4 := Nat.mul_le_mul_left _ (by simpa using h4)
      simp only [List.length_cons, List.length_append] at this ⊢
      show _ ≤ 516 + 128 * bnd j
      omega
/-- a rule that is called begins with four others at most -/
theorem rank_called {g : Gr} (G : GoodG g) {q : Nat} (h0 : 1 ≤ q) (hq : q < g.length) : rank g q ≤ 4 := by
  have h0' : ¬ LeftP g q 0 := by
    have : ∀ {r k}, LeftP g r k → k ≠ 0 := by
      intro r k h
      induction h with
      | @one r q h =>
        obtain ⟨alts, alt, pre, rest, hr, ha, rfl, _⟩ := h
        rintro rfl
        rcases Nat.eq_zero_or_pos r with rfl | hp
        · rw [G.first] at hr
          cases hr
          simp at ha
          have hm : ofR 0 ∈ [ofR 1, -1] := by rw [← ha]; simp
          simp [ofR] at hm
        · rcases G.syms r alts _ hp hr ha (ofR 0) (by simp) with h | ⟨q', h1, _, h2⟩
          · unfold ofR at h; omega
          · have := ofR_inj h2; omega
      | step _ _ ih => exact ih
    exact fun h => this h rfl
  have h1 : rank g q < (List.range g.length).countP fun x => decide (x ≠ 0) := by
    unfold rank
    refine countP_lt (fun x _ hx => ?_) (y := q) (by simpa using hq) (by simpa using G.irr q) (by simp; omega)
    simp at hx ⊢
    rintro rfl
    exact h0' hx
  have h2 : ((List.range g.length).countP fun x => decide (x ≠ 0)) < (List.range g.length).countP fun _ => true := by
    refine countP_lt (fun _ _ _ => rfl) (y := 0) (by simp; omega) (by simp) rfl
  rw [List.countP_true, List.length_range] at h2
  have := G.len6
  omega
theorem all_len {g : Gr} (G : GoodG g) : (allCfg g).length ≤ 14921325123000 := by
  have hb : bnd 4 = 3238134788 := by decide
  have h1 : (allCfg g).length ≤ (3 + 24 * (32 * (4 + bnd 4))) * g.zipIdx.length := by
    refine flat_le _ _ _ ?_
    rintro ⟨alts, r⟩ hx
    have hr : g[r]? = some alts := List.mem_zipIdx_iff_getElem?.1 hx
    have h4 := (G.alts r alts hr).2
    have h2 : (allPos g r alts).length ≤ (6 * (32 * (4 + bnd 4))) * alts.zipIdx.length := by
      refine flat_le _ _ _ ?_
      rintro ⟨alt, a⟩ hy
      have ha : alts[a]? = some alt := List.mem_zipIdx_iff_getElem?.1 hy
      have hm2 := List.mem_of_getElem? ha
      have h5 := G.alt r alts alt hr hm2
      have h3 := flat_le (fun k => cfgPos g (cfgRule g 6) r (place g r a + k) (alt.drop k) []) (32 * (4 + bnd 4)) (List.range (alt.length + 1)) (by
        intro k _
        have h6 := cfgPos_len (g := g) (rec := cfgRule g 6) (r := r) (B := bnd 4) (alt.drop k) (place g r a + k) [] (fun q' pre rest he hp k' => by
          have hmq : ofR q' ∈ alt := List.mem_of_mem_drop (by rw [he]; simp)
          have hq : q' < g.length ∧ 1 ≤ q' := by
            rcases Nat.eq_zero_or_pos r with rfl | hp
            · rw [G.first] at hr
              cases hr
              simp at hm2
              subst hm2
              have := G.len2
              simp at hmq
              rcases hmq with h | h
              · have := ofR_inj h; omega
              · unfold ofR at h; omega
            · rcases G.syms r alts alt hp hr hm2 _ hmq with h | ⟨q2, h1, h2, h3⟩
              · unfold ofR at h; omega
              · have := ofR_inj h3; omega
          exact cfgRule_len G 6 4 q' k' hq.1 (rank_called G hq.2 hq.1)) (fun s _ h => ofR_self s h)
        have h7 : 2 ^ (alt.drop k).length ≤ 2 ^ 5 := Nat.pow_le_pow_right (by omega) (by simp; omega)
        have h8 : 2 ^ (alt.drop k).length * (4 + bnd 4) ≤ 32 * (4 + bnd 4) := Nat.mul_le_mul_right _ h7
        omega)
      rw [List.length_range] at h3
      have h9 : 32 * (4 + bnd 4) * (alt.length + 1) ≤ 32 * (4 + bnd 4) * 6 := Nat.mul_le_mul_left _ (by omega)
      show ((List.range (alt.length + 1)).flatMap fun k => cfgPos g (cfgRule g 6) r (place g r a + k) (alt.drop k) []).length ≤ _
      omega
    have h3 : (6 * (32 * (4 + bnd 4))) * alts.zipIdx.length ≤ (6 * (32 * (4 + bnd 4))) * 4 := Nat.mul_le_mul_left _ (by simpa using h4)
    show ((_ : Cfg) :: _ :: _ :: allPos g r alts).length ≤ _
    simp only [List.length_cons]
    omega
  have h2 : (3 + 24 * (32 * (4 + bnd 4))) * g.zipIdx.length ≤ (3 + 24 * (32 * (4 + bnd 4))) * 6 := Nat.mul_le_mul_left _ (by simpa using G.len6)
  rw [hb] at h1 h2
  omega
end

/-- what is there once, and in a list, is no more than it -/
theorem nodup_le {α : Type} [DecidableEq α] : ∀ (V A : List α), V.Nodup → (∀ c ∈ V, c ∈ A) → V.length ≤ A.length
  | [], _, _, _ => Nat.zero_le _
  | c :: V, A, hn, h => by
    obtain ⟨h1, h2⟩ := List.nodup_cons.1 hn
    have hc := h c (by simp)
    have h3 := nodup_le V (A.erase c) h2 (fun d hd => by
      have hne : d ≠ c := fun e => h1 (e ▸ hd)
      exact (List.mem_erase_of_ne hne).2 (h d (by simp [hd])))
    rw [List.length_erase_of_mem hc] at h3
    have := List.length_pos_of_mem hc
    simp only [List.length_cons]
    omega
end Go.Proofs.YtemdillhbnmjkaaGreatDoor.Pl
namespace Go.Proofs.YtemdillhbnmjkaaGreatDoor.Pl

/-- which tokens m has, from -2 on -/
def rowOf (m : Nat) : List Bool := (List.range 7).map fun (i : Nat) => has m ((i : Int) - 2)
theorem rowOf_len (m : Nat) : (rowOf m).length = 7 := by simp [rowOf]
theorem rowOf_at (m i : Nat) (h : i < 7) : gb (rowOf m) i = has m ((i : Int) - 2) := by
  unfold gb rowOf
  rw [List.getElem?_map, List.getElem?_range h]
  rfl
/-- which tokens intervals have -/
def marksOf (l : List Iv) : List Bool := (List.range 7).map fun (i : Nat) => l.any fun v => decide (v.1 ≤ (i : Int) - 2) && decide ((i : Int) - 2 < v.2)
theorem marksOf_canon {m : Nat} (h : m < 64) : marksOf (canon m) = rowOf m := by
  unfold marksOf rowOf
  refine List.map_congr_left (fun i hi => (canon_facts m h).2.2.2 _ ?_)
  have hi : i < 7 := by simpa using hi
  have : i = 0 ∨ i = 1 ∨ i = 2 ∨ i = 3 ∨ i = 4 ∨ i = 5 ∨ i = 6 := by omega
  rcases this with rfl | rfl | rfl | rfl | rfl | rfl | rfl <;> decide

theorem row_ext {a b : List Bool} (h : a.length = 7) (h' : b.length = 7) (he : ∀ i, i < 7 → (gb a i = true ↔ gb b i = true)) : a = b := by
  refine gb_ext (h.trans h'.symm) (fun i => ?_)
  rcases Nat.lt_or_ge i 7 with hi | hi
  · exact Bool.eq_iff_iff.2 (he i hi)
  · rw [gb_ge a i (by omega), gb_ge b i (by omega)]

section
theorem beg_len {g : Gr} (G : GoodG g) {r a k : Nat} {alts : List (List Int)} {alt : List Int} (hr : g[r]? = some alts) (ha : alts[a]? = some alt) : (beg g (emptyOf g) 7 (alt.drop k)).length = 7 :=
  (G.tells (alt.drop k) (fun s hs => G.symsOk r alts alt hr (List.mem_of_getElem? ha) s (List.mem_of_mem_drop hs))).len
theorem look_row {g : Gr} (G : GoodG g) {N : NetG} (H : IsNet g N (place g)) {r a k : Nat} {alts : List (List Int)} {alt : List Int} (hr : g[r]? = some alts) (ha : alts[a]? = some alt) (hk : k ≤ alt.length) {m : Nat}
    (hm : ∀ t, has m t = true ↔ TR N false (place g r a + k, []) t) : rowOf m = beg g (emptyOf g) 7 (alt.drop k) := by
  refine row_ext (rowOf_len m) (beg_len G hr ha) (fun i hi => ?_)
  rw [rowOf_at m i hi, hm, look_tells G H hr ha hk i hi]
theorem block_row {g : Gr} (G : GoodG g) {N : NetG} (H : IsNet g N (place g)) {r a : Nat} {alts : List (List Int)} {alt : List Int} (hr : g[r]? = some alts) (ha : alts[a]? = some alt) (hn : gb (beg g (emptyOf g) 7 alt) 0 = false) {m : Nat}
    (hm : ∀ t, has m t = true ↔ TR N true (place g r a, []) t) : rowOf m = beg g (emptyOf g) 7 alt := by
  refine row_ext (rowOf_len m) (by have := beg_len G hr ha (k := 0); rwa [List.drop_zero] at this) (fun i hi => ?_)
  rw [rowOf_at m i hi, hm, block_tells G H hr ha hn i hi]
end
end Go.Proofs.YtemdillhbnmjkaaGreatDoor.Pl

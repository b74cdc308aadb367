/- The network of a good grammar can be written down and read, and it is that of the grammar. -/
import Derived.Test.YtemdillhbnmjkaaGreatDoorQ15
import Derived.Test.YtemdillhbnmjkaaGreatDoorQ03
namespace Go.Proofs.YtemdillhbnmjkaaGreatDoor
open Go.RowKit

def tdOf : Pl.Ed → TD | .eps to => .eps to | .call q f => .rule q f q | .tok to t => .atom to t
def trOf : TD → Pl.Tr | .eps to => .eps to | .rule st f q => .call q.toNat st f | .atom _ t => .tok t
theorem trOf_tdOf (e : Pl.Ed) : trOf (tdOf e) = e.tr := by cases e <;> rfl
def dsBasic (g : Pl.Gr) : List Ds := g.zipIdx.flatMap fun x => List.replicate (Pl.altLen x.1) ⟨.basic, (x.2 : Nat), 0⟩
def dsOf (g : Pl.Gr) : List Ds :=
  (List.range g.length).map (fun (r : Nat) => (⟨.rstart, r, 0⟩ : Ds)) ++ ((List.range g.length).map (fun (r : Nat) => (⟨.rstop, r, 0⟩ : Ds)) ++
    ((List.range g.length).map (fun (r : Nat) => (⟨.bstart, r, ((3 * g.length + r : Nat) : Int)⟩ : Ds)) ++ ((List.range g.length).map (fun (r : Nat) => (⟨.bend, r, 0⟩ : Ds)) ++ dsBasic g)))
def edOf (g : Pl.Gr) : List (Nat × TD) := (Pl.allEds g).map fun e => (e.1, tdOf e.2)
def decOf (g : Pl.Gr) : List Nat := (List.range g.length).map (2 * g.length + ·)
/-- the network in plain words -/
def netG (R : Nat) (T : List (List TD)) : Pl.NetG := ⟨fun j => ((T[j]?).getD []).map trOf, fun j => if R ≤ j ∧ j < 2 * R then some (j - R) else none⟩

theorem ds_start (g : Pl.Gr) {r : Nat} (h : r < g.length) : (dsOf g)[r]? = some ⟨.rstart, r, 0⟩ := by
  unfold dsOf; rw [List.getElem?_append_left (by simpa using h)]; simp [h]
theorem ds_stop (g : Pl.Gr) {r : Nat} (h : r < g.length) : (dsOf g)[g.length + r]? = some ⟨.rstop, r, 0⟩ := by
  unfold dsOf
  rw [List.getElem?_append_right (by simp), List.getElem?_append_left (by simpa using h)]; simp [h]
theorem ds_block (g : Pl.Gr) {r : Nat} (h : r < g.length) : (dsOf g)[2 * g.length + r]? = some ⟨.bstart, r, ((3 * g.length + r : Nat) : Int)⟩ := by
  unfold dsOf
  rw [List.getElem?_append_right (by simp; omega), List.getElem?_append_right (by simp; omega), List.getElem?_append_left (by simp; omega)]
  have e : 2 * g.length + r - g.length - g.length = r := by omega
  simp [h, e]
theorem ds_bend (g : Pl.Gr) {r : Nat} (h : r < g.length) : (dsOf g)[3 * g.length + r]? = some ⟨.bend, r, 0⟩ := by
  unfold dsOf
  rw [List.getElem?_append_right (by simp; omega), List.getElem?_append_right (by simp; omega), List.getElem?_append_right (by simp; omega), List.getElem?_append_left (by simp; omega)]
  have e : 3 * g.length + r - g.length - g.length - g.length = r := by omega
  simp [h, e]
theorem ds_rest (g : Pl.Gr) (j : Nat) (h : 4 * g.length ≤ j) : (dsOf g)[j]? = (dsBasic g)[j - 4 * g.length]? := by
  unfold dsOf
  rw [List.getElem?_append_right (by simp; omega), List.getElem?_append_right (by simp; omega), List.getElem?_append_right (by simp; omega), List.getElem?_append_right (by simp; omega)]
  congr 1
  simp; omega
theorem basic_mem {g : Pl.Gr} {d : Ds} (h : d ∈ dsBasic g) : ∃ r : Nat, r < g.length ∧ d = ⟨.basic, r, 0⟩ := by
  unfold dsBasic at h
  obtain ⟨⟨alts, r⟩, h1, h2⟩ := List.mem_flatMap.1 h
  obtain ⟨_, h3, _⟩ := List.mem_zipIdx h1
  exact ⟨r, by simpa using h3, (List.mem_replicate.1 h2).2⟩
theorem ds_len (g : Pl.Gr) : (dsOf g).length = Pl.states g := by
  have : (dsBasic g).length = (g.map Pl.altLen).sum := by
    unfold dsBasic
    rw [List.length_flatMap]
    congr 1
    simp only [List.length_replicate]
    apply List.ext_getElem?
    intro i
    rw [List.getElem?_map, List.getElem?_zipIdx, List.getElem?_map]
    cases g[i]? <;> rfl
  unfold dsOf Pl.states
  simp [this]; omega
/-- each state is one of five kinds -/
theorem ds_cases {g : Pl.Gr} {j : Nat} {d : Ds} (h : (dsOf g)[j]? = some d) :
    (j < g.length ∧ d = ⟨.rstart, j, 0⟩) ∨ (∃ r : Nat, r < g.length ∧ j = g.length + r ∧ d = ⟨.rstop, r, 0⟩) ∨ (∃ r : Nat, r < g.length ∧ j = 2 * g.length + r ∧ d = ⟨.bstart, r, ((3 * g.length + r : Nat) : Int)⟩) ∨
      (∃ r : Nat, r < g.length ∧ j = 3 * g.length + r ∧ d = ⟨.bend, r, 0⟩) ∨ (4 * g.length ≤ j ∧ ∃ r : Nat, r < g.length ∧ d = ⟨.basic, r, 0⟩) := by
  by_cases h1 : j < g.length
  · rw [ds_start g h1] at h; cases h; exact .inl ⟨h1, rfl⟩
  by_cases h2 : j < 2 * g.length
  · have := ds_stop g (r := j - g.length) (by omega)
    have e : g.length + (j - g.length) = j := by omega
    rw [e, h] at this; cases this
    exact .inr (.inl ⟨_, by omega, by omega, rfl⟩)
  by_cases h3 : j < 3 * g.length
  · have := ds_block g (r := j - 2 * g.length) (by omega)
    have e : 2 * g.length + (j - 2 * g.length) = j := by omega
    rw [e, h] at this; cases this
    exact .inr (.inr (.inl ⟨j - 2 * g.length, by omega, by omega, rfl⟩))
  by_cases h4 : j < 4 * g.length
  · have := ds_bend g (r := j - 3 * g.length) (by omega)
    have e : 3 * g.length + (j - 3 * g.length) = j := by omega
    rw [e, h] at this; cases this
    exact .inr (.inr (.inr (.inl ⟨j - 3 * g.length, by omega, by omega, rfl⟩)))
  · rw [ds_rest g j (by omega)] at h
    exact .inr (.inr (.inr (.inr ⟨by omega, basic_mem (List.mem_of_getElem? h)⟩)))

theorem rules_ok (g : Pl.Gr) : RulesOk (dsOf g) g.length where
  start r hr := ds_start g hr
  stop r hr := ds_stop g hr
  isStart j d h hk := by
    rcases ds_cases h with ⟨h1, _⟩ | ⟨r, _, _, rfl⟩ | ⟨r, _, _, rfl⟩ | ⟨r, _, _, rfl⟩ | ⟨_, r, _, rfl⟩
    · exact h1
    all_goals cases hk
  isStop j d h hk := by
    rcases ds_cases h with ⟨_, rfl⟩ | ⟨r, _, _, rfl⟩ | ⟨r, _, _, rfl⟩ | ⟨r, _, _, rfl⟩ | ⟨_, r, _, rfl⟩
    · cases hk
    · omega
    all_goals cases hk
theorem blocks_ok (g : Pl.Gr) : BlocksOk (dsOf g) g.length where
  arg i d h hk := by
    rcases ds_cases h with ⟨_, rfl⟩ | ⟨r, _, _, rfl⟩ | ⟨r, hr, hi, rfl⟩ | ⟨r, _, _, rfl⟩ | ⟨_, r, _, rfl⟩
    · cases hk
    · cases hk
    · have e : i + g.length = 3 * g.length + r := by omega
      rw [e]
      exact ⟨rfl, _, _, ds_bend g hr⟩
    · cases hk
    · cases hk
  bend j d h hk := by
    rcases ds_cases h with ⟨_, rfl⟩ | ⟨r, _, _, rfl⟩ | ⟨r, _, _, rfl⟩ | ⟨r, hr, hj, rfl⟩ | ⟨_, r, _, rfl⟩
    · cases hk
    · cases hk
    · cases hk
    · have e : j - g.length = 2 * g.length + r := by omega
      rw [e]
      exact ⟨by omega, _, _, ds_block g hr⟩
    · cases hk

theorem flat_len {α β : Type} (f : α → List β) (c : Nat) : ∀ (l : List α), (∀ x ∈ l, (f x).length ≤ c) → (l.flatMap f).length ≤ c * l.length
  | [], _ => by simp
  | x :: l, h => by
    rw [List.flatMap_cons, List.length_append, List.length_cons, Nat.mul_add]
    have h1 := h x (by simp)
    have h2 := flat_len f c l (fun y hy => h y (by simp [hy]))
    omega
theorem eds_len {g : Pl.Gr} (G : Pl.GoodG g) : (edOf g).length < 300 := by
  unfold edOf
  rw [List.length_map]
  unfold Pl.allEds
  have : (g.zipIdx.flatMap fun x => Pl.ruleEds g x.2 x.1).length ≤ 30 * g.zipIdx.length := by
    refine flat_len _ 30 _ ?_
    rintro ⟨alts, r⟩ hx
    have hr : g[r]? = some alts := List.mem_zipIdx_iff_getElem?.1 hx
    have : (Pl.altsEds g r alts).length ≤ 7 * alts.zipIdx.length := by
      refine flat_len _ 7 _ ?_
      rintro ⟨alt, a⟩ hy
      have ha : alts[a]? = some alt := List.mem_zipIdx_iff_getElem?.1 hy
      have := G.alt r alts alt hr (List.mem_of_getElem? ha)
      simp [Pl.altEds]; omega
    have := (G.alts r alts hr).2
    simp [Pl.ruleEds] at *; omega
  have := G.len6
  simp at *; omega
theorem ed_mem {g : Pl.Gr} {e : Nat × TD} (h : e ∈ edOf g) : ∃ e' : Pl.Ed, (e.1, e') ∈ Pl.allEds g ∧ e.2 = tdOf e' := by
  unfold edOf at h
  obtain ⟨⟨j, e'⟩, h1, rfl⟩ := List.mem_map.1 h
  exact ⟨e', h1, rfl⟩
/-- where the edges lead from and to -/
theorem isEd_ok {g : Pl.Gr} (G : Pl.GoodG g) {j : Nat} {e : Pl.Ed} (h : Pl.IsEd g j e) : j < Pl.states g ∧ ¬ (g.length ≤ j ∧ j < 2 * g.length) ∧ (tdOf e).ok (Pl.states g) g.length := by
  have hst : 4 * g.length ≤ Pl.states g := by unfold Pl.states; omega
  have := G.len2
  cases h with
  | @start r hr => exact ⟨by omega, by omega, by show _ < _; omega⟩
  | @block r a alts alt hr ha =>
    have hl := (List.getElem?_eq_some_iff.1 hr).1
    have := Pl.place_end g hr ha
    exact ⟨by omega, by omega, by show _ < _; omega⟩
  | @bend r hr => exact ⟨by omega, by omega, by show _ < _; omega⟩
  | @sym r a k alts alt s hr ha hs =>
    have hk := (List.getElem?_eq_some_iff.1 hs).1
    have h1 := Pl.place_end g hr ha
    have h2 := Pl.place_ge g r a
    refine ⟨by omega, by omega, ?_⟩
    unfold Pl.symEd
    split
    · rename_i hle
      have := G.inG r alts alt hr (List.mem_of_getElem? ha) s (List.mem_of_getElem? hs) hle
      unfold Pl.idx at this
      exact ⟨this, by omega, by omega⟩
    · rename_i hle
      have htok : Pl.TokOk s := by
        rcases G.symsOk r alts alt hr (List.mem_of_getElem? ha) s (List.mem_of_getElem? hs) with h | ⟨q, _, rfl⟩
        · exact h
        · unfold Pl.ofR at hle; omega
      unfold Pl.TokOk at htok
      exact ⟨by omega, by omega, by omega⟩
  | @last r a alts alt hr ha =>
    have hl := (List.getElem?_eq_some_iff.1 hr).1
    have h1 := Pl.place_end g hr ha
    have h2 := Pl.place_ge g r a
    exact ⟨by omega, by omega, by show _ < _; omega⟩
theorem edges_ok {g : Pl.Gr} (G : Pl.GoodG g) : EdgesOk (dsOf g) g.length (edOf g) where
  all e he := by
    obtain ⟨e', h1, h2⟩ := ed_mem he
    obtain ⟨h3, h4, h5⟩ := isEd_ok G (Pl.allEds_is h1)
    rw [ds_len]
    refine ⟨h3, fun d hd hk => ?_, by rw [h2]; exact h5⟩
    have := (rules_ok g).isStop _ d hd hk
    exact h4 ⟨this.1, by have := this.2; simp only at *; omega⟩

/-! the rows of the network -/
theorem t1_at (g : Pl.Gr) (j : Nat) : (T1of (dsOf g) (edOf g))[j]? = if j < Pl.states g then some ((Pl.rowE j (Pl.allEds g)).map tdOf) else none := by
  unfold T1of
  rw [adds_at, List.getElem?_replicate, ds_len]
  split
  · simp only [Option.map_some, List.nil_append]
    congr 1
    unfold edOf Pl.rowE
    rw [List.filter_map, List.map_map, List.map_map]
    rfl
  · rfl
theorem dj_mem {g : Pl.Gr} (G : Pl.GoodG g) {e : Nat × TD} (h : e ∈ DJ g.length (T1of (dsOf g) (edOf g)) (dsOf g).length) :
    ∃ q f j, q < g.length ∧ e = (g.length + q, .eps f) ∧ Pl.IsEd g j (.call q f) := by
  unfold DJ at h
  obtain ⟨t, h1, h2⟩ := List.mem_flatMap.1 h
  obtain ⟨ts, h3, h4⟩ := List.mem_flatten.1 h1
  obtain ⟨j, h5⟩ := List.getElem?_of_mem (List.mem_of_mem_take h3)
  rw [t1_at] at h5
  split at h5
  · cases h5
    obtain ⟨e', h6, rfl⟩ := List.mem_map.1 h4
    unfold Pl.rowE at h6
    obtain ⟨⟨j', e2⟩, h7, rfl⟩ := List.mem_map.1 h6
    obtain ⟨h8, h9⟩ := List.mem_filter.1 h7
    have hj : j' = j := by simpa using h9
    have hE := Pl.allEds_is h8
    cases e2 with
    | eps to => simp [tdOf, der] at h2
    | call q f =>
      simp [tdOf, der] at h2
      have := (isEd_ok G hE).2.2
      exact ⟨q, f, j', this.1, h2, hE⟩
    | tok to t => simp [tdOf, der] at h2
  · cases h5
theorem t2_at (g : Pl.Gr) (j : Nat) : (T2of (dsOf g) g.length (edOf g))[j]? = if j < Pl.states g then some ((Pl.rowE j (Pl.allEds g)).map tdOf ++ ((DJ g.length (T1of (dsOf g) (edOf g)) (dsOf g).length).filter (fun e => e.1 == j)).map (·.2)) else none := by
  unfold T2of
  rw [adds_at, t1_at]
  split <;> rfl
theorem t2_row {g : Pl.Gr} (G : Pl.GoodG g) {j : Nat} (hj : ¬ (g.length ≤ j ∧ j < 2 * g.length)) : ((T2of (dsOf g) g.length (edOf g))[j]?).getD [] = (Pl.rowE j (Pl.allEds g)).map tdOf := by
  rw [t2_at]
  split
  · rw [List.filter_eq_nil_iff.2]
    · simp
    · intro e he
      obtain ⟨q, f, j', h1, rfl, _⟩ := dj_mem G he
      simp; omega
  · rename_i h
    simp only [Option.getD_none]
    symm
    rw [List.map_eq_nil_iff]
    unfold Pl.rowE
    rw [List.map_eq_nil_iff, List.filter_eq_nil_iff]
    intro e he
    have := (isEd_ok G (Pl.allEds_is he)).1
    simp; omega
theorem t2_stop {g : Pl.Gr} (G : Pl.GoodG g) {r : Nat} (hr : r < g.length) {d : TD} (h : d ∈ ((T2of (dsOf g) g.length (edOf g))[g.length + r]?).getD []) : ∃ f j, d = .eps f ∧ Pl.IsEd g j (.call r f) := by
  rw [t2_at] at h
  split at h
  · simp only [Option.getD_some] at h
    obtain ⟨alts, hg⟩ : ∃ alts, g[r]? = some alts := ⟨_, List.getElem?_eq_getElem hr⟩
    rw [Pl.row_stop hg, List.map_nil, List.nil_append] at h
    obtain ⟨e, h1, rfl⟩ := List.mem_map.1 h
    obtain ⟨h2, h3⟩ := List.mem_filter.1 h1
    obtain ⟨q, f, j', h4, rfl, h5⟩ := dj_mem G h2
    have : q = r := by simpa using h3
    subst this
    exact ⟨f, j', rfl, h5⟩
  · simp at h

/-- the network is that of the grammar -/
theorem net_is {g : Pl.Gr} (G : Pl.GoodG g) : Pl.IsNet g (netG g.length (T2of (dsOf g) g.length (edOf g))) (Pl.place g) := by
  refine Pl.isNet (fun r hr => ?_) (fun j hj => ?_) (fun j hj => ?_)
  · show (if _ then _ else _) = _
    rw [if_pos ⟨by omega, by omega⟩]
    congr 1; omega
  · show (if _ then _ else _) = _
    rw [if_neg hj]
  · show List.map trOf _ = _
    rw [t2_row G hj, List.map_map]
    congr 1
    funext e
    exact trOf_tdOf e
/-- its tokens -/
theorem net_tok {g : Pl.Gr} (G : Pl.GoodG g) {j : Nat} {t : Int} (h : Pl.Tr.tok t ∈ (netG g.length (T2of (dsOf g) g.length (edOf g))).trs j) : Pl.TokOk t := by
  obtain ⟨d, h1, h2⟩ := List.mem_map.1 h
  by_cases hj : g.length ≤ j ∧ j < 2 * g.length
  · have e : g.length + (j - g.length) = j := by omega
    rw [← e] at h1
    obtain ⟨f, j', rfl, _⟩ := t2_stop G (by omega) h1
    simp [trOf] at h2
  · rw [t2_row G hj] at h1
    obtain ⟨e, h3, rfl⟩ := List.mem_map.1 h1
    rw [trOf_tdOf] at h2
    unfold Pl.rowE at h3
    obtain ⟨⟨j', e2⟩, h7, rfl⟩ := List.mem_map.1 h3
    have hE := Pl.allEds_is (List.mem_filter.1 h7).1
    cases e2 with
    | eps to => simp [Pl.Ed.tr] at h2
    | call q f => simp [Pl.Ed.tr] at h2
    | tok to t' => simp [Pl.Ed.tr] at h2; subst h2; exact Pl.isEd_tok G hE
/-- from the end of a rule: to states behind its calls -/
theorem net_wide {g : Pl.Gr} (G : Pl.GoodG g) {s r : Nat} {d : Pl.Tr} (hs : (netG g.length (T2of (dsOf g) g.length (edOf g))).stop s = some r) (h : d ∈ (netG g.length (T2of (dsOf g) g.length (edOf g))).trs s) :
    ∃ f, d = .eps f ∧ ∃ r' a k alts alt, g[r']? = some alts ∧ alts[a]? = some alt ∧ f = Pl.place g r' a + k ∧ k ≤ alt.length := by
  have hs' : (if g.length ≤ s ∧ s < 2 * g.length then some (s - g.length) else none) = some r := hs
  split at hs'
  · rename_i hj
    obtain ⟨d', h1, rfl⟩ := List.mem_map.1 h
    have e : g.length + (s - g.length) = s := by omega
    rw [← e] at h1
    obtain ⟨f, j', rfl, hE⟩ := t2_stop G (by omega) h1
    obtain ⟨r', a, k, alts, alt, h2, h3, _, _, _, h4, h5⟩ := Pl.isEd_call G hE
    exact ⟨f, rfl, r', a, k + 1, alts, alt, h2, h3, h4, h5⟩
  · cases hs'

theorem rows_ok {g : Pl.Gr} (G : Pl.GoodG g) : TOk (dsOf g) (T2of (dsOf g) g.length (edOf g)) := by
  intro j ts d hj hd
  have hgd : ((T2of (dsOf g) g.length (edOf g))[j]?).getD [] = ts := by rw [hj]; rfl
  have hlen : ts.length < 1000 := by
    have h1 : ∀ (j : Nat) ts, (T1of (dsOf g) (edOf g))[j]? = some ts → ts.length ≤ 0 + (edOf g).length := fun j ts h => adds_len _ _ 0 (fun j ts h => by
      rw [List.getElem?_replicate] at h
      split at h
      · cases h; simp
      · cases h) j ts h
    have h2 := adds_len _ _ _ h1 j ts hj
    have h3 := eds_len G
    have h4 : (DJ g.length (T1of (dsOf g) (edOf g)) (dsOf g).length).length ≤ (edOf g).length := by
      unfold DJ
      have h5 : ((T1of (dsOf g) (edOf g)).take (dsOf g).length).flatten.length ≤ (edOf g).length := by
        rw [List.take_of_length_le (by unfold T1of; rw [adds_length]; simp)]
        have : ∀ (E : List (Nat × TD)) (T : List (List TD)), (E.foldl addE T).flatten.length ≤ T.flatten.length + E.length := by
          intro E
          induction E with
          | nil => intro T; simp
          | cons e E ih =>
            intro T
            rw [List.foldl_cons]
            have h6 := ih (addE T e)
            have h7 : (addE T e).flatten.length ≤ T.flatten.length + 1 := by
              unfold addE
              rcases Nat.lt_or_ge e.1 T.length with h | h
              · have h8 := List.take_append_drop e.1 T
                have h9 : T.drop e.1 = T[e.1] :: T.drop (e.1 + 1) := List.drop_eq_getElem_cons h
                rw [List.set_eq_take_append_cons_drop, if_pos h, List.getElem?_eq_getElem h]
                have h10 : T.flatten.length = (T.take e.1 ++ T[e.1] :: T.drop (e.1 + 1)).flatten.length := by rw [← h9, h8]
                rw [h10]
                simp only [List.flatten_append, List.flatten_cons, List.length_append, Option.getD_some, List.length_cons, List.length_nil]
                omega
              · rw [List.set_eq_of_length_le h]; omega
            simp only [List.length_cons]
            omega
        have h11 := this (edOf g) (List.replicate (dsOf g).length [])
        have h12 : (List.replicate (dsOf g).length ([] : List TD)).flatten.length = 0 := by simp
        unfold T1of
        omega
      have h13 := flat_len (der g.length) 1 ((T1of (dsOf g) (edOf g)).take (dsOf g).length).flatten (fun x _ => by cases x <;> simp [der])
      omega
    omega
  refine ⟨?_, hlen⟩
  rcases ds_cases hd with ⟨h1, rfl⟩ | ⟨r, h1, rfl, rfl⟩ | ⟨r, h1, rfl, rfl⟩ | ⟨r, h1, rfl, rfl⟩ | ⟨h0, r, h1, rfl⟩
  · obtain ⟨alts, hg⟩ : ∃ alts, g[j]? = some alts := ⟨_, List.getElem?_eq_getElem h1⟩
    rw [t2_row G (by omega), Pl.row_start hg] at hgd
    subst hgd
    exact ⟨.inl rfl, fun h => by cases h⟩
  · refine ⟨.inl ?_, fun h => by cases h⟩
    rw [List.all_eq_true]
    intro x hx
    obtain ⟨f, j', rfl, _⟩ := t2_stop G h1 (by rw [hgd]; exact hx)
    rfl
  · obtain ⟨alts, hg⟩ : ∃ alts, g[r]? = some alts := ⟨_, List.getElem?_eq_getElem h1⟩
    rw [t2_row G (by omega), Pl.row_block hg] at hgd
    subst hgd
    refine ⟨.inl ?_, fun h => by cases h⟩
    rw [List.all_eq_true]
    intro x hx
    obtain ⟨e, he, rfl⟩ := List.mem_map.1 hx
    obtain ⟨y, _, rfl⟩ := List.mem_map.1 he
    rfl
  · obtain ⟨alts, hg⟩ : ∃ alts, g[r]? = some alts := ⟨_, List.getElem?_eq_getElem h1⟩
    rw [t2_row G (by omega), Pl.row_bend hg] at hgd
    subst hgd
    exact ⟨.inl rfl, fun h => by cases h⟩
  · have hone : ts.length ≤ 1 := by
      rw [t2_row G (by omega)] at hgd
      rw [← hgd, List.length_map]
      by_cases hex : Pl.rowE j (Pl.allEds g) = []
      · rw [hex]; simp
      · obtain ⟨x, hx⟩ := List.exists_mem_of_ne_nil _ hex
        unfold Pl.rowE at hx
        obtain ⟨⟨j', e2⟩, h7, _⟩ := List.mem_map.1 hx
        obtain ⟨h8, h9⟩ := List.mem_filter.1 h7
        have hjj : j' = j := by simpa using h9
        have hE := Pl.allEds_is h8
        simp only at hE
        subst hjj
        cases hE with
        | start h => omega
        | block h => have := (List.getElem?_eq_some_iff.1 h).1; omega
        | bend h => omega
        | sym hr ha hs => rw [Pl.row_sym hr ha hs]; simp
        | last hr ha => rw [Pl.row_last hr ha]; simp
    exact ⟨.inr hone, fun _ => hone⟩

theorem net_ok {g : Pl.Gr} (G : Pl.GoodG g) : NetOk (dsOf g) g.length (edOf g) (decOf g) where
  n := by rw [ds_len]; have := G.states_le; omega
  e := eds_len G
  d := by unfold decOf; have := G.len6; simp; omega
  r0 := by have := G.len2; omega
  rl := by rw [ds_len]; unfold Pl.states; omega
  rules := rules_ok g
  blocks := blocks_ok g
  edges := edges_ok G
  dec j hj := by
    unfold decOf at hj
    obtain ⟨r, hr, rfl⟩ := List.mem_map.1 hj
    exact ⟨_, ds_block g (by simpa using hr), rfl⟩
  rows := rows_ok G
theorem net_fits {g : Pl.Gr} (G : Pl.GoodG g) : Fits32 4 (dsOf g) (edOf g) where
  mt := by omega
  ds d hd := by
    obtain ⟨j, hj⟩ := List.getElem?_of_mem hd
    have := G.len6
    rcases ds_cases hj with ⟨_, rfl⟩ | ⟨r, _, _, rfl⟩ | ⟨r, _, _, rfl⟩ | ⟨r, _, _, rfl⟩ | ⟨_, r, _, rfl⟩ <;> constructor <;> (constructor <;> simp <;> omega)
  E e he x hx := by
    obtain ⟨e', h1, h2⟩ := ed_mem he
    obtain ⟨h3, _, h5⟩ := isEd_ok G (Pl.allEds_is h1)
    have h6 := G.states_le
    have h7 := G.len6
    have hE := Pl.allEds_is h1
    obtain ⟨j, t⟩ := e
    simp only at h2 h3 h5 hE
    subst h2
    cases e' with
    | eps to =>
      have : to < Pl.states g := h5
      simp [encE, tdOf, TD.trg, TD.kn, TD.a1, TD.a2, TD.a3] at hx
      omega
    | call q f =>
      have : q < g.length ∧ q < Pl.states g ∧ f < Pl.states g := h5
      simp [encE, tdOf, TD.trg, TD.kn, TD.a1, TD.a2, TD.a3] at hx
      omega
    | tok to t =>
      have : to < Pl.states g ∧ _ := h5
      have ht := Pl.isEd_tok G hE
      unfold Pl.TokOk at ht
      simp [encE, tdOf, TD.trg, TD.kn, TD.a1, TD.a2, TD.a3] at hx
      by_cases e : t = -1
      · subst e
        simp at hx
        omega
      · simp [e] at hx
        omega
end Go.Proofs.YtemdillhbnmjkaaGreatDoor

/- Deserializing: the network while its edges are laid. · Deserializing: the edges are read. -/
import Derived.Test.YtemdillhbnmjkaaGreatDoorQ09
namespace Go.Proofs.YtemdillhbnmjkaaGreatDoor
open Go.RowKit

theorem getTarget_s (w : World) (t : Nat) (v : Value) (c : w.cell? ⟨t, 0, none⟩ = some v) (hv : ∃ T u, v = .iface T u) : Calls Tryz.prog 77 #[.pointer (some ⟨t, 0, none⟩)] w fun e w' => e = .returned v ∧ w' = w := by
  obtain ⟨T, u, rfl⟩ := hv
  go_enter Tryz.func77, Tryz.ntmps77
  go_wp2
  go_ret
  exact ⟨rfl, rfl⟩
theorem ruleIndex_s (w : World) (b : Nat) (r : Int) (c : w.cell? ⟨b, 3, none⟩ = some (.int .i64 r)) : Calls Tryz.prog 221 #[.pointer (some ⟨b, 0, none⟩)] w fun e w' => e = .returned (.int .i64 r) ∧ w' = w := by
  go_enter Tryz.func221, Tryz.ntmps221
  go_wp2
  go_ret
  exact ⟨rfl, rfl⟩

/-! an edge as it is written -/
def TD.trg : TD → Nat | .eps to => to | .rule _ f _ => f | .atom to _ => to
def TD.kn : TD → Int | .eps _ => 1 | .rule .. => 3 | .atom .. => 5
def TD.a1 : TD → Int | .eps _ => 0 | .rule st _ _ => st | .atom _ tok => if tok = -1 then 0 else tok
def TD.a2 : TD → Int | .eps _ => 0 | .rule _ _ q => q | .atom .. => 0
def TD.a3 : TD → Int | .eps _ => 0 | .rule .. => 0 | .atom _ tok => if tok = -1 then 1 else 0
def encE (e : Nat × TD) : List Int := [(e.1 : Int), (e.2.trg : Int), e.2.kn, e.2.a1, e.2.a2, e.2.a3]
def TD.ok (n R : Nat) : TD → Prop
  | .eps to => to < n
  | .rule st f _ => st < R ∧ st < n ∧ f < n
  | .atom to tok => to < n ∧ -1000 ≤ tok ∧ tok ≤ 1000

/-- an edge is laid -/
def addE (T : List (List TD)) (e : Nat × TD) : List (List TD) := T.set e.1 ((T[e.1]?).getD [] ++ [e.2])
theorem addE_length (T : List (List TD)) (e : Nat × TD) : (addE T e).length = T.length := by simp [addE]
theorem adds_length (E : List (Nat × TD)) : ∀ T : List (List TD), (E.foldl addE T).length = T.length := by
  induction E with
  | nil => intro T; rfl
  | cons e E ih => intro T; rw [List.foldl_cons, ih, addE_length]
theorem addE_at (T : List (List TD)) (e : Nat × TD) (j : Nat) : (addE T e)[j]? = if e.1 = j then (T[j]?).map (· ++ [e.2]) else T[j]? := by
  unfold addE
  rw [List.getElem?_set]
  split
  · rename_i h; subst h
    split
    · rename_i h; simp [h]
    · rename_i h; rw [List.getElem?_eq_none (by omega)]; rfl
  · rfl
theorem adds_at (j : Nat) : ∀ (E : List (Nat × TD)) (T : List (List TD)), (E.foldl addE T)[j]? = (T[j]?).map (· ++ (E.filter (fun e => e.1 == j)).map (·.2))
  | [], T => by rw [List.foldl_nil]; generalize T[j]? = x; cases x <;> simp
  | e :: E, T => by
    rw [List.foldl_cons, adds_at j E, addE_at]
    by_cases h : e.1 = j
    · rw [if_pos h, List.filter_cons_of_pos (by simpa using h)]
      cases T[j]? <;> simp
    · rw [if_neg h, List.filter_cons_of_neg (by simpa using h)]
theorem adds_len (E : List (Nat × TD)) (T : List (List TD)) (B : Nat) (hT : ∀ (j : Nat) ts, T[j]? = some ts → ts.length ≤ B) (j : Nat) (ts : List TD) (h : (E.foldl addE T)[j]? = some ts) : ts.length ≤ B + E.length := by
  rw [adds_at] at h
  cases hj : T[j]? with
  | none => rw [hj] at h; cases h
  | some t0 =>
    rw [hj] at h
    simp at h
    have h1 := hT j t0 hj
    have h2 := List.length_filter_le (fun e : Nat × TD => e.1 == j) E
    rw [← h]; simp; omega

/-- What is known while the edges are laid. -/
structure EN (w0 w : World) (bd g ba : Nat) (o : Value) (A : AF) (ds : List Ds) (bs : List Nat) (R : Nat) (X : List (List Value)) (ss : List St) (T : List (List TD)) (rest : List Int) : Prop where
  mk' ::
  net : Net w ba A ds bs ss T
  extra : ss.map St.extra = X
  own : ∀ (j : Nat) s k, ss[j]? = some s → s.trans.ownBlock = some k → w0.heap.size ≤ k
  nx : ∀ (j : Nat) s, ss[j]? = some s → s.next = .pointer none
  rd : Rd w bd g o rest
  rs : Own w 271 1 A.rs R (pvs bs 0 R R)
  rp : Own w 199 1 A.rp R (pvs bs R R R)
  chg : Chg (fun k => k = bd ∨ k = ba ∨ k ∈ bs) w0 w

theorem EN.rdn {w0 w w' : World} {bd g ba : Nat} {o : Value} {A : AF} {ds : List Ds} {bs : List Nat} {R : Nat} {X : List (List Value)} {ss : List St} {T : List (List TD)} {rest rest' : List Int} (h : EN w0 w bd g ba o A ds bs R X ss T rest)
    (hr : Rd w' bd g o rest') (hc : Chg (fun k => k = bd) w w') : EN w0 w' bd g ba o A ds bs R X ss T rest' := by
  obtain ⟨cd, hd⟩ := h.rd.blk.1
  refine ⟨h.net.chg hc ?_, h.extra, h.own, h.nx, hr, h.rs.rd h.rd hc (by decide), h.rp.rd h.rd hc (by decide), h.chg.then hc (fun _ _ h => .inl h)⟩
  rintro k rfl _
  exact ⟨_, _, hd, by decide, by decide, by decide, by decide, fun q => (SK.str_ne2 q).1⟩
theorem EN.no {w0 w w' : World} {bd g ba : Nat} {o : Value} {A : AF} {ds : List Ds} {bs : List Nat} {R : Nat} {X : List (List Value)} {ss : List St} {T : List (List TD)} {rest : List Int} (h : EN w0 w bd g ba o A ds bs R X ss T rest)
    (hc : Chg No w w') : EN w0 w' bd g ba o A ds bs R X ss T rest :=
  ⟨h.net.chg hc (fun _ h => h.elim), h.extra, h.own, h.nx, h.rd.no hc, h.rs.no hc, h.rp.no hc, h.chg.then hc (fun _ _ h => h.elim)⟩

theorem EN.chgS {S : Nat → Prop} {w0 w w' : World} {bd g ba : Nat} {o : Value} {A : AF} {ds : List Ds} {bs : List Nat} {R : Nat} {X : List (List Value)} {ss : List St} {T : List (List TD)} {rest : List Int} (h : EN w0 w bd g ba o A ds bs R X ss T rest)
    (hc : Chg S w w') (hn : ∀ k, S k → k < w.heap.size → ∃ c T, Blk w k c T ∧ T ∉ trTypes ∧ T ∉ ([118, 109, 179, 225, 21, 271, 199] : List TypeId) ∧ ∀ q : SK, q.str ≠ T) (hs : ∀ k, k < w0.heap.size → S k → k = bd ∨ k = ba ∨ k ∈ bs) :
    EN w0 w' bd g ba o A ds bs R X ss T rest := by
  have hn' : ∀ k, S k → k < w.heap.size → ∃ c T, Blk w k c T ∧ T ∉ trTypes ∧ (∀ q : SK, q.str ≠ T) ∧ T ≠ 118 ∧ T ≠ 109 ∧ T ≠ 179 ∧ T ≠ 225 ∧ T ≠ 21 ∧ T ≠ 271 ∧ T ≠ 199 := by
    intro k h1 h2
    obtain ⟨c, T, a1, a2, a3, a4⟩ := hn k h1 h2
    refine ⟨c, T, a1, a2, a4, ?_⟩
    simpa using a3
  refine ⟨h.net.chg hc ?_, h.extra, h.own, h.nx, h.rd.chgT hc ?_, h.rs.chgT hc ?_, h.rp.chgT hc ?_, h.chg.then hc hs⟩
  · intro k h1 h2; obtain ⟨c, T, a1, a2, a3, a4, a5, a6, a7⟩ := hn' k h1 h2; exact ⟨c, T, a1, a2, a4, a5, a6, a3⟩
  · intro k h1 h2; obtain ⟨c, T, a1, a2, a3, a4, a5, a6, a7, a8, a9⟩ := hn' k h1 h2; exact ⟨c, T, a1, a7, a8⟩
  · intro k h1 h2; obtain ⟨c, T, a1, a2, a3, a4, a5, a6, a7, a8, a9, a10⟩ := hn' k h1 h2; exact ⟨c, T, a1, a9⟩
  · intro k h1 h2; obtain ⟨c, T, a1, a2, a3, a4, a5, a6, a7, a8, a9, a10⟩ := hn' k h1 h2; exact ⟨c, T, a1, a10⟩

/-- a field of the network is written -/
theorem EN.put {w0 w : World} {bd g ba : Nat} {o : Value} {A A' : AF} {ds : List Ds} {bs : List Nat} {R : Nat} {X : List (List Value)} {ss : List St} {T : List (List TD)} {rest : List Int} (h : EN w0 w bd g ba o A ds bs R X ss T rest)
    (i : Nat) (v : Value) (e : A.cells.setIfInBounds i v = A'.cells) (e1 : A'.st = A.st) (e2 : A'.rs = A.rs) (e3 : A'.rp = A.rp) : EN w0 (w.setCell ⟨ba, i, none⟩ v) bd g ba o A' ds bs R X ss T rest := by
  have hc : Chg (fun k => k = ba) w (w.setCell ⟨ba, i, none⟩ v) := by refine Chg.setCell (Chg.refl _ _) ?_ _; intro _; rfl
  have hT : ∀ k, (fun k => k = ba) k → k < w.heap.size → ∃ c T, Blk w k c T ∧ T = 118 := by rintro k rfl _; exact ⟨_, _, h.net.core.atn, rfl⟩
  refine ⟨⟨h.net.core.put i v e e1, h.net.slen, h.net.tlen, h.net.kind, fun j s ts hs ht => (h.net.row j s ts hs ht).chg hc (fun k h1 h2 => ?_) (fun k hk hS => ?_), h.net.sep⟩, h.extra, h.own, h.nx, h.net.core.rdPut h.rd i v, ?_, ?_, h.chg.then hc (fun k _ h => .inr (.inl h))⟩
  · obtain ⟨c, T, h, rfl⟩ := hT k h1 h2; exact ⟨c, _, h, by decide⟩
  · obtain ⟨_, _, x2, _⟩ := (h.net.row j s ts hs ht).ex
    exact x2.ne h.net.core.atn (by decide) (by rw [hk, show k = ba from hS])
  · rw [e2]; exact h.rs.chgT hc (fun k h1 h2 => by obtain ⟨c, T, h, rfl⟩ := hT k h1 h2; exact ⟨c, _, h, by decide⟩)
  · rw [e3]; exact h.rp.chgT hc (fun k h1 h2 => by obtain ⟨c, T, h, rfl⟩ := hT k h1 h2; exact ⟨c, _, h, by decide⟩)

theorem en_add (w0 w : World) (bd g ba : Nat) (o : Value) (A : AF) (ds : List Ds) (bs : List Nat) (R : Nat) (X : List (List Value)) (ss : List St) (T : List (List TD)) (rest : List Int) (h : EN w0 w bd g ba o A ds bs R X ss T rest)
    (j b t : Nat) (s : St) (ts : List TD) (d : TD) (hs : ss[j]? = some s) (hb : bs[j]? = some b) (ht : T[j]? = some ts) (hd : TrAt w ds bs t d) (hn : ts.length < 1000) :
    Calls Tryz.prog 120 #[.pointer (some ⟨b, 0, none⟩), .iface d.tk.ptr (.pointer (some ⟨t, 0, none⟩)), .int .i64 (-1)] w fun e w' => e = .returned (.tuple #[]) ∧
      ∃ s', EN w0 w' bd g ba o A ds bs R X (ss.set j s') (addE T (j, d)) rest := by
  refine (addTrans_net w ba A ds bs ss T j b t s ts d h.net hs hb ht hd hn).mono ?_
  rintro e w' ⟨rfl, s', k1, k2, k3, hnet, hch, hown⟩
  have hblk := h.net.core.sts.at_ j s b hs hb
  obtain ⟨tb, e1, e2, e3⟩ := (h.net.row j s ts hs ht).ex
  have hT : ∀ k, (fun k => k = b ∨ s.trans.ownBlock = some k) k → k < w.heap.size → ∃ c T, Blk w k c T ∧ (T = s.k.str ∨ T = 179) := by
    rintro k (rfl | hk) _
    · exact ⟨_, _, hblk, .inl rfl⟩
    · obtain ⟨c, hc⟩ := Own.own e2 hk
      exact ⟨_, _, hc, .inr rfl⟩
  have q1 : ∀ k : SK, k.str ≠ 271 ∧ k.str ≠ 199 := by intro k; cases k <;> decide
  refine ⟨rfl, s', ?_, ?_, ?_, ?_, ?_, ?_, ?_, ?_⟩
  · have e : addE T (j, d) = T.set j (ts ++ [d]) := by simp [addE, ht]
    rw [e]; exact hnet
  · rw [List.map_set, k2, ← h.extra]
    apply List.ext_getElem?
    intro i
    rw [List.getElem?_set]
    split
    · rename_i hij; subst hij
      rw [List.getElem?_map, hs]
      have := (List.getElem?_eq_some_iff.1 hs).1
      simp [this]
    · rfl
  · intro i s1 k hi hk
    rw [List.getElem?_set] at hi
    split at hi
    · rename_i hij; subst hij
      split at hi
      · cases hi
        rcases hown with h1 | ⟨g', h1, h2⟩
        · exact h.own j s k hs (by rw [h1]; exact hk)
        · rw [h1] at hk; cases hk
          exact Nat.le_trans h.chg.size h2
      · cases hi
    · exact h.own i s1 k hi hk
  · intro i s1 hi
    rw [List.getElem?_set] at hi
    split at hi
    · rename_i hij; subst hij
      split at hi
      · cases hi; rw [k3]; exact h.nx j s hs
      · cases hi
    · exact h.nx i s1 hi
  · exact h.rd.chgT hch (fun k h1 h2 => by obtain ⟨c, T, h, h3⟩ := hT k h1 h2; exact ⟨c, T, h, by rcases h3 with rfl | rfl; exact (SK.str_ne2 _).1; decide, by rcases h3 with rfl | rfl; exact (SK.str_ne2 _).2.1; decide⟩)
  · exact h.rs.chgT hch (fun k h1 h2 => by obtain ⟨c, T, h, h3⟩ := hT k h1 h2; exact ⟨c, T, h, by rcases h3 with rfl | rfl; exact (q1 _).1; decide⟩)
  · exact h.rp.chgT hch (fun k h1 h2 => by obtain ⟨c, T, h, h3⟩ := hT k h1 h2; exact ⟨c, T, h, by rcases h3 with rfl | rfl; exact (q1 _).2; decide⟩)
  · refine h.chg.then hch ?_
    rintro k hk (rfl | hk')
    · exact .inr (.inr (List.mem_of_getElem? hb))
    · exact absurd (h.own j s k hs hk') (by omega)

theorem dv_at {ds : List Ds} {bs : List Nat} {j b : Nat} {d : Ds} (hd : ds[j]? = some d) (hb : bs[j]? = some b) : dv ds bs j = .iface d.k.ptr (.pointer (some ⟨b, 0, none⟩)) := by simp [dv, hd, hb]
theorem EN.dvAt {w0 w : World} {bd g ba : Nat} {o : Value} {A : AF} {ds : List Ds} {bs : List Nat} {R : Nat} {X : List (List Value)} {ss : List St} {T : List (List TD)} {rest : List Int} (h : EN w0 w bd g ba o A ds bs R X ss T rest)
    {j : Nat} (hj : j < ds.length) : ∃ d s b, ds[j]? = some d ∧ ss[j]? = some s ∧ bs[j]? = some b ∧ s.k = d.k ∧ s.rule = d.rule ∧ (stvs ss bs)[j]? = some (.iface d.k.ptr (.pointer (some ⟨b, 0, none⟩))) ∧ dv ds bs j = .iface d.k.ptr (.pointer (some ⟨b, 0, none⟩)) := by
  have h1 : ds[j]? = some ds[j] := List.getElem?_eq_getElem hj
  have h2 : ss[j]? = some (ss[j]'(by rw [h.net.slen]; exact hj)) := List.getElem?_eq_getElem _
  have h3 : bs[j]? = some (bs[j]'(by rw [h.net.blen]; exact hj)) := List.getElem?_eq_getElem _
  obtain ⟨k1, k2⟩ := h.net.kind j _ _ h1 h2
  refine ⟨_, _, _, h1, h2, h3, k1, k2, ?_, dv_at h1 h3⟩
  rw [stvs_at ss bs j _ _ h2 h3, k1]

/-- where the states lie -/
theorem EN.st {w0 w : World} {bd g ba : Nat} {o : Value} {A : AF} {ds : List Ds} {bs : List Nat} {R : Nat} {X : List (List Value)} {ss : List St} {T : List (List TD)} {rest : List Int} (h : EN w0 w bd g ba o A ds bs R X ss T rest)
    (hn : 0 < ds.length) : ∃ gv cap, A.st = .slice (some ⟨gv, 0, none⟩) ds.length cap ∧ w.cell? ⟨ba, 9, none⟩ = some (.slice (some ⟨gv, 0, none⟩) ds.length cap) ∧
      ∀ (j : Nat), j < ds.length → w.cell? ⟨gv, j, none⟩ = some (dv ds bs j) := by
  have hown := h.net.core.own
  rw [h.net.slen] at hown
  obtain ⟨gv, cap, cur, ev, hblk, _⟩ := Own.blk hown hn
  refine ⟨gv, cap, ev, ?_, ?_⟩
  · rw [h.net.core.atn.cell]; simp [AF.cells, ev]
  · intro j hj
    rw [ev] at hown
    obtain ⟨d, s, b, _, _, _, _, _, h1, h2⟩ := h.dvAt hj
    rw [h2]
    exact Own.cellAt hown h1

theorem edge_any (w0 w : World) (bd g ba : Nat) (o : Value) (A : AF) (ds : List Ds) (bs : List Nat) (R : Nat) (X : List (List Value)) (ss : List St) (T : List (List TD)) (rest : List Int) (h : EN w0 w bd g ba o A ds bs R X ss T rest)
    (src : Int) (d : TD) (sets : Value) (hd : d.ok ds.length R) (hn : ds.length < 1000) :
    Calls Tryz.prog 118 #[.pointer (some ⟨bd, 0, none⟩), .pointer (some ⟨ba, 0, none⟩), .int .i64 d.kn, .int .i64 src, .int .i64 d.trg, .int .i64 d.a1, .int .i64 d.a2, .int .i64 d.a3, sets] w fun e w' =>
      ∃ t, e = .returned (.iface d.tk.ptr (.pointer (some ⟨t, 0, none⟩))) ∧ TrAt w' ds bs t d ∧ EN w0 w' bd g ba o A ds bs R X ss T rest := by
  have h0 : 0 < ds.length := by cases d <;> simp only [TD.ok] at hd <;> omega
  obtain ⟨gv, cap, _, ca, cv⟩ := h.st h0
  have hif : ∀ j, ∃ t v, dv ds bs j = .iface t v := fun j => ⟨_, _, rfl⟩
  cases d with
  | eps to =>
    refine (edge_eps w bd ba gv ds.length cap src to 0 0 0 to (dv ds bs to) sets (hif _) hn hd rfl ca (cv to hd)).mono ?_
    rintro e w' ⟨rfl, rfl⟩
    exact ⟨_, rfl, ⟨_, Blk.new _ _ _⟩, h.no ((Chg.refl _ _).alloc _)⟩
  | rule st f q =>
    obtain ⟨_, h1, h2⟩ := hd
    refine (edge_rule w bd ba gv ds.length cap src f st q 0 f st (dv ds bs f) (dv ds bs st) sets (hif _) (hif _) hn h2 rfl h1 rfl ca (cv f h2) (cv st h1)).mono ?_
    rintro e w' ⟨rfl, rfl⟩
    exact ⟨_, rfl, ⟨_, Blk.new _ _ _⟩, h.no ((Chg.refl _ _).alloc _)⟩
  | atom to tok =>
    obtain ⟨h1, h2, h3⟩ := hd
    refine (edge_atom w bd ba gv ds.length cap src to _ _ _ tok to (dv ds bs to) sets (hif _) hn h1 rfl ?_ h2 h3 ca (cv to h1)).mono ?_
    · simp only [TD.a1, TD.a3]; split <;> simp_all
    rintro e w' ⟨rfl, hc, p, g1, c, k1, k2, k3, _⟩
    exact ⟨_, rfl, ⟨p, g1, c, k1, k2, k3⟩, h.no hc⟩
end Go.Proofs.YtemdillhbnmjkaaGreatDoor
namespace Go.Proofs.YtemdillhbnmjkaaGreatDoor
open Go.RowKit

/-- a cell of a block that is kept -/
theorem Chg.keep {S : Nat → Prop} {w w' : World} (h : Chg S w w') {a : Addr} {v : Value} (hc : w.cell? a = some v) (hn : ¬ S a.block) : w'.cell? a = some v := by
  rw [World.cell?_of_block (h.block a.block (World.block_lt_of_cell? w a hc) hn)]; exact hc

theorem getTrans_s (w : World) (b : Nat) (v : Value) (c : w.cell? ⟨b, 6, none⟩ = some v) (hv : ∃ A n c, v = .slice A n c) : Calls Tryz.prog 121 #[.pointer (some ⟨b, 0, none⟩)] w fun e w' => e = .returned v ∧ w' = w := by
  obtain ⟨T, u, c, rfl⟩ := hv
  go_enter Tryz.func121, Tryz.ntmps121
  go_wp2
  go_ret
  exact ⟨rfl, rfl⟩
theorem ta_rule (a : Addr) (w : World) : (Instr.typeAssert (.iface 191 (.pointer (some a))) 179 191 true).run Tryz.prog w = .ok (.tuple #[.pointer (some a), .bool true]) w := by kernel_rfl
theorem ta_norule (k : TK) (hk : k ≠ .rule) (a : Addr) (w : World) : (Instr.typeAssert (.iface k.ptr (.pointer (some a))) 179 191 true).run Tryz.prog w = .ok (.tuple #[.pointer none, .bool false]) w := by
  have h1 : (Instr.typeAssert (.iface TK.eps.ptr (.pointer (some a))) 179 191 true).run Tryz.prog w = .ok (.tuple #[.pointer none, .bool false]) w := by kernel_rfl
  have h2 : (Instr.typeAssert (.iface TK.atom.ptr (.pointer (some a))) 179 191 true).run Tryz.prog w = .ok (.tuple #[.pointer none, .bool false]) w := by kernel_rfl
  cases k
  · exact h1
  · exact h2
  · exact absurd rfl hk
/-- no state of ours is a start or an entry of a loop -/
theorem ta_noplus (k : SK) (a : Addr) (w : World) : (Instr.typeAssert (.iface k.ptr (.pointer (some a))) 109 282 true).run Tryz.prog w = .ok (.tuple #[.pointer none, .bool false]) w := by
  have h1 : (Instr.typeAssert (.iface SK.basic.ptr (.pointer (some a))) 109 282 true).run Tryz.prog w = .ok (.tuple #[.pointer none, .bool false]) w := by kernel_rfl
  have h2 : (Instr.typeAssert (.iface SK.rstart.ptr (.pointer (some a))) 109 282 true).run Tryz.prog w = .ok (.tuple #[.pointer none, .bool false]) w := by kernel_rfl
  have h3 : (Instr.typeAssert (.iface SK.bstart.ptr (.pointer (some a))) 109 282 true).run Tryz.prog w = .ok (.tuple #[.pointer none, .bool false]) w := by kernel_rfl
  have h4 : (Instr.typeAssert (.iface SK.rstop.ptr (.pointer (some a))) 109 282 true).run Tryz.prog w = .ok (.tuple #[.pointer none, .bool false]) w := by kernel_rfl
  have h5 : (Instr.typeAssert (.iface SK.bend.ptr (.pointer (some a))) 109 282 true).run Tryz.prog w = .ok (.tuple #[.pointer none, .bool false]) w := by kernel_rfl
  cases k
  · exact h1
  · exact h2
  · exact h3
  · exact h4
  · exact h5
theorem ta_nostar (k : SK) (a : Addr) (w : World) : (Instr.typeAssert (.iface k.ptr (.pointer (some a))) 109 294 true).run Tryz.prog w = .ok (.tuple #[.pointer none, .bool false]) w := by
  have h1 : (Instr.typeAssert (.iface SK.basic.ptr (.pointer (some a))) 109 294 true).run Tryz.prog w = .ok (.tuple #[.pointer none, .bool false]) w := by kernel_rfl
  have h2 : (Instr.typeAssert (.iface SK.rstart.ptr (.pointer (some a))) 109 294 true).run Tryz.prog w = .ok (.tuple #[.pointer none, .bool false]) w := by kernel_rfl
  have h3 : (Instr.typeAssert (.iface SK.bstart.ptr (.pointer (some a))) 109 294 true).run Tryz.prog w = .ok (.tuple #[.pointer none, .bool false]) w := by kernel_rfl
  have h4 : (Instr.typeAssert (.iface SK.rstop.ptr (.pointer (some a))) 109 294 true).run Tryz.prog w = .ok (.tuple #[.pointer none, .bool false]) w := by kernel_rfl
  have h5 : (Instr.typeAssert (.iface SK.bend.ptr (.pointer (some a))) 109 294 true).run Tryz.prog w = .ok (.tuple #[.pointer none, .bool false]) w := by kernel_rfl
  cases k
  · exact h1
  · exact h2
  · exact h3
  · exact h4
  · exact h5

/-- what a call of a rule adds at the rule's end -/
def der (R : Nat) : TD → List (Nat × TD) | .rule st f _ => [(R + st, .eps f)] | _ => []
def DJ (R : Nat) (T : List (List TD)) (j : Nat) : List (Nat × TD) := (T.take j).flatten.flatMap (der R)
theorem DJ_succ (R : Nat) (T : List (List TD)) (j : Nat) (ts : List TD) (h : T[j]? = some ts) : DJ R T (j + 1) = DJ R T j ++ ts.flatMap (der R) := by
  unfold DJ
  rw [List.take_add_one, h]
  simp
theorem DJ_zero (R : Nat) (T : List (List TD)) : DJ R T 0 = [] := by simp [DJ]
theorem der_eps (R : Nat) (T : List TD) : ∀ e ∈ T.flatMap (der R), ∃ f, e.2 = .eps f := by
  intro e he
  obtain ⟨d, _, hd⟩ := List.mem_flatMap.1 he
  cases d <;> simp [der] at hd
  subst hd; exact ⟨_, rfl⟩
/-- the rows grow by what is derived: elements are old ones, or epsilon edges -/
theorem adds_row {T : List (List TD)} {E : List (Nat × TD)} {j : Nat} {r : List TD} (hE : ∀ e ∈ E, ∃ f, e.2 = .eps f) (h : (E.foldl addE T)[j]? = some r) :
    ∃ t0 x, T[j]? = some t0 ∧ r = t0 ++ x ∧ ∀ d ∈ x, ∃ f, d = .eps f := by
  rw [adds_at] at h
  cases ht : T[j]? with
  | none => rw [ht] at h; cases h
  | some t0 =>
    rw [ht] at h
    simp at h
    refine ⟨t0, _, rfl, h.symm, fun d hd => ?_⟩
    obtain ⟨e, he, rfl⟩ := List.mem_map.1 hd
    exact hE e (List.mem_filter.1 he).1
theorem flat_eps (R : Nat) (x : List TD) (h : ∀ d ∈ x, ∃ f, d = .eps f) : x.flatMap (der R) = [] := by
  rw [List.flatMap_eq_nil_iff]
  intro d hd
  obtain ⟨f, rfl⟩ := h d hd
  rfl
def cntR (l : List TD) : Nat := (l.filter (fun d => match d with | .rule .. => true | _ => false)).length
theorem der_len (R : Nat) (l : List TD) : (l.flatMap (der R)).length ≤ l.length := by
  induction l with
  | nil => simp
  | cons d l ih =>
    rw [List.flatMap_cons, List.length_append, List.length_cons]
    have : (der R d).length ≤ 1 := by cases d <;> simp [der]
    omega

theorem addE_flat (e : Nat × TD) : ∀ T : List (List TD), (addE T e).flatten.length ≤ T.flatten.length + 1 := by
  obtain ⟨i, d⟩ := e
  intro T
  induction T generalizing i with
  | nil => simp [addE]
  | cons t T ih =>
    cases i with
    | zero => simp [addE]; omega
    | succ i =>
      have := ih i
      simp [addE] at this ⊢
      omega
theorem adds_flat : ∀ (E : List (Nat × TD)) (T : List (List TD)), (E.foldl addE T).flatten.length ≤ T.flatten.length + E.length
  | [], T => by simp
  | e :: E, T => by
    rw [List.foldl_cons]
    have h1 := adds_flat E (addE T e)
    have h2 := addE_flat e T
    rw [List.length_cons]; omega
theorem take_flat (T : List (List TD)) (j : Nat) : (T.take j).flatten.length ≤ T.flatten.length := by
  have : T.flatten.length = (T.take j).flatten.length + (T.drop j).flatten.length := by
    rw [← List.length_append, ← List.flatten_append, List.take_append_drop]
  omega
theorem take_der (R : Nat) (r : List TD) (i : Nat) : ((r.take i).flatMap (der R)).length ≤ (r.flatMap (der R)).length := by
  have : r.flatMap (der R) = (r.take i).flatMap (der R) ++ (r.drop i).flatMap (der R) := by rw [← List.flatMap_append, List.take_append_drop]
  rw [this, List.length_append]; omega
theorem getTarget_q (w : World) (t : Nat) (v : Value) (n : Nat) (c : w.cell? ⟨t, 0, none⟩ = some v) (hv : ∃ T u, v = .iface T u) : Calls Tryz.prog 77 #[.pointer (some ⟨t, 0, none⟩)] (w.drewN n) fun e w' => e = .returned v ∧ ∃ m, w' = w.drewN m :=
  (getTarget_s (w.drewN n) t v c hv).mono fun _ _ h => ⟨h.1, n, h.2⟩
theorem ruleIndex_q (w : World) (b : Nat) (r : Int) (n : Nat) (c : w.cell? ⟨b, 3, none⟩ = some (.int .i64 r)) : Calls Tryz.prog 221 #[.pointer (some ⟨b, 0, none⟩)] (w.drewN n) fun e w' => e = .returned (.int .i64 r) ∧ ∃ m, w' = w.drewN m :=
  (ruleIndex_s (w.drewN n) b r c).mono fun _ _ h => ⟨h.1, n, h.2⟩

/-- the edges that a network of rules may have -/
structure EdgesOk (ds : List Ds) (R : Nat) (E : List (Nat × TD)) : Prop where
  all : ∀ e ∈ E, e.1 < ds.length ∧ (∀ d, ds[e.1]? = some d → d.k ≠ .rstop) ∧ e.2.ok ds.length R

/-- the states' own fields, when the starts of J blocks are known at their ends -/
def xs4 (ds : List Ds) (bs : List Nat) (R J : Nat) : List (List Value) := ds.mapIdx fun j d => if d.k = .bend then [if j < J + R then dv ds bs (j - R) else .nilIface] else (d.fin2 bs R).extra
structure BlocksOk (ds : List Ds) (R : Nat) : Prop where
  arg : ∀ (i : Nat) d, ds[i]? = some d → d.k = .bstart → d.arg = ((i + R : Nat) : Int) ∧ ∃ r a, ds[i + R]? = some ⟨.bend, r, a⟩
  bend : ∀ (j : Nat) d, ds[j]? = some d → d.k = .bend → R ≤ j ∧ ∃ r a, ds[j - R]? = some ⟨.bstart, r, a⟩
theorem xs4_at (ds : List Ds) (bs : List Nat) (R J j : Nat) : (xs4 ds bs R J)[j]? = (ds[j]?).map fun d => if d.k = .bend then [if j < J + R then dv ds bs (j - R) else .nilIface] else (d.fin2 bs R).extra := by simp [xs4]
theorem xs4_zero (ds : List Ds) (bs : List Nat) (R : Nat) (h : BlocksOk ds R) : xs4 ds bs R 0 = (ds.map (Ds.fin2 bs R)).map St.extra := by
  apply List.ext_getElem?
  intro j
  rw [xs4_at, List.getElem?_map, List.getElem?_map]
  cases hd : ds[j]? with
  | none => rfl
  | some d =>
    simp only [Option.map_some, Option.some.injEq]
    split
    · rename_i hk
      rw [if_neg (by have := (h.bend j d hd hk).1; omega)]
      simp [Ds.fin2, Ds.fin, Ds.st, SK.zero, hk]
    · rfl
theorem xs4_no (ds : List Ds) (bs : List Nat) (R J : Nat) (h : BlocksOk ds R) (hJ : ∀ d, ds[J]? = some d → d.k ≠ .bstart) : xs4 ds bs R (J + 1) = xs4 ds bs R J := by
  apply List.ext_getElem?
  intro j
  rw [xs4_at, xs4_at]
  cases hd : ds[j]? with
  | none => rfl
  | some d =>
    simp only [Option.map_some, Option.some.injEq]
    split
    · rename_i hk
      obtain ⟨h1, r, a, h2⟩ := h.bend j d hd hk
      have : j - R ≠ J := by rintro rfl; exact hJ _ h2 rfl
      have : (j < J + 1 + R) ↔ (j < J + R) := by omega
      simp [this]
    · rfl
theorem xs4_yes (ds : List Ds) (bs : List Nat) (R J : Nat) (h : BlocksOk ds R) (d : Ds) (hd : ds[J]? = some d) (hk : d.k = .bstart) : xs4 ds bs R (J + 1) = (xs4 ds bs R J).set (J + R) [dv ds bs J] := by
  obtain ⟨_, r, a, h2⟩ := h.arg J d hd hk
  apply List.ext_getElem?
  intro j
  rw [List.getElem?_set, xs4_at, xs4_at]
  by_cases hj : J + R = j
  · subst hj
    have hl : J + R < (xs4 ds bs R J).length := by rw [show (xs4 ds bs R J).length = ds.length by simp [xs4]]; exact (List.getElem?_eq_some_iff.1 h2).1
    rw [if_pos rfl, if_pos hl, h2]
    simp [show J + R < J + 1 + R by omega]
  · rw [if_neg hj]
    have : (j < J + 1 + R) ↔ (j < J + R) := by omega
    simp [this]
/-- a state's own field is written -/
theorem en_set {w0 w : World} {bd g ba : Nat} {o : Value} {A : AF} {ds : List Ds} {bs : List Nat} {R : Nat} {X : List (List Value)} {ss : List St} {T : List (List TD)} {rest : List Int} (h : EN w0 w bd g ba o A ds bs R X ss T rest)
    {j b i : Nat} {s : St} (hs : ss[j]? = some s) (hb : bs[j]? = some b) (v : Value) :
    EN w0 (w.setCell ⟨b, 7 + i, none⟩ v) bd g ba o A ds bs R (X.set j (s.extra.set i v)) (ss.set j { s with extra := s.extra.set i v }) T rest := by
  have hblk := h.net.core.sts.at_ j s b hs hb
  have hch : Chg (fun k => k = b) w (w.setCell ⟨b, 7 + i, none⟩ v) := by refine Chg.setCell (Chg.refl _ _) ?_ _; intro _; rfl
  have hT : ∀ k, (fun k => k = b) k → k < w.heap.size → ∃ c T, Blk w k c T ∧ T = s.k.str := by rintro k rfl _; exact ⟨_, _, hblk, rfl⟩
  have q1 : ∀ k : SK, k.str ≠ 271 ∧ k.str ≠ 199 := by intro k; cases k <;> decide
  refine ⟨⟨⟨?_, ?_, ?_⟩, ?_, ?_, ?_, ?_, ?_⟩, ?_, ?_, ?_, ?_, ?_, ?_, ?_⟩
  · exact h.net.core.atn.chg hch (fun e => h.net.core.atn.ne hblk (Ne.symm (SK.str_ne2 _).2.2.1) e)
  · rw [stvs_set _ _ _ _ (by rw [hs]; rfl), List.length_set]
    exact h.net.core.own.chgT hch (fun k h1 h2 => by obtain ⟨c, T, h, rfl⟩ := hT k h1 h2; exact ⟨c, _, h, (SK.str_ne2 _).2.2.2.1⟩)
  · refine h.net.core.sts.upd hch hb ?_ ?_
    · rintro i' b' hi hne rfl
      exact hne (h.net.core.sts.inj hi hb)
    · have := hblk.set (7 + i) v
      rw [St.set7] at this
      exact this
  · rw [List.length_set]; exact h.net.slen
  · exact h.net.tlen
  · intro i' d' s' hd' hs'
    rw [List.getElem?_set] at hs'
    split at hs'
    · rename_i hij; subst hij
      split at hs'
      · cases hs'; exact h.net.kind j d' s hd' hs
      · cases hs'
    · exact h.net.kind i' d' s' hd' hs'
  · intro i' s' ts hs' ht
    have hrow : ∀ s0, ss[i']? = some s0 → TrRow (w.setCell ⟨b, 7 + i, none⟩ v) ds bs s0 ts := fun s0 hs0 =>
      (h.net.row i' s0 ts hs0 ht).chg hch (fun k h1 h2 => by obtain ⟨c, T, h, rfl⟩ := hT k h1 h2; exact ⟨c, _, h, (SK.str_tr _).1⟩)
        (fun k hk hS => by
          obtain ⟨_, _, x2, _⟩ := (h.net.row i' s0 ts hs0 ht).ex
          exact x2.ne hblk (Ne.symm (SK.str_tr _).2) (by rw [hk, show k = b from hS]))
    rw [List.getElem?_set] at hs'
    split at hs'
    · rename_i hij; subst hij
      split at hs'
      · cases hs'
        obtain ⟨k1, k2⟩ := hrow s hs
        exact ⟨k1, k2⟩
      · cases hs'
    · exact hrow s' hs'
  · have hold : ∀ (i' : Nat) (s' : St), (ss.set j { s with extra := s.extra.set i v })[i']? = some s' → ∃ s0, ss[i']? = some s0 ∧ s0.trans = s'.trans := by
      intro i' s' hs'
      rw [List.getElem?_set] at hs'
      split at hs'
      · rename_i hij; subst hij
        split at hs'
        · cases hs'; exact ⟨s, hs, rfl⟩
        · cases hs'
      · exact ⟨s', hs', rfl⟩
    intro i1 i2 s1 s2 k h1 h2 hne hk
    obtain ⟨s1', k1, k2⟩ := hold i1 s1 h1
    obtain ⟨s2', k3, k4⟩ := hold i2 s2 h2
    rw [← k4]
    exact h.net.sep i1 i2 s1' s2' k k1 k3 hne (by rw [k2]; exact hk)
  · rw [List.map_set, h.extra]
  · intro i' s' k hs' hk
    rw [List.getElem?_set] at hs'
    split at hs'
    · rename_i hij; subst hij
      split at hs'
      · cases hs'; exact h.own j s k hs hk
      · cases hs'
    · exact h.own i' s' k hs' hk
  · intro i' s' hs'
    rw [List.getElem?_set] at hs'
    split at hs'
    · rename_i hij; subst hij
      split at hs'
      · cases hs'; exact h.nx j s hs
      · cases hs'
    · exact h.nx i' s' hs'
  · exact h.rd.chgT hch (fun k h1 h2 => by obtain ⟨c, T, h, rfl⟩ := hT k h1 h2; exact ⟨c, _, h, (SK.str_ne2 _).1, (SK.str_ne2 _).2.1⟩)
  · exact h.rs.chgT hch (fun k h1 h2 => by obtain ⟨c, T, h, rfl⟩ := hT k h1 h2; exact ⟨c, _, h, (q1 _).1⟩)
  · exact h.rp.chgT hch (fun k h1 h2 => by obtain ⟨c, T, h, rfl⟩ := hT k h1 h2; exact ⟨c, _, h, (q1 _).2⟩)
  · refine h.chg.then hch ?_
    rintro k hk rfl
    exact .inr (.inr (List.mem_of_getElem? hb))

/-- a state's own fields -/
theorem EN.ext {w0 w : World} {bd g ba : Nat} {o : Value} {A : AF} {ds : List Ds} {bs : List Nat} {R : Nat} {X : List (List Value)} {ss : List St} {T : List (List TD)} {rest : List Int} (h : EN w0 w bd g ba o A ds bs R X ss T rest)
    {j b i : Nat} {s : St} {x : List Value} {v : Value} (hs : ss[j]? = some s) (hb : bs[j]? = some b) (hx : X[j]? = some x) (hv : x[i]? = some v) : s.extra = x ∧ w.cell? ⟨b, 7 + i, none⟩ = some v ∧ w.frozen? ⟨b, 7 + i, none⟩ = false := by
  have e : s.extra = x := by
    have := h.extra
    rw [← this, List.getElem?_map, hs] at hx
    simpa using hx
  have hblk := h.net.core.sts.at_ j s b hs hb
  exact ⟨e, by rw [hblk.cell, St.c7, e]; exact hv, hblk.fz _⟩

theorem getEnd_s (w : World) (b : Nat) (p : Option Addr) (c : w.cell? ⟨b, 9, none⟩ = some (.pointer p)) : Calls Tryz.prog 241 #[.pointer (some ⟨b, 0, none⟩)] w fun e w' => e = .returned (.pointer p) ∧ w' = w := by
  go_enter Tryz.func241, Tryz.ntmps241
  go_wp2
  go_ret
  exact ⟨rfl, rfl⟩
end Go.Proofs.YtemdillhbnmjkaaGreatDoor

/- Deserializing: one round of the loop that reads the states. · Deserializing: the states are read. · Sets of intervals: how one is made. -/
import Derived.Test.YtemdillhbnmjkaaGreatDoorQ06
import Derived.Stop.Asserts
import Derived.Outline
import Derived.Test.YtemdillhbnmjkaaGreatDoorQ04
import Derived.WalkSpells
import Derived.Lib.LazyBuf
namespace Go.Proofs.YtemdillhbnmjkaaGreatDoor
open Go.RowKit

/-- A state as it is written. -/
structure Ds where
  k : SK
  rule : Int
  arg : Int
def Ds.enc (d : Ds) : List Int := [d.k.num, d.rule] ++ (if d.k = .bstart then [d.arg] else [])
def Ds.st (d : Ds) : St := ⟨d.k, d.rule, .pointer none, false, .slice none 0 0, d.k.zero⟩

/-- What a network's own fields hold. -/
structure AF where
  dec : Value
  gt : Value
  la : Value
  mt : Value
  mm : Value
  ms : Value
  rs : Value
  rp : Value
  rt : Value
  st : Value
def AF.cells (A : AF) : Array Value := #[A.dec, A.gt, A.la, A.mt, A.mm, A.ms, A.rs, A.rp, A.rt, A.st]

/-- The network at ba: its fields, its states. -/
structure Core (w : World) (ba : Nat) (A : AF) (ss : List St) (bs : List Nat) : Prop where
  atn : Blk w ba A.cells 118
  own : Own w 109 1 A.st ss.length (stvs ss bs)
  sts : Sts w ba ss bs

theorem Core.chg {S : Nat → Prop} {w w' : World} {ba : Nat} {A : AF} {ss : List St} {bs : List Nat} (h : Core w ba A ss bs) (hc : Chg S w w')
    (hn : ∀ k, S k → k < w.heap.size → ∃ c T, Blk w k c T ∧ T ≠ 118 ∧ T ≠ 109 ∧ ∀ q : SK, q.str ≠ T) : Core w' ba A ss bs := by
  refine ⟨h.atn.chg hc (fun hS => ?_), h.own.chg hc (fun k hk hS => ?_), h.sts.chgT hc (fun k hk hl => ?_)⟩
  · obtain ⟨c, T, h1, h2, _⟩ := hn _ hS h.atn.lt
    exact h.atn.ne h1 (Ne.symm h2) rfl
  · obtain ⟨c, T, h1, _, h2, _⟩ := hn _ hS (h.own.lt hk)
    exact h.own.ne h1 (Ne.symm h2) hk
  · obtain ⟨c, T, h1, _, _, h2⟩ := hn _ hk hl
    exact ⟨c, T, h1, h2⟩
theorem Rd.blk {w : World} {bd g : Nat} {o : Value} {xs : List Int} (h : Rd w bd g o xs) : (∃ c, Blk w bd c 225) ∧ ∃ c, Blk w g c 21 := by
  obtain ⟨n, c, p, arr, a1, a2, _⟩ := h.ex
  exact ⟨⟨_, a1⟩, ⟨_, a2⟩⟩
theorem Rd.chgT {S : Nat → Prop} {w w' : World} {bd g : Nat} {o : Value} {xs : List Int} (h : Rd w bd g o xs) (hc : Chg S w w')
    (hn : ∀ k, S k → k < w.heap.size → ∃ c T, Blk w k c T ∧ T ≠ 225 ∧ T ≠ 21) : Rd w' bd g o xs := by
  obtain ⟨⟨c1, b1⟩, ⟨c2, b2⟩⟩ := h.blk
  refine h.chg hc (fun hS => ?_) (fun hS => ?_)
  · obtain ⟨c, T, h1, h2, _⟩ := hn _ hS b1.lt
    exact b1.ne h1 (Ne.symm h2) rfl
  · obtain ⟨c, T, h1, _, h2⟩ := hn _ hS b2.lt
    exact b2.ne h1 (Ne.symm h2) rfl
theorem SK.str_ne2 (k : SK) : k.str ≠ 225 ∧ k.str ≠ 21 ∧ k.str ≠ 118 ∧ k.str ≠ 109 ∧ k.str ≠ 259 := by cases k <;> decide

theorem stateFactory_st (w : World) (bd : Nat) (d : Ds) :
    Calls Tryz.prog 117 #[.pointer (some ⟨bd, 0, none⟩), .int .i64 d.k.num, .int .i64 d.rule] w fun e w' => e = .returned (.iface d.k.ptr (.pointer (some ⟨w.heap.size, 0, none⟩))) ∧
      (Blk w' w.heap.size (#[.pointer none, .pointer none, .bool false, .int .i64 d.rule, .int .i64 (-1), .int .i64 d.k.num, .slice none 0 0] ++ d.k.zero.toArray) d.k.str ∧ Chg No w w' ∧ w'.heap.size = w.heap.size + 1) := by
  refine (stateFactory_any w bd d.k d.rule).mono ?_
  rintro e w' ⟨rfl, rfl⟩
  exact ⟨rfl, Blk.new _ _ _, (Chg.refl _ _).alloc _, by simp⟩

theorem addState_core (w : World) (ba b : Nat) (A : AF) (ss : List St) (bs : List Nat) (d : Ds) (h : Core w ba A ss bs)
    (hs : Blk w b (#[.pointer none, .pointer none, .bool false, .int .i64 d.rule, .int .i64 (-1), .int .i64 d.k.num, .slice none 0 0] ++ d.k.zero.toArray) d.k.str)
    (hb : ∀ b' ∈ bs, b' ≠ b) (hn : ss.length < 1000) :
    Calls Tryz.prog 116 #[.pointer (some ⟨ba, 0, none⟩), .iface d.k.ptr (.pointer (some ⟨b, 0, none⟩))] w fun e w' => e = .returned (.tuple #[]) ∧
      ∃ v', Core w' ba { A with st := v' } (ss ++ [d.st]) (bs ++ [b]) ∧ Chg (fun j => j = ba ∨ j = b ∨ A.st.ownBlock = some j) w w' ∧ (A.st.ownBlock = v'.ownBlock ∨ ∃ g, v'.ownBlock = some g ∧ w.heap.size ≤ g) := by
  refine (addState_any w ba b d.k A.dec A.gt A.la A.mt A.mm A.ms A.rs A.rp A.rt A.st _ ss.length (stvs ss bs) h.atn hs (by simp) h.own hn).mono ?_
  rintro e w' ⟨rfl, g, c', h1, h2, h3, h4, h5⟩
  refine ⟨rfl, .slice (some ⟨g, 0, none⟩) (ss.length + 1) c', ⟨h1, ?_, ?_⟩, h4, ?_⟩
  · rw [stvs_push _ _ _ _ h.sts.len, List.length_append, List.length_singleton]
    exact h3
  · refine (h.sts.chg h4 (fun b' hb' hS => ?_)).push ?_
    · rcases hS with rfl | rfl | hS
      · obtain ⟨j, hj, hjb⟩ := List.getElem_of_mem hb'
        have hl := h.sts.len
        exact ((h.sts.at_ j _ b' (List.getElem?_eq_getElem (by omega)) (by rw [List.getElem?_eq_getElem hj, hjb])).ne h.atn (SK.str_ne2 _).2.2.1) rfl
      · exact hb _ hb' rfl
      · obtain ⟨j, hj, hjb⟩ := List.getElem_of_mem hb'
        have hl := h.sts.len
        exact h.own.ne (h.sts.at_ j _ b' (List.getElem?_eq_getElem (by omega)) (by rw [List.getElem?_eq_getElem hj, hjb])) (Ne.symm (SK.str_ne2 _).2.2.2.1) hS
    · have e : ((#[.pointer none, .pointer none, .bool false, .int .i64 d.rule, .int .i64 (-1), .int .i64 d.k.num, .slice none 0 0] ++ d.k.zero.toArray : Array Value).setIfInBounds 1 (.pointer (some ⟨ba, 0, none⟩))).setIfInBounds 4 (.int .i64 (ss.length : Int)) = d.st.cells ba ss.length := by
        simp [St.cells, Ds.st]
      rw [e] at h2
      exact h2
  · rcases h5 with h5 | h5
    · exact .inl h5
    · exact .inr ⟨g, rfl, h5⟩

theorem Core.rd {w w' : World} {bd g ba : Nat} {o : Value} {xs : List Int} {A : AF} {ss : List St} {bs : List Nat} (h : Core w ba A ss bs) (hr : Rd w bd g o xs) (hc : Chg (fun k => k = bd) w w') : Core w' ba A ss bs :=
  h.chg hc (by rintro k rfl _; exact ⟨_, _, hr.blk.1.choose_spec, by decide, by decide, fun q => (SK.str_ne2 q).1⟩)
theorem Core.no {w w' : World} {ba : Nat} {A : AF} {ss : List St} {bs : List Nat} (h : Core w ba A ss bs) (hc : Chg No w w') : Core w' ba A ss bs := h.chg hc (fun _ h => h.elim)
theorem Own.rd {w w' : World} {bd g : Nat} {o : Value} {ys : List Int} {e : TypeId} {size n : Nat} {v : Value} {xs : List Value} (h : Own w e size v n xs) (hr : Rd w bd g o ys) (hc : Chg (fun k => k = bd) w w') (he : e ≠ 225) : Own w' e size v n xs :=
  h.chgT hc (by rintro k rfl _; exact ⟨_, _, hr.blk.1.choose_spec, Ne.symm he⟩)
theorem Rd.no {w w' : World} {bd g : Nat} {o : Value} {xs : List Int} (h : Rd w bd g o xs) (hc : Chg No w w') : Rd w' bd g o xs := h.chg hc (fun h => h) (fun h => h)

/-! what the type tests say -/
theorem ta_block (a : Addr) (w : World) : (Instr.typeAssert (.iface SK.bstart.ptr (.pointer (some a))) 109 256 true).run Tryz.prog w = .ok (.tuple #[.iface SK.bstart.ptr (.pointer (some a)), .bool true]) w :=
  run_typeAssert_hasB Tryz.underlying256 (by kernel_rfl) _ _ _
theorem ta_noblock (k : SK) (hk : k ≠ .bstart) (a : Addr) (w : World) : (Instr.typeAssert (.iface k.ptr (.pointer (some a))) 109 256 true).run Tryz.prog w = .ok (.tuple #[.nilIface, .bool false]) w := by
  cases k
  · exact run_typeAssert_lacksB Tryz.underlying256 (show (Tryz.prog.info? SK.basic.ptr).map (fun i => (lacking _ i.methods).isEmpty) = some false by kernel_rfl) (by kernel_rfl) _ _ _
  · exact run_typeAssert_lacksB Tryz.underlying256 (show (Tryz.prog.info? SK.rstart.ptr).map (fun i => (lacking _ i.methods).isEmpty) = some false by kernel_rfl) (by kernel_rfl) _ _ _
  · exact absurd rfl hk
  · exact run_typeAssert_lacksB Tryz.underlying256 (show (Tryz.prog.info? SK.rstop.ptr).map (fun i => (lacking _ i.methods).isEmpty) = some false by kernel_rfl) (by kernel_rfl) _ _ _
  · exact run_typeAssert_lacksB Tryz.underlying256 (show (Tryz.prog.info? SK.bend.ptr).map (fun i => (lacking _ i.methods).isEmpty) = some false by kernel_rfl) (by kernel_rfl) _ _ _
theorem et249 : ET 249 259 (.agg #[.nilIface, .int .i64 0]) 2 24 := ⟨by kernel_rfl, by kernel_rfl, rfl, by decide⟩
end Go.Proofs.YtemdillhbnmjkaaGreatDoor
namespace Go.Proofs.YtemdillhbnmjkaaGreatDoor
open Go.RowKit

theorem et248 : ET 248 254 (.agg #[.pointer none, .int .i64 0]) 2 16 := ⟨by kernel_rfl, by kernel_rfl, rfl, by decide⟩

def isB (ds : List Ds) (j : Nat) : Bool := (ds[j]?).any fun d => d.k == .bstart
/-- which of the first i states are starts of blocks -/
def bidx (ds : List Ds) (i : Nat) : List Nat := (List.range i).filter (isB ds)
def argAt (ds : List Ds) (j : Nat) : Int := ((ds[j]?).map (·.arg)).getD 0
def pairCells (ds : List Ds) (bs : List Nat) (j : Nat) : List Value := [.iface SK.bstart.ptr (.pointer (some ⟨(bs[j]?).getD 0, 0, none⟩)), .int .i64 (argAt ds j)]

theorem bidx_le (ds : List Ds) (i : Nat) : (bidx ds i).length ≤ i := by
  unfold bidx; have := List.length_filter_le (isB ds) (List.range i); simpa using this
theorem bidx_lt (ds : List Ds) (i j : Nat) (h : j ∈ bidx ds i) : j < i := by
  unfold bidx at h; simp at h; exact h.1
theorem bidx_yes (ds : List Ds) (i : Nat) (d : Ds) (h : ds[i]? = some d) (hk : d.k = .bstart) : bidx ds (i + 1) = bidx ds i ++ [i] := by
  simp [bidx, List.range_succ, List.filter_append, isB, h, hk]
theorem bidx_no (ds : List Ds) (i : Nat) (d : Ds) (h : ds[i]? = some d) (hk : d.k ≠ .bstart) : bidx ds (i + 1) = bidx ds i := by
  simp [bidx, List.range_succ, List.filter_append, isB, h, hk]
theorem pairs_push (ds : List Ds) (bs : List Nat) (b i : Nat) (hl : bs.length = i) : (bidx ds i).flatMap (pairCells ds (bs ++ [b])) = (bidx ds i).flatMap (pairCells ds bs) := by
  rw [List.flatMap_def, List.flatMap_def]
  congr 1
  refine List.map_congr_left fun j hj => ?_
  have := bidx_lt ds i j hj
  unfold pairCells
  rw [List.getElem?_append_left (by omega)]

theorem pairs_yes (ds : List Ds) (bs : List Nat) (b k : Nat) (d : Ds) (hd : ds[k]? = some d) (hk : d.k = .bstart) (hl : bs.length = k) :
    (bidx ds (k + 1)).flatMap (pairCells ds (bs ++ [b])) = (bidx ds k).flatMap (pairCells ds bs) ++ [.iface SK.bstart.ptr (.pointer (some ⟨b, 0, none⟩)), .int .i64 d.arg] := by
  rw [bidx_yes ds k d hd hk, List.flatMap_append, pairs_push ds bs b k hl]
  congr 1
  subst hl
  simp [pairCells, argAt, hd]

/-- what is known ahead of round i -/
structure RS1 (w0 w : World) (bd g ba : Nat) (o : Value) (A : AF) (ds : List Ds) (rest : List Int) (i : Nat) (v6 : Value) : Prop where
  mk' ::
  ex : ∃ v bs, Core w ba { A with st := v } ((ds.take i).map Ds.st) bs ∧ Rd w bd g o ((ds.drop i).flatMap Ds.enc ++ rest) ∧ Own w 259 2 v6 (bidx ds i).length ((bidx ds i).flatMap (pairCells ds bs)) ∧
    Chg (fun k => k = bd ∨ k = ba) w0 w ∧ (∀ k, v.ownBlock = some k → w0.heap.size ≤ k) ∧ (∀ k, v6.ownBlock = some k → w0.heap.size ≤ k) ∧ (∀ b ∈ bs, w0.heap.size ≤ b)

/-- a state whose block's end is known -/
def Ds.fin (bs : List Nat) (d : Ds) : St :=
  if d.k = .bstart then { d.st with extra := [.int .i64 0, .bool false, .pointer (some ⟨(bs[d.arg.toNat]?).getD 0, 0, none⟩)] } else d.st
def ssAt (ds : List Ds) (bs : List Nat) (J : List Nat) : List St := ds.mapIdx fun j d => if j ∈ J then d.fin bs else d.st
theorem Ds.fin_k (bs : List Nat) (d : Ds) : (d.fin bs).k = d.k := by unfold Ds.fin; split <;> rfl
theorem ssAt_nil (ds : List Ds) (bs : List Nat) : ssAt ds bs [] = ds.map Ds.st := by
  apply List.ext_getElem? ; intro j; simp [ssAt]
theorem ssAt_at (ds : List Ds) (bs : List Nat) (J : List Nat) (j : Nat) : (ssAt ds bs J)[j]? = (ds[j]?).map (fun d => if j ∈ J then d.fin bs else d.st) := by simp [ssAt]
theorem ssAt_length (ds : List Ds) (bs : List Nat) (J : List Nat) : (ssAt ds bs J).length = ds.length := by simp [ssAt]
theorem ssAt_push (ds : List Ds) (bs : List Nat) (J : List Nat) (j : Nat) (d : Ds) (h : ds[j]? = some d) : ssAt ds bs (J ++ [j]) = (ssAt ds bs J).set j (d.fin bs) := by
  apply List.ext_getElem?
  intro i
  rw [List.getElem?_set, ssAt_at, ssAt_at, ssAt_length]
  by_cases hij : j = i
  · subst hij
    have hlt : j < ds.length := (List.getElem?_eq_some_iff.1 h).1
    rw [h]
    simp [hlt]
  · have : ¬ i = j := fun e => hij e.symm
    simp [hij, this]
theorem ssAt_all (ds : List Ds) (bs : List Nat) : ssAt ds bs (bidx ds ds.length) = ds.map (Ds.fin bs) := by
  apply List.ext_getElem?
  intro i
  rw [ssAt_at, List.getElem?_map]
  cases hd : ds[i]? with
  | none => rfl
  | some d =>
    have hlt : i < ds.length := (List.getElem?_eq_some_iff.1 hd).1
    by_cases hk : d.k = .bstart
    · have : i ∈ bidx ds ds.length := by
        unfold bidx
        rw [List.mem_filter]
        exact ⟨by simpa using hlt, by unfold isB; rw [hd]; simp [hk]⟩
      simp [this]
    · have : i ∉ bidx ds ds.length := by simp [bidx, isB, hd, hk]
      simp [this, Ds.fin, hk]

theorem ta_bend (a : Addr) (w : World) : (Instr.typeAssert (.iface SK.bend.ptr (.pointer (some a))) 109 265 false).run Tryz.prog w = .ok (.pointer (some a)) w := by kernel_rfl

theorem setEnd_any (w : World) (b : Nat) (x v : Value) (c : w.cell? ⟨b, 9, none⟩ = some x) (f : w.frozen? ⟨b, 9, none⟩ = false) (hv : ∃ p, v = .pointer p) :
    Calls Tryz.prog 242 #[.pointer (some ⟨b, 0, none⟩), v] w fun e w' => e = .returned (.tuple #[]) ∧ w.setCell ⟨b, 9, none⟩ v = w' := by
  obtain ⟨p, rfl⟩ := hv
  go_enter Tryz.func242, Tryz.ntmps242
  go_wp2
  go_end0
  exact ⟨rfl, rfl⟩

/-- what is known while the ends of blocks are laid -/
structure RS3 (w0 w : World) (bd g ba : Nat) (o : Value) (A : AF) (ds : List Ds) (rest : List Int) (v v6 : Value) (bs : List Nat) (m : Nat) : Prop where
  mk' ::
  core : Core w ba { A with st := v } (ssAt ds bs ((bidx ds ds.length).take m)) bs
  rd : Rd w bd g o rest
  pairs : Own w 259 2 v6 (bidx ds ds.length).length ((bidx ds ds.length).flatMap (pairCells ds bs))
  chg : Chg (fun k => k = bd ∨ k = ba) w0 w

theorem Ds.set_end (bs : List Nat) (d : Ds) (ba j a b' : Nat) (c : Prop) [Decidable c] (hk : d.k = .bstart) (ha : d.arg = (a : Int)) (hb : bs[a]? = some b') :
    ((if c then d.fin bs else d.st : St).cells ba j).setIfInBounds 9 (.pointer (some ⟨b', 0, none⟩)) = (d.fin bs).cells ba j := by
  have e := St.set7 (if c then d.fin bs else d.st) ba j 2 (.pointer (some ⟨b', 0, none⟩))
  refine e.trans ?_
  congr 1
  split
  · simp [Ds.fin, hk, ha, hb]
  · simp [Ds.fin, Ds.st, SK.zero, hk, ha, hb]
theorem Ds.has_end (bs : List Nat) (d : Ds) (ba j : Nat) (c : Prop) [Decidable c] (hk : d.k = .bstart) : ∃ x, ((if c then d.fin bs else d.st : St).cells ba j)[9]? = some x := by
  have e := St.c7 (if c then d.fin bs else d.st) ba j 2
  by_cases hc : c
  · rw [if_pos hc] at e ⊢
    simp only [Ds.fin, hk, if_true] at e ⊢
    exact ⟨_, e⟩
  · rw [if_neg hc] at e ⊢
    simp only [Ds.st, hk, SK.zero] at e ⊢
    exact ⟨_, e⟩

theorem rs3_next {w0 wr : World} {bd g ba : Nat} {o : Value} {A : AF} {ds : List Ds} {rest : List Int} {v v6 : Value} {bs : List Nat} {m j a b b' : Nat} {d : Ds} (h : RS3 w0 wr bd g ba o A ds rest v v6 bs m)
    (hj : (bidx ds ds.length)[m]? = some j) (hd : ds[j]? = some d) (hk : d.k = .bstart) (ha : d.arg = (a : Int)) (hb : bs[j]? = some b) (hb' : bs[a]? = some b') (hw : w0.heap.size ≤ b) (ob : Obj) :
    RS3 w0 (((wr.alloc ob).drew).setCell ⟨b, 9, none⟩ (.pointer (some ⟨b', 0, none⟩))) bd g ba o A ds rest v v6 bs (m + 1) := by
  obtain ⟨hcore, hrd, h6, hch⟩ := h
  have hsb := hcore.sts.at_ j (if j ∈ (bidx ds ds.length).take m then d.fin bs else d.st) b (by rw [ssAt_at, hd]; rfl) hb
  have hc : Chg (fun k => k = b) wr (((wr.alloc ob).drew).setCell ⟨b, 9, none⟩ (.pointer (some ⟨b', 0, none⟩))) := by
    refine Chg.setCell (((Chg.refl _ _).alloc ob).drew) ?_ _
    intro _; rfl
  have hT : ∀ k, (fun k => k = b) k → k < wr.heap.size → ∃ c T, Blk wr k c T ∧ T ≠ 225 ∧ T ≠ 21 ∧ T ≠ 118 ∧ T ≠ 109 ∧ T ≠ 259 := by
    rintro k rfl _
    exact ⟨_, _, hsb, SK.str_ne2 _⟩
  have hkk : (if j ∈ (bidx ds ds.length).take m then d.fin bs else d.st : St).k = d.k := by
    split
    · exact Ds.fin_k _ _
    · rfl
  have et : (bidx ds ds.length).take (m + 1) = (bidx ds ds.length).take m ++ [j] := by rw [List.take_add_one, hj]; rfl
  refine ⟨⟨?_, ?_, ?_⟩, ?_, ?_, ?_⟩
  · exact hcore.atn.chg hc (fun hS => hcore.atn.ne hsb (Ne.symm (SK.str_ne2 _).2.2.1) hS)
  · rw [et, ssAt_push ds bs _ j d hd, stvs_set _ _ _ _ (by rw [ssAt_at, hd, Ds.fin_k]; simp [hkk]), List.length_set]
    exact hcore.own.chgT hc (fun k h1 h2 => by obtain ⟨c, T, h, _, _, _, h3, _⟩ := hT k h1 h2; exact ⟨c, T, h, h3⟩)
  · rw [et, ssAt_push ds bs _ j d hd]
    refine hcore.sts.upd hc hb (fun i b2 hi hne hS => ?_) ?_
    · subst hS; exact hne (hcore.sts.inj hi hb)
    · have := ((hsb.alloc ob).drew).set 9 (.pointer (some ⟨b', 0, none⟩))
      rw [Ds.set_end bs d ba j a b' _ hk ha hb', hkk] at this
      rw [Ds.fin_k]
      exact this
  · exact hrd.chgT hc (fun k h1 h2 => by obtain ⟨c, T, h, h3, h4, _⟩ := hT k h1 h2; exact ⟨c, T, h, h3, h4⟩)
  · exact h6.chgT hc (fun k h1 h2 => by obtain ⟨c, T, h, _, _, _, _, h3⟩ := hT k h1 h2; exact ⟨c, T, h, h3⟩)
  · exact hch.then hc (fun k hk hS => by omega)

theorem num_facts (k : SK) : (k.num == 0) = false ∧ (k.num == 12) = false ∧ -2147483648 ≤ k.num ∧ k.num ≤ 2147483647 := by cases k <;> decide

theorem AF.cells_set9 (A : AF) (v : Value) : A.cells.setIfInBounds 9 v = { A with st := v : AF }.cells := by simp [AF.cells]

theorem RS1.start {w0 w : World} {bd g ba : Nat} {o : Value} {A : AF} {ds : List Ds} {rest : List Int} {v v6 : Value} (hA : Blk w ba A.cells 118) (hv : Own w 109 1 v 0 []) (h6 : Own w 259 2 v6 0 [])
    (hrd : Rd w bd g o (ds.flatMap Ds.enc ++ rest)) (hc : Chg (fun k => k = bd ∨ k = ba) w0 w) (b1 : ∀ k, v.ownBlock = some k → w0.heap.size ≤ k) (b2 : ∀ k, v6.ownBlock = some k → w0.heap.size ≤ k) :
    RS1 w0 (w.setCell ⟨ba, 9, none⟩ v) bd g ba o A ds rest 0 v6 := by
  have hx : Chg (fun k => k = ba) w (w.setCell ⟨ba, 9, none⟩ v) := by refine Chg.setCell (Chg.refl _ _) ?_ _; intro _; rfl
  have hT : ∀ k, (fun k => k = ba) k → k < w.heap.size → ∃ c T, Blk w k c T ∧ T ≠ 225 ∧ T ≠ 21 := by rintro k rfl _; exact ⟨_, _, hA, by decide, by decide⟩
  refine ⟨v, [], ⟨?_, ?_, ⟨rfl, by intro j s b hs; simp at hs⟩⟩, ?_, ?_, ?_, b1, b2, by simp⟩
  · rw [← AF.cells_set9]; exact hA.set 9 v
  · exact hv.chg hx (fun k hk hS => hv.ne hA (by decide) (by rw [hk, hS]))
  · exact hrd.chgT hx hT
  · exact h6.chg hx (fun k hk hS => h6.ne hA (by decide) (by rw [hk, hS]))
  · exact hc.setCell (fun _ => .inr rfl) _

theorem rs1_next {w0 w3 w4 : World} {bd g ba b k : Nat} {o : Value} {A : AF} {ds : List Ds} {d : Ds} {rest : List Int} {v v' v6 : Value} {bs : List Nat} (hd : ds[k]? = some d)
    (hcore3 : Core w3 ba { A with st := v } ((ds.take k).map Ds.st) bs) {cs : Array Value} (hst : Blk w3 b cs d.k.str) (hrd3 : Rd w3 bd g o ((ds.drop (k + 1)).flatMap Ds.enc ++ rest))
    (h63 : Own w3 259 2 v6 (bidx ds (k + 1)).length ((bidx ds (k + 1)).flatMap (pairCells ds (bs ++ [b])))) (hch3 : Chg (fun k => k = bd ∨ k = ba) w0 w3)
    (b1 : ∀ k, v.ownBlock = some k → w0.heap.size ≤ k) (b2 : ∀ k, v6.ownBlock = some k → w0.heap.size ≤ k) (b3 : ∀ b ∈ bs, w0.heap.size ≤ b) (hb : w0.heap.size ≤ b)
    (hcore4 : Core w4 ba { A with st := v' } ((ds.take k).map Ds.st ++ [d.st]) (bs ++ [b])) (hc4 : Chg (fun j => j = ba ∨ j = b ∨ v.ownBlock = some j) w3 w4)
    (hl4 : v.ownBlock = v'.ownBlock ∨ ∃ g, v'.ownBlock = some g ∧ w3.heap.size ≤ g) : RS1 w0 w4 bd g ba o A ds rest (k + 1) v6 := by
  have hT : ∀ j, (fun j => j = ba ∨ j = b ∨ v.ownBlock = some j) j → j < w3.heap.size → ∃ c T, Blk w3 j c T ∧ T ≠ 225 ∧ T ≠ 21 ∧ T ≠ 259 := by
    rintro j (rfl | rfl | hj) _
    · exact ⟨_, _, hcore3.atn, by decide, by decide, by decide⟩
    · exact ⟨_, _, hst, (SK.str_ne2 _).1, (SK.str_ne2 _).2.1, (SK.str_ne2 _).2.2.2.2⟩
    · obtain ⟨c, hc⟩ := Own.own hcore3.own hj
      exact ⟨_, _, hc, by decide, by decide, by decide⟩
  refine ⟨v', bs ++ [b], ?_, ?_, ?_, ?_, ?_, b2, ?_⟩
  · have e : (ds.take (k + 1)).map Ds.st = (ds.take k).map Ds.st ++ [d.st] := by rw [List.take_add_one, hd]; simp
    rw [e]; exact hcore4
  · exact hrd3.chgT hc4 (fun j h1 h2 => by obtain ⟨c, T, h, h3, h4, _⟩ := hT j h1 h2; exact ⟨c, T, h, h3, h4⟩)
  · exact h63.chgT hc4 (fun j h1 h2 => by obtain ⟨c, T, h, _, _, h4⟩ := hT j h1 h2; exact ⟨c, T, h, h4⟩)
  · refine hch3.then hc4 ?_
    rintro j hj (rfl | rfl | h)
    · exact .inr rfl
    · omega
    · have := b1 j h; omega
  · intro j hj
    rcases hl4 with h | ⟨g', h, h'⟩
    · exact b1 j (by rw [h, hj])
    · rw [h] at hj; cases hj
      exact Nat.le_trans hch3.size h'
  · intro b' hb'
    rcases List.mem_append.1 hb' with h | h
    · exact b3 b' h
    · simp at h; subst h; exact hb

/-- what is known behind 'readStates' -/
structure RSEnd (w0 w : World) (bd g ba : Nat) (o : Value) (A : AF) (ds : List Ds) (rest : List Int) : Prop where
  mk' ::
  ex : ∃ v bs, Core w ba { A with st := v } (ds.map (Ds.fin bs)) bs ∧ Rd w bd g o rest ∧ Chg (fun k => k = bd ∨ k = ba) w0 w ∧ (∀ k, v.ownBlock = some k → w0.heap.size ≤ k) ∧ (∀ b ∈ bs, w0.heap.size ≤ b)

set_option maxHeartbeats 1000000 in
set_option maxRecDepth 100000 in
theorem readStates_any (w : World) (bd g ba : Nat) (o : Value) (A : AF) (ds : List Ds) (rest : List Int) (hrd : Rd w bd g o ((ds.length : Int) :: (ds.flatMap Ds.enc ++ 0 :: 0 :: rest))) (hA : Blk w ba A.cells 118)
    (hn : ds.length < 1000) (hend : ∀ d ∈ ds, d.k = .bstart → ∃ a d', d.arg = ((a : Nat) : Int) ∧ ds[a]? = some d' ∧ d'.k = .bend) :
    Calls Tryz.prog 84 #[.pointer (some ⟨bd, 0, none⟩), .pointer (some ⟨ba, 0, none⟩)] w fun e w' => e = .returned (.tuple #[]) ∧ RSEnd w w' bd g ba o A ds rest := by
  obtain ⟨i8, hi8, hz8, hs8, hb8⟩ := info_parts et248.info
  obtain ⟨i9, hi9, hz9, hs9, hb9⟩ := info_parts et249.info
  obtain ⟨i6, hi6, hz6, hs6, hb6⟩ := info_parts et116.info
  go_enter Tryz.func84, Tryz.ntmps84
  go_wp2_with (first | (go_at_call 113; refine (readInt_any _ _ _ _ _ _ hrd).mono ?_; rintro e w1 ⟨rfl, hrd1, hc1⟩) | (at_make; refine wpList_make_own _ rfl _ _ 248 rfl 0 254 i8 _ 2 et248.under hi8 hz8 hs8 _ _ _ ds.length rfl rfl rfl (by rw [hb8]; omega) (by unfold maxLen; omega) (Nat.zero_le _) ?_))
  intro w2 ho8 hg8
  go_wp2_with (first | (at_make; refine wpList_make_own _ rfl _ _ 249 rfl 0 259 i9 _ 2 et249.under hi9 hz9 hs9 _ _ _ ds.length rfl rfl rfl (by rw [hb9]; omega) (by unfold maxLen; omega) (Nat.zero_le _) ?_))
  intro w3 ho9 hg9
  go_wp2_with (first | (at_make; refine wpList_make_own _ rfl _ _ 116 rfl 0 109 i6 _ 1 et116.under hi6 hz6 hs6 _ _ _ ds.length rfl rfl rfl (by rw [hb6]; omega) (by unfold maxLen; omega) (Nat.zero_le _) ?_))
  intro w4 ho6 hg6
  have hA1 : Blk w4 ba A.cells 118 := (((hA.chg hc1 (hA.ne hrd.blk.1.choose_spec (by decide))).chg (Chg.grownBy hg8) (by simp)).chg (Chg.grownBy hg9) (by simp)).chg (Chg.grownBy hg6) (by simp)
  have ca : w4.cell? ⟨ba, 9, none⟩ = some A.st := by rw [hA1.cell]; rfl
  have fa := hA1.fz 9
  go_wp2
  have hk1 : w.heap.size ≤ w3.heap.size := Nat.le_trans hc1.size (Nat.le_trans hg8.size hg9.size)
  have hrs : RS1 w (w4.setCell ⟨ba, 9, none⟩ (.slice (some ⟨w3.heap.size, 0, none⟩) 0 ds.length)) bd g ba o A ds (0 :: 0 :: rest) 0 (.slice (some ⟨w2.heap.size, 0, none⟩) 0 ds.length) := by
    refine RS1.start hA1 ho6 ?_ ?_ ?_ ?_ ?_
    · exact Own.chg ho9 (Chg.grownBy hg6) (by simp)
    · exact ((hrd1.chg (Chg.grownBy hg8) (by simp) (by simp)).chg (Chg.grownBy hg9) (by simp) (by simp)).chg (Chg.grownBy hg6) (by simp) (by simp)
    · exact (((hc1.mono (fun k _ h => .inl h)).grown hg8 (by simp)).grown hg9 (by simp)).grown hg6 (by simp)
    · intro k hk; simp [Value.ownBlock] at hk; omega
    · intro k hk; simp [Value.ownBlock] at hk; subst hk; exact Nat.le_trans hc1.size hg8.size
  clear hrd1 hc1 ho8 hg8 ho9 hg9 ho6 hg6 hA1 ca fa hA hrd hk1
  obtain ⟨b5, hb5⟩ : ∃ b5, b5 = w1.heap.size := ⟨_, rfl⟩
  rw [← hb5]
  clear hb5
  go_loopw [5, 6, 7] (fun v5 v6 i wr => ∃ k : Nat, k ≤ ds.length ∧ i = .int .i64 (k : Int) ∧ v5 = .slice (some ⟨b5, 0, none⟩) 0 ds.length ∧ RS1 w wr bd g ba o A ds (0 :: 0 :: rest) k v6) (fun _ _ i _ => ds.length - (intOf i).toNat)
  case atStart => exact ⟨0, Nat.zero_le _, rfl, rfl, hrs⟩
  case round =>
    obtain ⟨k, hk, rfl, rfl, hR⟩ := hrel
    clear hrs
    by_cases hlt : k < ds.length
    · obtain ⟨v, bs, hcore, hrd, h6, hch, b1, b2, b3⟩ := hR.ex
      clear hR
      have hd : ds[k]? = some ds[k] := List.getElem?_eq_getElem hlt
      rw [List.drop_eq_getElem_cons hlt, List.flatMap_cons, List.append_assoc] at hrd
      generalize ds[k] = d at hrd hd
      obtain ⟨h0, h12, hm1, hm2⟩ := num_facts d.k
      have hsl : ((ds.take k).map Ds.st).length = k := by simp; omega
      have hbl : bs.length = k := by rw [hcore.sts.len, hsl]
      obtain ⟨A6, c6, rfl⟩ := h6.slice
      by_cases hB : d.k = .bstart
      · obtain ⟨dk, dr, da⟩ := d
        simp only at hB
        subst hB
        have he : (Ds.mk .bstart dr da).enc = [SK.bstart.num, dr, da] := by simp [Ds.enc]
        rw [he] at hrd
        have hbi := bidx_yes ds k _ hd rfl
        have hbil := bidx_le ds k
        have hta := fun a w => ta_block a w
        have Hd := Lib.hid hd
        have Hbi := Lib.hid hbi
        have Hsl := Lib.hid hsl
        have Hbl := Lib.hid hbl
        have Hbil := Lib.hid hbil
        clear hd hbi hsl hbl he hbil
        go_wp2_with fail
        refine (readInt_any _ _ _ _ _ _ hrd).mono ?_
        rintro e w1 ⟨rfl, hrd1, hc1⟩
        have hcore1 := hcore.rd hrd hc1
        have h61 := h6.rd hrd hc1 (by decide)
        have hch1 := hch.then hc1 (fun _ _ h => .inl h)
        clear hcore h6 hch hrd hc1
        go_wp2_with fail
        refine (readInt_any _ _ _ _ _ _ hrd1).mono ?_
        rintro e w2 ⟨rfl, hrd2, hc2⟩
        have hcore2 := hcore1.rd hrd1 hc2
        have h62 := h61.rd hrd1 hc2 (by decide)
        have hch2 := hch1.then hc2 (fun _ _ h => .inl h)
        clear hcore1 h61 hch1 hrd1 hc2
        go_wp2_with fail
        refine (stateFactory_st _ _ (Ds.mk .bstart dr da)).mono ?_
        rintro e w3 ⟨rfl, hst, hc3, hz3⟩
        have hcore3 := hcore2.no hc3
        have h63 := h62.no hc3
        have hrd3 := hrd2.no hc3
        have hch3 := hch2.then hc3 (fun _ _ h => h.elim)
        have hfresh : ∀ b' ∈ bs, b' ≠ w2.heap.size := by
          rintro b' hb' rfl
          obtain ⟨j, hj, hjb⟩ := List.getElem_of_mem hb'
          exact absurd (hcore2.sts.lt (List.getElem?_eq_getElem hj)) (by omega)
        have hw2 : w.heap.size ≤ w2.heap.size := hch2.size
        clear hcore2 h62 hch2 hrd2 hc3
        go_wp2_with fail
        refine (readInt_any _ _ _ _ _ _ hrd3).mono ?_
        rintro e w4 ⟨rfl, hrd4, hc4⟩
        have hcore4 := hcore3.rd hrd3 hc4
        have h64 := h63.rd hrd3 hc4 (by decide)
        have hst4 := hst.chg hc4 (hst.ne hrd3.blk.1.choose_spec (by decide))
        have hch4 := hch3.then hc4 (fun _ _ h => .inl h)
        have hw4 : w2.heap.size < w4.heap.size := by have := hc4.size; omega
        clear hcore3 h63 hch3 hrd3 hc4 hz3
        go_wp2_with (first | (at_builtin; refine wp_app et249 rfl _ _ rfl (.slice A6 (bidx ds k).length c6) (bidx ds k).length _ rfl (Own.no h64 ((Chg.refl _ _).alloc _)) _ rfl [.iface SK.bstart.ptr (.pointer (some ⟨w2.heap.size, 0, none⟩)), .int .i64 da] (Blk.at_new rfl _ _) rfl ?c1 ?c2 ?c3 ?c4))
        case c1 => simp [Value.oneCell']
        case c2 => have := Hbil.out; omega
        case c3 => have := Hbil.out; omega
        case c4 =>
          intro g6 c6' w5 hown5 hgr5 hloc5
          have hc5 : Chg (fun j => some j = (Value.slice A6 (bidx ds k).length c6).ownBlock) w4 w5 := ((Chg.refl _ w4).alloc _).then (Chg.grownBy hgr5) (fun _ _ h => h)
          have hT5 : ∀ j, (fun j => some j = (Value.slice A6 (bidx ds k).length c6).ownBlock) j → j < w4.heap.size → ∃ c T, Blk w4 j c T ∧ T = 259 := by
            intro j hj _
            obtain ⟨c, hc⟩ := Own.own h64 hj.symm
            exact ⟨c, _, hc, rfl⟩
          have hcore5 := hcore4.chg hc5 (fun j h1 h2 => by obtain ⟨c, T, h, rfl⟩ := hT5 j h1 h2; exact ⟨c, _, h, by decide, by decide, fun q => (SK.str_ne2 q).2.2.2.2⟩)
          have hrd5 := hrd4.chgT hc5 (fun j h1 h2 => by obtain ⟨c, T, h, rfl⟩ := hT5 j h1 h2; exact ⟨c, _, h, by decide, by decide⟩)
          have hst5 := hst4.chg hc5 (fun hj => by
            obtain ⟨c, hc⟩ := Own.own h64 hj.symm
            exact hst4.ne hc (SK.str_ne2 _).2.2.2.2 rfl)
          have hch5 := hch4.then hc5 (fun j h1 h2 => by have := b2 j h2.symm; omega)
          have hb6 : ∀ j, (Value.slice (some ⟨g6, 0, none⟩) ((bidx ds k).length + 1) c6').ownBlock = some j → w.heap.size ≤ j := by
            intro j hj
            simp [Value.ownBlock] at hj
            subst hj
            rcases hloc5 with h | h
            · exact b2 _ h
            · first | omega | (simp at h; omega)
          have h65 : Own w5 259 2 (.slice (some ⟨g6, 0, none⟩) ((bidx ds k).length + 1) c6') (bidx ds (k + 1)).length ((bidx ds (k + 1)).flatMap (pairCells ds (bs ++ [w2.heap.size]))) := by
            rw [pairs_yes ds bs _ k _ Hd.out rfl Hbl.out, Hbi.out, List.length_append, List.length_singleton]
            exact hown5
          clear hcore4 h64 hst4 hch4 hrd4 hgr5 hown5 hloc5 hc5 hT5 b2
          go_wp2_with fail
          refine (addState_core _ _ _ _ _ _ (Ds.mk .bstart dr da) hcore5 hst5 hfresh (by rw [Hsl.out]; omega)).mono ?_
          rintro e w6 ⟨rfl, v', hcore6, hc6, hl6⟩
          have hfin := rs1_next Hd.out hcore5 hst5 hrd5 h65 hch5 b1 hb6 b3 hw2 hcore6 hc6 hl6
          clear hcore5 hst5 hrd5 h65 hch5 hcore6 hc6 hl6
          go_wp2
          go_roundw
          case rel => exact ⟨k + 1, by omega, by go_num, rfl, hfin⟩
          case measure => simp [intOf]; omega
      · have he : d.enc = [d.k.num, d.rule] := by simp [Ds.enc, hB]
        rw [he] at hrd
        have hbi := bidx_no ds k d hd hB
        have hta := fun a w => ta_noblock d.k hB a w
        have Hd := Lib.hid hd
        have Hbi := Lib.hid hbi
        have HB := Lib.hid hB
        have Hsl := Lib.hid hsl
        have Hbl := Lib.hid hbl
        clear hd hbi hB hsl hbl he
        go_wp2_with fail
        refine (readInt_any _ _ _ _ _ _ hrd).mono ?_
        rintro e w1 ⟨rfl, hrd1, hc1⟩
        have hcore1 := hcore.rd hrd hc1
        have h61 := h6.rd hrd hc1 (by decide)
        have hch1 := hch.then hc1 (fun _ _ h => .inl h)
        clear hcore h6 hch hrd hc1
        go_wp2_with fail
        refine (readInt_any _ _ _ _ _ _ hrd1).mono ?_
        rintro e w2 ⟨rfl, hrd2, hc2⟩
        have hcore2 := hcore1.rd hrd1 hc2
        have h62 := h61.rd hrd1 hc2 (by decide)
        have hch2 := hch1.then hc2 (fun _ _ h => .inl h)
        clear hcore1 h61 hch1 hrd1 hc2
        go_wp2_with fail
        refine (stateFactory_st _ _ d).mono ?_
        rintro e w3 ⟨rfl, hst, hc3, hz3⟩
        have hcore3 := hcore2.no hc3
        have h63 := h62.no hc3
        have hrd3 := hrd2.no hc3
        have hch3 := hch2.then hc3 (fun _ _ h => h.elim)
        have hfresh : ∀ b' ∈ bs, b' ≠ w2.heap.size := by
          rintro b' hb' rfl
          obtain ⟨j, hj, hjb⟩ := List.getElem_of_mem hb'
          exact absurd (hcore2.sts.lt (List.getElem?_eq_getElem hj)) (by omega)
        have hw2 : w.heap.size ≤ w2.heap.size := hch2.size
        clear hcore2 h62 hch2 hrd2 hc3
        go_wp2_with fail
        refine (addState_core _ _ _ _ _ _ d hcore3 hst hfresh (by rw [Hsl.out]; omega)).mono ?_
        rintro e w4 ⟨rfl, v', hcore4, hc4, hl4⟩
        have hfin := rs1_next Hd.out hcore3 hst hrd3 (by rw [Hbi.out, pairs_push ds bs _ k Hbl.out]; exact h63) hch3 b1 b2 b3 hw2 hcore4 hc4 hl4
        clear hcore3 hst hrd3 h63 hch3 hcore4 hc4 hl4
        go_wp2
        go_roundw
        case rel => exact ⟨k + 1, by omega, by go_num, rfl, hfin⟩
        case measure => simp [intOf]; omega
    · obtain rfl : k = ds.length := by omega
      obtain ⟨v, bs, hcore, hrd, h6, hch, b1, b2, b3⟩ := hR.ex
      clear hR
      rw [List.drop_length, List.flatMap_nil, List.nil_append] at hrd
      rw [List.take_length] at hcore
      have hsl : (ds.map Ds.st).length = ds.length := by simp
      have hbl : bs.length = ds.length := by rw [hcore.sts.len, hsl]
      obtain ⟨A6, c6, rfl⟩ := h6.slice
      have Hsl := Lib.hid hsl
      have Hbl := Lib.hid hbl
      clear hsl hbl hlt hk
      go_wp2
      go_loop [83] (fun x => x = .int .i64 0) (fun _ => 0)
      case atStart => rfl
      case round =>
        subst hrel
        go_wp2
        have hR3 : RS3 w wr bd g ba o A ds (0 :: 0 :: rest) v (.slice A6 (bidx ds ds.length).length c6) bs 0 := ⟨by rw [List.take_zero, ssAt_nil]; exact hcore, hrd, h6, hch⟩
        clear hcore hrd h6 hch
        go_loopw [102] (fun i wr => ∃ m : Nat, m ≤ (bidx ds ds.length).length ∧ i = .int .i64 (m : Int) ∧ RS3 w wr bd g ba o A ds (0 :: 0 :: rest) v (.slice A6 (bidx ds ds.length).length c6) bs m) (fun i _ => (bidx ds ds.length).length - (intOf i).toNat)
        case atStart => exact ⟨0, Nat.zero_le _, rfl, hR3⟩
        case round =>
          obtain ⟨m, hm, rfl, hR⟩ := hrel
          clear hR3
          by_cases hlt : m < (bidx ds ds.length).length
          · have HR := Lib.hid hR
            obtain ⟨hcore, hrd, h6, hch⟩ := hR
            obtain ⟨g6, cap6, cur6, e6, hblk6, _⟩ := Own.blk h6 (by omega)
            cases e6
            have Hend := Lib.hid hend
            obtain ⟨j, hj⟩ : ∃ j, (bidx ds ds.length)[m]? = some j := ⟨_, List.getElem?_eq_getElem hlt⟩
            have hjm : j ∈ bidx ds ds.length := List.mem_of_getElem? hj
            have hjl := bidx_lt _ _ _ hjm
            obtain ⟨d, hd, hdk⟩ : ∃ d, ds[j]? = some d ∧ d.k = .bstart := by
              unfold bidx at hjm
              rw [List.mem_filter] at hjm
              unfold isB at hjm
              cases hds : ds[j]? with
              | none => rw [hds] at hjm; simp at hjm
              | some d => rw [hds] at hjm; exact ⟨d, rfl, by simpa using hjm.2⟩
            obtain ⟨a, d', ha, hd', hdk'⟩ := Hend.out d (List.mem_of_getElem? hd) hdk
            have hal : a < ds.length := (List.getElem?_eq_some_iff.1 hd').1
            obtain ⟨b, hb⟩ : ∃ b, bs[j]? = some b := ⟨_, List.getElem?_eq_getElem (by rw [Hbl.out]; exact hjl)⟩
            obtain ⟨b', hb'⟩ : ∃ b', bs[a]? = some b' := ⟨_, List.getElem?_eq_getElem (by rw [Hbl.out]; exact hal)⟩
            have p0 : wr.cell? ⟨g6, m * 2, none⟩ = some (.iface SK.bstart.ptr (.pointer (some ⟨b, 0, none⟩))) := by
              refine Own.cellAt h6 ?_
              have := flat_at (pairCells ds bs) 2 (fun _ => rfl) _ m 0 j hj (by decide)
              rw [Nat.add_zero] at this
              rw [this]; simp [pairCells, hb]
            have p1 : wr.cell? ⟨g6, m * 2 + 1, none⟩ = some (.int .i64 (a : Int)) := by
              refine Own.cellAt h6 ?_
              rw [flat_at (pairCells ds bs) 2 (fun _ => rfl) _ m 1 j hj (by decide)]
              simp [pairCells, argAt, hd, ha]
            have hss := ssAt_length ds bs ((bidx ds ds.length).take m)
            obtain ⟨gv, capv, curv, ev, hblkv, _⟩ := Own.blk hcore.own (by rw [hss]; omega)
            have hown := hcore.own
            rw [hss] at ev hown
            have hatn := hcore.atn
            have ev' : v = .slice (some ⟨gv, 0, none⟩) ds.length capv := ev
            clear ev
            have ev := ev'
            clear ev'
            have hown' : Own wr 109 1 v ds.length (stvs (ssAt ds bs ((bidx ds ds.length).take m)) bs) := hown
            clear hown
            have hown := hown'
            rw [ev] at hown
            clear hown'
            have ca : wr.cell? ⟨ba, 9, none⟩ = some (.slice (some ⟨gv, 0, none⟩) ds.length capv) := by rw [hatn.cell]; simp [AF.cells, ev]
            have cv : wr.cell? ⟨gv, a, none⟩ = some (.iface SK.bend.ptr (.pointer (some ⟨b', 0, none⟩))) := by
              refine Own.cellAt hown ?_
              rw [stvs_at _ bs a (if a ∈ (bidx ds ds.length).take m then d'.fin bs else d'.st) b' (by rw [ssAt_at, hd']; rfl) hb']
              split
              · rw [Ds.fin_k, hdk']
              · simp [Ds.st, hdk']
            have hbw := b3 b (List.mem_of_getElem? hb)
            have hsb := hcore.sts.at_ j (if j ∈ (bidx ds ds.length).take m then d.fin bs else d.st) b (by rw [ssAt_at, hd]; rfl) hb
            have lba := hcore.atn.lt
            have lgv := hblkv.lt
            have lb := hsb.lt
            have Hcore := Lib.hid hcore
            have Hblkv := Lib.hid hblkv
            have Hblk6 := Lib.hid hblk6
            have H6 := Lib.hid h6
            have Hcbd := Lib.hid (show d.k = .bstart from hdk)
            have Ha := Lib.hid ha
            have Hd := Lib.hid hd
            have Hj := Lib.hid hj
            have Hb := Lib.hid hb
            have Hb' := Lib.hid hb'
            have Hev := Lib.hid ev
            have Hhss := Lib.hid hss
            have hta := fun x w => ta_bend x w
            clear hend hjm hd hd' hdk hdk' ha hb hb' hcore hblkv hblk6 h6 ev hss hj hown hatn
            go_wp2
            refine wp_tail 13 (by kernel_rfl) ?_
            simp only [List.take_succ_cons, List.take_zero, List.drop_succ_cons, List.drop_zero]
            repeat still_step
            refine wpStill_nil ?_
            go_wp2_with fail
            obtain ⟨x9, hx9⟩ := Ds.has_end bs d ba j (j ∈ (bidx ds ds.length).take m) Hcbd.out
            refine (setEnd_any _ b x9 _ ((((hsb.alloc _).drew).cell 9).trans hx9) (((hsb.alloc _).drew).fz 9) ⟨_, rfl⟩).mono ?_
            rintro e w' ⟨rfl, hw'⟩
            have hfin := rs3_next HR.out Hj.out Hd.out Hcbd.out Ha.out Hb.out Hb'.out hbw (.cells #[.iface SK.bstart.ptr (.pointer (some ⟨b, 0, none⟩)), .int .i64 (a : Int)] 259)
            rw [hw'] at hfin
            have Hfin := Lib.hid hfin
            have hm1 : m < 1000 := by have := bidx_le ds ds.length; omega
            clear hfin hsb hbw hw'
            go_wp2
            go_roundw
            case rel => exact ⟨m + 1, by omega, by go_num, Hfin.out⟩
            case measure => simp [intOf]; omega
          · obtain rfl : m = (bidx ds ds.length).length := by omega
            obtain ⟨hcore, hrd, h6, hch⟩ := hR
            rw [List.take_length, ssAt_all] at hcore
            clear h6 hlt hm
            go_wp2_with fail
            refine (readInt_any _ _ _ _ _ _ hrd).mono ?_
            rintro e w7 ⟨rfl, hrd7, hc7⟩
            have hcore7 := hcore.rd hrd hc7
            have hch7 := hch.then hc7 (fun _ _ h => .inl h)
            clear hcore hch hrd hc7
            go_wp2
            go_loop [20] (fun x => x = .int .i64 0) (fun _ => 0)
            case atStart => rfl
            case round =>
              subst hrel
              go_wp2_with fail
              refine (readInt_any _ _ _ _ _ _ hrd7).mono ?_
              rintro e w8 ⟨rfl, hrd8, hc8⟩
              have hcore8 := hcore7.rd hrd7 hc8
              have hch8 := hch7.then hc8 (fun _ _ h => .inl h)
              clear hcore7 hch7 hrd7 hc8
              go_wp2
              go_loop [23] (fun x => x = .int .i64 0) (fun _ => 0)
              case atStart => rfl
              case round =>
                subst hrel
                go_wp2
                go_end0
                exact ⟨rfl, v, bs, hcore8, hrd8, hch8, b1, b3⟩
end Go.Proofs.YtemdillhbnmjkaaGreatDoor
namespace Go.Proofs.YtemdillhbnmjkaaGreatDoor
open Go.RowKit

theorem et102 : ET 102 104 (.agg #[.int .i64 0, .int .i64 0]) 2 16 := ⟨by kernel_rfl, by kernel_rfl, rfl, by decide⟩

set_option maxRecDepth 100000 in
theorem addInterval_nil (w : World) (p : Nat) (ro : Value) (a b : Int) (h : Blk w p #[.slice none 0 0, ro] 145) :
    Calls Tryz.prog 99 #[.pointer (some ⟨p, 0, none⟩), .agg #[.int .i64 a, .int .i64 b]] w fun e w' => e = .returned (.tuple #[]) ∧ 
      ∃ g c, Blk w' p #[.slice (some ⟨g, 0, none⟩) 1 c, ro] 145 ∧ Own w' 104 2 (.slice (some ⟨g, 0, none⟩) 1 c) 1 [.int .i64 a, .int .i64 b] ∧ Chg (fun k => k = p) w w' ∧ w.heap.size ≤ g := by
  have c0 : w.cell? ⟨p, 0, none⟩ = some (.slice none 0 0) := by rw [h.cell]; rfl
  have f0 := h.fz 0
  have hp := h.lt
  have hp1 : p < w.heap.size + 1 := by omega
  have hp2 : p < w.heap.size + 1 + 1 := by omega
  have hp3 : p < w.heap.size + 1 + 1 + 1 := by omega
  have heq := fun (w : World) (x : Option Addr) (l c : Nat) => Lib.run_eql_slice_nil (P := Tryz.prog) w 102 104 x l c 0 0 Tryz.underlying102
  have hmk : ∀ w, (Instr.makeSlice 102 (.int .i64 0) (.int .i64 0)).run Tryz.prog w = .ok (.slice (some ⟨w.heap.size, 0, none⟩) 0 0) (w.alloc (.cells #[] 104)) := fun _ => by kernel_rfl
  have H := Lib.hid h
  clear h
  go_enter Tryz.func99, Tryz.ntmps99
  go_wp2
  go_region_law (refine step_app et102 rfl _ _ rfl (.slice (some ⟨w.heap.size + 1, 0, none⟩) 0 0) 0 [] rfl ?_ _ _ _ rfl [.int .i64 a, .int .i64 b] ?_ rfl (by decide) ?_ (by decide) (by decide) ?_; exact ((own_made _ _ (by simp) 104 2).alloc _).drew; exact cells_one ((Blk.at_new (by simp) _ _).drew); simp [Value.oneCell']; intro g c' w1 h1 h2 h3; have hb1 := (((((H.out.set 0 (.slice (some ⟨w.heap.size + 1, 0, none⟩) 0 0)).alloc (.cells #[.int .i64 a, .int .i64 b] 104)).alloc (.cells #[] 104)).alloc (.cells #[.int .i64 a, .int .i64 b] 104)).drew).chg (Chg.grownBy h2) (fun e => by simp [Value.ownBlock] at e; omega); have cc := hb1.cell 0; have ff := hb1.fz 0; simp at cc; have Hb1 := Lib.hid hb1; have H1 := Lib.hid h1; have H2 := Lib.hid h2; have H3 := Lib.hid h3; clear hb1 h1 h2 h3)
  all_goals
    go_wp2
    go_end0
    refine ⟨rfl, g, c', ?_, ?_, ?_, ?_⟩
    · have := Hb1.out.set 0 (.slice (some ⟨g, 0, none⟩) 1 c')
      simpa using this
    · exact Own.chg H1.out (S := fun k => k = p) (by refine Chg.setCell (Chg.refl _ _) ?_ _; intro _; rfl) (fun k hk hS => by subst hS; exact Own.ne H1.out Hb1.out (by decide) hk)
    · refine Chg.setCell (S := fun k => k = p) ?_ ?_ _
      · refine Chg.grown ?_ H2.out ?_
        · refine Chg.drew (Chg.alloc (Chg.alloc (Chg.alloc (Chg.setCell (Chg.refl _ _) ?_ _) _) _) _)
          intro _; rfl
        · intro k hk hlt; simp [Value.ownBlock] at hk; omega
      · intro _; rfl
    · rcases H3.out with h | h
      · simp [Value.ownBlock] at h; omega
      · simp at h; omega
end Go.Proofs.YtemdillhbnmjkaaGreatDoor

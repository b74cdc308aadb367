/- append of whatever is appended: no element, too. · Tokens to be parsed by a grammar: NewText (45): it returns a table of truths. · The parser that asks for each decision: its memory; NewMachine (33), Choose (36). · A region that draws its order: reads are taken first in every world that meets a condition; the condition is asked till one operation, for which all wait, has come up. -/
import Derived.Test.YtemdillhbnmjkaaGreatDoorQ45
import Derived.Test.YtemdillhbnmjkaaGreatDoorQ28
import Derived.Deep.RegionHeld3
import Derived.StillTail
namespace Go.Proofs.YtemdillhbnmjkaaGreatDoor
open Go.RowKit

/-- x is a slice of m elements, of cells cs -/
def SrcL (w : World) (x : Value) (m : Nat) (cs : List Value) : Prop := (∃ ad c, x = .slice (some ad) m c ∧ ∀ j u, cs[j]? = some u → w.cell? (ad.add j) = some u) ∨ (∃ c, x = .slice none 0 c ∧ m = 0 ∧ cs = [])
theorem SrcL.no {w w' : World} {x : Value} {m : Nat} {cs : List Value} (h : SrcL w x m cs) (hc : Chg No w w') : SrcL w' x m cs := by
  rcases h with ⟨ad, c, h1, h2⟩ | h
  · exact .inl ⟨ad, c, h1, fun j u hj => Chg.kept hc (h2 j u hj) (fun h => h)⟩
  · exact .inr h
theorem SrcL.rd1 {w : World} {v : Value} {xs : List Int} (h : Rd1 w v xs) : SrcL w v xs.length (xs.map fun x => .int .i64 x) := by
  obtain ⟨A, c, rfl⟩ := h.slice
  cases A with
  | none =>
    cases xs with
    | nil => exact .inr ⟨c, rfl, rfl, rfl⟩
    | cons x xs =>
      obtain ⟨b, o, e, _⟩ := Rd1.at_ h (i := 0) (x := x) rfl
      cases e
  | some a =>
    refine .inl ⟨a, c, rfl, fun j u hj => ?_⟩
    rw [List.getElem?_map] at hj
    cases hx : xs[j]? with
    | none => rw [hx] at hj; cases hj
    | some x =>
      rw [hx] at hj
      cases hj
      obtain ⟨b, o, e, h1⟩ := Rd1.at_ h hx
      cases e
      have hadd : (⟨b, o, none⟩ : Addr).add j = ⟨b, o + j, none⟩ := by unfold Addr.add; split <;> simp_all
      rw [hadd]
      exact h1
theorem run_append_none (w : World) (t ty e : TypeId) (ht : Tryz.prog.underlying t = some (.slice e)) {i : TypeInfo} (hi : Tryz.prog.info? e = some i) (A : Option Addr) (n cap c : Nat) (hn : n ≤ cap) :
    (Builtin.append_ #[t, t] ty #[.slice A n cap, .slice none 0 c]).run Tryz.prog w = .ok (.slice A n cap) w := by
  cases A with
  | none => simp [Builtin.append_, run_underlying ht, sizeOf, typeInfo, hi, Builtin.lenOf, Builtin.firstCells, hn]
  | some a => simp [Builtin.append_, run_underlying ht, sizeOf, typeInfo, hi, Builtin.lenOf, Builtin.firstCells, hn, storeCells]
theorem Own.cap {w : World} {e : TypeId} {size n c : Nat} {A : Option Addr} {xs : List Value} (h : Own w e size (.slice A n c) n xs) : n ≤ c := by
  rcases h.2 with ⟨h2, rfl⟩ | ⟨g, cap, cur, h2, _, _, h3, _⟩
  · exact Nat.zero_le _
  · cases h2; exact h3
theorem grownBy_refl (w : World) (r : Option Nat) : w.grownBy w r := ⟨rfl, rfl, rfl, Nat.le_refl _, fun _ _ _ => rfl⟩
theorem app_run {w : World} {t e : TypeId} {z : Value} {size bytes : Nat} (E : ET t e z size bytes) (ty : TypeId) (v : Value) (n : Nat) (xs : List Value) (hown : Own w e size v n xs)
    (x : Value) (m : Nat) (cs : List Value) (hx : SrcL w x m cs) (hl : cs.length = m * size) (h1 : ∀ u ∈ cs, u.oneCell' = true) (hb : (n + m) * bytes ≤ 140737488355328) (h63 : n + m ≤ 9223372036854775807) :
    ∃ A c w', (Builtin.append_ #[t, t] ty #[v, x]).run Tryz.prog w = .ok (.slice A (n + m) c) w' ∧ Own w' e size (.slice A (n + m) c) (n + m) (xs ++ cs) ∧ w.grownBy w' v.ownBlock ∧
      (∀ k, (Value.slice A (n + m) c).ownBlock = some k → v.ownBlock = some k ∨ k = w.heap.size) := by
  obtain ⟨i, hi, hz0, hz1, hz2⟩ := info_parts E.info
  rcases hx with ⟨ad, c, rfl, hq⟩ | ⟨c, rfl, rfl, rfl⟩
  · obtain ⟨v', w', hrun, r1, r2, _, r3⟩ := run_append_own_at (P := Tryz.prog) w 0 t ty e i z size bytes E.under hi hz0 hz1 hz2 E.zsize E.pos v n xs hown ad m c cs hl hq h1
      (by unfold maxLen; omega) hb (Nat.zero_le _)
    obtain ⟨A, c', rfl⟩ := Own.slice (show Own w' e size v' (n + m) (xs ++ cs) from r1)
    refine ⟨A, c', w', hrun, r1, r2, fun k hk => ?_⟩
    rcases r3 with h | h
    · exact .inl (h ▸ hk)
    · rw [h] at hk; exact .inr (Option.some.inj hk).symm
  · obtain ⟨A, cap, rfl⟩ := hown.slice
    exact ⟨A, cap, w, run_append_none w t ty e E.under hi A n cap c hown.cap, by simpa using hown, grownBy_refl _ _, fun k hk => .inl hk⟩

/-- 'append(v, x..)' -/
theorem wp_appS {w : World} {ops : Array Oper} {rest : List Oper} {o : Oper} {a : Act} {Q : Exit → Act → World → Prop} {t e : TypeId} {z : Value} {size bytes : Nat} (E : ET t e z size bytes)
    (hg : o.guard = none) (s x : Operand) (hop : o.op = Op.call { callee := Callee.builtin Builtin.append, args := #[s, x], argTypes := #[t, t] })
    (v : Value) (n : Nat) (xs : List Value) (hs : a.eval s = v) (hown : Own w e size v n xs)
    (u : Value) (hx : a.eval x = u) (m : Nat) (cs : List Value) (hu : SrcL w u m cs) (hl : cs.length = m * size) (h1 : ∀ u ∈ cs, u.oneCell' = true)
    (hb : (n + m) * bytes ≤ 140737488355328) (h63 : n + m ≤ 9223372036854775807)
    (hK : ∀ (A : Option Addr) (c' : Nat) (w' : World), Own w' e size (.slice A (n + m) c') (n + m) (xs ++ cs) → w.grownBy w' v.ownBlock → (∀ k, (Value.slice A (n + m) c').ownBlock = some k → v.ownBlock = some k ∨ k = w.heap.size) →
      wpList Tryz.prog ops Q rest (a.put o.dst (.slice A (n + m) c')) w') :
    wpList Tryz.prog ops Q (o :: rest) a w := by
  refine wpList_plain hg fun K hK' => ?_
  obtain ⟨A, c', w', hrun, r1, r2, r3⟩ := app_run E o.type v n xs hown u m cs hu hl h1 hb h63
  unfold Oper.wp
  simp [execOp, hop, resolve, invoke, builtin, hs, hx, hrun, Result.andThen]
  exact hK' _ _ (hK A c' w' r1 r2 r3)
/-- the same as one step of a region that draws its order -/
theorem step_appS {w : World} {ops : Array Oper} {o : Oper} {a : Act} {K : Act → World → Prop} {Q : Exit → Act → World → Prop} {F : Prop} {t e : TypeId} {z : Value} {size bytes : Nat} (E : ET t e z size bytes)
    (hg : o.guard = none) (s x : Operand) (hop : o.op = Op.call { callee := Callee.builtin Builtin.append, args := #[s, x], argTypes := #[t, t] })
    (v : Value) (n : Nat) (xs : List Value) (hs : a.eval s = v) (hown : Own w e size v n xs)
    (u : Value) (hx : a.eval x = u) (m : Nat) (cs : List Value) (hu : SrcL w u m cs) (hl : cs.length = m * size) (h1 : ∀ u ∈ cs, u.oneCell' = true)
    (hb : (n + m) * bytes ≤ 140737488355328) (h63 : n + m ≤ 9223372036854775807)
    (hK : ∀ (A : Option Addr) (c' : Nat) (w' : World), Own w' e size (.slice A (n + m) c') (n + m) (xs ++ cs) → w.grownBy w' v.ownBlock → (∀ k, (Value.slice A (n + m) c').ownBlock = some k → v.ownBlock = some k ∨ k = w.heap.size) →
      K (a.put o.dst (.slice A (n + m) c')) w') :
    if Region.wanted o (yielded ops a.tmps) = true then Oper.wp Tryz.prog o a w K Q else F := by
  have hw : Region.wanted o (yielded ops a.tmps) = true := by simp [Region.wanted, hg]
  rw [if_pos hw]
  obtain ⟨A, c', w', hrun, r1, r2, r3⟩ := app_run E o.type v n xs hown u m cs hu hl h1 hb h63
  unfold Oper.wp
  simp [execOp, hop, resolve, invoke, builtin, hs, hx, hrun, Result.andThen]
  exact hK A c' w' r1 r2 r3
end Go.Proofs.YtemdillhbnmjkaaGreatDoor
namespace Go.Proofs.YtemdillhbnmjkaaGreatDoor
open Go.RowKit

theorem et36 : ET 36 3 (.int .i64 0) 1 8 := ⟨by kernel_rfl, by kernel_rfl, rfl, by decide⟩
theorem et93 : ET 93 62 (.slice none 0 0) 1 24 := ⟨by kernel_rfl, by kernel_rfl, rfl, by decide⟩
theorem nils_made (n : Nat) : madeCells #[Value.slice none 0 0] n = (List.replicate n (Value.slice none 0 0)).toArray := by
  apply Array.ext'
  apply List.ext_getElem?
  intro i
  rw [Array.getElem?_toList]
  simp only [madeCells]
  rw [List.getElem?_replicate]
  by_cases h : i < n <;> simp [h, Nat.mod_one]
theorem make_nils (n : Nat) (h : n < 1000) (w : World) : (Instr.makeSlice 62 (.int .i64 (n : Int)) (.int .i64 (n : Int))).run Tryz.prog w = .ok (.slice (some ⟨w.heap.size, 0, none⟩) n n) (w.alloc (.cells (List.replicate n (Value.slice none 0 0)).toArray 30)) := by
  rw [← nils_made]
  exact run_make_row' 62 30 (.slice none 0 0) 24 et62.under et62.info rfl .i64 .i64 n (by omega) (by omega) w
theorem own_blk {w : World} {b n : Nat} {cs : List Value} {e : TypeId} (h : Blk w b cs.toArray e) (hn : cs.length = n) (hm : n ≤ maxLen) : Own w e 1 (.slice (some ⟨b, 0, none⟩) n n) n cs :=
  ⟨by simp [hn], .inr ⟨b, n, cs.toArray, rfl, Nat.zero_le _, h, Nat.le_refl _, hm, by simp [hn], by simp [← hn]⟩⟩

/-- the rows of one table, as far as they are there -/
structure Rws (w0 w : World) (lo n rb j : Nat) : Prop where
  chg : Chg No w0 w
  new : w0.heap.size ≤ rb
  ex : ∃ us : List Value, us.length = n ∧ Blk w rb us.toArray 30 ∧ ∀ (i : Nat) u, us[i]? = some u → i < j → TabRow w lo w.heap.size n u
theorem Rws.next {w0 w : World} {lo n rb j : Nat} {c0 : Array Value} {l0 : List Bool} (h : Rws w0 w lo n rb j) (hj : j < n) (hlo : lo ≤ w.heap.size) (hc : c0 = bcells l0) (hl : l0.length = n) :
    Rws w0 ((w.setCell ⟨rb, j, none⟩ (.slice (some ⟨w.heap.size, 0, none⟩) n n)).alloc (.cells c0 4)) lo n rb (j + 1) := by
  obtain ⟨us, h1, h2, h3⟩ := h.ex
  subst hc
  have hset := (h2.set j (.slice (some ⟨w.heap.size, 0, none⟩) n n)).alloc (.cells (bcells l0) 4)
  have e1 : us.toArray.setIfInBounds j (.slice (some ⟨w.heap.size, 0, none⟩) n n) = (us.set j (.slice (some ⟨w.heap.size, 0, none⟩) n n)).toArray := by
    apply Array.ext'; rw [Array.toList_setIfInBounds]
  rw [e1] at hset
  have hn : Blk ((w.setCell ⟨rb, j, none⟩ (.slice (some ⟨w.heap.size, 0, none⟩) n n)).alloc (.cells (bcells l0) 4)) w.heap.size (bcells l0) 4 := Blk.at_new (by rw [heapSize_setCell]) _ _
  have hsz : ((w.setCell ⟨rb, j, none⟩ (.slice (some ⟨w.heap.size, 0, none⟩) n n)).alloc (.cells (bcells l0) 4)).heap.size = w.heap.size + 1 := by
    rw [show ((w.setCell ⟨rb, j, none⟩ (.slice (some ⟨w.heap.size, 0, none⟩) n n)).alloc (.cells (bcells l0) 4)).heap.size = (w.setCell ⟨rb, j, none⟩ (.slice (some ⟨w.heap.size, 0, none⟩) n n)).heap.size + 1 by simp, heapSize_setCell]
  have hT : TChg [30] w ((w.setCell ⟨rb, j, none⟩ (.slice (some ⟨w.heap.size, 0, none⟩) n n)).alloc (.cells (bcells l0) 4)) := (TChg.setCell (TChg.refl _ w) (show Blk w (⟨rb, j, none⟩ : Addr).block _ 30 from h2) (by simp) _).alloc _
  refine ⟨(h.chg.setCell (fun hk => absurd hk (by have := h.new; simp; omega)) _).alloc _, h.new, _, by simpa using h1, hset, fun i u hu hi => ?_⟩
  rw [List.getElem?_set] at hu
  by_cases e : j = i
  · subst e
    rw [if_pos rfl, if_pos (by omega)] at hu
    cases hu
    exact ⟨_, l0, rfl, hn, hl, hlo, by rw [hsz]; omega⟩
  · rw [if_neg e] at hu
    exact ((h3 i u hu (by omega)).tchg hT (by decide)).hi (by rw [hsz]; omega)
theorem Rws.all {w0 w : World} {lo n rb : Nat} (h : Rws w0 w lo n rb n) (hm : n ≤ maxLen) : TabRows w lo w.heap.size n (.slice (some ⟨rb, 0, none⟩) n n) := by
  obtain ⟨us, h1, h2, h3⟩ := h.ex
  refine ⟨us, own_blk h2 h1 hm, fun x hx => ?_⟩
  obtain ⟨i, hi⟩ := List.getElem?_of_mem hx
  exact h3 i x hi (by have := (List.getElem?_eq_some_iff.1 hi).1; omega)

/-- the table, as far as it is there: r rules; the text lies at tb -/
structure Bld (w w3 wr : World) (tb n r : Nat) (vg vl : Value) : Prop where
  chg : Chg No w wr
  tch : TChg [95, 62] w3 wr
  res : Blk wr w.heap.size #[.slice none 0 0, .slice none 0 0, .slice none 0 0] 95
  ex : ∃ A c vs, Blk wr tb #[vg, vl, .slice A r c] 95 ∧ Own wr 62 1 (.slice A r c) r vs ∧ (∀ u ∈ vs, TabRows wr w.heap.size wr.heap.size n u) ∧ ∀ k, (Value.slice A r c).ownBlock = some k → w.heap.size ≤ k
theorem Bld.no {w w3 wr w' : World} {tb n r : Nat} {vg vl : Value} (h : Bld w w3 wr tb n r vg vl) (hc : Chg No wr w') : Bld w w3 w' tb n r vg vl := by
  obtain ⟨A, c, vs, h1, h2, h3, h4⟩ := h.ex
  exact ⟨h.chg.trans hc, h.tch.trans (TChg.no hc), h.res.chg hc (fun h => h), A, c, vs, h1.chg hc (fun h => h), h2.no hc, fun u hu => ((h3 u hu).b (.no hc)).hi hc.size, h4⟩

theorem setIf2 (a b c v : Value) : (#[a, b, c] : Array Value).setIfInBounds 2 v = #[a, b, v] := rfl
theorem bld_t62 {wr w5 : World} {x : Value} {r : Nat} {AE : Option Addr} {cE : Nat} {vs : List Value} (own : Own wr 62 1 (.slice AE r cE) r vs) (hg : (wr.alloc (.cells #[x] 62)).grownBy w5 (Value.slice AE r cE).ownBlock) : TChg [62] wr w5 := by
  refine TChg.then (S := fun k => some k = (Value.slice AE r cE).ownBlock) ((TChg.refl [62] wr).alloc (.cells #[x] 62)) (Chg.grownBy hg) (fun k hk _ => ?_)
  obtain ⟨cur, hcur⟩ := own.own hk.symm
  exact .inr ⟨cur, 62, hcur.alloc _, by simp⟩
theorem Bld.next {w w3 wr w5 : World} {tb n r : Nat} {vg vl x : Value} {AE A5 : Option Addr} {cE c5 : Nat} {vs : List Value} (hB : Bld w w3 wr tb n r vg vl) (htb : w.heap.size < tb) (e1 : Blk wr tb #[vg, vl, .slice AE r cE] 95) (e2 : Own wr 62 1 (.slice AE r cE) r vs)
    (e3 : ∀ u ∈ vs, TabRows wr w.heap.size wr.heap.size n u) (e4 : ∀ k, (Value.slice AE r cE).ownBlock = some k → w.heap.size ≤ k) (hx : TabRows wr w.heap.size wr.heap.size n x)
    (h1 : Own w5 62 1 (.slice A5 (r + 1) c5) (r + 1) (vs ++ [x])) (hg : (wr.alloc (.cells #[x] 62)).grownBy w5 (Value.slice AE r cE).ownBlock)
    (h3 : ∀ k, (Value.slice A5 (r + 1) c5).ownBlock = some k → (Value.slice AE r cE).ownBlock = some k ∨ k = wr.heap.size + 1) :
    Bld w w3 (w5.setCell ⟨tb, 2, none⟩ (.slice A5 (r + 1) c5)) tb n (r + 1) vg vl := by
  have hT := bld_t62 e2 hg
  have e5 := hT.blk e1 (by decide)
  have hT2 : TChg [95, 62] wr (w5.setCell ⟨tb, 2, none⟩ (.slice A5 (r + 1) c5)) := TChg.setCell (hT.mono (by simp)) (show Blk w5 (⟨tb, 2, none⟩ : Addr).block _ 95 from e5) (by simp) _
  have hset := e5.set 2 (.slice A5 (r + 1) c5)
  rw [setIf2] at hset
  have hsz := hT2.size
  refine ⟨?_, hB.tch.trans hT2, (hT.blk hB.res (by decide)).other (by simp; omega) _, A5, c5, vs ++ [x], hset, ?_, ?_, ?_⟩
  · refine ((hB.chg.alloc (.cells #[x] 62)).grown hg (fun k hk hlt => ?_)).setCell (fun hk => absurd hk (by simp; omega)) _
    have := e4 k hk; omega
  · refine h1.chg (Chg.setCell (S := fun k => k = tb) (Chg.refl _ _) (fun _ => rfl) _) (fun k hk e => ?_)
    subst e
    exact h1.ne e5 (by decide) hk
  · intro u hu
    rcases List.mem_append.1 hu with hu | hu
    · exact ((e3 u hu).tchg hT2 (by decide) (by decide)).hi hsz
    · simp at hu
      subst hu
      exact (hx.tchg hT2 (by decide) (by decide)).hi hsz
  · intro k hk
    rcases h3 k hk with h | h
    · exact e4 k h
    · have := hB.chg.size; omega

/-- again, or not; how many falses there are -/
def Ag (wr : World) (lo hi f0 : Nat) (v : Value) : Prop := ∃ b : Bool, v = .bool b ∧ flsUp wr lo hi ≤ f0 ∧ (b = true → flsUp wr lo hi < f0)
def agn : Value → Nat
  | .bool true => 1
  | _ => 0
/-- the table is being filled -/
structure Fil (w w5 wr : World) (f0 : Nat) (v : Value) : Prop where
  chg : Chg No w wr
  bch : BChg w5 wr
  ag : Ag wr w.heap.size w5.heap.size f0 v
theorem Fil.no {w w5 wr w' : World} {f0 : Nat} {v : Value} (h : Fil w w5 wr f0 v) (hc : Chg No wr w') : Fil w w5 w' f0 v := by
  refine ⟨h.chg.trans hc, h.bch.trans (.no hc), ?_⟩
  obtain ⟨b, h1, h2, h3⟩ := h.ag
  have e : flsUp w' w.heap.size w5.heap.size = flsUp wr w.heap.size w5.heap.size := flsUp_same (fun k _ hk => hc.block k (Nat.lt_of_lt_of_le hk h.bch.t.size) (fun h => h))
  exact ⟨b, h1, by rw [e]; exact h2, fun h => by rw [e]; exact h3 h⟩
theorem Fil.set {w w5 wr : World} {f0 : Nat} {v : Value} (h : Fil w w5 wr f0 v) {b : Nat} {l : List Bool} (hb : Blk wr b (bcells l) 4) (h1 : w.heap.size ≤ b) (h2 : b < w5.heap.size) {j : Nat} (hj : l[j]? = some false) :
    Fil w w5 (wr.setCell ⟨b, j, none⟩ (.bool true)) f0 (.bool true) := by
  obtain ⟨x, _, h3, _⟩ := h.ag
  have h4 := flsUp_set hb h1 h2 hj
  exact ⟨h.chg.setCell (fun hk => absurd hk (by simp; omega)) _, h.bch.set hb j true, true, rfl, by omega, fun _ => by omega⟩

theorem Ag.less {w wr : World} {lo hi : Nat} {v : Value} (h : Ag wr lo hi (flsUp w lo hi) v) : 2 * flsUp wr lo hi + agn v < 2 * flsUp w lo hi + agn (.bool true) := by
  obtain ⟨b, rfl, h1, h2⟩ := h
  cases b with
  | false => show 2 * flsUp wr lo hi + 0 < 2 * flsUp w lo hi + 1; omega
  | true => have := h2 rfl; show 2 * flsUp wr lo hi + 1 < 2 * flsUp w lo hi + 1; omega
theorem Fil.start {w w5 wr : World} {f0 : Nat} {v : Value} (h : Fil w w5 wr f0 v) : Fil w w5 wr (flsUp wr w.heap.size w5.heap.size) (.bool false) := ⟨h.chg, h.bch, false, rfl, Nat.le_refl _, fun h => by cases h⟩
theorem TextV.tchg {Ts : List TypeId} {w w' : World} {lo hi G n : Nat} {vl ve : Value} {ts : List Int} (h : TextV w lo hi G n vl ve ts) (hc : TChg Ts w w') (h3 : (3 : TypeId) ∉ Ts) (h4 : (4 : TypeId) ∉ Ts) (h30 : (30 : TypeId) ∉ Ts) (h62 : (62 : TypeId) ∉ Ts) : TextV w' lo hi G n vl ve ts :=
  ⟨h.len, hc.own h.list h3, h.tab.tchg hc h4 h30 h62⟩
theorem put3 {w : World} {b : Nat} {x y z a c d : Value} {T : TypeId} (h : Blk w b #[x, y, z] T) : Blk (((w.setCell ⟨b, 0, none⟩ a).setCell ⟨b, 1, none⟩ c).setCell ⟨b, 2, none⟩ d) b #[a, c, d] T := ((h.set 0 a).set 1 c).set 2 d
/-- a text, made since w -/
def NewTx (w : World) (vg : Value) (G n : Nat) (ts : List Int) (e : Ending) (w' : World) : Prop :=
  ∃ vl ve hi, e = .returned (.agg #[vg, vl, ve]) ∧ TextV w' w.heap.size hi G n vl ve ts ∧ Chg No w w'

set_option maxHeartbeats 4000000 in
set_option maxRecDepth 100000 in
theorem newText_any (w : World) (vg vt : Value) (g : Pl.Gr) (ts : List Int) (hts : ts.length ≤ 12) (hg : GB g) (hv : Rd3 w vg g) (ht : Rd1 w vt ts) :
    Calls Tryz.prog 45 #[vg, vt] w (NewTx w vg g.length (ts.length + 2) (ts ++ [-1])) := by
  obtain ⟨A, c, rfl⟩ := hv.slice
  have hsrc := SrcL.rd1 ht
  obtain ⟨At, ct, rfl⟩ := ht.slice
  have hl := hg.l
  have HS := Lib.hid hsrc
  have HG := Lib.hid hg
  have HV := Lib.hid hv
  clear hg hv ht hsrc
  go_enter Tryz.func45, Tryz.ntmps45
  go_wp2_with (first | (at_builtin; refine wp_appS et36 rfl _ _ rfl (.slice (some ⟨w.heap.size + 1, 0, none⟩) 0 0) 0 [] rfl (own_made _ _ (by simp) 3 1) (.slice At ts.length ct) rfl ts.length _ (HS.out.no (((Chg.refl No w).alloc _).alloc _)) (by simp) ?a1 ?a2 ?a3 ?a4))
  case a1 => intro u hu; obtain ⟨x, _, rfl⟩ := List.mem_map.1 hu; rfl
  case a2 => omega
  case a3 => omega
  case a4 =>
    intro A1 c1 w1 h1 h2 h3
    have hc1 : Chg No w w1 := Chg.then (((Chg.refl No w).alloc _).alloc _) (Chg.grownBy h2) (fun k hk e => by simp [Value.ownBlock] at e; omega)
    have hn1 : ∀ k, (Value.slice A1 ts.length c1).ownBlock = some k → w.heap.size ≤ k := by
      intro k hk
      rcases h3 k hk with h | h
      · first | omega | (simp [Value.ownBlock] at h; omega)
      · first | omega | (simp at h; omega)
    have HC1 := Lib.hid hc1
    have HN1 := Lib.hid hn1
    have HO1 := Lib.hid h1
    have hrb : Blk w1 w.heap.size #[.slice none 0 0, .slice none 0 0, .slice none 0 0] 95 := ((Blk.new w _ _).alloc _).chg (Chg.grownBy h2) (fun e => by simp [Value.ownBlock] at e)
    have HRB := Lib.hid hrb
    clear h1 h2 h3 hc1 hn1 hrb
    go_wp2_with (first | (at_builtin; refine wp_appS et36 rfl _ _ rfl (.slice A1 ts.length c1) ts.length _ rfl (HO1.out.no ((Chg.refl No w1).alloc _)) (.slice (some ⟨w1.heap.size, 0, none⟩) 1 1) rfl 1 [.int .i64 (-1)] (.inl ⟨_, _, rfl, cells_one (Blk.new w1 _ 3)⟩) rfl (by simp [Value.oneCell']) ?b2 ?b3 ?b4))
    case b2 => omega
    case b3 => omega
    case b4 =>
      intro A2 c2 w2 h1 h2 h3
      have hc2 : Chg No w w2 := Chg.then (HC1.out.alloc _) (Chg.grownBy h2) (fun k hk e => by have := HN1.out k e.symm; omega)
      have hrb : Blk w2 w.heap.size #[.slice none 0 0, .slice none 0 0, .slice none 0 0] 95 := (HRB.out.alloc _).chg (Chg.grownBy h2) (fun e => by
        obtain ⟨cur, hcur⟩ := HO1.out.own e.symm
        exact hcur.ne HRB.out (by decide) rfl)
      have hlist : Own w2 3 1 (.slice A2 (ts.length + 1) c2) (ts ++ [-1]).length ((ts ++ [-1]).map fun t => .int .i64 t) := by
        rw [List.map_append, List.length_append]; exact h1
      have HC2 := Lib.hid hc2
      have HRB2 := Lib.hid hrb
      have HL := Lib.hid hlist
      clear h1 h2 h3 hc2 hrb hlist HC1 HN1 HO1 HRB
      go_wp2
      obtain ⟨n, hn⟩ : ∃ n, n = ts.length + 2 := ⟨_, rfl⟩
      have e : ((ts.length : Int) + 1 + 1) = (n : Int) := by omega
      rw [e]
      clear e
      have hnt : n < 1000 := by omega
      have hmk := make_nils n hnt
      obtain ⟨w3, hw3⟩ : ∃ w3, w3 = w2.alloc (Obj.cells #[Value.slice A (List.length g) c, Value.slice A2 (ts.length + 1) c2, Value.slice none 0 0] 95) := ⟨_, rfl⟩
      have htb : Blk w3 w2.heap.size #[Value.slice A (List.length g) c, Value.slice A2 (ts.length + 1) c2, Value.slice none 0 0] 95 := by rw [hw3]; exact Blk.new _ _ _
      have hc3 : Chg No w2 w3 := by rw [hw3]; exact (Chg.refl _ _).alloc _
      rw [← hw3]
      have HTB := Lib.hid htb
      have HC3 := Lib.hid (HC2.out.trans hc3)
      have HRB3 := Lib.hid (HRB2.out.chg hc3 (fun h => h))
      have HL3 := Lib.hid (HL.out.no hc3)
      have HW2 := Lib.hid (show w.heap.size < w2.heap.size from HRB2.out.lt)
      have HNT := Lib.hid hn
      clear htb hc3 HRB2 HL HC2 hw3 hn
      go_loopw [30] (fun i wr => ∃ r : Nat, r ≤ g.length ∧ i = .int .i64 (r : Int) ∧ Bld w w3 wr w2.heap.size n r (.slice A g.length c) (.slice A2 (ts.length + 1) c2)) (fun i _ => g.length - (intOf i).toNat)
      case atStart => exact ⟨0, Nat.zero_le _, rfl, HC3.out, TChg.refl _ _, HRB3.out, none, 0, [], HTB.out, World.ownsRow_nil _ _ _ _, by simp, by simp [Value.ownBlock]⟩
      case round =>
        obtain ⟨r, hr, rfl, hB⟩ := hrel
        obtain ⟨wb, hwb⟩ : ∃ wb : World, wb = wr := ⟨_, rfl⟩
        rw [← hwb] at hB ⊢
        clear hwb wr
        by_cases hlt : r < g.length
        · have HB := Lib.hid hB
          clear hB
          go_wp2
          clear hmk
          go_loopw [36] (fun i wr => ∃ j : Nat, j ≤ n ∧ i = .int .i64 (j : Int) ∧ Rws wb wr w.heap.size n wb.heap.size j) (fun i _ => n - (intOf i).toNat)
          case atStart => exact ⟨0, Nat.zero_le _, rfl, (Chg.refl No wb).alloc _, Nat.le_refl _, _, by simp, Blk.new _ _ _, fun i u _ h => by omega⟩
          case round =>
            obtain ⟨j, hj, rfl, hR⟩ := hrel
            by_cases hlt2 : j < n
            · have hmb := make_bools n (by omega)
              have hst : wr.heap.size = wr.heap.size := rfl
              obtain ⟨c0, hc0⟩ : ∃ c0, c0 = bcells (List.replicate n false) := ⟨_, rfl⟩
              rw [← hc0] at hmb
              have hnx := hR.next hlt2 (Nat.le_trans HC3.out.size (Nat.le_trans (Nat.le_trans HB.out.tch.size hR.chg.size) (Nat.le_refl _))) hc0 (by simp)
              obtain ⟨us, h1, h2, h3⟩ := hR.ex
              obtain ⟨u0, hu0⟩ : ∃ u, us[j]? = some u := ⟨_, List.getElem?_eq_getElem (by omega)⟩
              have x0 : ∀ o, (wr.alloc o).cell? ⟨wb.heap.size, j, none⟩ = some u0 := fun o => by rw [(h2.alloc o).cell]; simpa using hu0
              have x1 : ∀ o, (wr.alloc o).frozen? ⟨wb.heap.size, j, none⟩ = false := fun o => (h2.alloc o).fz j
              have hwl := h2.lt
              have j0 : (0 : Int) ≤ (j : Int) := by omega
              have j1 : (j : Int) < (n : Int) := by omega
              have HX := Lib.hid hnx
              clear hnx h1 h2 h3 hu0 hR hc0 hst
              go_wp2
              go_roundw
              case rel => exact ⟨j + 1, by omega, by go_num, HX.out⟩
              case measure => simp [intOf]; omega
            · obtain rfl : j = n := by omega
              have hB := HB.out.no hR.chg
              have hrows := hR.all (by unfold maxLen; omega)
              obtain ⟨AE, cE, vs, e1, e2, e3, e4⟩ := hB.ex
              have k2 : wr.cell? ⟨w2.heap.size, 2, none⟩ = some (.slice AE r cE) := by rw [e1.cell]; rfl
              have kf := e1.fz 2
              have hwl := e1.lt
              have HB2 := Lib.hid hB
              have HE1 := Lib.hid e1
              have HE2 := Lib.hid e2
              have HE3 := Lib.hid e3
              have HE4 := Lib.hid e4
              have HRows := Lib.hid hrows
              clear hB hR hrows e1 e2 e3 e4 HB
              go_wp2_with (first | (at_builtin; refine wp_appS et93 rfl _ _ rfl (.slice AE r cE) r vs rfl (HE2.out.no ((Chg.refl No wr).alloc _)) (.slice (some ⟨wr.heap.size, 0, none⟩) 1 1) rfl 1 [.slice (some ⟨wb.heap.size, 0, none⟩) j j] (.inl ⟨_, _, rfl, cells_one (Blk.new wr _ 62)⟩) rfl (by simp [Value.oneCell']) ?d2 ?d3 ?d4))
              case d2 => omega
              case d3 => omega
              case d4 =>
                intro A5 c5 w5 h1 h2 h3
                have hT := bld_t62 HE2.out h2
                have e5 := hT.blk HE1.out (by decide)
                have HN5 := Lib.hid (HB2.out.next HW2.out HE1.out HE2.out HE3.out HE4.out HRows.out h1 h2 h3)
                have q2 : w5.cell? ⟨w2.heap.size, 2, none⟩ = some (.slice AE r cE) := by rw [e5.cell]; rfl
                have qf := e5.fz 2
                have ql := e5.lt
                clear h1 h2 h3 hT e5 k2 kf hwl
                go_wp2
                go_roundw
                case rel => exact ⟨r + 1, by omega, by go_num, HN5.out⟩
                case measure => simp [intOf]; omega
        · obtain rfl : r = g.length := by omega
          clear hmk hlt hr
          obtain ⟨AE, cE, vs, e1, e2, e3, e4⟩ := hB.ex
          have HTx := Lib.hid (show TextV wb w.heap.size wb.heap.size g.length n (.slice A2 (ts.length + 1) c2) (.slice AE g.length cE) (ts ++ [-1]) from
            ⟨by have := HNT.out; simp; omega, hB.tch.own HL3.out (by decide), vs, e2, e3⟩)
          have HTb := Lib.hid e1
          have HRb := Lib.hid hB.res
          have HF0 := Lib.hid (show Fil w wb wb (flsUp wb w.heap.size wb.heap.size + 1) (.bool true) from ⟨hB.chg, BChg.refl _, true, rfl, by omega, fun _ => by omega⟩)
          clear e1 e2 e3 e4 hB
          go_wp2
          go_loopw [9] (fun v wr => ∃ f0, Fil w wb wr f0 v) (fun v wr => 2 * flsUp wr w.heap.size wb.heap.size + agn v)
          case atStart => exact ⟨_, HF0.out⟩
          case round =>
            obtain ⟨f0, hF⟩ := hrel
            obtain ⟨b, rfl, hb1, hb2⟩ := hF.ag
            cases b with
            | false =>
              have hT := hF.bch.t.blk HTb.out (by decide)
              have hR := hF.bch.t.blk HRb.out (by decide)
              have c0 : wr.cell? ⟨w2.heap.size, 0, none⟩ = some (.slice A g.length c) := by rw [hT.cell]; rfl
              have c1' : wr.cell? ⟨w2.heap.size, 1, none⟩ = some (.slice A2 (ts.length + 1) c2) := by rw [hT.cell]; rfl
              have c2' : wr.cell? ⟨w2.heap.size, 2, none⟩ = some (.slice AE g.length cE) := by rw [hT.cell]; rfl
              have r0 : wr.cell? ⟨w.heap.size, 0, none⟩ = some (.slice none 0 0) := by rw [hR.cell]; rfl
              have r1 : wr.cell? ⟨w.heap.size, 1, none⟩ = some (.slice none 0 0) := by rw [hR.cell]; rfl
              have r2 : wr.cell? ⟨w.heap.size, 2, none⟩ = some (.slice none 0 0) := by rw [hR.cell]; rfl
              have f0' := hR.fz 0
              have f1' := hR.fz 1
              have f2' := hR.fz 2
              have hwl := hR.lt
              have HF := Lib.hid hF
              have HR := Lib.hid hR
              clear hF hb1 hb2 hT hR
              go_wp2
              have hp := put3 (a := .slice A g.length c) (c := .slice A2 (ts.length + 1) c2) (d := .slice AE g.length cE) HR.out
              have y0 := hp.cell 0
              have y1 := hp.cell 1
              have y2 := hp.cell 2
              have hpt : TChg [95] wr (((wr.setCell ⟨w.heap.size, 0, none⟩ (.slice A g.length c)).setCell ⟨w.heap.size, 1, none⟩ (.slice A2 (ts.length + 1) c2)).setCell ⟨w.heap.size, 2, none⟩ (.slice AE g.length cE)) :=
                TChg.setCell (TChg.setCell (TChg.setCell (TChg.refl _ _) (p := ⟨w.heap.size, 0, none⟩) HR.out (by simp) _) (p := ⟨w.heap.size, 1, none⟩) (HR.out.set 0 _) (by simp) _) (p := ⟨w.heap.size, 2, none⟩) ((HR.out.set 0 _).set 1 _) (by simp) _
              refine bodyPost_ret (v := .agg #[.slice A g.length c, .slice A2 (ts.length + 1) c2, .slice AE g.length cE]) (by simp [results, Tryz.results45, go_sem, y0, y1, y2]) rfl ⟨_, _, wb.heap.size, rfl, ?_, ?_⟩
              · rw [← HNT.out]
                exact (HTx.out.b HF.out.bch).tchg hpt (by decide) (by decide) (by decide) (by decide)
              · exact ((HF.out.chg.setCell (p := ⟨w.heap.size, 0, none⟩) (fun hk => absurd hk (by simp)) _).setCell (p := ⟨w.heap.size, 1, none⟩) (fun hk => absurd hk (by simp)) _).setCell (p := ⟨w.heap.size, 2, none⟩) (fun hk => absurd hk (by simp)) _
            | true =>
              have HF := Lib.hid hF.start
              clear hF hb1 hb2
              obtain ⟨wc, hwc⟩ : ∃ wc : World, wc = wr := ⟨_, rfl⟩
              rw [← hwc] at HF ⊢
              clear hwc wr
              go_wp2
              go_loopw [9, 55] (fun v i wr => ∃ r, r ≤ g.length ∧ i = .int .i64 (r : Int) ∧ Fil w wb wr (flsUp wc w.heap.size wb.heap.size) v) (fun _ i _ => g.length - (intOf i).toNat)
              case atStart => exact ⟨0, Nat.zero_le _, rfl, HF.out⟩
              case round =>
                obtain ⟨r, hr, rfl, hF⟩ := hrel
                by_cases hlt : r < g.length
                · obtain ⟨alts, hu⟩ : ∃ u, g[r]? = some u := ⟨_, List.getElem?_eq_getElem hlt⟩
                  obtain ⟨b2, o2, A', c', rfl, h10, h2⟩ := Rd3.at_ HV.out hu
                  have h1 := Chg.kept hF.chg h10 (fun h => h)
                  have r0 : (0 : Int) ≤ (r : Int) := by omega
                  have r1 : (r : Int) < (g.length : Int) := by omega
                  have HU := Lib.hid hu
                  have HR2 := Lib.hid h2
                  have HF2 := Lib.hid hF
                  clear hF h10 h2 hu
                  go_wp2
                  clear h1
                  go_loopw [9, 61] (fun v i wr => ∃ j, j ≤ n ∧ i = .int .i64 (j : Int) ∧ Fil w wb wr (flsUp wc w.heap.size wb.heap.size) v) (fun _ i _ => n - (intOf i).toNat)
                  case atStart => exact ⟨0, Nat.zero_le _, rfl, HF2.out⟩
                  case round =>
                    obtain ⟨j, hj, rfl, hF⟩ := hrel
                    by_cases hlt2 : j < n
                    · have HF3 := Lib.hid hF
                      have j0 : (0 : Int) ≤ (j : Int) := by omega
                      have j1 : (j : Int) < (n : Int) := by omega
                      have hal := HG.out.a alts (List.mem_of_getElem? HU.out)
                      clear hF
                      go_wp2
                      go_loopw [9, 66] (fun v i wr => ∃ a, a ≤ alts.length ∧ i = .int .i64 (a : Int) ∧ Fil w wb wr (flsUp wc w.heap.size wb.heap.size) v) (fun _ i _ => alts.length - (intOf i).toNat)
                      case atStart => exact ⟨0, Nat.zero_le _, rfl, HF3.out⟩
                      case round =>
                        obtain ⟨a, ha, rfl, hF⟩ := hrel
                        by_cases hlt3 : a < alts.length
                        · obtain ⟨alt, hu⟩ : ∃ u, alts[a]? = some u := ⟨_, List.getElem?_eq_getElem hlt3⟩
                          obtain ⟨b3, o3, A3, c3, rfl, h30, h4⟩ := Rd2.at_ HR2.out hu
                          have h3 := Chg.kept hF.chg h30 (fun h => h)
                          have hsym := HG.out.i alts (List.mem_of_getElem? HU.out) alt (List.mem_of_getElem? hu)
                          have hal5 := HG.out.s alts (List.mem_of_getElem? HU.out) alt (List.mem_of_getElem? hu)
                          have hT := hF.bch.t.blk HTb.out (by decide)
                          have k0 : wr.cell? ⟨w2.heap.size, 0, none⟩ = some (.slice (some ⟨b2, o2, none⟩) g.length c) := by rw [hT.cell]; rfl
                          have k1 : wr.cell? ⟨w2.heap.size, 1, none⟩ = some (.slice A2 (ts.length + 1) c2) := by rw [hT.cell]; rfl
                          have k2 : wr.cell? ⟨w2.heap.size, 2, none⟩ = some (.slice AE g.length cE) := by rw [hT.cell]; rfl
                          have HCall := Lib.hid (through_any wr w.heap.size wb.heap.size g.length n (.slice (some ⟨b2, o2, none⟩) g.length c) _ _ (.slice A3 alt.length c3) (ts ++ [-1]) alt j hnt (HTx.out.b hF.bch) (h4.no hF.chg) (by unfold maxLen; omega) hsym hlt2)
                          have HF4 := Lib.hid hF
                          clear hF h30 h4 hu hsym hT
                          go_wp2_with fail
                          refine HCall.out.mono ?_
                          rintro e w4 ⟨b, l, rfl, h5, h6, h7, h8⟩
                          have HF5 := Lib.hid (HF4.out.no h7)
                          have HB5 := Lib.hid (show ∃ l : List Bool, l.length = n ∧ Blk w4 b (bcells l) 4 from ⟨l, h5, h6⟩)
                          clear h3 h5 h6 h7 h8 k0 k1 k2 HCall
                          go_wp2
                          go_loopw [9, 75] (fun v i wr => ∃ m, m ≤ n ∧ i = .int .i64 (m : Int) ∧ Fil w wb wr (flsUp wc w.heap.size wb.heap.size) v ∧ ∃ l : List Bool, l.length = n ∧ Blk wr b (bcells l) 4) (fun _ i _ => n - (intOf i).toNat)
                          case atStart => exact ⟨0, Nat.zero_le _, rfl, HF5.out, HB5.out⟩
                          case round =>
                            obtain ⟨m, hm, rfl, hF, hB⟩ := hrel
                            by_cases hlt4 : m < n
                            · obtain ⟨x, q1⟩ := brow_at hB hlt4
                              have m0 : (0 : Int) ≤ (m : Int) := by omega
                              have m1 : (m : Int) < (n : Int) := by omega
                              cases x with
                              | false =>
                                have HF6 := Lib.hid hF
                                have HB6 := Lib.hid hB
                                clear hF hB
                                go_wp2
                                go_roundw
                                case rel => exact ⟨m + 1, by omega, by go_num, HF6.out, HB6.out⟩
                                case measure => simp [intOf]; omega
                              | true =>
                                have hT := hF.bch.t.blk HTb.out (by decide)
                                have k2 : wr.cell? ⟨w2.heap.size, 2, none⟩ = some (.slice AE g.length cE) := by rw [hT.cell]; rfl
                                have hX := HTx.out.b hF.bch
                                obtain ⟨g1, g2, c4, b6, l6, hAE, t1, t2, t3, t4, t5, t6⟩ := hX.tab.at_ hlt hlt2
                                have t7 : wr.cell? ⟨b6, m, none⟩ = some (.bool (Pl.gb l6 m)) := by rw [t3.cell]; exact bcells_at (by omega)
                                have t8 := t3.fz m
                                have t9 := t3.lt
                                have ta : Pl.gb l6 m = false → l6[m]? = some false := fun h => by
                                  unfold Pl.gb at h
                                  rw [List.getElem?_eq_getElem (by omega)] at h ⊢
                                  simpa using h
                                rw [hAE] at k2
                                have HF6 := Lib.hid hF
                                have HF7 := Lib.hid (fun h => hF.set t3 t5 t6 (j := m) h)
                                have HB7 := Lib.hid (fun (v : Bool) => bset hB b6 m v)
                                have HB6 := Lib.hid hB
                                have HTA := Lib.hid ta
                                generalize Pl.gb l6 m = y at *
                                clear hF hB hT hX t3 t4 t5 t6 ta hAE
                                cases y with
                                | true =>
                                  go_wp2
                                  go_roundw
                                  case rel => exact ⟨m + 1, by omega, by go_num, HF6.out, HB6.out⟩
                                  case measure => simp [intOf]; omega
                                | false =>
                                  go_wp2
                                  go_roundw
                                  case rel => exact ⟨m + 1, by omega, by go_num, HF7.out (HTA.out rfl), HB7.out true⟩
                                  case measure => simp [intOf]; omega
                            · obtain rfl : m = n := by omega
                              have HF6 := Lib.hid hF
                              clear hF hB
                              go_wp2
                              go_roundw
                              case rel => exact ⟨a + 1, by omega, by go_num, HF6.out⟩
                              case measure => simp [intOf]; omega
                        · obtain rfl : a = alts.length := by omega
                          have HF4 := Lib.hid hF
                          clear hF
                          go_wp2
                          go_roundw
                          case rel => exact ⟨j + 1, by omega, by go_num, HF4.out⟩
                          case measure => simp [intOf]; omega
                    · obtain rfl : j = n := by omega
                      have HF4 := Lib.hid hF
                      clear hF
                      go_wp2
                      go_roundw
                      case rel => exact ⟨r + 1, by omega, by go_num, HF4.out⟩
                      case measure => simp [intOf]; omega
                · obtain rfl : r = g.length := by omega
                  have HF4 := Lib.hid hF
                  clear hF
                  go_wp2
                  go_roundw
                  case rel => exact ⟨_, HF4.out⟩
                  case measure => exact HF4.out.ag.less
end Go.Proofs.YtemdillhbnmjkaaGreatDoor
namespace Go.Proofs.YtemdillhbnmjkaaGreatDoor
open Go.RowKit

theorem et96 : ET 96 139 (.agg #[.int .i64 0, .int .i64 0, .int .i64 0]) 3 24 := ⟨by kernel_rfl, by kernel_rfl, rfl, by decide⟩
def frCells (f : Pl.Fr) : List Value := [.int .i64 (f.r : Int), .int .i64 (f.a : Int), .int .i64 (f.k : Int)]
theorem frCells_len (f : Pl.Fr) : (frCells f).length = 3 := rfl
theorem frs_cons (f : Pl.Fr) (fs : List Pl.Fr) : (f :: fs).reverse.flatMap frCells = fs.reverse.flatMap frCells ++ frCells f := by
  rw [List.reverse_cons, List.flatMap_append]; simp
theorem frs_len (fs : List Pl.Fr) : (fs.flatMap frCells).length = fs.length * 3 := by
  induction fs with
  | nil => rfl
  | cons f fs ih => rw [List.flatMap_cons, List.length_append, ih, frCells_len, List.length_cons, Nat.add_mul]; omega

/-- the parser lies at mb, made since w0: the rules that are being parsed (the innermost first), the place, the steps, whether it is done, whether it fails -/
structure Mac (w0 w : World) (mb : Nat) (vg : Value) (g : Pl.Gr) (lo hi : Nat) (ts : List Int) (fs : List Pl.Fr) (p n : Nat) (d f : Bool) : Prop where
  chg : Chg No w0 w
  new : w0.heap.size ≤ mb
  ex : ∃ vl ve A c, Blk w mb #[vg, vl, ve, .slice A fs.length c, .int .i64 (p : Int), .int .i64 (n : Int), .bool d, .bool f] 98 ∧ TextV w lo hi g.length (ts.length + 1) vl ve ts ∧
    Own w 139 3 (.slice A fs.length c) fs.length (fs.reverse.flatMap frCells) ∧ ∀ k, (Value.slice A fs.length c).ownBlock = some k → w0.heap.size ≤ k
theorem Mac.tchg {Ts : List TypeId} {w0 w w' : World} {mb lo hi p n : Nat} {vg : Value} {g : Pl.Gr} {ts : List Int} {fs : List Pl.Fr} {d f : Bool} (h : Mac w0 w mb vg g lo hi ts fs p n d f) (hc : TChg Ts w w') (h0 : Chg No w0 w') (h1 : ∀ t ∈ Ts, t = 54) : Mac w0 w' mb vg g lo hi ts fs p n d f := by
  have hn : ∀ t, t ≠ 54 → t ∉ Ts := fun t ht hm => ht (h1 t hm)
  obtain ⟨vl, ve, A, c, e1, e2, e3, e4⟩ := h.ex
  exact ⟨h0, h.new, vl, ve, A, c, hc.blk e1 (hn _ (by decide)), e2.tchg hc (hn _ (by decide)) (hn _ (by decide)) (hn _ (by decide)) (hn _ (by decide)), hc.own e3 (hn _ (by decide)), e4⟩
theorem Mac.no {w0 w w' : World} {mb lo hi p n : Nat} {vg : Value} {g : Pl.Gr} {ts : List Int} {fs : List Pl.Fr} {d f : Bool} (h : Mac w0 w mb vg g lo hi ts fs p n d f) (hc : Chg No w w') : Mac w0 w' mb vg g lo hi ts fs p n d f :=
  h.tchg (Ts := []) (TChg.no hc) (h.chg.trans hc) (by simp)

theorem own_row {w : World} {b n size : Nat} {cs : List Value} {e : TypeId} (h : Blk w b cs.toArray e) (hn : cs.length = n * size) (hm : n ≤ maxLen) : Own w e size (.slice (some ⟨b, 0, none⟩) n n) n cs :=
  ⟨hn, .inr ⟨b, n, cs.toArray, rfl, Nat.zero_le _, h, Nat.le_refl _, hm, by simp [hn], by simp [← hn]⟩⟩
set_option maxHeartbeats 1000000 in
set_option maxRecDepth 100000 in
theorem newMachine_any (w : World) (vg vt : Value) (g : Pl.Gr) (ts : List Int) (hts : ts.length ≤ 12) (hg : GB g) (hv : Rd3 w vg g) (ht : Rd1 w vt ts) :
    Calls Tryz.prog 33 #[vg, vt] w fun e w' => ∃ mb lo hi, e = .returned (.pointer (some ⟨mb, 0, none⟩)) ∧ Mac w w' mb vg g lo hi (ts ++ [-1]) [⟨0, 0, 0⟩] 0 0 false false := by
  have HT := Lib.hid (newText_any w vg vt g ts hts hg hv ht)
  obtain ⟨A, c, rfl⟩ := hv.slice
  obtain ⟨At, ct, rfl⟩ := ht.slice
  clear hg hv ht
  go_enter Tryz.func33, Tryz.ntmps33
  go_wp2_with fail
  refine HT.out.mono ?_
  rintro e w1 ⟨vl, ve, hi, rfl, h1, h2⟩
  have H1 := Lib.hid h1
  have H2 := Lib.hid h2
  obtain ⟨AL, cL, rfl⟩ := h1.list.slice
  obtain ⟨AE, cE, rfl⟩ := h1.tab.slice
  clear h1 h2 HT
  go_wp2
  go_ret
  have hc : Chg No w1 ((w1.alloc (.cells #[.int .i64 0, .int .i64 0, .int .i64 0] 139)).alloc (.cells #[.slice A g.length c, .slice AL (ts.length + 1) cL, .slice AE g.length cE, .slice (some ⟨w1.heap.size, 0, none⟩) 1 1, .int .i64 0, .int .i64 0, .bool false, .bool false] 98)) := ((Chg.refl _ _).alloc _).alloc _
  have h1 := H1.out.no hc
  have e : (ts ++ [-1]).length = ts.length + 1 := by simp
  rw [e] at h1
  refine ⟨w1.heap.size + 1, w.heap.size, hi, rfl, H2.out.trans hc, by have := H2.out.size; omega, _, _, some ⟨w1.heap.size, 0, none⟩, 1, Blk.at_new (by simp) _ _, by rw [e]; exact h1, ?_, ?_⟩
  · exact own_row (cs := [.int .i64 0, .int .i64 0, .int .i64 0]) (n := 1) (size := 3) ((Blk.new w1 _ 139).alloc _) rfl (by unfold maxLen; omega)
  · intro k hk
    simp [Value.ownBlock] at hk
    have := H2.out.size; omega

theorem setIf7 (a0 a1 a2 a3 a4 a5 a6 a7 v : Value) : (#[a0, a1, a2, a3, a4, a5, a6, a7] : Array Value).setIfInBounds 7 v = #[a0, a1, a2, a3, a4, a5, a6, v] := rfl
theorem setIf3 (a0 a1 a2 a3 a4 a5 a6 a7 v : Value) : (#[a0, a1, a2, a3, a4, a5, a6, a7] : Array Value).setIfInBounds 3 v = #[a0, a1, a2, v, a4, a5, a6, a7] := rfl
/-- the parser's own cells and its frames alone have changed -/
abbrev MT : List TypeId := [98, 139]
theorem TextV.mt {w w' : World} {lo hi G n : Nat} {vl ve : Value} {ts : List Int} (h : TextV w lo hi G n vl ve ts) (hc : TChg MT w w') : TextV w' lo hi G n vl ve ts := h.tchg hc (by decide) (by decide) (by decide) (by decide)

theorem push_t {w w5 : World} {A2 : Option Addr} {c2 n : Nat} {xs : List Value} {cs : Array Value} (e3 : Own w 139 3 (.slice A2 n c2) n xs) (h2 : (w.alloc (.cells cs 139)).grownBy w5 (Value.slice A2 n c2).ownBlock) : TChg [139] w w5 := by
  refine TChg.then (S := fun k => some k = (Value.slice A2 n c2).ownBlock) ((TChg.refl [139] w).alloc (.cells cs 139)) (Chg.grownBy h2) (fun k hk _ => ?_)
  obtain ⟨cur, hcur⟩ := e3.own hk.symm
  exact .inr ⟨cur, 139, hcur.alloc _, by simp⟩
theorem mac_push {w0 w w5 : World} {mb lo hi p n : Nat} {vg vl ve : Value} {g : Pl.Gr} {ts : List Int} {fs : List Pl.Fr} {d f : Bool} {f0 : Pl.Fr} {A2 A5 : Option Addr} {c2 c5 : Nat} {cs : Array Value}
    (hM : Mac w0 w mb vg g lo hi ts fs p n d f) (e1 : Blk w mb #[vg, vl, ve, .slice A2 fs.length c2, .int .i64 (p : Int), .int .i64 (n : Int), .bool d, .bool f] 98) (e2 : TextV w lo hi g.length (ts.length + 1) vl ve ts)
    (e3 : Own w 139 3 (.slice A2 fs.length c2) fs.length (fs.reverse.flatMap frCells)) (e4 : ∀ k, (Value.slice A2 fs.length c2).ownBlock = some k → w0.heap.size ≤ k)
    (h1 : Own w5 139 3 (.slice A5 (fs.length + 1) c5) (fs.length + 1) (fs.reverse.flatMap frCells ++ frCells f0)) (h2 : (w.alloc (.cells cs 139)).grownBy w5 (Value.slice A2 fs.length c2).ownBlock)
    (h3 : ∀ k, (Value.slice A5 (fs.length + 1) c5).ownBlock = some k → (Value.slice A2 fs.length c2).ownBlock = some k ∨ k = w.heap.size + 1) :
    Mac w0 (w5.setCell ⟨mb, 3, none⟩ (.slice A5 (fs.length + 1) c5)) mb vg g lo hi ts (f0 :: fs) p n d f ∧ TChg MT w (w5.setCell ⟨mb, 3, none⟩ (.slice A5 (fs.length + 1) c5)) := by
  have hT := push_t e3 h2
  have e5 := hT.blk e1 (by decide)
  have hT2 : TChg MT w (w5.setCell ⟨mb, 3, none⟩ (.slice A5 (fs.length + 1) c5)) := TChg.setCell (hT.mono (by simp)) (show Blk w5 (⟨mb, 3, none⟩ : Addr).block _ 98 from e5) (by simp) _
  have hset := e5.set 3 (.slice A5 (fs.length + 1) c5)
  rw [setIf3] at hset
  have hnew := hM.new
  refine ⟨⟨?_, hM.new, vl, ve, A5, c5, hset, e2.mt hT2, ?_, ?_⟩, hT2⟩
  · refine ((hM.chg.alloc (.cells cs 139)).grown h2 (fun k hk hlt => ?_)).setCell (fun hk => absurd hk (by simp; omega)) _
    have := e4 k hk; omega
  · rw [frs_cons]
    refine h1.chg (Chg.setCell (S := fun k => k = mb) (Chg.refl _ _) (fun _ => rfl) _) (fun k hk e => ?_)
    subst e
    exact h1.ne e5 (by decide) hk
  · intro k hk
    rcases h3 k hk with h | h
    · exact e4 k h
    · have := hM.chg.size; omega
set_option maxHeartbeats 2000000 in
set_option maxRecDepth 100000 in
theorem choose_any (w0 w : World) (mb lo hi p n : Nat) (vg : Value) (g : Pl.Gr) (ts : List Int) (fs : List Pl.Fr) (d f : Bool) (r : Nat) (alts : List (List Int)) (x : Nat) (hM : Mac w0 w mb vg g lo hi ts fs p n d f) (hg : GB g) (hv : Rd3 w0 vg g)
    (hr : g[r]? = some alts) (hx : x ≤ alts.length) (hfs : fs.length < 1000) :
    Calls Tryz.prog 36 #[.pointer (some ⟨mb, 0, none⟩), .int .i64 (r : Int), .int .i64 (x : Int)] w fun e w' => e = .returned (.tuple #[]) ∧
      (if x = 0 then Mac w0 w' mb vg g lo hi ts fs p n d true else Mac w0 w' mb vg g lo hi ts (⟨r, x - 1, 0⟩ :: fs) p n d f) ∧ TChg MT w w' := by
  obtain ⟨A, c, rfl⟩ := hv.slice
  obtain ⟨vl, ve, A2, c2, e1, e2, e3, e4⟩ := hM.ex
  have hrl := (List.getElem?_eq_some_iff.1 hr).1
  have hal := hg.a alts (List.mem_of_getElem? hr)
  obtain ⟨b1, o1, A3, c3, rfl, h10, _⟩ := Rd3.at_ hv hr
  have k1 := Chg.kept hM.chg h10 (fun h => h)
  have m0 : w.cell? ⟨mb, 0, none⟩ = some (.slice (some ⟨b1, o1, none⟩) g.length c) := by rw [e1.cell]; rfl
  have m3 : w.cell? ⟨mb, 3, none⟩ = some (.slice A2 fs.length c2) := by rw [e1.cell]; rfl
  have m7 : w.cell? ⟨mb, 7, none⟩ = some (.bool f) := by rw [e1.cell]; rfl
  have f7 := e1.fz 7
  have f3 := e1.fz 3
  have hlt := e1.lt
  have r0 : (0 : Int) ≤ (r : Int) := by omega
  have r1 : (r : Int) < (g.length : Int) := by omega
  have hset7 := e1.set 7 (.bool true)
  rw [setIf7] at hset7
  have hT7 : TChg [98] w (w.setCell ⟨mb, 7, none⟩ (.bool true)) := TChg.setCell (TChg.refl _ w) (p := ⟨mb, 7, none⟩) e1 (by simp) _
  have hnew := hM.new
  have H7 := Lib.hid (show Mac w0 (w.setCell ⟨mb, 7, none⟩ (.bool true)) mb (.slice (some ⟨b1, o1, none⟩) g.length c) g lo hi ts fs p n d true from
    ⟨hM.chg.setCell (fun hk => absurd hk (by simp; omega)) _, hM.new, vl, ve, A2, c2, hset7, e2.tchg hT7 (by decide) (by decide) (by decide) (by decide), hT7.own e3 (by decide), e4⟩)
  have HT7 := Lib.hid (hT7.mono (Ts' := MT) (by simp))
  have HM := Lib.hid hM
  have HE1 := Lib.hid e1
  have HE2 := Lib.hid e2
  have HE3 := Lib.hid e3
  have HE4 := Lib.hid e4
  clear hM hg hv hr h10 e1 e2 e3 e4 hset7 hT7
  by_cases hx0 : x = 0
  · subst hx0
    go_enter Tryz.func36, Tryz.ntmps36
    go_wp2
    refine bodyPost_ret (results_none rfl _ _ _) rfl ?_
    exact ⟨rfl, H7.out, HT7.out⟩
  · have x1 : ¬ (x : Int) < 1 := by omega
    have x2 : ¬ (alts.length : Int) < (x : Int) := by omega
    obtain ⟨y, rfl⟩ : ∃ y, x = y + 1 := ⟨x - 1, by omega⟩
    have HM0 := Lib.hid m0
    clear H7 HT7
    go_enter Tryz.func36, Tryz.ntmps36
    go_wp2_with (first | (at_builtin; refine wp_appS et96 rfl _ _ rfl (.slice A2 fs.length c2) fs.length _ rfl (HE3.out.no ((Chg.refl No w).alloc _)) (.slice (some ⟨w.heap.size, 0, none⟩) 1 1) rfl 1 (frCells ⟨r, y, 0⟩) (.inl ⟨_, _, rfl, cells_one (Blk.new w _ 139)⟩) rfl (by simp [frCells, Value.oneCell']) ?d2 ?d3 ?d4))
    case d2 => omega
    case d3 => omega
    case d4 =>
      intro A5 c5 w5 h1 h2 h3
      obtain ⟨q1, q2⟩ := mac_push HM.out HE1.out HE2.out HE3.out HE4.out h1 h2 h3
      have e5 := (push_t HE3.out h2).blk HE1.out (by decide)
      have k3 : w5.cell? ⟨mb, 3, none⟩ = some (.slice A2 fs.length c2) := by rw [e5.cell]; rfl
      have kf := e5.fz 3
      have kl := e5.lt
      have Q1 := Lib.hid q1
      have Q2 := Lib.hid q2
      clear h1 h2 h3 q1 q2 e5 k1 m3 m7 f7 f3 m0
      go_wp2
      go_end0
      exact ⟨rfl, Q1.out, Q2.out⟩
end Go.Proofs.YtemdillhbnmjkaaGreatDoor
namespace Go.Proofs.YtemdillhbnmjkaaGreatDoor
open Go.RowKit

section
variable {P : Program} {ops : Array Oper} {Q : Exit → Act → World → Prop} {S : World → Prop} {k : Nat}
/-- whatever comes up next; till operation k has come up S holds behind each -/
def Late (P : Program) (ops : Array Oper) (Q : Exit → Act → World → Prop) (S : World → Prop) (k : Nat) : Nat → Array Bool → Act → World → Prop
  | 0, L, a, w => Region.ready .any ops L = [] ∧ Q .normal a w
  | f + 1, L, a, w => (Region.ready .any ops L = [] → Q .normal a w) ∧ ∀ i ∈ Region.ready .any ops L, wpOp P ops Q i (fun a' w' => ((L.setIfInBounds i true).getD k true = false → S w') ∧ Late P ops Q S k f (L.setIfInBounds i true) a' w') a w
theorem Late.any : ∀ (f : Nat) (L : Array Bool) (a : Act) (w : World), Late P ops Q S k f L a w → wpAny P .any ops Q f L a w
  | 0, _, _, _, h => h
  | f + 1, _, _, _, h => ⟨h.1, fun i hi => wpOp_mono (fun a' w' h' => Late.any f _ a' w' h'.2) (h.2 i hi)⟩
theorem unlisted_no {L : Array Bool} {i : Nat} (h : L.getD i true = false) : ¬ L.getD i false = true := by
  rcases Nat.lt_or_ge i L.size with h' | h'
  · simp [h'] at h ⊢; exact h
  · simp [Array.getElem?_eq_none h'] at h ⊢
theorem Late.first {i : Nat} {oi : Oper} {v : Value} (hi : ops[i]? = some oi) (hsel : ∀ (j : Nat) (o : Oper) cs b, ops[j]? = some o → o.op ≠ .select cs b) (hQ : ∀ c a w, Q (.panic c) (a.put oi.dst v) w → Q (.panic c) a w)
    (hk : Region.waitsFor .any ops k i = true) (hki : k ≠ i) :
    ∀ (f : Nat) (L : Array Bool) (a : Act) (w : World), (∀ j oj, ops[j]? = some oj → j ≠ i → L.getD j true = false → (∀ e ∈ oj.after, Region.binds .any e = true → e.on ≠ i) → oi.apart ops oj = true) →
      L.getD k true = false → i ∈ Region.ready .any ops L → YieldsIf P ops S oi v a → S w → Late P ops Q S k f (L.setIfInBounds i true) (a.put oi.dst v) w → Late P ops Q S k (f + 1) L a w := by
  obtain ⟨ok, hok, e0, he0, hb0, hon⟩ := Region.waitsFor_spec hk
  intro f
  induction f with
  | zero =>
    intro L a w _ hL hr hy hS H
    refine ⟨fun h => (by rw [h] at hr; cases hr), fun j hj => ?_⟩
    by_cases hji : j = i
    · subst hji; exact hy.wpOp hi hS ⟨fun _ => hS, H⟩
    · have := ready_mono hj hji
      rw [H.1] at this
      cases this
  | succ f ih =>
    intro L a w hfree hL hr hy hS H
    refine ⟨fun h => (by rw [h] at hr; cases hr), fun j hj => ?_⟩
    by_cases hji : j = i
    · subst hji; exact hy.wpOp hi hS ⟨fun _ => hS, H⟩
    · have h1 := H.2 j (ready_mono hj hji)
      obtain ⟨hjun, oj, hoj, hall⟩ := mem_ready.1 hj
      have h0 := (mem_ready.1 hr).1
      have hnot : ∀ e ∈ oj.after, Region.binds .any e = true → e.on ≠ i := fun e he hb heq => by
        have h2 := hall e he hb
        rw [heq] at h2
        exact unlisted_no h0 h2
      have hjk : j ≠ k := by
        rintro rfl
        obtain rfl : ok = oj := Option.some.inj (hok.symm.trans hoj)
        exact hnot e0 he0 hb0 hon
      have hk2 : ((L.setIfInBounds i true).setIfInBounds j true).getD k true = false := by rw [getD_set_ne true hjk, getD_set_ne true (Ne.symm hki)]; exact hL
      have h2 := wpOp_putIf hoj (hfree j oj hoj hji hjun hnot) (fun cs b => hsel i oi cs b hi) (fun cs b => hsel j oj cs b hoj) hQ hy h1
      have hfree' : ∀ m om, ops[m]? = some om → m ≠ i → (L.setIfInBounds j true).getD m true = false → (∀ e ∈ om.after, Region.binds .any e = true → e.on ≠ i) → oi.apart ops om = true := fun m om hm hmi hun hno => by
        refine hfree m om hm hmi ?_ hno
        by_cases hjm : j = m
        · subst hjm; exact hjun
        · rw [getD_set_ne true hjm] at hun; exact hun
      refine wpOp_mono (fun a' w' h3 => ⟨fun _ => h3.2.1 hk2, ih (L.setIfInBounds j true) a' w' hfree' (by rw [getD_set_ne true hjk]; exact hL) (ready_mono hr (Ne.symm hji)) h3.1 (h3.2.1 hk2) ?_⟩) h2
      rw [Array.setIfInBounds_comm _ _ hji]
      exact h3.2.2
/-- number i is taken first -/
theorem Late.take {i : Nat} {oi : Oper} {v : Value} {f : Nat} {L : Array Bool} {a : Act} {w : World} (hi : ops[i]? = some oi) (hs : Region.noSelect ops = true) (hf : Region.free .any ops L i = true) (hr : (Region.ready .any ops L).contains i = true)
    (hk : (Region.waitsFor .any ops k i && decide (k ≠ i) && !L.getD k true) = true) (hQ : ∀ c a w, Q (.panic c) (a.put oi.dst v) w → Q (.panic c) a w) (hy : YieldsIf P ops S oi v a) (hS : S w)
    (h : Late P ops Q S k f (L.setIfInBounds i true) (a.put oi.dst v) w) : Late P ops Q S k (f + 1) L a w := by
  simp only [Bool.and_eq_true, decide_eq_true_eq, Bool.not_eq_true'] at hk
  exact Late.first hi (Region.noSelect_spec hs) hQ hk.1.1 hk.1.2 f L a w (Region.free_spec hi hf) hk.2 (by simpa using hr) hy hS h
/-- number i alone can come up -/
theorem Late.one {i : Nat} {o : Oper} {f : Nat} {L : Array Bool} {a : Act} {w : World} (ho : ops[i]? = some o) (hr : Region.ready .any ops L = [i])
    (h : ∀ K' : Act → World → Prop, Shut (∀ a' w', ((L.setIfInBounds i true).getD k true = false → S w') → Late P ops Q S k f (L.setIfInBounds i true) a' w' → K' a' w') → if Region.wanted o (yielded ops a.tmps) = true then Oper.wp P o a w K' Q else K' (a.put o.dst undef) w) :
    Late P ops Q S k (f + 1) L a w := by
  refine ⟨fun h0 => (by rw [hr] at h0; cases h0), fun j hj => ?_⟩
  rw [hr] at hj
  have hji : j = i := by simpa using hj
  subst hji
  exact wpOp_step ho (fun K' hK => h K' (fun a' w' hS hW => hK a' w' ⟨hS, hW⟩))
theorem Late.done {L : Array Bool} {a : Act} {w : World} (hr : Region.ready .any ops L = []) (h : Q .normal a w) : ∀ f, Late P ops Q S k f L a w
  | 0 => ⟨hr, h⟩
  | _ + 1 => ⟨fun _ => h, by rw [hr]; simp⟩
/-- the beginning -/
theorem wp_late {id : Nat} {a : Act} {w : World} (S : World → Prop) (k : Nat) (hm : P.follows .mixedOrders = true) (hS : S w.drew) (h : S w.drew → Late P ops Q S k ops.size (Array.replicate ops.size false) a w.drew) : (Code.region id ops true).wp P Q a w :=
  wp_region_any hm (Late.any _ _ _ _ (h hS))
end
end Go.Proofs.YtemdillhbnmjkaaGreatDoor

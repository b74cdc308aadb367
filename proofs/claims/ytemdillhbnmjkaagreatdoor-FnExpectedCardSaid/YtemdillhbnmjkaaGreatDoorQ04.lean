/- The words of this proof on blocks of memory: what a block holds, and which blocks a piece of code may have changed. · Rows of elements that grow: append of one element, in the form that the walk takes. · Frames by types: blocks of the types Ts apart, what was there is there. · Maps keyed by numbers: what a block of memory holds as one. -/
import Derived.Test.YtemdillhbnmjkaaGreatDoorProg
import Derived.WalkKit
import Derived.BigQuiet
import Derived.Deep.QuietTactic
import Derived.WalkLawsBesides
import Derived.Deep.Draws
import Derived.Lib.Hide
import Derived.Maps.AppendAt
import Derived.OwnWalk
import Derived.StillTailTactics
import Derived.Deep.RegionLaw
import Derived.Deep.RegionWith
import Derived.Maps.Keyed
import Derived.Maps.OwnOps
import Derived.Carry
namespace Go.Proofs.YtemdillhbnmjkaaGreatDoor
open Go.RowKit

/-- Block b is a row of cells. -/
def Blk (w : World) (b : Nat) (c : Array Value) (T : TypeId) : Prop := w.heap[b]? = some (.cells c T (0, 0))

theorem Blk.lt {w : World} {b : Nat} {c : Array Value} {T : TypeId} (h : Blk w b c T) : b < w.heap.size := (Array.getElem?_eq_some_iff.1 h).1
theorem Blk.cell {w : World} {b : Nat} {c : Array Value} {T : TypeId} (h : Blk w b c T) (i : Nat) : w.cell? ⟨b, i, none⟩ = c[i]? := by
  unfold Blk at h; simp [World.cell?, h]
theorem Blk.fz {w : World} {b : Nat} {c : Array Value} {T : TypeId} (h : Blk w b c T) (i : Nat) : w.frozen? ⟨b, i, none⟩ = false := by
  unfold Blk at h; simp [World.frozen?, h]
theorem Blk.uniq {w : World} {b : Nat} {c c' : Array Value} {T T' : TypeId} (h : Blk w b c T) (h' : Blk w b c' T') : c = c' ∧ T = T' := by
  unfold Blk at h h'; rw [h] at h'; simp at h'; exact h'
theorem Blk.ne {w : World} {b b' : Nat} {c c' : Array Value} {T T' : TypeId} (h : Blk w b c T) (h' : Blk w b' c' T') (hT : T ≠ T') : b ≠ b' := by
  rintro rfl; exact hT (h.uniq h').2
theorem Blk.alloc {w : World} {b : Nat} {c : Array Value} {T : TypeId} (h : Blk w b c T) (o : Obj) : Blk (w.alloc o) b c T := (Below.heap_alloc w o b h.lt).trans h
theorem Blk.new (w : World) (c : Array Value) (T : TypeId) : Blk (w.alloc (.cells c T)) w.heap.size c T := by
  show (w.heap.push _)[w.heap.size]? = _; simp
theorem Blk.at_new {w : World} {n : Nat} (h : n = w.heap.size) (c : Array Value) (T : TypeId) : Blk (w.alloc (.cells c T)) n c T := by
  subst h; exact Blk.new w c T
theorem Blk.drewN {w : World} {b : Nat} {c : Array Value} {T : TypeId} (h : Blk w b c T) (n : Nat) : Blk (w.drewN n) b c T := h
theorem Blk.drew {w : World} {b : Nat} {c : Array Value} {T : TypeId} (h : Blk w b c T) : Blk w.drew b c T := h
theorem Blk.other {w : World} {b : Nat} {c : Array Value} {T : TypeId} (h : Blk w b c T) {a : Addr} (ha : b ≠ a.block) (v : Value) : Blk (w.setCell a v) b c T := (Below.heap_setCell w a v b ha).trans h
theorem Blk.set {w : World} {b : Nat} {c : Array Value} {T : TypeId} (h : Blk w b c T) (i : Nat) (v : Value) : Blk (w.setCell ⟨b, i, none⟩ v) b (c.setIfInBounds i v) T := by
  have hlt := h.lt
  have h' : w.heap[b] = .cells c T (0, 0) := by unfold Blk at h; simpa [Array.getElem?_eq_getElem hlt] using h
  show (w.heap.modify b _)[b]? = _
  rw [Array.getElem?_eq_getElem (by simpa using hlt), Array.getElem_modify_self, h']
  rfl

/-- Blocks of S apart, what was there in w is there in w'. -/
structure Chg (S : Nat → Prop) (w w' : World) : Prop where
  os : w'.os = w.os
  tape : w'.tape = w.tape
  output : w'.output = w.output
  size : w.heap.size ≤ w'.heap.size
  block : ∀ k, k < w.heap.size → ¬ S k → w'.heap[k]? = w.heap[k]?

theorem Chg.refl (S : Nat → Prop) (w : World) : Chg S w w := ⟨rfl, rfl, rfl, Nat.le_refl _, fun _ _ _ => rfl⟩
theorem Chg.trans {S : Nat → Prop} {a b c : World} (h : Chg S a b) (k : Chg S b c) : Chg S a c :=
  ⟨k.os.trans h.os, k.tape.trans h.tape, k.output.trans h.output, Nat.le_trans h.size k.size,
    fun i hi hs => (k.block i (Nat.lt_of_lt_of_le hi h.size) hs).trans (h.block i hi hs)⟩
theorem Chg.mono {S S' : Nat → Prop} {a b : World} (h : Chg S a b) (hs : ∀ k, k < a.heap.size → S k → S' k) : Chg S' a b :=
  ⟨h.os, h.tape, h.output, h.size, fun k hk hn => h.block k hk fun h1 => hn (hs k hk h1)⟩
/-- A piece that changes S' : where each is one of S or was not there in w0. -/
theorem Chg.then {S S' : Nat → Prop} {w0 a b : World} (h : Chg S w0 a) (k : Chg S' a b) (hs : ∀ k, k < w0.heap.size → S' k → S k) : Chg S w0 b :=
  ⟨k.os.trans h.os, k.tape.trans h.tape, k.output.trans h.output, Nat.le_trans h.size k.size,
    fun i hi hn => (k.block i (Nat.lt_of_lt_of_le hi h.size) fun h1 => hn (hs i hi h1)).trans (h.block i hi hn)⟩
theorem Chg.drew {S : Nat → Prop} {w0 a : World} (h : Chg S w0 a) : Chg S w0 a.drew := ⟨h.os, h.tape, h.output, h.size, h.block⟩
theorem Chg.drewN {S : Nat → Prop} {w0 a : World} (h : Chg S w0 a) (n : Nat) : Chg S w0 (a.drewN n) := ⟨h.os, h.tape, h.output, h.size, h.block⟩
theorem Chg.alloc {S : Nat → Prop} {w0 a : World} (h : Chg S w0 a) (o : Obj) : Chg S w0 (a.alloc o) :=
  ⟨h.os, h.tape, h.output, Nat.le_trans h.size (by simp), fun k hk hn => (Below.heap_alloc _ _ _ (Nat.lt_of_lt_of_le hk h.size)).trans (h.block k hk hn)⟩
theorem Chg.setCell {S : Nat → Prop} {w0 a : World} (h : Chg S w0 a) {p : Addr} (hp : p.block < w0.heap.size → S p.block) (u : Value) : Chg S w0 (a.setCell p u) :=
  ⟨h.os, h.tape, h.output, Nat.le_trans h.size (by simp [World.setCell]), fun k hk hn =>
    (Below.heap_setCell _ _ _ _ (by rintro rfl; exact hn (hp hk))).trans (h.block k hk hn)⟩
theorem Chg.grown {S : Nat → Prop} {w0 a b : World} {row : Option Nat} (h : Chg S w0 a) (hg : a.grownBy b row) (hr : ∀ k, row = some k → k < w0.heap.size → S k) : Chg S w0 b :=
  ⟨hg.os.trans h.os, hg.tape.trans h.tape, hg.output.trans h.output, Nat.le_trans h.size hg.size,
    fun k hk hn => (hg.block k (Nat.lt_of_lt_of_le hk h.size) (fun e => hn (hr k e.symm hk))).trans (h.block k hk hn)⟩
theorem Chg.below {S : Nat → Prop} {w0 a b : World} {B : Nat} (h : Chg S w0 a) (hb : Below B a b) (hB : ∀ k, k < w0.heap.size → B ≤ k → S k) : Chg S w0 b :=
  ⟨hb.os.trans h.os, hb.tape.trans h.tape, hb.output.trans h.output, Nat.le_trans h.size hb.size,
    fun k hk hn => (hb.block k (by
      rcases Nat.lt_or_ge k B with h1 | h1
      · exact h1
      · exact absurd (hB k hk h1) hn)).trans (h.block k hk hn)⟩
theorem Chg.toBelow {S : Nat → Prop} {w w' : World} {B : Nat} (h : Chg S w w') (hB : ∀ k, k < B → k < w.heap.size ∧ ¬ S k) : Below B w w' :=
  ⟨h.os, h.tape, h.output, h.size, fun k hk => h.block k (hB k hk).1 (hB k hk).2⟩
theorem Chg.of_below {w w' : World} {B : Nat} (h : Below B w w') : Chg (fun k => B ≤ k) w w' :=
  ⟨h.os, h.tape, h.output, h.size, fun k _ hn => h.block k (Nat.lt_of_not_le hn)⟩
theorem Chg.grownBy {w w' : World} {row : Option Nat} (h : w.grownBy w' row) : Chg (fun k => some k = row) w w' :=
  ⟨h.os, h.tape, h.output, h.size, fun k hk hn => h.block k hk hn⟩
theorem Blk.chg {S : Nat → Prop} {w w' : World} {b : Nat} {c : Array Value} {T : TypeId} (h : Blk w b c T) (hc : Chg S w w') (hn : ¬ S b) : Blk w' b c T :=
  (hc.block b h.lt hn).trans h
theorem Blk.below {w w' : World} {b B : Nat} {c : Array Value} {T : TypeId} (h : Blk w b c T) (hc : Below B w w') (hn : b < B) : Blk w' b c T := (hc.block b hn).trans h
/-- nothing is changed -/
abbrev No : Nat → Prop := fun _ => False
theorem heapSize_setCell (w : World) (a : Addr) (v : Value) : (w.setCell a v).heap.size = w.heap.size := by simp [World.setCell]
end Go.Proofs.YtemdillhbnmjkaaGreatDoor
namespace Go.Proofs.YtemdillhbnmjkaaGreatDoor
open Go.RowKit

/-- What the table says of a slice type t, its elements e. -/
structure ET (t e : TypeId) (z : Value) (size bytes : Nat) : Prop where
  under : Tryz.prog.underlying t = some (.slice e)
  info : (Tryz.prog.info? e).map (fun i => (i.zero, i.size, i.bytes)) = some (some z, size, bytes)
  zsize : z.cells.size = size
  pos : 0 < size

/-- The slice v has n elements, of cells xs. -/
abbrev Own (w : World) (e : TypeId) (size : Nat) (v : Value) (n : Nat) (xs : List Value) : Prop := w.ownsRow 0 e size v n xs

theorem Own.slice {w : World} {e : TypeId} {size n : Nat} {v : Value} {xs : List Value} (h : Own w e size v n xs) : ∃ A c, v = .slice A n c := by
  rcases h.2 with ⟨rfl, rfl⟩ | ⟨g, cap, cur, rfl, _⟩
  · exact ⟨none, 0, rfl⟩
  · exact ⟨_, cap, rfl⟩
theorem Own.le {w : World} {e : TypeId} {size n : Nat} {v : Value} {xs : List Value} (h : Own w e size v n xs) : n ≤ maxLen := by
  rcases h.2 with ⟨rfl, rfl⟩ | ⟨g, cap, cur, rfl, _, _, h1, h2, _⟩
  · exact Nat.zero_le _
  · exact Nat.le_trans h1 h2
theorem Own.chg {S : Nat → Prop} {w w' : World} {e : TypeId} {size n : Nat} {v : Value} {xs : List Value} (h : Own w e size v n xs) (hc : Chg S w w') (hn : ∀ k, v.ownBlock = some k → ¬ S k) : Own w' e size v n xs := by
  refine ⟨h.1, ?_⟩
  rcases h.2 with h2 | ⟨g, cap, cur, rfl, hb, hg, r⟩
  · exact .inl h2
  · refine .inr ⟨g, cap, cur, rfl, hb, ?_, r⟩
    rw [hc.block g (Array.getElem?_eq_some_iff.1 hg).1 (hn g rfl)]
    exact hg
theorem Own.lt {w : World} {e : TypeId} {size n : Nat} {v : Value} {xs : List Value} (h : Own w e size v n xs) {k : Nat} (hk : v.ownBlock = some k) : k < w.heap.size := (World.ownsRow.lt h k hk).2
/-- where there is an element: the block -/
theorem Own.blk {w : World} {e : TypeId} {size n : Nat} {v : Value} {xs : List Value} (h : Own w e size v n xs) (hn : 0 < n) :
    ∃ g cap cur, v = .slice (some ⟨g, 0, none⟩) n cap ∧ Blk w g cur e ∧ cur.toList.take (n * size) = xs := by
  rcases h.2 with ⟨rfl, rfl⟩ | ⟨g, cap, cur, rfl, hb, hg, h1, h2, h3, h4⟩
  · omega
  · exact ⟨g, cap, cur, rfl, hg, h4⟩
theorem Own.own {w : World} {e : TypeId} {size n : Nat} {v : Value} {xs : List Value} (h : Own w e size v n xs) {k : Nat} (hk : v.ownBlock = some k) : ∃ cur, Blk w k cur e := by
  rcases h.2 with ⟨rfl, rfl⟩ | ⟨g, cap, cur, rfl, hb, hg, h1, h2, h3, h4⟩
  · simp [Value.ownBlock] at hk
  · simp [Value.ownBlock] at hk
    subst hk
    exact ⟨cur, hg⟩
theorem Own.ne {w : World} {e e' : TypeId} {size n b : Nat} {v : Value} {xs : List Value} {c : Array Value} (h : Own w e size v n xs) (hb : Blk w b c e') (hne : e ≠ e') : v.ownBlock ≠ some b := by
  intro hk
  obtain ⟨cur, hc⟩ := h.own hk
  exact hc.ne hb hne rfl
theorem Own.ne' {w : World} {e e' : TypeId} {size size' n n' : Nat} {v v' : Value} {xs xs' : List Value} (h : Own w e size v n xs) (h' : Own w e' size' v' n' xs') (hne : e ≠ e') {k : Nat} (hk : v.ownBlock = some k) : v'.ownBlock ≠ some k := by
  intro hk'
  obtain ⟨cur, hc⟩ := h.own hk
  exact h'.ne hc (Ne.symm hne) hk'
theorem Own.cellAt {w : World} {e : TypeId} {size n g cap : Nat} {xs : List Value} (h : Own w e size (.slice (some ⟨g, 0, none⟩) n cap) n xs) {j : Nat} {u : Value} (hj : xs[j]? = some u) : w.cell? ⟨g, j, none⟩ = some u := by
  have := World.ownsRow.cells h (g := g) rfl j u hj
  have hadd : (⟨g, 0, none⟩ : Addr).add j = ⟨g, j, none⟩ := by unfold Addr.add; split <;> simp_all
  rwa [hadd] at this

theorem Own.chgT {S : Nat → Prop} {w w' : World} {e : TypeId} {size n : Nat} {v : Value} {xs : List Value} (h : Own w e size v n xs) (hc : Chg S w w') (hn : ∀ k, S k → k < w.heap.size → ∃ c T, Blk w k c T ∧ T ≠ e) : Own w' e size v n xs := by
  refine h.chg hc (fun k hk hS => ?_)
  obtain ⟨c, T, h1, h2⟩ := hn k hS (h.lt hk)
  exact h.ne h1 (Ne.symm h2) hk
theorem Own.no {w w' : World} {e : TypeId} {size n : Nat} {v : Value} {xs : List Value} (h : Own w e size v n xs) (hc : Chg No w w') : Own w' e size v n xs := h.chg hc (fun _ _ h => h)
/-- an element of one cell is written -/
theorem Own.setAt {w : World} {e : TypeId} {g n c i : Nat} {xs : List Value} (h : Own w e 1 (.slice (some ⟨g, 0, none⟩) n c) n xs) (_ : i < n) (u : Value) :
    Own (w.setCell ⟨g, i, none⟩ u) e 1 (.slice (some ⟨g, 0, none⟩) n c) n (xs.set i u) := by
  refine ⟨by simp [h.1], ?_⟩
  rcases h.2 with ⟨h2, _⟩ | ⟨g', cap, cur, hv, hb, hg, h1, h2, h3, h4⟩
  · cases h2
  · simp at hv
    obtain ⟨rfl, rfl⟩ := hv
    refine .inr ⟨g, c, cur.setIfInBounds i u, rfl, hb, (Blk.set (show Blk w g cur e from hg) i u), h1, h2, by simpa using h3, ?_⟩
    rw [Array.toList_setIfInBounds, List.take_set, h4]
theorem Own.fz {w : World} {e : TypeId} {size n g c : Nat} {xs : List Value} (h : Own w e size (.slice (some ⟨g, 0, none⟩) n c) n xs) (j : Nat) : w.frozen? ⟨g, j, none⟩ = false := by
  rcases h.2 with ⟨h2, _⟩ | ⟨g', cap, cur, hv, hb, hg, h1, h2, h3, h4⟩
  · cases h2
  · simp at hv
    obtain ⟨rfl, rfl⟩ := hv
    exact Blk.fz (show Blk w g cur e from hg) j
theorem own_made (W : World) (n : Nat) (hn : n = W.heap.size) (e : TypeId) (size : Nat) : Own (W.alloc (.cells #[] e)) e size (.slice (some ⟨n, 0, none⟩) 0 0) 0 [] := by
  subst hn
  exact World.ownsRow_made W #[] 0 (Nat.zero_le _) (by unfold maxLen; omega) (by simp)
theorem cells_one {w : World} {q : Nat} {cs : List Value} {e : TypeId} (hq : Blk w q cs.toArray e) : ∀ j u, cs[j]? = some u → w.cell? ((⟨q, 0, none⟩ : Addr).add j) = some u := by
  intro j u hj
  have hadd : (⟨q, 0, none⟩ : Addr).add j = ⟨q, j, none⟩ := by unfold Addr.add; split <;> simp_all
  rw [hadd, hq.cell]
  simpa using hj

/-- 'append(v, x)': v has n elements; x's cells lie in block q. -/
theorem wp_app {w : World} {ops : Array Oper} {rest : List Oper} {o : Oper} {a : Act} {Q : Exit → Act → World → Prop} {t e : TypeId} {z : Value} {size bytes : Nat} (E : ET t e z size bytes)
    (hg : o.guard = none) (s x : Operand) (hop : o.op = Op.call { callee := Callee.builtin Builtin.append, args := #[s, x], argTypes := #[t, t] })
    (v : Value) (n : Nat) (xs : List Value) (hs : a.eval s = v) (hown : Own w e size v n xs)
    (q : Nat) (hx : a.eval x = .slice (some ⟨q, 0, none⟩) 1 1) (cs : List Value) (hq : Blk w q cs.toArray e) (hl : cs.length = size) (h1 : ∀ u ∈ cs, u.oneCell' = true)
    (hb : (n + 1) * bytes ≤ 140737488355328) (h63 : n + 1 ≤ 9223372036854775807)
    (hK : ∀ (g c' : Nat) (w' : World), Own w' e size (.slice (some ⟨g, 0, none⟩) (n + 1) c') (n + 1) (xs ++ cs) → w.grownBy w' v.ownBlock → (v.ownBlock = some g ∨ g = w.heap.size) →
      wpList Tryz.prog ops Q rest (a.put o.dst (.slice (some ⟨g, 0, none⟩) (n + 1) c')) w') :
    wpList Tryz.prog ops Q (o :: rest) a w := by
  obtain ⟨i, hi, hz0, hz1, hz2⟩ := info_parts E.info
  refine wpList_plain hg fun K hK' => ?_
  obtain ⟨v', w', hrun, r1, r2, _, r3⟩ := run_append_own_at (P := Tryz.prog) w 0 t o.type e i z size bytes E.under hi hz0 hz1 hz2 E.zsize E.pos v n xs hown ⟨q, 0, none⟩ 1 1 cs (by simp [hl]) (cells_one hq) h1
    (by unfold maxLen; omega) hb (Nat.zero_le _)
  unfold Oper.wp
  simp [execOp, hop, resolve, invoke, builtin, hs, hx, hrun, Result.andThen]
  obtain ⟨g, cap, cur, rfl, _, _⟩ := Own.blk r1 (Nat.succ_pos n)
  refine hK' _ _ (hK g cap w' r1 r2 ?_)
  rcases r3 with h | h
  · exact .inl h.symm
  · exact .inr (by simpa [Value.ownBlock] using h)

/-- the same as one step of a region that draws its order -/
theorem step_app {w : World} {ops : Array Oper} {o : Oper} {a : Act} {K : Act → World → Prop} {Q : Exit → Act → World → Prop} {F : Prop} {t e : TypeId} {z : Value} {size bytes : Nat} (E : ET t e z size bytes)
    (hg : o.guard = none) (s x : Operand) (hop : o.op = Op.call { callee := Callee.builtin Builtin.append, args := #[s, x], argTypes := #[t, t] })
    (v : Value) (n : Nat) (xs : List Value) (hs : a.eval s = v) (hown : Own w e size v n xs)
    (ad : Addr) (m c : Nat) (hx : a.eval x = .slice (some ad) m c) (cs : List Value) (hq : ∀ j u, cs[j]? = some u → w.cell? (ad.add j) = some u) (hl : cs.length = m * size) (hm : 0 < n + m) (h1 : ∀ u ∈ cs, u.oneCell' = true)
    (hb : (n + m) * bytes ≤ 140737488355328) (h63 : n + m ≤ 9223372036854775807)
    (hK : ∀ (g c' : Nat) (w' : World), Own w' e size (.slice (some ⟨g, 0, none⟩) (n + m) c') (n + m) (xs ++ cs) → w.grownBy w' v.ownBlock → (v.ownBlock = some g ∨ g = w.heap.size) →
      K (a.put o.dst (.slice (some ⟨g, 0, none⟩) (n + m) c')) w') :
    if Region.wanted o (yielded ops a.tmps) = true then Oper.wp Tryz.prog o a w K Q else F := by
  obtain ⟨i, hi, hz0, hz1, hz2⟩ := info_parts E.info
  have hw : Region.wanted o (yielded ops a.tmps) = true := by simp [Region.wanted, hg]
  rw [if_pos hw]
  obtain ⟨v', w', hrun, r1, r2, _, r3⟩ := run_append_own_at (P := Tryz.prog) w 0 t o.type e i z size bytes E.under hi hz0 hz1 hz2 E.zsize E.pos v n xs hown ad m c cs hl hq h1
    (by unfold maxLen; omega) hb (Nat.zero_le _)
  unfold Oper.wp
  simp [execOp, hop, resolve, invoke, builtin, hs, hx, hrun, Result.andThen]
  obtain ⟨g, cap, cur, rfl, _, _⟩ := Own.blk r1 hm
  refine hK g cap w' r1 r2 ?_
  rcases r3 with h | h
  · exact .inl h.symm
  · exact .inr (by simpa [Value.ownBlock] using h)

theorem flat_at {α : Type} (f : α → List Value) (sz : Nat) (hf : ∀ x, (f x).length = sz) : ∀ (l : List α) (m i : Nat) (x : α), l[m]? = some x → i < sz → (l.flatMap f)[m * sz + i]? = (f x)[i]?
  | [], m, i, x, h, _ => by simp at h
  | y :: l, 0, i, x, h, hi => by
    simp at h; subst h
    rw [List.flatMap_cons, Nat.zero_mul, Nat.zero_add, List.getElem?_append_left (by rw [hf]; exact hi)]
  | y :: l, m + 1, i, x, h, hi => by
    rw [List.flatMap_cons, List.getElem?_append_right (by rw [hf, Nat.add_mul]; omega), hf]
    have := flat_at f sz hf l m i x (by simpa using h) hi
    rw [← this]
    congr 1
    rw [Nat.add_mul]; omega

/-- A region that draws its order and reads before its last operations. -/
theorem wp_tail {id : Nat} {Q : Exit → Act → World → Prop} {a : Act} {w : World} {l : List Oper} (n : Nat) (hB : Region.lexTailB .any l.toArray n = true)
    (h : wpStill Tryz.prog l.toArray w.drew (fun a' => wpList Tryz.prog l.toArray Q (l.drop n) a' w.drew) (l.take n) a) : (Code.region id l.toArray true).wp Tryz.prog Q a w :=
  wp_region_still_tail n (by kernel_rfl) hB h
end Go.Proofs.YtemdillhbnmjkaaGreatDoor
namespace Go.Proofs.YtemdillhbnmjkaaGreatDoor
open Go.RowKit

/-- Blocks of the types Ts apart, what was there in w is there in w'. -/
def TChg (Ts : List TypeId) (w w' : World) : Prop := Chg (fun k => ∃ c T, Blk w k c T ∧ T ∈ Ts) w w'

theorem TChg.refl (Ts : List TypeId) (w : World) : TChg Ts w w := Chg.refl _ w
theorem TChg.blk {Ts : List TypeId} {w w' : World} (h : TChg Ts w w') {k : Nat} {c : Array Value} {T : TypeId} (hb : Blk w k c T) (hT : T ∉ Ts) : Blk w' k c T := by
  refine hb.chg h ?_
  rintro ⟨c', T', h1, h2⟩
  exact hT ((hb.uniq h1).2 ▸ h2)
theorem TChg.trans {Ts : List TypeId} {a b c : World} (h : TChg Ts a b) (k : TChg Ts b c) : TChg Ts a c := by
  refine ⟨k.os.trans h.os, k.tape.trans h.tape, k.output.trans h.output, Nat.le_trans h.size k.size, fun i hi hs => ?_⟩
  have e := h.block i hi hs
  refine (k.block i (Nat.lt_of_lt_of_le hi h.size) ?_).trans e
  rintro ⟨c', T, h1, h2⟩
  exact hs ⟨c', T, e.symm.trans h1, h2⟩
theorem TChg.mono {Ts Ts' : List TypeId} {a b : World} (h : TChg Ts a b) (hs : ∀ T ∈ Ts, T ∈ Ts') : TChg Ts' a b :=
  Chg.mono h (by rintro k _ ⟨c, T, h1, h2⟩; exact ⟨c, T, h1, hs T h2⟩)
theorem TChg.no {Ts : List TypeId} {a b : World} (h : Chg No a b) : TChg Ts a b := Chg.mono h (fun _ _ h => h.elim)
/-- what is changed is of such a type, or is new -/
theorem TChg.then {Ts : List TypeId} {S : Nat → Prop} {w0 a b : World} (h : TChg Ts w0 a) (k : Chg S a b) (hs : ∀ k, S k → k < a.heap.size → w0.heap.size ≤ k ∨ ∃ c T, Blk a k c T ∧ T ∈ Ts) : TChg Ts w0 b := by
  refine ⟨k.os.trans h.os, k.tape.trans h.tape, k.output.trans h.output, Nat.le_trans h.size k.size, fun i hi hn => ?_⟩
  have e := h.block i hi hn
  refine (k.block i (Nat.lt_of_lt_of_le hi h.size) (fun hS => ?_)).trans e
  rcases hs i hS (Nat.lt_of_lt_of_le hi h.size) with h1 | ⟨c', T, h1, h2⟩
  · omega
  · exact hn ⟨c', T, e.symm.trans h1, h2⟩
theorem TChg.of {Ts : List TypeId} {S : Nat → Prop} {a b : World} (k : Chg S a b) (hs : ∀ k, S k → k < a.heap.size → ∃ c T, Blk a k c T ∧ T ∈ Ts) : TChg Ts a b :=
  (TChg.refl Ts a).then k (fun k h1 h2 => .inr (hs k h1 h2))
theorem TChg.setCell {Ts : List TypeId} {w0 a : World} (h : TChg Ts w0 a) {p : Addr} {c : Array Value} {T : TypeId} (hb : Blk a p.block c T) (hT : T ∈ Ts) (u : Value) : TChg Ts w0 (a.setCell p u) := by
  refine h.then (S := fun k => k = p.block) (by refine Chg.setCell (Chg.refl _ _) ?_ _; intro _; rfl) ?_
  rintro k rfl _
  exact .inr ⟨c, T, hb, hT⟩
theorem TChg.setNew {Ts : List TypeId} {w0 a : World} (h : TChg Ts w0 a) {p : Addr} (hp : w0.heap.size ≤ p.block) (u : Value) : TChg Ts w0 (a.setCell p u) :=
  h.then (S := fun k => k = p.block) (by refine Chg.setCell (Chg.refl _ _) ?_ _; intro _; rfl) (by rintro k rfl _; exact .inl hp)
theorem TChg.alloc {Ts : List TypeId} {w0 a : World} (h : TChg Ts w0 a) (o : Obj) : TChg Ts w0 (a.alloc o) := Chg.alloc h o
theorem TChg.drewN {Ts : List TypeId} {w0 a : World} (h : TChg Ts w0 a) (n : Nat) : TChg Ts w0 (a.drewN n) := Chg.drewN h n
theorem TChg.drew {Ts : List TypeId} {w0 a : World} (h : TChg Ts w0 a) : TChg Ts w0 a.drew := Chg.drew h
theorem TChg.hn {Ts : List TypeId} {w : World} {e : TypeId} (he : e ∉ Ts) : ∀ k, (∃ c T, Blk w k c T ∧ T ∈ Ts) → k < w.heap.size → ∃ c T, Blk w k c T ∧ T ≠ e := by
  rintro k ⟨c, T, h1, h2⟩ _
  exact ⟨c, T, h1, fun h => he (h ▸ h2)⟩
theorem TChg.own {Ts : List TypeId} {w w' : World} {e : TypeId} {size n : Nat} {v : Value} {xs : List Value} (hc : TChg Ts w w') (h : Own w e size v n xs) (he : e ∉ Ts) : Own w' e size v n xs :=
  h.chgT hc (TChg.hn he)
/-- a cell of a block that is kept -/
theorem Chg.kept {S : Nat → Prop} {w w' : World} (h : Chg S w w') {a : Addr} {v : Value} (hc : w.cell? a = some v) (hn : ¬ S a.block) : w'.cell? a = some v := by
  rw [World.cell?_of_block (h.block a.block (World.block_lt_of_cell? w a hc) hn)]; exact hc
end Go.Proofs.YtemdillhbnmjkaaGreatDoor
namespace Go.Proofs.YtemdillhbnmjkaaGreatDoor
open Go.RowKit Go.ChangeMaps Go.MapKept
open Go.Maps (Keyed)

/-- Block b is a map of at most n entries, its keys numbers; f tells what is at each. -/
structure MapI (w : World) (b n : Nat) (f : Int → Option Value) : Prop where
  mk' ::
  ex : ∃ (es : Array MapEntry) (clock : Nat), w.heap[b]? = some (.map es clock) ∧ es.size ≤ n ∧ (∀ x ∈ es.toList, ∃ a, x.key = .int .i64 a ∧ (Lit.int .i64 a).wf = true) ∧
    es.toList.Pairwise (fun x y => x.key ≠ y.key) ∧ ∀ a v, f a = some v ↔ ∃ x ∈ es.toList, x.key = .int .i64 a ∧ x.val = v

theorem MapI.lt {w : World} {b n : Nat} {f : Int → Option Value} (h : MapI w b n f) : b < w.heap.size := by
  obtain ⟨es, clock, h1, _⟩ := h.ex
  exact (Array.getElem?_eq_some_iff.1 h1).1
theorem MapI.chg {S : Nat → Prop} {w w' : World} {b n : Nat} {f : Int → Option Value} (h : MapI w b n f) (hc : Chg S w w') (hn : ¬ S b) : MapI w' b n f := by
  obtain ⟨es, clock, h1, h2⟩ := h.ex
  exact ⟨es, clock, (hc.block b h.lt hn).trans h1, h2⟩
theorem MapI.mono {w : World} {b n m : Nat} {f : Int → Option Value} (h : MapI w b n f) (hm : n ≤ m) : MapI w b m f := by
  obtain ⟨es, clock, h1, h2, h3⟩ := h.ex
  exact ⟨es, clock, h1, Nat.le_trans h2 hm, h3⟩
theorem MapI.not_cells {w : World} {b n : Nat} {f : Int → Option Value} (h : MapI w b n f) {c : Array Value} {T : TypeId} (hb : Blk w b c T) : False := by
  obtain ⟨es, clock, h1, _⟩ := h.ex
  unfold Blk at hb
  rw [h1] at hb
  cases hb
theorem MapI.made (w : World) {b : Nat} (hb : b = w.heap.size) : MapI (w.alloc (.map #[] 0)) b 0 (fun _ => none) := by
  subst hb
  refine ⟨#[], 0, ?_, Nat.le_refl _, by simp, by simp, by simp⟩
  show (w.heap.push _)[w.heap.size]? = _
  simp

section
variable {P : Program} {t k e : TypeId} {w : World} {b n : Nat} {f : Int → Option Value}

theorem MapI.look (h : MapI w b n f) (ht : P.underlying t = some (.map k e)) (hk : P.underlying k = some (.int .i64)) {z : Value} (hz : (zeroValue e).run P w = .ok z w) {a : Int} (ha : (Lit.int .i64 a).wf = true) :
    (Instr.lookup t (.map (some b)) (.int .i64 a) false).run P w = .ok ((f a).getD z) w := by
  obtain ⟨es, clock, hb, hs, hks, hd, hf⟩ := h.ex
  have K : Keyed P k := Go.Maps.int_keyed hk
  have hkey := Go.Maps.keyOf_int_mk (P := P) hk ha
  have hks' : ∀ x ∈ es.toList, ∃ l, keyOf P k x.key = some l := by
    intro x hx
    obtain ⟨a', e1, h1⟩ := hks x hx
    exact ⟨_, by rw [e1]; exact Go.Maps.keyOf_int_mk (P := P) hk h1⟩
  rcases K.find w hkey es.toList hks' with ⟨h1, h2⟩ | ⟨j, e0, h1, h2, h3⟩
  · have hnone : f a = none := by
      cases hfa : f a with
      | none => rfl
      | some v =>
        obtain ⟨x, hx, hx1, _⟩ := (hf a v).1 hfa
        exact absurd hx1 (h2 x hx)
    rw [hnone]
    simp [Instr.lookup, run_underlying ht, MapKept.run_getObj_map hb, K.check w _ hkey, h1, hz, Result.andThen]
  · have hsome : f a = some e0.val := (hf a e0.val).2 ⟨e0, List.mem_of_getElem? h2, h3, rfl⟩
    rw [hsome]
    simp [Instr.lookup, run_underlying ht, MapKept.run_getObj_map hb, K.check w _ hkey, h1, Result.andThen]

theorem MapI.put (h : MapI w b n f) (hn : n < maxLen) (ht : P.underlying t = some (.map k e)) (hk : P.underlying k = some (.int .i64)) {a : Int} (ha : (Lit.int .i64 a).wf = true) (v : Value) :
    ∃ w', (Instr.mapUpdate t (.map (some b)) (.int .i64 a) v).run P w = .ok () w' ∧ MapI w' b (n + 1) (fun x => if x = a then some v else f x) ∧ Chg (fun k => k = b) w w' ∧ w'.heap.size = w.heap.size := by
  obtain ⟨es, clock, hb, hs, hks, hd, hf⟩ := h.ex
  have K : Keyed P k := Go.Maps.int_keyed hk
  have hkey := Go.Maps.keyOf_int_mk (P := P) hk ha
  have hks' : ∀ x ∈ es.toList, ∃ l, keyOf P k x.key = some l := by
    intro x hx
    obtain ⟨a', e1, h1⟩ := hks x hx
    exact ⟨_, by rw [e1]; exact Go.Maps.keyOf_int_mk (P := P) hk h1⟩
  have hch : ∀ o, Chg (fun k => k = b) w (setBlock w b o) := fun o =>
    ⟨rfl, rfl, rfl, by simp [setBlock], fun i _ hi => heap_setBlock_other hb _ hi⟩
  have hsz : ∀ o, (setBlock w b o).heap.size = w.heap.size := fun o => by simp [setBlock]
  rcases K.find w hkey es.toList hks' with ⟨h1, h2⟩ | ⟨j, e0, h1, h2, h3⟩
  · refine ⟨setBlock w b (.map (es.push ⟨.int .i64 a, v, clock⟩) (clock + 1)), ?_, ⟨es.push ⟨.int .i64 a, v, clock⟩, clock + 1, heap_setBlock_same hb _, by simpa using hs, ?_, ?_, ?_⟩, hch _, hsz _⟩
    · have hlt : es.size < maxLen := Nat.lt_of_le_of_lt hs hn
      simp [Instr.mapUpdate, run_underlying ht, MapKept.run_getObj_map hb, K.check w false hkey, h1, MapKept.run_setObj_map _ hb, Result.andThen, setBlock]
    · intro x hx
      simp only [Array.toList_push, List.mem_append, List.mem_singleton] at hx
      rcases hx with hx | rfl
      · exact hks x hx
      · exact ⟨a, rfl, ha⟩
    · rw [Array.toList_push, List.pairwise_append]
      refine ⟨hd, by simp, ?_⟩
      intro x hx y hy
      simp at hy
      subst hy
      exact h2 x hx
    · intro a' v'
      simp only [Array.toList_push, List.mem_append, List.mem_singleton]
      by_cases he : a' = a
      · subst he
        rw [if_pos rfl]
        constructor
        · intro hv
          cases hv
          exact ⟨_, .inr rfl, rfl, rfl⟩
        · rintro ⟨x, hx | rfl, hx1, hx2⟩
          · exact absurd hx1 (h2 x hx)
          · rw [← hx2]
      · rw [if_neg he, hf]
        constructor
        · rintro ⟨x, hx, hx1⟩
          exact ⟨x, .inl hx, hx1⟩
        · rintro ⟨x, hx | rfl, hx1, hx2⟩
          · exact ⟨x, hx, hx1, hx2⟩
          · simp at hx1
            exact absurd hx1.symm he
  · have hj : es[j]? = some e0 := by simpa using h2
    have hjl : j < es.toList.length := (List.getElem?_eq_some_iff.1 h2).1
    have hlist : (es.modify j (fun e' => { e' with key := .int .i64 a, val := v })).toList = es.toList.set j { e0 with key := .int .i64 a, val := v } := by rw [Array.toList_modify, modify_eq_set _ _ _ _ h2]
    have hother : ∀ (i : Nat) x, es.toList[i]? = some x → i ≠ j → x.key ≠ .int .i64 a := by
      intro i x hi hne hx
      obtain ⟨hil, hix⟩ := List.getElem?_eq_some_iff.1 hi
      obtain ⟨hjl', hjx⟩ := List.getElem?_eq_some_iff.1 h2
      rw [List.pairwise_iff_getElem] at hd
      rcases Nat.lt_or_gt_of_ne hne with hlt | hlt
      · exact hd i j hil hjl' hlt (by rw [hix, hjx, hx, h3])
      · exact hd j i hjl' hil hlt (by rw [hix, hjx, hx, h3])
    refine ⟨setBlock w b (.map (es.modify j (fun e' => { e' with key := .int .i64 a, val := v })) clock), ?_, ⟨_, clock, heap_setBlock_same hb _, by simpa using Nat.le_succ_of_le hs, ?_, ?_, ?_⟩, hch _, hsz _⟩
    · simp [Instr.mapUpdate, run_underlying ht, MapKept.run_getObj_map hb, K.check w false hkey, h1, hj, h3, K.stays w hkey, MapKept.run_setObj_map _ hb, Result.andThen, setBlock]
    · intro x hx
      rw [hlist] at hx
      rcases List.mem_or_eq_of_mem_set hx with hx | rfl
      · exact hks x hx
      · exact ⟨a, rfl, ha⟩
    · rw [hlist, List.pairwise_iff_getElem]
      intro i l hi hl hil
      rw [List.length_set] at hi hl
      rw [List.getElem_set, List.getElem_set]
      have gi := List.getElem?_eq_getElem hi
      have gl := List.getElem?_eq_getElem hl
      split
      · rename_i h5
        rw [if_neg (by omega)]
        exact fun h6 => hother l _ gl (by omega) h6.symm
      · split
        · exact fun h6 => hother i _ gi (by omega) h6
        · exact (List.pairwise_iff_getElem.1 hd) i l hi hl hil
    · intro a' v'
      rw [hlist]
      by_cases he : a' = a
      · subst he
        rw [if_pos rfl]
        constructor
        · intro hv
          cases hv
          exact ⟨_, List.mem_set hjl _, rfl, rfl⟩
        · rintro ⟨x, hx, hx1, hx2⟩
          obtain ⟨i, hi⟩ := List.getElem?_of_mem hx
          rw [List.getElem?_set] at hi
          split at hi
          · simp at hi
            rw [← hx2, ← hi]
          · rename_i hne
            exact absurd hx1 (hother i x hi (fun e => hne e.symm))
      · rw [if_neg he, hf]
        constructor
        · rintro ⟨x, hx, hx1, hx2⟩
          obtain ⟨i, hi⟩ := List.getElem?_of_mem hx
          have hne : i ≠ j := by
            rintro rfl
            rw [h2] at hi
            cases hi
            rw [h3] at hx1
            simp at hx1
            exact he hx1.symm
          exact ⟨x, List.mem_of_getElem? (i := i) (by rw [List.getElem?_set_ne (Ne.symm hne)]; exact hi), hx1, hx2⟩
        · rintro ⟨x, hx, hx1, hx2⟩
          rcases List.mem_or_eq_of_mem_set hx with hx | rfl
          · exact ⟨x, hx, hx1, hx2⟩
          · simp at hx1
            exact absurd hx1.symm he
end
end Go.Proofs.YtemdillhbnmjkaaGreatDoor

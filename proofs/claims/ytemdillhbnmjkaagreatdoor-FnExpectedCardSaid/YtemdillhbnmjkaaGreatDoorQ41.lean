/- What came in: a grammar's reading of the argument, and what leaves the arguments as they were. -/
import Derived.Test.YtemdillhbnmjkaaGreatDoorQ40
import Derived.Test.YtemdillhbnmjkaaGreatDoorRows
import Derived.ProofKit
import Derived.LaidMore
import Derived.OpenShut
import Derived.Stop.Joined
import Derived.ChangeSame
import Derived.Below
import Derived.Carry
import Derived.Deep.Slices
namespace Go.Proofs.YtemdillhbnmjkaaGreatDoor
open Go.ChangeShapes Go.WideShapes Go.ChangeAt Go.RowKit

section
variable {H : Type} {enc : TypeId × Value → H}
theorem choose_pts {α : Type} {n : Nat} {p : Nat → α → Prop} (h : ∀ i, i < n → ∃ x, p i x) : ∃ ys : List α, ys.length = n ∧ ∀ i y, ys[i]? = some y → p i y := by
  induction n with
  | zero => exact ⟨[], rfl, fun i y hi => by simp at hi⟩
  | succ n ih =>
    obtain ⟨ys, h1, h2⟩ := ih (fun i hi => h i (by omega))
    obtain ⟨x, hx⟩ := h n (by omega)
    refine ⟨ys ++ [x], by simp [h1], fun i y hi => ?_⟩
    rcases Nat.lt_or_ge i ys.length with h3 | h3
    · rw [List.getElem?_append_left h3] at hi
      exact h2 i y hi
    · rw [List.getElem?_append_right h3] at hi
      rcases Nat.lt_or_ge 0 (i - ys.length) with h4 | h4
      · rw [List.getElem?_eq_none (by simp; omega)] at hi
        cases hi
      · have h5 : i = n := by omega
        subst h5
        rw [show i - ys.length = 0 by omega] at hi
        simp at hi
        subst hi
        exact hx
theorem spot_none {w : World} {a : Addr} {v : Value} (h : w.cell? a = some v) : a.spot = none := by
  unfold World.cell? at h
  split at h
  · split at h
    · cases h
    · rename_i h1
      cases hs : a.spot with
      | none => rfl
      | some _ => simp [hs] at h1
  · cases h
theorem open_rd {α : Type} {R : World → Value → α → Prop} {Q : α → Prop} {w : World} {t e : TypeId} {fuel : Nat} {v : Value} {x : DataW H × List MemPlace} (ht : Tryz.prog.underlying t = some (.slice e)) (hc : Tryz.prog.cellsOf e = 1)
    (h : DataW.trod enc Tryz.prog w 0 (fun _ => true) true fuel t [v] = some x)
    (hel : ∀ n u d pl, DataW.trod enc Tryz.prog w 0 (fun _ => true) true n e [u] = some (d, pl) → ∃ y, R w u y ∧ Q y) : ∃ ys, RdL R w v ys ∧ ys.length ≤ maxLen ∧ ∀ y ∈ ys, Q y := by
  rcases Deep.open_slice1 ht hc h with ⟨hv, _⟩ | ⟨a, len, cap, m, n, V, D, Pl, hv, _, hl, hm, hmm, _, hx⟩
  · simp at hv
    subst hv
    exact ⟨[], ⟨[], ⟨none, 0, rfl, fun j u hj => by simp at hj⟩, rfl, fun i u x hi => by simp at hi⟩, by simp, fun y hy => by cases hy⟩
  · simp at hv hmm
    subst hv
    subst hmm
    obtain ⟨ys, h1, h2⟩ := choose_pts (n := len) (p := fun i (y : α) => R w (V i) y ∧ Q y) (fun i hi => hel n (V i) (D i) (Pl i) (hx i (by omega)).2)
    refine ⟨ys, ⟨(List.range len).map V, ⟨some a, m, by simp, fun j u hj => ?_⟩, by simp [h1], fun i u x hu hx' => ?_⟩, by omega, fun y hy => ?_⟩
    · have hjl := (List.getElem?_eq_some_iff.1 hj).1
      simp at hjl
      simp [hjl] at hj
      have h3 := (hx j (by omega)).1
      have h4 := spot_none (hx 0 (by omega)).1
      obtain ⟨b, o, s⟩ := a
      simp [Addr.add] at h4
      subst h4
      refine ⟨b, o, rfl, ?_⟩
      rw [← hj]
      by_cases h5 : j = 0
      · subst h5
        simpa [Addr.add] using h3
      · simpa [Addr.add, h5] using h3
    · have hil := (List.getElem?_eq_some_iff.1 hu).1
      simp at hil
      simp [hil] at hu
      rw [← hu]
      exact (h2 i x hx').1
    · obtain ⟨i, hi, he⟩ := List.getElem_of_mem hy
      exact (h2 i y (by rw [← he]; exact List.getElem?_eq_getElem hi)).2
theorem cells57 : Tryz.prog.cellsOf 57 = 1 := by kernel_rfl
theorem cells36 : Tryz.prog.cellsOf 36 = 1 := by kernel_rfl
theorem cells3 : Tryz.prog.cellsOf 3 = 1 := by kernel_rfl
theorem wf_in {n : Int} (h : (Lit.int .i64 n).wf = true) : InI n := by
  have h1 : IntKind.i64.min = -9223372036854775808 := by decide +kernel
  have h2 : IntKind.i64.max = 9223372036854775807 := by decide +kernel
  simp only [Lit.wf, Bool.and_eq_true, decide_eq_true_eq, h1, h2] at h
  exact h
set_option maxRecDepth 100000 in
theorem open_in3 {w : World} {v : Value} {d : DataW H} {p : List MemPlace} {r : Reach} {b0 : Nat} (hval : Value.okWide Tryz.prog w r b0 22 v) (h : DataW.Trod enc Tryz.prog w 0 (fun _ => true) true 22 v d p) : ∃ g, In3 w v g := by
  obtain ⟨A, l, c, rfl⟩ := okWide_slice Tryz.underlying22 hval
  obtain ⟨fuel, h⟩ := h
  have h' : DataW.trod enc Tryz.prog w 0 (fun _ => true) true fuel 22 [.slice A l c] = some (d, p) := h
  have s1 : ∀ n u d pl, DataW.trod enc Tryz.prog w 0 (fun _ => true) true n 3 [u] = some (d, pl) → ∃ y, Rd0 w u y ∧ InI y := by
    intro n u d pl hu
    obtain ⟨k, e1, _, e3⟩ := DataW.trod_int Tryz.underlying3 hu
    simp at e1
    exact ⟨k, e1, wf_in e3⟩
  have s2 : ∀ n u d pl, DataW.trod enc Tryz.prog w 0 (fun _ => true) true n 36 [u] = some (d, pl) → ∃ y, Rd1 w u y ∧ ∀ s ∈ y, InI s := by
    intro n u d pl hu
    obtain ⟨ys, e1, _, e3⟩ := open_rd Tryz.underlying36 cells3 hu s1
    exact ⟨ys, e1, e3⟩
  have s3 : ∀ n u d pl, DataW.trod enc Tryz.prog w 0 (fun _ => true) true n 57 [u] = some (d, pl) → ∃ y, Rd2 w u y ∧ (y.length ≤ maxLen ∧ ∀ z ∈ y, ∀ s ∈ z, InI s) := by
    intro n u d pl hu
    obtain ⟨ys, e1, e2, e3⟩ := open_rd Tryz.underlying57 cells36 hu s2
    exact ⟨ys, e1, e2, e3⟩
  obtain ⟨g, e1, e2, e3⟩ := open_rd Tryz.underlying22 cells57 h' s3
  exact ⟨g, e1, e2, fun u hu => (e3 u hu).1, fun a ha => (e3 a ha).2⟩
theorem post_of_below {P : Program} {f : Func} {s : ChangeSpec} {apart fresh handsOn again : Bool} {W W' : World} {args : Array Value} {v : Value} {ds gs : List (DataW H)} {before pa pv : List MemPlace}
    (hW : DataW.Whole enc P f.params.toList s.vars apart W args.toList ds gs before)
    (hres : ∀ (b : Nat) (sp : Nat → Bool) (hd : Bool), DataW.TrodAll enc P W' b sp hd f.resultTypes.toList (v.resultList f.resultTypes.size) (s.fn H (ds ++ gs)).results [])
    (hargs : ∀ sp : Nat → Bool, (∀ p ∈ before, sp p.block = true) → DataW.TrodAll enc P W' 0 sp true f.params.toList args.toList (s.fn H (ds ++ gs)).args pa)
    (hvars : ∀ sp : Nat → Bool, (∀ p ∈ before, sp p.block = true) → DataW.TrodVars enc P W' sp s.vars (s.fn H (ds ++ gs)).vars pv)
    (hps : before = pa ++ pv) (hb : Below W.heap.size W W')
    (hok : ∀ (j : Nat) (t : TypeId) (r : Value), f.resultTypes[j]? = some t → (v.resultList f.resultTypes.size)[j]? = some r → Value.okWide P W' .any 0 t r) :
    s.post enc P f apart fresh handsOn again W args v W' := by
  have hlt : ∀ p ∈ before, p.block < W.heap.size := fun p hp => hW.lt p hp
  have hold : ∀ p ∈ before, (fun b => decide (b < W.heap.size)) p.block = true := fun p hp => by simpa using hlt p hp
  refine ⟨ds, gs, before, [], pa, pv, hW, hres _ _ _, hargs _ hold, hvars _ hold, World.keptBut_mono (fun p hp => ⟨hp, ?_⟩) (hb.frame (· ∈ before)), fun _ => ?_⟩
  · rw [hps, List.mem_append] at hp
    exact Or.inr hp
  · obtain ⟨_, _, _, _, _, hz, hn⟩ := hW
    refine ⟨hok, _, _, ([] ++ pa) ++ pv, ⟨[] ++ pa, pv, trodAll_append (hargs _ (fun _ _ => rfl)) (hres _ _ _), hvars _ (fun _ _ => rfl), rfl, ?_, ?_⟩, ?_⟩
    · intro b off hp
      have hin : MemPlace.cell b off ∈ before := by rw [hps]; simpa using hp
      rw [hb.frozen (hlt _ hin)]
      exact hz b off hin
    · intro ha
      have := hn ha
      rw [hps] at this
      simpa using this
    · intro p hp _
      rw [hps]
      simpa using hp
end
theorem ownNone : ownKnob Tryz.prog.godebug = none := by kernel_rfl
theorem laidOut : laidOutB Tryz.prog = true := by kernel_rfl
end Go.Proofs.YtemdillhbnmjkaaGreatDoor

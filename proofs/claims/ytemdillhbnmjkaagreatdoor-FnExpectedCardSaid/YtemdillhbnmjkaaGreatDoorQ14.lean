/- Serializing: numbers are put behind others. -/
import Derived.Test.YtemdillhbnmjkaaGreatDoorQ04
namespace Go.Proofs.YtemdillhbnmjkaaGreatDoor
open Go.RowKit

/-- v is a slice of the whole numbers xs -/
def RI (w : World) (v : Value) (xs : List Int) : Prop :=
  (xs = [] ∧ ∃ A c, v = .slice A 0 c) ∨ ∃ (b c : Nat) (cs : Array Value), v = .slice (some ⟨b, 0, none⟩) xs.length c ∧ Blk w b cs 3 ∧ ∀ (j : Nat) (x : Int), xs[j]? = some x → cs[j]? = some (.int .i64 x)
theorem RI.slice {w : World} {v : Value} {xs : List Int} (h : RI w v xs) : ∃ A c, v = .slice A xs.length c := by
  rcases h with ⟨rfl, A, c, h⟩ | ⟨b, c, cs, h, _⟩
  · exact ⟨A, c, h⟩
  · exact ⟨_, c, h⟩
theorem RI.at_ {w : World} {A : Option Addr} {n c : Nat} {xs : List Int} (h : RI w (.slice A n c) xs) {j : Nat} {x : Int} (hj : xs[j]? = some x) : ∃ b, A = some ⟨b, 0, none⟩ ∧ w.cell? ⟨b, j, none⟩ = some (.int .i64 x) := by
  rcases h with ⟨rfl, A, c, h⟩ | ⟨b, c, cs, h, h2, h3⟩
  · simp at hj
  · cases h
    exact ⟨b, rfl, by rw [h2.cell]; exact h3 j x hj⟩
theorem RI.chgT {S : Nat → Prop} {w w' : World} {v : Value} {xs : List Int} (h : RI w v xs) (hc : Chg S w w') (hn : ∀ k, S k → k < w.heap.size → ∃ c T, Blk w k c T ∧ T ≠ 3) : RI w' v xs := by
  rcases h with h | ⟨b, c, cs, h, h2, h3⟩
  · exact .inl h
  · refine .inr ⟨b, c, cs, h, h2.chg hc (fun hS => ?_), h3⟩
    obtain ⟨c', T, h4, h5⟩ := hn b hS h2.lt
    exact h2.ne h4 (Ne.symm h5) rfl

theorem RI.tchg {Ts : List TypeId} {w w' : World} {v : Value} {xs : List Int} (h : RI w v xs) (hc : TChg Ts w w') (h3 : (3 : TypeId) ∉ Ts) : RI w' v xs := h.chgT hc (TChg.hn h3)

/-- behind the pointer q: the numbers us that were put, in memory that is new since w0 -/
structure Out (w0 w : World) (q : Nat) (us : List Int) : Prop where
  mk' ::
  ex : ∃ v, Blk w q #[v] 134 ∧ Own w 21 1 v us.length (us.map fun x => .int .i32 x) ∧ (∀ k, v.ownBlock = some k → w0.heap.size ≤ k)
  chg : Chg No w0 w
  new : w0.heap.size ≤ q

theorem Out.no {w0 w w' : World} {q : Nat} {us : List Int} (h : Out w0 w q us) (hc : Chg No w w') : Out w0 w' q us := by
  obtain ⟨v, h1, h2, h3⟩ := h.ex
  exact ⟨⟨v, h1.chg hc (fun h => h), h2.no hc, h3⟩, h.chg.trans hc, h.new⟩

theorem et134 : ET 134 21 (.int .i32 0) 1 4 := ⟨by kernel_rfl, by kernel_rfl, rfl, by decide⟩

set_option maxHeartbeats 1000000 in
set_option maxRecDepth 100000 in
theorem put_any (w0 w : World) (q : Nat) (us xs : List Int) (v : Value) (h : Out w0 w q us) (hv : RI w v xs) (hlen : us.length + xs.length < 100000) (hb : ∀ x ∈ xs, -2147483648 ≤ x ∧ x ≤ 2147483647) :
    Calls Tryz.prog 56 #[v, .pointer (some ⟨q, 0, none⟩)] w fun e w' => e = .returned (.tuple #[]) ∧ Out w0 w' q (us ++ xs) ∧ TChg [134, 21] w w' := by
  obtain ⟨A, c, rfl⟩ := hv.slice
  have HB := Lib.hid hb
  clear hb
  go_enter Tryz.func56, Tryz.ntmps56
  go_wp2
  go_loopw [7] (fun x wr => ∃ j : Nat, j ≤ xs.length ∧ x = .int .i64 (j : Int) ∧ Out w0 wr q (us ++ xs.take j) ∧ TChg [134, 21] w wr) (fun x _ => xs.length - (intOf x).toNat)
  case atStart => exact ⟨0, Nat.zero_le _, rfl, by simpa using h, TChg.refl _ _⟩
  case round =>
    obtain ⟨j, hj, rfl, ho, hkp⟩ := hrel
    clear h
    by_cases hlt : j < xs.length
    · obtain ⟨x, hx⟩ : ∃ x, xs[j]? = some x := ⟨_, List.getElem?_eq_getElem hlt⟩
      obtain ⟨b, rfl, cx⟩ := RI.at_ (hv.tchg hkp (by decide)) hx
      obtain ⟨b1, b2⟩ := HB.out x (List.mem_of_getElem? hx)
      obtain ⟨v, hq, how, hown⟩ := ho.ex
      have hlen' : (us ++ xs.take j).length = us.length + j := by simp; omega
      rw [hlen'] at how
      have cq : wr.cell? ⟨q, 0, none⟩ = some v := by rw [hq.cell]; rfl
      have fq := hq.fz 0
      have lq := hq.lt
      obtain ⟨A', c', rfl⟩ := Own.slice how
      have htake : us ++ xs.take (j + 1) = (us ++ xs.take j) ++ [x] := by rw [List.take_add_one, hx]; simp
      have Ho := Lib.hid ho
      have How := Lib.hid how
      have Hq := Lib.hid hq
      have Hkp := Lib.hid hkp
      have Hx := Lib.hid hx
      clear ho how hq hkp hx
      go_wp2_with (first | (at_builtin; refine wp_app et134 rfl _ _ rfl (.slice A' (us.length + j) c') (us.length + j) ((us ++ xs.take j).map fun x => .int .i32 x) rfl ?c1 _ rfl [.int .i32 x] ?c2 rfl ?c3 ?c4 ?c5 ?c6))
      case c1 => exact Own.chg How.out ((Chg.refl No wr).alloc _) (fun _ _ h => h)
      case c2 => exact Blk.at_new (by simp) _ _
      case c3 => simp [Value.oneCell']
      case c4 => omega
      case c5 => omega
      case c6 =>
        intro g2 c2 w4 hown4 hgr hloc
        have how1 := (Own.chg How.out ((Chg.refl No wr).alloc (.cells #[.int .i32 x] 21)) (fun _ _ h => h))
        have hqk : (Value.slice A' (us.length + j) c').ownBlock ≠ some q := How.out.ne Hq.out (by decide)
        have hq4 := (Hq.out.alloc (.cells #[.int .i32 x] 21)).chg (Chg.grownBy hgr) (fun e => hqk e.symm)
        have cq : w4.cell? ⟨q, 0, none⟩ = some (.slice A' (us.length + j) c') := by rw [hq4.cell]; rfl
        have fq := hq4.fz 0
        have hch : Chg (fun k => k = q ∨ (Value.slice A' (us.length + j) c').ownBlock = some k) wr (w4.setCell ⟨q, 0, none⟩ (.slice (some ⟨g2, 0, none⟩) (us.length + j + 1) c2)) :=
          (Chg.grown ((Chg.refl _ wr).alloc _) hgr (fun k h _ => .inr h)).setCell (fun _ => .inl rfl) _
        have hT : ∀ k, (k = q ∨ (Value.slice A' (us.length + j) c').ownBlock = some k) → k < wr.heap.size → ∃ c T, Blk wr k c T ∧ (T = 134 ∨ T = 21) := by
          rintro k (rfl | hk) _
          · exact ⟨_, _, Hq.out, .inl rfl⟩
          · obtain ⟨cc, hcc⟩ := Own.own How.out hk
            exact ⟨_, _, hcc, .inr rfl⟩
        have hfin : Out w0 (w4.setCell ⟨q, 0, none⟩ (.slice (some ⟨g2, 0, none⟩) (us.length + j + 1) c2)) q (us ++ xs.take (j + 1)) := by
          refine ⟨⟨.slice (some ⟨g2, 0, none⟩) (us.length + j + 1) c2, ?_, ?_, ?_⟩, Ho.out.chg.then hch ?_, Ho.out.new⟩
          · exact hq4.set 0 _
          · have e1 : (us ++ xs.take (j + 1)).length = us.length + j + 1 := by simp; omega
            rw [e1]
            have hown5 : Own w4 21 1 (.slice (some ⟨g2, 0, none⟩) (us.length + j + 1) c2) (us.length + j + 1) ((us ++ xs.take (j + 1)).map fun x => .int .i32 x) := by rw [htake]; simpa using hown4
            exact Own.chg hown5 (S := fun k => k = q) (by refine Chg.setCell (Chg.refl _ _) ?_ _; intro _; rfl) (fun k hk hS => by subst hS; exact Own.ne hown4 hq4 (by decide) hk)
          · intro k hk
            simp [Value.ownBlock] at hk
            subst hk
            rcases hloc with h | h
            · exact hown _ h
            · have := Ho.out.chg.size; omega
          · rintro k hk (rfl | hk')
            · have := Ho.out.new; omega
            · have := hown _ hk'; omega
        have hfin2 : TChg [134, 21] w (w4.setCell ⟨q, 0, none⟩ (.slice (some ⟨g2, 0, none⟩) (us.length + j + 1) c2)) :=
          Hkp.out.then hch (fun k h1 h2 => by obtain ⟨c, T, h3, h4⟩ := hT k h1 h2; exact .inr ⟨c, T, h3, by rcases h4 with rfl | rfl <;> decide⟩)
        have HF := Lib.hid (And.intro hfin hfin2)
        clear hfin hfin2 hch hT hown4 hgr hloc hq4 how1 hqk
        go_wp2
        go_roundw
        case rel => exact ⟨j + 1, by omega, by go_num, HF.out.1, HF.out.2⟩
        case measure => simp [intOf]; omega
    · obtain rfl : j = xs.length := by omega
      rw [List.take_length] at ho
      go_wp2
      go_end0
      exact ⟨rfl, ho, hkp⟩
end Go.Proofs.YtemdillhbnmjkaaGreatDoor

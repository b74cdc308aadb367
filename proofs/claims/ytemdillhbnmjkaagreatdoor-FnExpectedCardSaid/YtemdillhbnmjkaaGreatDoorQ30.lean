/- Whether something is stated of a grammar: its first rule (8). -/
import Derived.Test.YtemdillhbnmjkaaGreatDoorQ29
import Derived.Test.YtemdillhbnmjkaaGreatDoorQ17
import Derived.Test.YtemdillhbnmjkaaGreatDoorQ03
namespace Go.Proofs.YtemdillhbnmjkaaGreatDoor
open Go.RowKit

theorem of_one (w : World) : Calls Tryz.prog 21 #[.int .i64 1] w fun e w' => e = .returned (.int .i64 (-101)) ∧ w = w' := by
  go_enter Tryz.func21, Tryz.ntmps21
  go_wp2
  go_ret
  exact ⟨rfl, rfl⟩

/-- it returns false -/
def No2 (w : World) (e : Ending) (w' : World) : Prop := e = .returned (.bool false) ∧ Chg No w w'

set_option maxHeartbeats 1000000 in
set_option maxRecDepth 100000 in
theorem good_short (w : World) (v : Value) (g : Pl.Gr) (hv : Rd3 w v g) (h : g.length < 2) : Calls Tryz.prog 8 #[v] w (No2 w) := by
  obtain ⟨A, c, rfl⟩ := hv.slice
  have h1 : decide ((g.length : Int) < 2) = true := decide_eq_true (by omega)
  clear hv h
  go_enter Tryz.func8, Tryz.ntmps8
  go_wp2
  go_quiet (fail)
  go_wp2
  go_ret
  exact ⟨rfl, (Chg.refl No w).drewN _⟩
set_option maxHeartbeats 1000000 in
set_option maxRecDepth 100000 in
theorem good_long (w : World) (v : Value) (g : Pl.Gr) (hv : Rd3 w v g) (h : 6 < g.length) (hm : g.length ≤ 2147483647) : Calls Tryz.prog 8 #[v] w (No2 w) := by
  obtain ⟨A, c, rfl⟩ := hv.slice
  have h1 : decide ((g.length : Int) < 2) = false := decide_eq_false (by omega)
  have h2 : decide (6 < (g.length : Int)) = true := decide_eq_true (by omega)
  clear hv h
  go_enter Tryz.func8, Tryz.ntmps8
  go_wp2
  go_quiet (fail)
  go_wp2
  go_ret
  exact ⟨rfl, (Chg.refl No w).drewN _⟩
theorem rd_addr {b o : Nat} {w : World} {v : Value} (h : w.cell? ⟨b, o + 0, none⟩ = some v) : w.cell? ⟨b, o, none⟩ = some v := h
set_option maxHeartbeats 1000000 in
set_option maxRecDepth 100000 in
theorem good_alts (w : World) (v : Value) (g : Pl.Gr) (hv : Rd3 w v g) (hg2 : 2 ≤ g.length) (hg6 : g.length ≤ 6) (alts : List (List Int)) (h0 : g[0]? = some alts) (h : alts.length ≠ 1) (_ : alts.length ≤ 2147483647) : Calls Tryz.prog 8 #[v] w (No2 w) := by
  obtain ⟨A, c, rfl⟩ := hv.slice
  obtain ⟨b, o, A1, c1, rfl, e1, r1⟩ := Rd3.at_ hv h0
  have k1 := fun n => show (w.drewN n).cell? ⟨b, o, none⟩ = _ from e1
  have h1 : decide ((g.length : Int) < 2) = false := decide_eq_false (by omega)
  have h2 : decide (6 < (g.length : Int)) = false := decide_eq_false (by omega)
  have h3 : ((alts.length : Int) != 1) = true := by simpa using (by omega : ¬ (alts.length : Int) = 1)
  have h4 : 0 < g.length := by omega
  clear hv h r1 e1
  go_enter Tryz.func8, Tryz.ntmps8
  go_wp2
  go_quiet (fail)
  go_wp2
  go_ret
  exact ⟨rfl, (Chg.refl No w).drewN _⟩
set_option maxHeartbeats 1000000 in
set_option maxRecDepth 100000 in
theorem good_alt (w : World) (v : Value) (g : Pl.Gr) (hv : Rd3 w v g) (hg2 : 2 ≤ g.length) (hg6 : g.length ≤ 6) (alt : List Int) (h0 : g[0]? = some [alt]) (h : alt.length ≠ 2) (_ : alt.length ≤ 2147483647) : Calls Tryz.prog 8 #[v] w (No2 w) := by
  obtain ⟨A, c, rfl⟩ := hv.slice
  obtain ⟨b, o, A1, c1, rfl, e1, r1⟩ := Rd3.at_ hv h0
  obtain ⟨b2, o2, A2, c2, rfl, e2, r2⟩ := Rd2.at_ r1 (i := 0) (x := alt) rfl
  have k1 := fun n => show (w.drewN n).cell? ⟨b, o, none⟩ = _ from e1
  have k2 := fun n => show (w.drewN n).cell? ⟨b2, o2, none⟩ = _ from e2
  have h1 : decide ((g.length : Int) < 2) = false := decide_eq_false (by omega)
  have h2 : decide (6 < (g.length : Int)) = false := decide_eq_false (by omega)
  have h3 : ((alt.length : Int) != 2) = true := by simpa using (by omega : ¬ (alt.length : Int) = 2)
  have h4 : 0 < g.length := by omega
  simp only [List.length_cons, List.length_nil, Nat.zero_add] at k1
  clear hv h r1 e1 r2 e2
  go_enter Tryz.func8, Tryz.ntmps8
  go_wp2
  go_quiet (fail)
  go_wp2
  go_ret
  exact ⟨rfl, (Chg.refl No w).drewN _⟩
set_option maxHeartbeats 1000000 in
set_option maxRecDepth 100000 in
theorem good_sym0 (w : World) (v : Value) (g : Pl.Gr) (hv : Rd3 w v g) (hg2 : 2 ≤ g.length) (hg6 : g.length ≤ 6) (x y : Int) (h0 : g[0]? = some [[x, y]]) (h : x ≠ -101) : Calls Tryz.prog 8 #[v] w (No2 w) := by
  obtain ⟨A, c, rfl⟩ := hv.slice
  obtain ⟨b, o, A1, c1, rfl, e1, r1⟩ := Rd3.at_ hv h0
  obtain ⟨b2, o2, A2, c2, rfl, e2, r2⟩ := Rd2.at_ r1 (i := 0) (x := [x, y]) rfl
  obtain ⟨b3, o3, rfl, e3⟩ := Rd1.at_ r2 (i := 0) (x := x) rfl
  have k1 := fun n => show (w.drewN n).cell? ⟨b, o, none⟩ = _ from e1
  have k2 := fun n => show (w.drewN n).cell? ⟨b2, o2, none⟩ = _ from e2
  have k3 := fun n => show (w.drewN n).cell? ⟨b3, o3, none⟩ = _ from e3
  have h1 : decide ((g.length : Int) < 2) = false := decide_eq_false (by omega)
  have h2 : decide (6 < (g.length : Int)) = false := decide_eq_false (by omega)
  have h3 : (x != -101) = true := by simpa using h
  have h4 : 0 < g.length := by omega
  simp only [List.length_cons, List.length_nil, Nat.zero_add, Nat.reduceAdd] at k1 k2
  clear hv h r1 e1 r2 e2 e3
  go_enter Tryz.func8, Tryz.ntmps8
  go_wp2
  go_quiet ((go_at_call 21; exact qof (of_one _)))
  go_wp2
  go_ret
  exact ⟨rfl, (Chg.refl No w).drewN _⟩
set_option maxHeartbeats 1000000 in
set_option maxRecDepth 100000 in
theorem good_sym1 (w : World) (v : Value) (g : Pl.Gr) (hv : Rd3 w v g) (hg2 : 2 ≤ g.length) (hg6 : g.length ≤ 6) (y : Int) (h0 : g[0]? = some [[-101, y]]) (h : y ≠ -1) : Calls Tryz.prog 8 #[v] w (No2 w) := by
  obtain ⟨A, c, rfl⟩ := hv.slice
  obtain ⟨b, o, A1, c1, rfl, e1, r1⟩ := Rd3.at_ hv h0
  obtain ⟨b2, o2, A2, c2, rfl, e2, r2⟩ := Rd2.at_ r1 (i := 0) (x := [-101, y]) rfl
  obtain ⟨b3, o3, hA, e3⟩ := Rd1.at_ r2 (i := 0) (x := -101) rfl
  obtain ⟨b4, o4, hA', e4⟩ := Rd1.at_ r2 (i := 1) (x := y) rfl
  rw [hA] at hA'
  cases hA'
  subst hA
  have k1 := fun n => show (w.drewN n).cell? ⟨b, o, none⟩ = _ from e1
  have k2 := fun n => show (w.drewN n).cell? ⟨b2, o2, none⟩ = _ from e2
  have k3 := fun n => show (w.drewN n).cell? ⟨b3, o3, none⟩ = _ from e3
  have k4 := fun n => show (w.drewN n).cell? ⟨b3, o3 + 1, none⟩ = _ from e4
  have h1 : decide ((g.length : Int) < 2) = false := decide_eq_false (by omega)
  have h2 : decide (6 < (g.length : Int)) = false := decide_eq_false (by omega)
  have h3 : (y != -1) = true := by simpa using h
  have h4 : 0 < g.length := by omega
  simp only [List.length_cons, List.length_nil, Nat.zero_add, Nat.reduceAdd] at k1 k2
  clear hv h r1 e1 r2 e2 e3 e4
  go_enter Tryz.func8, Tryz.ntmps8
  go_wp2
  go_quiet ((go_at_call 21; exact qof (of_one _)))
  go_wp2
  go_ret
  exact ⟨rfl, (Chg.refl No w).drewN _⟩
end Go.Proofs.YtemdillhbnmjkaaGreatDoor

/- The set of what can be seen: a token is put in. · Sets of bits: the rules that are being called. -/
import Derived.Test.YtemdillhbnmjkaaGreatDoorQ20
import Derived.Test.YtemdillhbnmjkaaGreatDoorQ19
import Derived.Laws.Cover3
import Derived.LoopTactic
import Derived.Laws.IdiomCopy
namespace Go.Proofs.YtemdillhbnmjkaaGreatDoor
open Go.RowKit

def TsL : List TypeId := [145, 104]
/-- the set m lies at block p; its blocks are from B on -/
def LookS (w : World) (B p m : Nat) : Prop :=
  m < 64 ∧ B ≤ p ∧ ∃ v ro, Blk w p #[v, .bool ro] 145 ∧ ((v = .slice none 0 0 ∧ m = 0) ∨ ∃ g c, v = .slice (some ⟨g, 0, none⟩) (Pl.canon m).length c ∧ Own w 104 2 v (Pl.canon m).length ((Pl.canon m).flatMap iv2) ∧ B ≤ g)

theorem LookS.tc {Ts : List TypeId} {mp : Bool} {B B' : Nat} {w w' : World} {p m : Nat} (hc : TC Ts mp B' w w') (h : LookS w B p m) (h1 : (145 : TypeId) ∉ Ts) (h2 : (104 : TypeId) ∉ Ts) : LookS w' B p m := by
  obtain ⟨hm, hp, v, ro, h3, h4⟩ := h
  refine ⟨hm, hp, v, ro, hc.blk h3 h1, ?_⟩
  rcases h4 with h4 | ⟨g, c, rfl, h5, h6⟩
  · exact .inl h4
  · exact .inr ⟨g, c, rfl, hc.own h5 h2, h6⟩

theorem canon_next' : ∀ m, m < 64 → ∀ t ∈ Pl.toks, ∀ p ∈ (Pl.canon m).zip (Pl.canon m).tail, ¬ t + 1 < p.1.1 → ¬ t + 1 = p.1.1 → t ≤ p.1.2 → max p.1.2 (t + 1) < p.2.2 := by decide +kernel
theorem canon_next (m : Nat) (hm : m < 64) (t : Int) (ht : t ∈ Pl.toks) (k : Nat) (i j : Pl.Iv) (hi : (Pl.canon m)[k]? = some i) (hj : (Pl.canon m)[k + 1]? = some j) : ¬ t + 1 < i.1 → ¬ t + 1 = i.1 → t ≤ i.2 → max i.2 (t + 1) < j.2 := by
  refine canon_next' m hm t ht (i, j) (List.mem_of_getElem? (i := k) ?_)
  rw [List.getElem?_zip_eq_some]
  exact ⟨hi, by rw [List.getElem?_tail]; exact hj⟩
theorem canon_zero : Pl.canon 0 = [] := by decide +kernel
theorem canon_unit : ∀ t ∈ Pl.toks, Pl.canon (2 ^ Pl.bitOf t) = [(t, t + 1)] ∧ 2 ^ Pl.bitOf t < 64 := by decide +kernel
theorem toks_bound : ∀ t ∈ Pl.toks, -1000 ≤ t ∧ t + 1 ≤ 1000 := by decide +kernel

theorem addIv_any (w : World) (B p m : Nat) (t : Int) (ht : t ∈ Pl.toks) (h : LookS w B p m) (hB : B ≤ w.heap.size) :
    Calls Tryz.prog 99 #[.pointer (some ⟨p, 0, none⟩), .agg #[.int .i64 t, .int .i64 (t + 1)]] w fun e w' => e = .returned (.tuple #[]) ∧ (LookS w' B p (m ||| 2 ^ Pl.bitOf t) ∧ TC TsL false B w w') := by
  obtain ⟨hm, hp, v, ro, h3, h4⟩ := h
  obtain ⟨hm2, _⟩ := Pl.has_one m hm t ht
  rcases h4 with ⟨rfl, rfl⟩ | ⟨g, c, rfl, h5, h6⟩
  · refine (addInterval_nil w p (.bool ro) t (t + 1) h3).mono ?_
    rintro e w' ⟨rfl, g, c, q1, q2, q3, q4⟩
    refine ⟨rfl, ⟨hm2, hp, .slice (some ⟨g, 0, none⟩) 1 c, ro, q1, .inr ⟨g, c, ?_, ?_, by omega⟩⟩, ?_⟩
    · rw [Nat.zero_or, (canon_unit t ht).1]; rfl
    · rw [Nat.zero_or, (canon_unit t ht).1]; exact q2
    · refine Chg.mono q3 (fun k _ e => ?_)
      subst e
      exact ⟨hp, .inl ⟨_, _, h3, by decide⟩⟩
  · obtain ⟨c1, c2, c3, c4⟩ := Pl.canon_facts m hm
    obtain ⟨t1, t2⟩ := toks_bound t ht
    refine (addI_core w p g c ro t (t + 1) (Pl.canon m) h3 h5 (by omega) (fun i hi => by have := c2 i hi; omega) t1 (by omega) (by omega) t2 ?_).mono ?_
    · intro k i j hi hj
      exact canon_next m hm t ht k i j hi hj
    · rintro e w' ⟨rfl, g', c', q1, q2, q3, q4⟩
      rw [Pl.addI_one m hm t ht] at q1 q2
      refine ⟨rfl, ⟨hm2, hp, _, ro, q1, .inr ⟨g', c', rfl, q2, ?_⟩⟩, ?_⟩
      · rcases q4 with rfl | h
        · exact h6
        · omega
      · refine Chg.mono q3 (fun k _ e => ?_)
        rcases e with rfl | rfl
        · exact ⟨hp, .inl ⟨_, _, h3, by decide⟩⟩
        · obtain ⟨cur, hcur⟩ := h5.own (k := k) rfl
          exact ⟨h6, .inl ⟨_, _, hcur, by decide⟩⟩

set_option maxRecDepth 100000 in
/-- one token is put in -/
theorem addOne_any (w : World) (B p m : Nat) (t : Int) (ht : t ∈ Pl.toks) (h : LookS w B p m) (hB : B ≤ w.heap.size) :
    Calls Tryz.prog 64 #[.pointer (some ⟨p, 0, none⟩), .int .i64 t] w fun e w' => e = .returned (.tuple #[]) ∧ (LookS w' B p (m ||| 2 ^ Pl.bitOf t) ∧ TC TsL false B w w') := by
  obtain ⟨t1, t2⟩ := toks_bound t ht
  have hc : Chg No w (w.alloc (.cells #[.int .i64 t, .int .i64 (t + 1)] 104)) := (Chg.refl No w).alloc _
  have HA := Lib.hid (addIv_any (w.alloc (.cells #[.int .i64 t, .int .i64 (t + 1)] 104)) B p m t ht (LookS.tc (TC.no (Ts := []) (mp := false) (B := 0) hc) h (by simp) (by simp)) (by have := hc.size; omega))
  have HC := Lib.hid hc
  clear h hB hc ht
  go_enter Tryz.func64, Tryz.ntmps64
  go_wp2_with (first | (go_at_call 100; refine (newInterval_any _ _ _).mono ?_; rintro e w' ⟨rfl, rfl⟩))
  refine HA.out.mono ?_
  rintro e w' ⟨rfl, h1, h2⟩
  have H1 := Lib.hid h1
  have H2 := Lib.hid h2
  clear h1 h2
  go_wp2
  go_end0
  exact ⟨rfl, H1.out, (TC.no HC.out).trans H2.out⟩

set_option maxRecDepth 100000 in
/-- a label is put in -/
theorem addSet_any (w : World) (B p q g c m : Nat) (ro : Value) (t : Int) (ht : t ∈ Pl.toks) (h : LookS w B p m) (hB : B ≤ w.heap.size)
    (hq : Blk w q #[.slice (some ⟨g, 0, none⟩) 1 c, ro] 145) (hg : Own w 104 2 (.slice (some ⟨g, 0, none⟩) 1 c) 1 [.int .i64 t, .int .i64 (t + 1)]) (hqB : q < B) (_ : g < B) :
    Calls Tryz.prog 62 #[.pointer (some ⟨p, 0, none⟩), .pointer (some ⟨q, 0, none⟩)] w fun e w' => e = .returned (.pointer (some ⟨p, 0, none⟩)) ∧ (LookS w' B p (m ||| 2 ^ Pl.bitOf t) ∧ TC TsL false B w w') := by
  obtain ⟨t1, t2⟩ := toks_bound t ht
  have c0 : w.cell? ⟨q, 0, none⟩ = some (.slice (some ⟨g, 0, none⟩) 1 c) := by rw [hq.cell]; rfl
  have c1 : w.cell? ⟨g, 0, none⟩ = some (.int .i64 t) := hg.cellAt rfl
  have c2 : w.cell? ⟨g, 1, none⟩ = some (.int .i64 (t + 1)) := hg.cellAt rfl
  have hc : Chg No w ((w.alloc (.cells #[.int .i64 t, .int .i64 (t + 1)] 104)).alloc (.cells #[.int .i64 t, .int .i64 (t + 1)] 104)) := ((Chg.refl No w).alloc _).alloc _
  have HA := Lib.hid (addIv_any ((w.alloc (.cells #[.int .i64 t, .int .i64 (t + 1)] 104)).alloc (.cells #[.int .i64 t, .int .i64 (t + 1)] 104)) B p m t ht (LookS.tc (TC.no (Ts := []) (mp := false) (B := 0) hc) h (by simp) (by simp)) (by have := hc.size; omega))
  have HC := Lib.hid hc
  have HQ := Lib.hid hq
  have heq := fun (w : World) (x : Option Addr) (l c : Nat) => Lib.run_eql_slice_nil (P := Tryz.prog) w 102 104 x l c 0 0 Tryz.underlying102
  have hne := fun (w : World) (x : Option Addr) (l c : Nat) => run_neq_slice_nil (P := Tryz.prog) w 102 104 x l c Tryz.underlying102
  clear h hc ht hq hg
  go_enter Tryz.func62, Tryz.ntmps62
  go_wp2
  go_loopw [5] (fun i wr => (i = .int .i64 0 ∧ wr = w) ∨ (i = .int .i64 1 ∧ LookS wr B p (m ||| 2 ^ Pl.bitOf t) ∧ TC TsL false B w wr)) (fun i _ => 1 - (intOf i).toNat)
  case atStart => exact .inl ⟨rfl, rfl⟩
  case round =>
    rcases hrel with ⟨rfl, rfl⟩ | ⟨rfl, hl, htc⟩
    · go_wp2_with (first | (go_at_call 100; refine (newInterval_any _ _ _).mono ?_; rintro e w' ⟨rfl, rfl⟩))
      refine HA.out.mono ?_
      rintro e w' ⟨rfl, h1, h2⟩
      have H1 := Lib.hid h1
      have H2 := Lib.hid h2
      clear h1 h2
      go_wp2
      go_roundw
      case rel => exact .inr ⟨rfl, H1.out, (TC.no HC.out).trans H2.out⟩
      case measure => simp [intOf]
    · have hq2 : Blk wr q #[.slice (some ⟨g, 0, none⟩) 1 c, ro] 145 := HQ.out.chg htc (fun h => by have := h.1; omega)
      have c0 : wr.cell? ⟨q, 0, none⟩ = some (.slice (some ⟨g, 0, none⟩) 1 c) := by rw [hq2.cell]; rfl
      have H1 := Lib.hid hl
      have H2 := Lib.hid htc
      clear hl htc hq2
      go_wp2
      go_ret
      exact ⟨rfl, H1.out, H2.out⟩
end Go.Proofs.YtemdillhbnmjkaaGreatDoor
namespace Go.Proofs.YtemdillhbnmjkaaGreatDoor
open Go.RowKit

def TsB : List TypeId := [239, 221]
/-- the set m (a number below 64) lies at block cb; its blocks are from B on -/
def Bits (w : World) (B cb m : Nat) : Prop :=
  m < 64 ∧ B ≤ cb ∧ ∃ v, Blk w cb #[v] 221 ∧ ((v = .slice none 0 0 ∧ m = 0) ∨ ∃ g c, v = .slice (some ⟨g, 0, none⟩) 1 c ∧ Own w 239 1 v 1 [.int .u64 (m : Int)] ∧ B ≤ g)
theorem Bits.tc {Ts : List TypeId} {mp : Bool} {B B' : Nat} {w w' : World} {cb m : Nat} (hc : TC Ts mp B' w w') (h : Bits w B cb m) (h1 : (221 : TypeId) ∉ Ts) (h2 : (239 : TypeId) ∉ Ts) : Bits w' B cb m := by
  obtain ⟨hm, hB, v, h3, h4⟩ := h
  refine ⟨hm, hB, v, hc.blk h3 h1, ?_⟩
  rcases h4 with h4 | ⟨g, c, rfl, h5, h6⟩
  · exact .inl h4
  · exact .inr ⟨g, c, rfl, hc.own h5 h2, h6⟩

theorem bit_and : ∀ m : Nat, m < 64 → ∀ q, q < 6 → (bits BinOp.and IntKind.u64 (m : Int) (2 ^ q : Int) != 0) = m.testBit q := by decide +kernel
theorem bit_or : ∀ m : Nat, m < 64 → ∀ q, q < 6 → bits BinOp.or IntKind.u64 (m : Int) (2 ^ q : Int) = ((m ||| 2 ^ q : Nat) : Int) ∧ (m ||| 2 ^ q) < 64 := by decide +kernel

theorem idx_any (w : World) (q : Nat) (hq : q < 6) : Calls Tryz.prog 105 #[.int .i64 (q : Int)] w fun e w' => e = .returned (.int .i64 0) ∧ w = w' := by
  have h0 : (q : Int).tdiv 64 = 0 := by rw [Int.tdiv_eq_ediv_of_nonneg (by omega)]; omega
  have h1 : (q : Int) / 64 = 0 := by omega
  go_enter Tryz.func105, Tryz.ntmps105
  go_wp2
  go_ret
  first | exact ⟨rfl, rfl⟩ | (refine ⟨?_, rfl⟩; simp [h0, h1])
theorem mask_any (w : World) (q : Nat) (hq : q < 6) : Calls Tryz.prog 106 #[.int .i64 (q : Int)] w fun e w' => e = .returned (.int .u64 (2 ^ q : Int)) ∧ w = w' := by
  have h0 : (q : Int) % 64 = q := by omega
  have h1 : (q : Int).tmod 64 = q := by rw [Int.tmod_eq_emod_of_nonneg (by omega)]; omega
  go_enter Tryz.func106, Tryz.ntmps106
  go_wp2
  go_ret
  refine ⟨congrArg (fun x => Ending.returned (.int .u64 x)) ?_, rfl⟩
  have : q = 0 ∨ q = 1 ∨ q = 2 ∨ q = 3 ∨ q = 4 ∨ q = 5 := by omega
  rcases this with rfl | rfl | rfl | rfl | rfl | rfl <;> decide
theorem has_any (w : World) (B cb m q : Nat) (hq : q < 6) (h : Bits w B cb m) : Calls Tryz.prog 70 #[.pointer (some ⟨cb, 0, none⟩), .int .i64 (q : Int)] w fun e w' => e = .returned (.bool (m.testBit q)) ∧ ∃ n, w' = w.drewN n := by
  obtain ⟨hm, hcb, v, h1, h2⟩ := h
  have c0 : w.cell? ⟨cb, 0, none⟩ = some v := by rw [h1.cell]; rfl
  have HI := Lib.hid (fun w => idx_any w q hq)
  have HM := Lib.hid (fun w => mask_any w q hq)
  have HB := Lib.hid (bit_and m hm q hq)
  rcases h2 with ⟨rfl, rfl⟩ | ⟨g, c, rfl, h3, hgB⟩
  · have e0 : (0 : Nat).testBit q = false := by simp
    rw [e0]
    clear h1 hm e0
    go_enter Tryz.func70, Tryz.ntmps70
    go_wp2_with fail
    refine (HI.out _).mono ?_
    rintro e w' ⟨rfl, rfl⟩
    go_wp2
    go_ret
    exact ⟨rfl, 0, rfl⟩
  · have cg : w.cell? ⟨g, 0, none⟩ = some (.int .u64 (m : Int)) := h3.cellAt rfl
    rw [← HB.out]
    clear h1 h3
    go_enter Tryz.func70, Tryz.ntmps70
    go_wp2_with fail
    refine (HI.out _).mono ?_
    rintro e w' ⟨rfl, rfl⟩
    go_wp2
    go_quiet ((go_at_call 106; exact qof (HM.out _)))
    go_wp2
    go_ret
    exact ⟨rfl, _, rfl⟩

theorem bit_clr : ∀ m : Nat, m < 64 → ∀ q, q < 6 → bits BinOp.and IntKind.u64 (m : Int) (bits BinOp.xor IntKind.u64 (if IntKind.u64.signed = true then -1 else IntKind.u64.max) (2 ^ q)) = ((m &&& (63 - 2 ^ q) : Nat) : Int) ∧ (m &&& (63 - 2 ^ q)) < 64 := by
  decide +kernel
theorem bit_facts : ∀ m : Nat, m < 64 → ∀ q, q < 6 → ∀ x, x < 6 → (m ||| 2 ^ q).testBit x = (m.testBit x || x == q) ∧ (m &&& (63 - 2 ^ q)).testBit x = (m.testBit x && x != q) := by decide +kernel
theorem newBits_any (w : World) : Calls Tryz.prog 53 #[] w fun e w' => e = .returned (.pointer (some ⟨w.heap.size, 0, none⟩)) ∧ w.alloc (.cells #[.slice none 0 0] 221) = w' := by
  go_enter Tryz.func53, Tryz.ntmps53
  go_wp2
  go_ret
  exact ⟨rfl, rfl⟩
theorem words_any (w : World) (q : Nat) (hq : q < 6) : Calls Tryz.prog 107 #[.int .i64 (q : Int)] w fun e w' => e = .returned (.int .i64 1) ∧ w = w' := by
  have HI := Lib.hid (fun w => idx_any w q hq)
  go_enter Tryz.func107, Tryz.ntmps107
  go_wp2_with fail
  refine (HI.out _).mono ?_
  rintro e w' ⟨rfl, rfl⟩
  go_wp2
  go_ret
  exact ⟨rfl, rfl⟩
set_option maxRecDepth 100000 in
/-- a rule is put in -/
theorem addBit_some (w : World) (B cb m q g c : Nat) (hq : q < 6) (hm : m < 64) (hcb : B ≤ cb) (hgB : B ≤ g) (h1 : Blk w cb #[.slice (some ⟨g, 0, none⟩) 1 c] 221) (h3 : Own w 239 1 (.slice (some ⟨g, 0, none⟩) 1 c) 1 [.int .u64 (m : Int)]) :
    Calls Tryz.prog 72 #[.pointer (some ⟨cb, 0, none⟩), .int .i64 (q : Int)] w fun e w' => e = .returned (.tuple #[]) ∧ (Bits w' B cb (m ||| 2 ^ q) ∧ Chg (fun k => k = g) w w') := by
  have c0 : w.cell? ⟨cb, 0, none⟩ = some (.slice (some ⟨g, 0, none⟩) 1 c) := by rw [h1.cell]; rfl
  have cg : w.cell? ⟨g, 0, none⟩ = some (.int .u64 (m : Int)) := h3.cellAt rfl
  have fg := h3.fz 0
  have HI := Lib.hid (fun w => idx_any w q hq)
  have HM := Lib.hid (fun w => mask_any w q hq)
  have HB := Lib.hid (bit_or m hm q hq)
  have H1 := Lib.hid h1
  have H3 := Lib.hid h3
  clear h1 h3
  go_enter Tryz.func72, Tryz.ntmps72
  go_wp2_with fail
  refine (HI.out _).mono ?_
  rintro e w' ⟨rfl, rfl⟩
  go_wp2
  refine wp_tail 11 (by kernel_rfl) ?_
  simp only [List.take_succ_cons, List.take_zero, List.drop_succ_cons, List.drop_zero]
  repeat (first | still_step | still_call ((HM.out _).mono (fun _ _ h => ⟨h.1, h.2.symm⟩)))
  refine wpStill_nil ?_
  rw [HB.out.1]
  go_wp2
  go_end0
  refine ⟨rfl, ⟨HB.out.2, hcb, _, (H1.out.other ?_ _).drew, .inr ⟨g, c, rfl, ?_, hgB⟩⟩, ?_⟩
  · intro e
    exact H3.out.ne H1.out (by decide) (congrArg some e.symm)
  · exact (show Own (w.setCell ⟨g, 0, none⟩ _) 239 1 _ 1 _ from H3.out.setAt (i := 0) (by omega) _)
  · exact (Chg.setCell (S := fun k => k = g) (Chg.refl _ _) (fun _ => rfl) _).drew
set_option maxRecDepth 100000 in
theorem addBit_nil (w : World) (B cb q : Nat) (hq : q < 6) (hcb : B ≤ cb) (hBs : B ≤ w.heap.size) (h1 : Blk w cb #[.slice none 0 0] 221) :
    Calls Tryz.prog 72 #[.pointer (some ⟨cb, 0, none⟩), .int .i64 (q : Int)] w fun e w' => e = .returned (.tuple #[]) ∧ (Bits w' B cb (2 ^ q) ∧ Chg (fun k => k = cb) w w') := by
  have c0 : w.cell? ⟨cb, 0, none⟩ = some (.slice none 0 0) := by rw [h1.cell]; rfl
  have f0 := h1.fz 0
  have hlt := h1.lt
  have HI := Lib.hid (fun w => idx_any w q hq)
  have HM := Lib.hid (fun w => mask_any w q hq)
  have HW := Lib.hid (fun w => words_any w q hq)
  have HB := Lib.hid (bit_or 0 (by omega) q hq)
  have H1 := Lib.hid h1
  have hmk : ∀ w, (Instr.makeSlice 219 (.int .i64 1) (.int .i64 1)).run Tryz.prog w = .ok (.slice (some ⟨w.heap.size, 0, none⟩) 1 1) (w.alloc (.cells #[.int .u64 0] 239)) := fun _ => by kernel_rfl
  clear h1
  go_enter Tryz.func72, Tryz.ntmps72
  go_wp2_with fail
  refine (HI.out _).mono ?_
  rintro e w' ⟨rfl, rfl⟩
  go_wp2_with fail
  refine (HW.out _).mono ?_
  rintro e w' ⟨rfl, rfl⟩
  have hcp := fun (w : World) (ty : TypeId) (d : Option Addr) => run_copy_none (P := Tryz.prog) w 219 219 ty 239 d none 1 1 0 0 Tryz.underlying219 (by kernel_rfl) (by simp)
  go_wp2
  refine wp_tail 11 (by kernel_rfl) ?_
  simp only [List.take_succ_cons, List.take_zero, List.drop_succ_cons, List.drop_zero]
  repeat (first | still_step | still_call ((HM.out _).mono (fun _ _ h => ⟨h.1, h.2.symm⟩)))
  refine wpStill_nil ?_
  have hb0 : bits BinOp.or IntKind.u64 0 (2 ^ q) = ((2 ^ q : Nat) : Int) := by have := HB.out.1; simpa using this
  rw [hb0]
  have Hb0 := Lib.hid hb0
  clear hb0
  go_wp2
  go_end0
  refine ⟨rfl, ⟨by have := HB.out.2; simpa using this, hcb, .slice (some ⟨w.heap.size, 0, none⟩) 1 1, ?_, .inr ⟨w.heap.size, 1, rfl, ?_, hBs⟩⟩, ?_⟩
  · exact (Blk.alloc (by simpa using H1.out.set 0 (.slice (some ⟨w.heap.size, 0, none⟩) 1 1)) _).drew
  · have := World.ownsRow_lit (base := 0) (e := 239) (size := 1) (w.setCell ⟨cb, 0, none⟩ (.slice (some ⟨w.heap.size, 0, none⟩) 1 1)) #[.int .u64 ((2 ^ q : Nat) : Int)] 1 (Nat.zero_le _) (by unfold maxLen; omega) (by simp)
    rw [heapSize_setCell] at this
    exact this
  · exact ((Chg.setCell (S := fun k => k = cb) (Chg.refl _ _) (fun _ => rfl) _).alloc _).drew
/-- a rule is put in -/
theorem addBit_any (w : World) (B cb m q : Nat) (hq : q < 6) (h : Bits w B cb m) (hBs : B ≤ w.heap.size) :
    Calls Tryz.prog 72 #[.pointer (some ⟨cb, 0, none⟩), .int .i64 (q : Int)] w fun e w' => e = .returned (.tuple #[]) ∧ (Bits w' B cb (m ||| 2 ^ q) ∧ TC TsB false B w w') := by
  obtain ⟨hm, hcb, v, h1, h2⟩ := h
  rcases h2 with ⟨rfl, rfl⟩ | ⟨g, c, rfl, h3, hgB⟩
  · refine (addBit_nil w B cb q hq hcb hBs h1).mono ?_
    rintro e w' ⟨rfl, h4, h5⟩
    exact ⟨rfl, by simpa using h4, h5.mono (fun k _ e => ⟨e ▸ hcb, .inl ⟨_, _, e ▸ h1, by decide⟩⟩)⟩
  · refine (addBit_some w B cb m q g c hq hm hcb hgB h1 h3).mono ?_
    rintro e w' ⟨rfl, h4, h5⟩
    obtain ⟨cur, hcur⟩ := h3.own rfl
    exact ⟨rfl, h4, h5.mono (fun k _ e => ⟨e ▸ hgB, .inl ⟨_, _, e ▸ hcur, by decide⟩⟩)⟩
set_option maxRecDepth 100000 in
/-- a rule is taken out -/
theorem clrBit_any (w : World) (B cb m q : Nat) (hq : q < 6) (h : Bits w B cb m) :
    Calls Tryz.prog 108 #[.pointer (some ⟨cb, 0, none⟩), .int .i64 (q : Int)] w fun e w' => e = .returned (.tuple #[]) ∧ (Bits w' B cb (m &&& (63 - 2 ^ q)) ∧ TC TsB false B w w') := by
  obtain ⟨hm, hcb, v, h1, h2⟩ := h
  have c0 : w.cell? ⟨cb, 0, none⟩ = some v := by rw [h1.cell]; rfl
  have HI := Lib.hid (fun w => idx_any w q hq)
  have HM := Lib.hid (fun w => mask_any w q hq)
  have HB := Lib.hid (bit_clr m hm q hq)
  rcases h2 with ⟨rfl, rfl⟩ | ⟨g, c, rfl, h3, hgB⟩
  · have H1 := Lib.hid h1
    clear h1 hm
    go_enter Tryz.func108, Tryz.ntmps108
    go_wp2_with fail
    refine (HI.out _).mono ?_
    rintro e w' ⟨rfl, rfl⟩
    go_wp2
    refine bodyPost_ret (results_none rfl _ _ _) rfl ?_
    exact ⟨rfl, ⟨HB.out.2, hcb, _, H1.out, .inl ⟨rfl, by simp⟩⟩, Chg.refl _ _⟩
  · have cg : w.cell? ⟨g, 0, none⟩ = some (.int .u64 (m : Int)) := h3.cellAt rfl
    have fg := h3.fz 0
    have H1 := Lib.hid h1
    have H3 := Lib.hid h3
    clear h1 h3
    go_enter Tryz.func108, Tryz.ntmps108
    go_wp2_with fail
    refine (HI.out _).mono ?_
    rintro e w' ⟨rfl, rfl⟩
    go_wp2
    refine wp_tail 12 (by kernel_rfl) ?_
    simp only [List.take_succ_cons, List.take_zero, List.drop_succ_cons, List.drop_zero]
    repeat (first | still_step | still_call ((HM.out _).mono (fun _ _ h => ⟨h.1, h.2.symm⟩)))
    refine wpStill_nil ?_
    rw [HB.out.1]
    go_wp2
    go_end0
    refine ⟨rfl, ⟨HB.out.2, hcb, _, (H1.out.other ?_ _).drew, .inr ⟨g, c, rfl, ?_, hgB⟩⟩, ?_⟩
    · intro e
      exact H3.out.ne H1.out (by decide) (congrArg some e.symm)
    · exact (show Own (w.setCell ⟨g, 0, none⟩ _) 239 1 _ 1 _ from H3.out.setAt (i := 0) (by omega) _)
    · refine Chg.mono ((Chg.setCell (S := fun k => k = g) (Chg.refl _ _) (fun _ => rfl) _).drew) (fun k _ e => ?_)
      subst e
      obtain ⟨cur, hcur⟩ := H3.out.own (k := k) rfl
      exact ⟨hgB, .inl ⟨_, _, hcur, by decide⟩⟩
theorem remBit_any (w : World) (B cb m q : Nat) (hq : q < 6) (h : Bits w B cb m) :
    Calls Tryz.prog 73 #[.pointer (some ⟨cb, 0, none⟩), .int .i64 (q : Int)] w fun e w' => e = .returned (.tuple #[]) ∧ (Bits w' B cb (m &&& (63 - 2 ^ q)) ∧ TC TsB false B w w') := by
  have H := Lib.hid (clrBit_any w B cb m q hq h)
  clear h
  go_enter Tryz.func73, Tryz.ntmps73
  go_wp2_with fail
  refine H.out.mono ?_
  rintro e w' ⟨rfl, h1, h2⟩
  have H1 := Lib.hid h1
  have H2 := Lib.hid h2
  clear h1 h2
  go_wp2
  go_end0
  exact ⟨rfl, H1.out, H2.out⟩
end Go.Proofs.YtemdillhbnmjkaaGreatDoor

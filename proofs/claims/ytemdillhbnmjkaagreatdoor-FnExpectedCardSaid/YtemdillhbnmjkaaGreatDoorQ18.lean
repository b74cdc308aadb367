/- Configurations: their hashes, two are compared. -/
import Derived.Test.YtemdillhbnmjkaaGreatDoorQ17
namespace Go.Proofs.YtemdillhbnmjkaaGreatDoor
open Go.RowKit

@[go_sem] theorem m_sem_Hash (a : Addr) (w : World) : (method 583 315 (.pointer (some a)) "Hash").run Tryz.prog w = .ok (247, .pointer (some a)) w := by kernel_rfl
@[go_sem] theorem n_sem_Hash (a : Addr) (w : World) : (nilAhead 583 315 (.pointer (some a)) "Hash").run Tryz.prog w = .ok (some false) w := by kernel_rfl
@[go_sem] theorem m_sem_Equals (a : Addr) (w : World) : (method 583 315 (.pointer (some a)) "Equals").run Tryz.prog w = .ok (246, .pointer (some a)) w := by kernel_rfl
@[go_sem] theorem n_sem_Equals (a : Addr) (w : World) : (nilAhead 583 315 (.pointer (some a)) "Equals").run Tryz.prog w = .ok (some false) w := by kernel_rfl
@[go_sem] theorem m_cfg_Hash (a : Addr) (w : World) : (method 583 158 (.pointer (some a)) "Hash").run Tryz.prog w = .ok (205, .pointer (some a)) w := by kernel_rfl
@[go_sem] theorem n_cfg_Hash (a : Addr) (w : World) : (nilAhead 583 158 (.pointer (some a)) "Hash").run Tryz.prog w = .ok (some false) w := by kernel_rfl
@[go_sem] theorem m_cfg_Equals (a : Addr) (w : World) : (method 583 158 (.pointer (some a)) "Equals").run Tryz.prog w = .ok (302, .pointer (some a)) w := by kernel_rfl
@[go_sem] theorem n_cfg_Equals (a : Addr) (w : World) : (nilAhead 583 158 (.pointer (some a)) "Equals").run Tryz.prog w = .ok (some false) w := by kernel_rfl
@[go_sem] theorem m_cmp_Hash1 (a : Addr) (w : World) : (method 583 161 (.pointer (some a)) "Hash1").run Tryz.prog w = .ok (207, .pointer (some a)) w := by kernel_rfl
@[go_sem] theorem n_cmp_Hash1 (a : Addr) (w : World) : (nilAhead 583 161 (.pointer (some a)) "Hash1").run Tryz.prog w = .ok (some false) w := by kernel_rfl
@[go_sem] theorem m_cmp_Equals2 (a : Addr) (w : World) : (method 583 161 (.pointer (some a)) "Equals2").run Tryz.prog w = .ok (206, .pointer (some a)) w := by kernel_rfl
@[go_sem] theorem n_cmp_Equals2 (a : Addr) (w : World) : (nilAhead 583 161 (.pointer (some a)) "Equals2").run Tryz.prog w = .ok (some false) w := by kernel_rfl

/-- the hash of a configuration: its state, its context's -/
def ghash (s c : Int) : Int := mF (mU (mU (mU (mU 7 s) 0) c) ksem) 4

theorem pHash_nil (w : World) (b sb pb : Nat) (K : SK) (s : Int) (c1 : w.cell? ⟨b, 1, none⟩ = some (.iface K.ptr (.pointer (some ⟨sb, 0, none⟩)))) (c2 : w.cell? ⟨b, 2, none⟩ = some (.int .i64 0))
    (c3 : w.cell? ⟨b, 3, none⟩ = some (.pointer none)) (c4 : w.cell? ⟨b, 4, none⟩ = some (.iface 315 (.pointer (some ⟨pb, 0, none⟩)))) (cs : w.cell? ⟨sb, 4, none⟩ = some (.int .i64 s)) (hp : Blk w pb pcell 372) :
    Calls Tryz.prog 209 #[.pointer (some ⟨b, 0, none⟩)] w fun e w' => e = .returned (.int .i64 (ghash s 0)) ∧ w = w' := by
  have HP := Lib.hid hp
  clear hp
  go_enter Tryz.func209, Tryz.ntmps209
  go_wp2_with (first | (go_at_call 164; refine (mInit _ _).mono ?_; rintro e w' ⟨rfl, rfl⟩) | (go_at_call 167; refine (mFin _ _ _).mono ?_; rintro e w' ⟨rfl, rfl⟩) | (go_at_call 165; refine (mUpd _ _ _).mono ?_; rintro e w' ⟨rfl, rfl⟩) | (go_at_call 222; refine (stateNum_s _ _ _ cs).mono ?_; rintro e w' ⟨rfl, rfl⟩) | (go_at_call 247; refine (semHash_s _ _ HP.out).mono ?_; rintro e w' ⟨rfl, rfl⟩))
  go_ret
  exact ⟨rfl, rfl⟩
theorem pHash_ptr (w : World) (b sb pb vb : Nat) (K : SK) (s c : Int) (c1 : w.cell? ⟨b, 1, none⟩ = some (.iface K.ptr (.pointer (some ⟨sb, 0, none⟩)))) (c2 : w.cell? ⟨b, 2, none⟩ = some (.int .i64 0))
    (c3 : w.cell? ⟨b, 3, none⟩ = some (.pointer (some ⟨vb, 0, none⟩))) (cv : w.cell? ⟨vb, 0, none⟩ = some (.int .i64 c)) (c4 : w.cell? ⟨b, 4, none⟩ = some (.iface 315 (.pointer (some ⟨pb, 0, none⟩)))) (cs : w.cell? ⟨sb, 4, none⟩ = some (.int .i64 s)) (hp : Blk w pb pcell 372) :
    Calls Tryz.prog 209 #[.pointer (some ⟨b, 0, none⟩)] w fun e w' => e = .returned (.int .i64 (ghash s c)) ∧ w = w' := by
  have HP := Lib.hid hp
  clear hp
  go_enter Tryz.func209, Tryz.ntmps209
  go_wp2_with (first | (go_at_call 164; refine (mInit _ _).mono ?_; rintro e w' ⟨rfl, rfl⟩) | (go_at_call 167; refine (mFin _ _ _).mono ?_; rintro e w' ⟨rfl, rfl⟩) | (go_at_call 165; refine (mUpd _ _ _).mono ?_; rintro e w' ⟨rfl, rfl⟩) | (go_at_call 222; refine (stateNum_s _ _ _ cs).mono ?_; rintro e w' ⟨rfl, rfl⟩) | (go_at_call 166; refine (pcHash_s _ _ _ cv).mono ?_; rintro e w' ⟨rfl, rfl⟩) | (go_at_call 247; refine (semHash_s _ _ HP.out).mono ?_; rintro e w' ⟨rfl, rfl⟩))
  go_ret
  exact ⟨rfl, rfl⟩
theorem cfgHash_s (w : World) (b : Nat) (h : Int) (c6 : w.cell? ⟨b, 6, none⟩ = some (.int .i64 1)) (hc : Calls Tryz.prog 209 #[.pointer (some ⟨b, 0, none⟩)] w fun e w' => e = .returned (.int .i64 h) ∧ w = w') :
    Calls Tryz.prog 205 #[.pointer (some ⟨b, 0, none⟩)] w fun e w' => e = .returned (.int .i64 h) ∧ w = w' := by
  have H := Lib.hid hc
  clear hc
  go_enter Tryz.func205, Tryz.ntmps205
  go_wp2_with fail
  refine H.out.mono ?_
  rintro e w' ⟨rfl, rfl⟩
  go_wp2
  go_ret
  exact ⟨rfl, rfl⟩
theorem hash1_s (w : World) (b : Nat) (x : Value) (hx : ∃ p, x = .pointer p) (h : Int) (hc : Calls Tryz.prog 205 #[.pointer (some ⟨b, 0, none⟩)] w fun e w' => e = .returned (.int .i64 h) ∧ w = w') :
    Calls Tryz.prog 207 #[x, .pointer (some ⟨b, 0, none⟩)] w fun e w' => e = .returned (.int .i64 h) ∧ w = w' := by
  obtain ⟨p, rfl⟩ := hx
  have H := Lib.hid hc
  clear hc
  go_enter Tryz.func207, Tryz.ntmps207
  go_wp2_with fail
  refine H.out.mono ?_
  rintro e w' ⟨rfl, rfl⟩
  go_wp2
  go_ret
  exact ⟨rfl, rfl⟩
theorem eq2_s (w : World) (b b' : Nat) (x : Value) (hx : ∃ p, x = .pointer p) (r : Bool) (hc : Calls Tryz.prog 302 #[.pointer (some ⟨b, 0, none⟩), .iface 158 (.pointer (some ⟨b', 0, none⟩))] w fun e w' => e = .returned (.bool r) ∧ ∃ n, w' = w.drewN n) :
    Calls Tryz.prog 206 #[x, .pointer (some ⟨b, 0, none⟩), .pointer (some ⟨b', 0, none⟩)] w fun e w' => e = .returned (.bool r) ∧ ∃ n, w' = w.drewN n := by
  obtain ⟨p, rfl⟩ := hx
  have H := Lib.hid hc
  clear hc
  go_enter Tryz.func206, Tryz.ntmps206
  go_wp2_with fail
  refine H.out.mono ?_
  rintro e w' ⟨rfl, n, rfl⟩
  go_wp2
  go_ret
  exact ⟨rfl, n, rfl⟩
theorem cfgEq_s (w : World) (b b' : Nat) (r : Bool) (c6 : w.cell? ⟨b, 6, none⟩ = some (.int .i64 1)) (hc : Calls Tryz.prog 304 #[.pointer (some ⟨b, 0, none⟩), .iface 158 (.pointer (some ⟨b', 0, none⟩))] w fun e w' => e = .returned (.bool r) ∧ ∃ n, w' = w.drewN n) :
    Calls Tryz.prog 302 #[.pointer (some ⟨b, 0, none⟩), .iface 158 (.pointer (some ⟨b', 0, none⟩))] w fun e w' => e = .returned (.bool r) ∧ ∃ n, w' = w.drewN n := by
  have H := Lib.hid hc
  clear hc
  go_enter Tryz.func302, Tryz.ntmps302
  go_wp2_with fail
  refine H.out.mono ?_
  rintro e w' ⟨rfl, n, rfl⟩
  go_wp2
  go_ret
  exact ⟨rfl, n, rfl⟩

theorem eql158_same (w : World) (b : Nat) : (binOp .eql 158 (.pointer (some ⟨b, 0, none⟩)) (.pointer (some ⟨b, 0, none⟩))).run Tryz.prog w = .ok (.bool true) w := by
  obtain ⟨j, hj, _⟩ := info_pos (t := 314) (n := 8) (by kernel_rfl)
  exact run_eql_ptr_same w _ Tryz.underlying158 hj
theorem eql158_other (w : World) {b b' : Nat} {c c' : Array Value} {T T' : TypeId} (hne : b ≠ b') (h : Blk w b c T) (h' : Blk w b' c' T') : (binOp .eql 158 (.pointer (some ⟨b, 0, none⟩)) (.pointer (some ⟨b', 0, none⟩))).run Tryz.prog w = .ok (.bool false) w := by
  obtain ⟨j, hj, hs⟩ := info_pos (t := 314) (n := 8) (by kernel_rfl)
  exact run_eql_ptr_other w Tryz.underlying158 hj hs (addr_ne hne) (blk_obj h) (blk_obj h')
theorem ta465 (q : Option Addr) (w : World) : (Instr.typeAssert (.iface 158 (.pointer q)) 465 158 true).run Tryz.prog w = .ok (.tuple #[.pointer q, .bool true]) w := by kernel_rfl

theorem pEq_same (w : World) (b : Nat) : Calls Tryz.prog 304 #[.pointer (some ⟨b, 0, none⟩), .iface 158 (.pointer (some ⟨b, 0, none⟩))] w fun e w' => e = .returned (.bool true) ∧ w = w' := by
  have hta := ta465
  have he := fun w => eql158_same w b
  go_enter Tryz.func304, Tryz.ntmps304
  go_wp2
  go_ret
  exact ⟨rfl, rfl⟩

set_option maxHeartbeats 2000000 in
set_option maxRecDepth 100000 in
/-- the rest of the comparison, once the contexts have been compared -/
theorem pEq_ptr (w : World) (b b' sb sb' pb pb' vb : Nat) (q : Option Addr) (K K' : SK) (s s' : Int) (r : Bool) (hne : b ≠ b') (h : Blk w b (gcell (.iface K.ptr (.pointer (some ⟨sb, 0, none⟩))) (.pointer (some ⟨vb, 0, none⟩)) (.iface 315 (.pointer (some ⟨pb, 0, none⟩)))) 314)
    (h' : Blk w b' (gcell (.iface K'.ptr (.pointer (some ⟨sb', 0, none⟩))) (.pointer q) (.iface 315 (.pointer (some ⟨pb', 0, none⟩)))) 314) (cs : w.cell? ⟨sb, 4, none⟩ = some (.int .i64 s)) (cs' : w.cell? ⟨sb', 4, none⟩ = some (.int .i64 s'))
    (hp : Blk w pb pcell 372) (hp' : Blk w pb' pcell 372)
    (hc : ∀ n, Calls Tryz.prog 297 #[.pointer (some ⟨vb, 0, none⟩), .iface 152 (.pointer q)] (w.drewN n) fun e w' => e = .returned (.bool r) ∧ ∃ m, w' = (w.drewN n).drewN m) :
    Calls Tryz.prog 304 #[.pointer (some ⟨b, 0, none⟩), .iface 158 (.pointer (some ⟨b', 0, none⟩))] w fun e w' => e = .returned (.bool (decide (s = s') && r)) ∧ ∃ n, w' = w.drewN n := by
  have hta := ta465
  have he := eql158_other w hne h h'
  have e0 : w.cell? ⟨b, 0, none⟩ = some (.bool false) := by rw [h.cell]; rfl
  have e1 : w.cell? ⟨b, 1, none⟩ = some (.iface K.ptr (.pointer (some ⟨sb, 0, none⟩))) := by rw [h.cell]; rfl
  have e2 : w.cell? ⟨b, 2, none⟩ = some (.int .i64 0) := by rw [h.cell]; rfl
  have e3 : w.cell? ⟨b, 3, none⟩ = some (.pointer (some ⟨vb, 0, none⟩)) := by rw [h.cell]; rfl
  have e4 : w.cell? ⟨b, 4, none⟩ = some (.iface 315 (.pointer (some ⟨pb, 0, none⟩))) := by rw [h.cell]; rfl
  have d0 : w.cell? ⟨b', 0, none⟩ = some (.bool false) := by rw [h'.cell]; rfl
  have d1 : w.cell? ⟨b', 1, none⟩ = some (.iface K'.ptr (.pointer (some ⟨sb', 0, none⟩))) := by rw [h'.cell]; rfl
  have d2 : w.cell? ⟨b', 2, none⟩ = some (.int .i64 0) := by rw [h'.cell]; rfl
  have d3 : w.cell? ⟨b', 3, none⟩ = some (.pointer q) := by rw [h'.cell]; rfl
  have d4 : w.cell? ⟨b', 4, none⟩ = some (.iface 315 (.pointer (some ⟨pb', 0, none⟩))) := by rw [h'.cell]; rfl
  have HC := Lib.hid hc
  have HP := Lib.hid hp
  have HP' := Lib.hid hp'
  have H := Lib.hid h
  have H' := Lib.hid h'
  clear hc hp hp' h h' hne
  have hd : ∃ t, decide (s = s') = t ∧ (s == s') = t := ⟨_, rfl, by rw [Bool.eq_iff_iff]; simp⟩
  obtain ⟨t, ht, ht'⟩ := hd
  rw [ht]
  clear ht
  cases t <;> simp only [Bool.true_and, Bool.false_and]
  all_goals
    go_enter Tryz.func304, Tryz.ntmps304
    go_wp2
    go_quiet ((go_at_call 297; exact qofn (HC.out _)))
    go_wp2
    go_quiet (first | (go_at_call 222; exact qof2 (stateNum_s _ _ _ cs)) | (go_at_call 222; exact qof2 (stateNum_s _ _ _ cs')))
    go_wp2
    go_quiet (fail)
    go_wp2
    go_quiet ((go_at_call 246; exact qofn2 (semEq_any _ _ _ (HP.out.drewN _) (HP'.out.drewN _))))
    go_wp2
    go_quiet (fail)
    go_wp2
    go_ret
    first | exact ⟨rfl, _, rfl⟩ | exact ⟨rfl, _, World.drewN_drewN ..⟩
set_option maxHeartbeats 2000000 in
set_option maxRecDepth 100000 in
/-- the same, the first context being none -/
theorem pEq_nil (w : World) (b b' sb sb' pb pb' : Nat) (q : Option Addr) (K K' : SK) (s s' : Int) (hne : b ≠ b') (h : Blk w b (gcell (.iface K.ptr (.pointer (some ⟨sb, 0, none⟩))) (.pointer none) (.iface 315 (.pointer (some ⟨pb, 0, none⟩)))) 314)
    (h' : Blk w b' (gcell (.iface K'.ptr (.pointer (some ⟨sb', 0, none⟩))) (.pointer q) (.iface 315 (.pointer (some ⟨pb', 0, none⟩)))) 314) (cs : w.cell? ⟨sb, 4, none⟩ = some (.int .i64 s)) (cs' : w.cell? ⟨sb', 4, none⟩ = some (.int .i64 s'))
    (hp : Blk w pb pcell 372) (hp' : Blk w pb' pcell 372) :
    Calls Tryz.prog 304 #[.pointer (some ⟨b, 0, none⟩), .iface 158 (.pointer (some ⟨b', 0, none⟩))] w fun e w' => e = .returned (.bool (decide (s = s') && q.isNone)) ∧ ∃ n, w' = w.drewN n := by
  have hta := ta465
  have he := eql158_other w hne h h'
  have e0 : w.cell? ⟨b, 0, none⟩ = some (.bool false) := by rw [h.cell]; rfl
  have e1 : w.cell? ⟨b, 1, none⟩ = some (.iface K.ptr (.pointer (some ⟨sb, 0, none⟩))) := by rw [h.cell]; rfl
  have e2 : w.cell? ⟨b, 2, none⟩ = some (.int .i64 0) := by rw [h.cell]; rfl
  have e3 : w.cell? ⟨b, 3, none⟩ = some (.pointer none) := by rw [h.cell]; rfl
  have e4 : w.cell? ⟨b, 4, none⟩ = some (.iface 315 (.pointer (some ⟨pb, 0, none⟩))) := by rw [h.cell]; rfl
  have d0 : w.cell? ⟨b', 0, none⟩ = some (.bool false) := by rw [h'.cell]; rfl
  have d1 : w.cell? ⟨b', 1, none⟩ = some (.iface K'.ptr (.pointer (some ⟨sb', 0, none⟩))) := by rw [h'.cell]; rfl
  have d2 : w.cell? ⟨b', 2, none⟩ = some (.int .i64 0) := by rw [h'.cell]; rfl
  have d3 : w.cell? ⟨b', 3, none⟩ = some (.pointer q) := by rw [h'.cell]; rfl
  have d4 : w.cell? ⟨b', 4, none⟩ = some (.iface 315 (.pointer (some ⟨pb', 0, none⟩))) := by rw [h'.cell]; rfl
  have HP := Lib.hid hp
  have HP' := Lib.hid hp'
  have H := Lib.hid h
  have H' := Lib.hid h'
  clear hp hp' h h' hne
  have hd : ∃ t, decide (s = s') = t ∧ (s == s') = t := ⟨_, rfl, by rw [Bool.eq_iff_iff]; simp⟩
  obtain ⟨t, ht, ht'⟩ := hd
  rw [ht]
  clear ht
  cases t <;> simp only [Bool.true_and, Bool.false_and]
  all_goals
    go_enter Tryz.func304, Tryz.ntmps304
    go_wp2
    go_quiet (first | (go_at_call 222; exact qof (stateNum_s _ _ _ cs)) | (go_at_call 222; exact qof (stateNum_s _ _ _ cs')))
    go_wp2
    go_quiet (fail)
    go_wp2
    go_quiet ((go_at_call 246; exact qofn2 (semEq_any _ _ _ (HP.out.drewN _) (HP'.out.drewN _))))
    go_wp2
    go_quiet (fail)
    go_wp2
    go_ret
    first | exact ⟨rfl, _, rfl⟩ | exact ⟨rfl, _, World.drewN_drewN ..⟩
end Go.Proofs.YtemdillhbnmjkaaGreatDoor

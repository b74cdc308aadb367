/- The search: a configuration that has been seen; a rule's end with nothing behind it (51). -/
import Derived.Test.YtemdillhbnmjkaaGreatDoorQ22
import Derived.Test.YtemdillhbnmjkaaGreatDoorQ03
namespace Go.Proofs.YtemdillhbnmjkaaGreatDoor
open Go.RowKit

theorem at_world {Q : Exit → Act → World → Prop} {e : Exit} {a : Act} {w : World} {S : World → Prop} (hS : S w) (h : ∀ wz, S wz → Q e a wz) : Q e a w := h w hS
/-- what is made at a step's beginning -/
def Env.beg (E : Env) (w : World) (s : Nat) (v : Value) : World :=
  (((w.alloc (.cells #[dv E.ds E.bs s] 109)).alloc (.cells #[.pointer (some ⟨E.cb, 0, none⟩)] 165)).alloc (.cells pcell 372)).alloc (.cells (gcell (dv E.ds E.bs s) v (.iface 315 (.pointer (some ⟨w.heap.size + 2, 0, none⟩)))) 314)
theorem Env.beg_no (E : Env) (w : World) (s : Nat) (v : Value) : Chg No w (E.beg w s v) := ((((Chg.refl No w).alloc _).alloc _).alloc _).alloc _
theorem Env.beg_size (E : Env) (w : World) (s : Nat) (v : Value) : (E.beg w s v).heap.size = w.heap.size + 4 := by simp [Env.beg]
theorem Env.beg_s (E : Env) (w : World) (s : Nat) (v : Value) : Blk (E.beg w s v) w.heap.size #[dv E.ds E.bs s] 109 := (((Blk.new w _ _).alloc _).alloc _).alloc _
theorem Env.beg_c (E : Env) (w : World) (s : Nat) (v : Value) : Blk (E.beg w s v) (w.heap.size + 1) #[.pointer (some ⟨E.cb, 0, none⟩)] 165 := ((Blk.at_new (by simp) _ _).alloc _).alloc _
theorem Env.beg_cfg (E : Env) (w : World) (s : Nat) (k : List Nat) (v : Value) (hs : s < E.ds.length) (hv : PCv w E.bot k v) : CfgAt (E.beg w s v) E.bot E.ds E.bs (w.heap.size + 3) (s, k) :=
  ⟨hs, v, w.heap.size + 2, Blk.at_new (by simp) _ _, PCv.chg (E.beg_no w s v) (fun _ h => h.elim) hv, (Blk.at_new (by simp) _ _).alloc _⟩
set_option maxHeartbeats 1000000 in
set_option maxRecDepth 100000 in
theorem look1_seen (E : Env) (F : E.Fits) (s : Nat) (k : List Nat) (V : List Pl.Cfg) (C : Nat) (hs : s < E.ds.length) (hin : (s, k) ∈ V) : E.L1 s k V C := by
  intro w v m hA hv
  obtain ⟨K, sb, hdv⟩ := F.ptr hs
  obtain ⟨q, rfl⟩ := hv.ptr
  have hcon := contains_any (E.beg w s (.pointer q)) E.bot E.ds E.bs E.B E.jb (w.heap.size + 3) V (s, k) ((F.net.stNum.chg hA.base).chg (E.beg_no ..)) (E.beg_cfg w s k _ hs hv) (hA.busy.no (E.beg_no ..))
  rw [decide_eq_true hin] at hcon
  have hn := E.beg_no w s (.pointer q)
  unfold Env.beg at hcon hn
  rw [hdv] at hcon hn ⊢
  have HC := Lib.hid hcon
  have HA := Lib.hid hA
  have HN := Lib.hid hn
  have HI := Lib.hid hin
  clear hcon hA hn hv F hin
  go_enter_defers Tryz.func51, Tryz.ntmps51
  go_wp2_with (first | (go_at_call 66; refine (newCfg_any _ _ _ _).mono ?_; rintro e w' ⟨rfl, rfl⟩))
  refine HC.out.mono ?_
  rintro e w' ⟨rfl, n, rfl⟩
  go_wp2
  have hp : E.Post w s k V m C (.returned (.tuple #[])) _ := ⟨rfl, m, V, HA.out.no (HN.out.drewN n), Pl.Grow.seen HI.out, TC.no (HN.out.drewN n)⟩
  simp [bodyPostD, Leaves, results, Tryz.results51, go_sem]
  exact hp

theorem TsJ_sub : ∀ T ∈ TsJ, T ∈ TsA := by decide
theorem TsL_sub : ∀ T ∈ TsL, T ∈ TsA := by decide
theorem Env.At.len {E : Env} (F : E.Fits) {w : World} {m : Nat} {V : List Pl.Cfg} {C : Nat} (h : E.At w m V C) : V.length < 15000000000000 := by
  have := Pl.nodup_le V E.All h.nodup h.all
  have := F.allLen
  omega
theorem Busy.cfg_tc {w w' : World} {E : Env} {m : Nat} {V : List Pl.Cfg} {c : Pl.Cfg} {C : Nat} (h : E.At w m V C) (hc : TC TsJ true E.B w w') (hb : Busy w' E.bot E.ds E.bs E.B E.jb (c :: V)) (hn : c ∉ V) (hA : c ∈ E.All) : E.At w' m (c :: V) C :=
  ⟨TC.keep hc h.base, LookS.tc hc h.look (by decide) (by decide), hb, Bits.tc hc h.bits (by decide) (by decide), List.nodup_cons.2 ⟨hn, h.nodup⟩, fun d hd => by
    rcases List.mem_cons.1 hd with rfl | hd
    · exact hA
    · exact h.all d hd⟩
/-- it is put in -/
theorem Env.put (E : Env) (F : E.Fits) (w : World) (s : Nat) (k : List Nat) (q : Option Addr) (V : List Pl.Cfg) (C m n : Nat) (hs : s < E.ds.length) (hA : E.At w m V C) (hv : PCv w E.bot k (.pointer q)) (hn : (s, k) ∉ V) (hall : (s, k) ∈ E.All) :
    Calls Tryz.prog 68 #[.pointer (some ⟨E.jb, 0, none⟩), .pointer (some ⟨w.heap.size + 3, 0, none⟩)] ((E.beg w s (.pointer q)).drewN n) fun e w' => e = .returned (.tuple #[.pointer (some ⟨w.heap.size + 3, 0, none⟩), .bool false]) ∧
      (E.At w' m ((s, k) :: V) C ∧ PCv w' E.bot k (.pointer q) ∧ Blk w' w.heap.size #[dv E.ds E.bs s] 109 ∧ Blk w' (w.heap.size + 1) #[.pointer (some ⟨E.cb, 0, none⟩)] 165 ∧ TC TsA true E.B w w') := by
  have hc : Chg No w ((E.beg w s (.pointer q)).drewN n) := (E.beg_no ..).drewN n
  have hc' : Chg No (E.beg w s (.pointer q)) ((E.beg w s (.pointer q)).drewN n) := (Chg.refl No _).drewN n
  refine (jput_any _ E.bot E.ds E.bs E.B E.jb _ V (s, k) ((F.net.stNum.chg hA.base).chg hc) ((E.beg_cfg w s k _ hs hv).no hc') (hA.no hc).busy hn (hA.len F) (hA.no hc).lt).mono ?_
  rintro e w' ⟨rfl, h1, h2⟩
  exact ⟨rfl, Busy.cfg_tc (hA.no hc) h2 h1 hn hall, TC.pc h2 (PCv.chg hc (fun _ h => h.elim) hv) (by decide), TC.blk h2 ((E.beg_s ..).drewN n) (by decide), TC.blk h2 ((E.beg_c ..).drewN n) (by decide), (TC.no hc).trans (TC.mono h2 TsJ_sub (fun _ => rfl))⟩

theorem Env.Fits.stop {E : Env} (F : E.Fits) {s r : Nat} (h : E.N.stop s = some r) : r < E.R ∧ s = E.R + r ∧ E.ds[s]? = some ⟨.rstop, r, 0⟩ := by
  unfold Env.N netG at h
  simp only at h
  split at h
  · rename_i h1
    cases h
    refine ⟨by omega, by omega, ?_⟩
    have := F.rules.stop (s - E.R) (by omega)
    rwa [show E.R + (s - E.R) = s by omega] at this
  · cases h
theorem Env.Fits.noStop {E : Env} (F : E.Fits) {s : Nat} {d : Ds} (h : E.N.stop s = none) (hd : E.ds[s]? = some d) : d.k ≠ .rstop := by
  intro hk
  have := F.rules.isStop s d hd hk
  unfold Env.N netG at h
  simp only at h
  rw [if_pos (by omega)] at h
  cases h
theorem minus_two : (-2 : Int) ∈ Pl.toks := by decide
theorem Env.At.addTok {E : Env} {w w' : World} {m m' : Nat} {V : List Pl.Cfg} {C : Nat} (h : E.At w m V C) (hc : TC TsL false E.B w w') (hl : LookS w' E.B E.p m') : E.At w' m' V C :=
  ⟨TC.keep hc h.base, hl, h.busy.tc hc (by decide), Bits.tc hc h.bits (by decide) (by decide), h.nodup, h.all⟩
theorem has_or {m : Nat} {t : Int} (hm : m < 64) (ht : t ∈ Pl.toks) (x : Int) : (Pl.has (m ||| 2 ^ Pl.bitOf t) x = true) ↔ Pl.has m x = true ∨ x = t := by
  by_cases hx : x ∈ Pl.toks
  · rw [(Pl.has_one m hm t ht).2 x hx]; simp
  · have h1 : ∀ m, ¬ Pl.has m x = true := fun m h => hx (Pl.has_toks h)
    constructor
    · intro h; exact absurd h (h1 _)
    · rintro (h | rfl)
      · exact absurd h (h1 _)
      · exact absurd ht hx

set_option maxHeartbeats 1000000 in
set_option maxRecDepth 100000 in
theorem look1_fin (E : Env) (F : E.Fits) (s r : Nat) (V : List Pl.Cfg) (C : Nat) (hb : E.bot = false) (hst : E.N.stop s = some r) (hall : (s, []) ∈ E.All) (hin : (s, []) ∉ V) : E.L1 s [] V C := by
  intro w v m hA hv
  obtain ⟨hr, hsr, hd⟩ := F.stop hst
  have hs := (List.getElem?_eq_some_iff.1 hd).1
  obtain ⟨sb, A, cp, tb, hS⟩ := F.net.state hd
  have hdv := hS.val
  have hv0 := hv
  unfold PCv at hv0
  rw [if_neg (by rw [hb]; simp)] at hv0
  subst hv0
  have hcon := contains_any (E.beg w s (.pointer none)) E.bot E.ds E.bs E.B E.jb (w.heap.size + 3) V (s, []) ((F.net.stNum.chg hA.base).chg (E.beg_no ..)) (E.beg_cfg w s [] _ hs hv) (hA.busy.no (E.beg_no ..))
  rw [decide_eq_false hin] at hcon
  have hput := fun n => E.put F w s [] none V C m n hs hA hv hin hall
  have hadd := fun (w2 : World) (h : E.At w2 m ((s, []) :: V) C) => addOne_any w2 E.B E.p m (-2) minus_two h.look h.lt
  unfold Env.beg at hcon hput
  simp only at hdv
  rw [hdv] at hcon hput ⊢
  have HC := Lib.hid hcon
  have HP := Lib.hid hput
  have HAdd := Lib.hid hadd
  have HGr := Lib.hid (fun (m' : Nat) (h : ∀ t, Pl.has m' t = true ↔ Pl.has m t = true ∨ t = -2) => (by rw [hb]; exact Pl.Grow.fin hst h : Pl.Grow E.N E.bot [] [(s, [])] V ((s, []) :: V) (fun t => Pl.has m t = true) (fun t => Pl.has m' t = true)))
  have Hm := Lib.hid hA.look.1
  clear hcon hA hput hadd hv F hin hd hS hst
  go_enter_defers Tryz.func51, Tryz.ntmps51
  go_wp2_with (first | (go_at_call 66; refine (newCfg_any _ _ _ _).mono ?_; rintro e w' ⟨rfl, rfl⟩))
  refine HC.out.mono ?_
  rintro e w' ⟨rfl, n, rfl⟩
  go_wp2_with fail
  refine (HP.out n).mono ?_
  rintro e w2 ⟨rfl, hA2, hv2, hs2, hc2, ht2⟩
  have x0 : w2.cell? ⟨w.heap.size, 0, none⟩ = some (.iface SK.rstop.ptr (.pointer (some ⟨sb, 0, none⟩))) := by rw [hs2.cell]; rfl
  have hta := fun w => ta_rstop ⟨sb, 0, none⟩ w
  have HA2 := Lib.hid hA2
  have HT2 := Lib.hid ht2
  clear hA2 hv2 hs2 hc2 ht2
  go_wp2_with fail
  refine (HAdd.out _ HA2.out).mono ?_
  rintro e w3 ⟨rfl, h3, h4⟩
  have hp : E.Post w s [] V m C (.returned (.tuple #[])) w3 := ⟨rfl, _, _, HA2.out.addTok h4 h3, HGr.out _ (has_or Hm.out minus_two), HT2.out.trans (TC.mono h4 TsL_sub (fun h => by cases h))⟩
  have Hp := Lib.hid hp
  clear hp h3 h4
  go_wp2
  simp [bodyPostD, Leaves, results, Tryz.results51, go_sem]
  exact Hp.out
end Go.Proofs.YtemdillhbnmjkaaGreatDoor

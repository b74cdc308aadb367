/- The network as the search sees it. · The search: what is given, what is held; the contract of its step; what lies behind a rule's end (76). · The search: what is done at the end of a step (71, 110); the call of a rule (78). -/
import Derived.Test.YtemdillhbnmjkaaGreatDoorQ19
import Derived.Test.YtemdillhbnmjkaaGreatDoorQ21
import Derived.Test.YtemdillhbnmjkaaGreatDoorQ13
import Derived.Test.YtemdillhbnmjkaaGreatDoorQ16
import Derived.Test.YtemdillhbnmjkaaGreatDoorQ02
import Derived.Defers
namespace Go.Proofs.YtemdillhbnmjkaaGreatDoor
open Go.RowKit

/-- state s, in memory -/
structure StAt (w : World) (ds : List Ds) (bs : List Nat) (s : Nat) (K : SK) (sb : Nat) (rule : Int) (A : Option Addr) (cp : Nat) (ts : List TD) (tb : List Nat) : Prop where
  val : dv ds bs s = .iface K.ptr (.pointer (some ⟨sb, 0, none⟩))
  rule : w.cell? ⟨sb, 3, none⟩ = some (.int .i64 rule)
  num : w.cell? ⟨sb, 4, none⟩ = some (.int .i64 (s : Int))
  trans : w.cell? ⟨sb, 6, none⟩ = some (.slice A ts.length cp)
  own : Own w 179 1 (.slice A ts.length cp) ts.length ((ts.zip tb).map fun p => .iface p.1.tk.ptr (.pointer (some ⟨p.2, 0, none⟩)))
  len : tb.length = ts.length
  at_ : ∀ (i : Nat) t d, tb[i]? = some t → ts[i]? = some d → TrAt w ds bs t d
theorem TrAt.no {w w' : World} {ds : List Ds} {bs : List Nat} {t : Nat} {d : TD} (h : TrAt w ds bs t d) (hc : Chg No w w') : TrAt w' ds bs t d := h.chg hc (fun _ h => h.elim)
theorem StAt.no {w w' : World} {ds : List Ds} {bs : List Nat} {s : Nat} {K : SK} {sb : Nat} {rule : Int} {A : Option Addr} {cp : Nat} {ts : List TD} {tb : List Nat} (h : StAt w ds bs s K sb rule A cp ts tb) (hc : Chg No w w') : StAt w' ds bs s K sb rule A cp ts tb :=
  ⟨h.val, Chg.keep hc h.rule (fun h => h), Chg.keep hc h.num (fun h => h), Chg.keep hc h.trans (fun h => h), h.own.no hc, h.len, fun i t d a b => (h.at_ i t d a b).no hc⟩
theorem StAt.trans_at {w : World} {ds : List Ds} {bs : List Nat} {s : Nat} {K : SK} {sb : Nat} {rule : Int} {A : Option Addr} {cp : Nat} {ts : List TD} {tb : List Nat} (h : StAt w ds bs s K sb rule A cp ts tb) {i : Nat} {d : TD} (hd : ts[i]? = some d) :
    ∃ g t, A = some ⟨g, 0, none⟩ ∧ w.cell? ⟨g, i, none⟩ = some (.iface d.tk.ptr (.pointer (some ⟨t, 0, none⟩))) ∧ TrAt w ds bs t d := by
  have hl := (List.getElem?_eq_some_iff.1 hd).1
  obtain ⟨g, cap, cur, he, _, _⟩ := Own.blk h.own (by omega)
  simp at he
  obtain ⟨rfl, rfl⟩ := he
  obtain ⟨t, ht⟩ : ∃ t, tb[i]? = some t := ⟨_, List.getElem?_eq_getElem (by have := h.len; omega)⟩
  refine ⟨g, t, rfl, h.own.cellAt ?_, h.at_ i t d ht hd⟩
  rw [List.getElem?_map, (List.getElem?_zip_eq_some (z := (d, t))).2 ⟨hd, ht⟩]
  rfl

theorem ATNw.state {w : World} {ba : Nat} {ds : List Ds} {bs : List Nat} {R : Nat} {T : List (List TD)} (h : ATNw w ba ds bs R T) {s : Nat} {d : Ds} (hd : ds[s]? = some d) :
    ∃ sb A cp tb, StAt w ds bs s d.k sb d.rule A cp ((T[s]?).getD []) tb := by
  obtain ⟨AA, ss, hn, hx, hnx⟩ := h.ex
  have hs := (List.getElem?_eq_some_iff.1 hd).1
  obtain ⟨b, hb⟩ : ∃ b, bs[s]? = some b := ⟨_, List.getElem?_eq_getElem (by have := hn.blen; omega)⟩
  obtain ⟨st, hst⟩ : ∃ st, ss[s]? = some st := ⟨_, List.getElem?_eq_getElem (by have := hn.slen; omega)⟩
  obtain ⟨ts, hts⟩ : ∃ ts, T[s]? = some ts := ⟨_, List.getElem?_eq_getElem (by have := hn.tlen; omega)⟩
  obtain ⟨k1, k2⟩ := hn.kind s d st hd hst
  have hblk := hn.core.sts.at_ s st b hst hb
  obtain ⟨tb, t1, t2, t3⟩ := (hn.row s st ts hst hts).ex
  obtain ⟨A, cp, hA⟩ := t2.slice
  rw [hA] at t2
  rw [hts, Option.getD_some]
  refine ⟨b, A, cp, tb, ?_, ?_, ?_, ?_, t2, t1, t3⟩
  · unfold dv; rw [hd, hb]; rfl
  · rw [hblk.cell, St.c3, k2]
  · rw [hblk.cell, St.c4]
  · rw [hblk.cell, St.c6, hA]
theorem ATNw.states {w : World} {ba : Nat} {ds : List Ds} {bs : List Nat} {R : Nat} {T : List (List TD)} (h : ATNw w ba ds bs R T) (hn : 0 < ds.length) :
    ∃ g cp, w.cell? ⟨ba, 9, none⟩ = some (.slice (some ⟨g, 0, none⟩) ds.length cp) ∧ ∀ s, s < ds.length → w.cell? ⟨g, s, none⟩ = some (dv ds bs s) := by
  obtain ⟨AA, ss, hn', hx, hnx⟩ := h.ex
  have how := hn'.core.own
  obtain ⟨g, cp, cur, he, hb, hcur⟩ := Own.blk how (by have := hn'.slen; omega)
  refine ⟨g, cp, ?_, fun s hs => ?_⟩
  · rw [hn'.core.atn.cell, ← hn'.slen, ← he]; rfl
  · rw [he] at how
    refine how.cellAt ?_
    unfold stvs
    rw [List.getElem?_map, List.getElem?_range (by have := hn'.slen; omega)]
    obtain ⟨st, hst⟩ : ∃ st, ss[s]? = some st := ⟨_, List.getElem?_eq_getElem (by have := hn'.slen; omega)⟩
    obtain ⟨d, hd⟩ : ∃ d, ds[s]? = some d := ⟨_, List.getElem?_eq_getElem hs⟩
    obtain ⟨k1, k2⟩ := hn'.kind s d st hd hst
    simp [stv, dv, hst, hd, k1]
/-- the network as far as a search looks at it -/
structure ATNv (w : World) (ba : Nat) (ds : List Ds) (bs : List Nat) (T : List (List TD)) : Prop where
  states : 0 < ds.length → ∃ g cp, w.cell? ⟨ba, 9, none⟩ = some (.slice (some ⟨g, 0, none⟩) ds.length cp) ∧ ∀ s, s < ds.length → w.cell? ⟨g, s, none⟩ = some (dv ds bs s)
  state : ∀ {s : Nat} {d : Ds}, ds[s]? = some d → ∃ sb A cp tb, StAt w ds bs s d.k sb d.rule A cp ((T[s]?).getD []) tb
theorem ATNw.view {w : World} {ba : Nat} {ds : List Ds} {bs : List Nat} {R : Nat} {T : List (List TD)} (h : ATNw w ba ds bs R T) : ATNv w ba ds bs T := ⟨fun h1 => h.states h1, fun h1 => h.state h1⟩
theorem ATNv.no {w w' : World} {ba : Nat} {ds : List Ds} {bs : List Nat} {T : List (List TD)} (h : ATNv w ba ds bs T) (hc : Chg No w w') : ATNv w' ba ds bs T := by
  refine ⟨fun h1 => ?_, fun h1 => ?_⟩
  · obtain ⟨g, cp, h2, h3⟩ := h.states h1
    exact ⟨g, cp, Chg.kept hc h2 (fun h => h), fun s hs => Chg.kept hc (h3 s hs) (fun h => h)⟩
  · obtain ⟨sb, A, cp, tb, h2⟩ := h.state h1
    exact ⟨sb, A, cp, tb, h2.no hc⟩
theorem ATNv.stNum {w : World} {ba : Nat} {ds : List Ds} {bs : List Nat} {T : List (List TD)} (h : ATNv w ba ds bs T) : StNum w ds bs := by
  intro s hs
  obtain ⟨d, hd⟩ : ∃ d, ds[s]? = some d := ⟨_, List.getElem?_eq_getElem hs⟩
  obtain ⟨sb, A, cp, tb, h1⟩ := h.state hd
  exact ⟨d.k, sb, h1.val, h1.num⟩
end Go.Proofs.YtemdillhbnmjkaaGreatDoor
namespace Go.Proofs.YtemdillhbnmjkaaGreatDoor
open Go.RowKit

structure Env where
  w0 : World
  la : Nat
  ba : Nat
  ds : List Ds
  bs : List Nat
  R : Nat
  T : List (List TD)
  bot : Bool
  p : Nat
  jb : Nat
  cb : Nat
  All : List Pl.Cfg
def Env.N (E : Env) : Pl.NetG := netG E.R E.T
def Env.B (E : Env) : Nat := E.w0.heap.size
def Env.row (E : Env) (s : Nat) : List TD := (E.T[s]?).getD []
def TDOk (n R : Nat) : TD → Prop
  | .eps to => to < n
  | .rule st f q => st < R ∧ q = (st : Int) ∧ f < n
  | .atom to t => to < n ∧ t ∈ Pl.toks

structure Env.Fits (E : Env) : Prop where
  net : ATNv E.w0 E.ba E.ds E.bs E.T
  la : Blk E.w0 E.la #[.pointer (some ⟨E.ba, 0, none⟩)] 150
  rules : RulesOk E.ds E.R
  r6 : E.R ≤ 6
  n0 : 0 < E.ds.length
  n : E.ds.length < 1000
  rn : 2 * E.R ≤ E.ds.length
  row : ∀ s, ∀ d ∈ E.row s, TDOk E.ds.length E.R d
  rowlen : ∀ s, (E.row s).length < 1000
  closed : ∀ c ∈ E.All, ∀ d, Pl.Step E.N E.bot c d → d ∈ E.All
  allLen : E.All.length ≤ 14921325123000
  wide : ∀ s r d, E.bot = true → E.N.stop s = some r → d ∈ E.N.trs s → ∃ f, d = .eps f ∧ Pl.Ok E.N true (fun _ => false) f []

/-- what is held at every step -/
structure Env.At (E : Env) (w : World) (m : Nat) (V : List Pl.Cfg) (C : Nat) : Prop where
  base : Chg No E.w0 w
  look : LookS w E.B E.p m
  busy : Busy w E.bot E.ds E.bs E.B E.jb V
  bits : Bits w E.B E.cb C
  nodup : V.Nodup
  all : ∀ c ∈ V, c ∈ E.All
theorem Env.At.no {E : Env} {w w' : World} {m : Nat} {V : List Pl.Cfg} {C : Nat} (h : E.At w m V C) (hc : Chg No w w') : E.At w' m V C :=
  ⟨h.base.trans hc, LookS.tc (TC.no (Ts := []) (mp := false) (B := 0) hc) h.look (by simp) (by simp), h.busy.no hc, Bits.tc (TC.no (Ts := []) (mp := false) (B := 0) hc) h.bits (by simp) (by simp), h.nodup, h.all⟩
def TsA : List TypeId := [218, 158, 145, 104, 221, 239]
def Env.Post (E : Env) (w : World) (s : Nat) (k : List Nat) (V : List Pl.Cfg) (m C : Nat) (e : Ending) (w' : World) : Prop :=
  e = .returned (.tuple #[]) ∧ ∃ m' V', E.At w' m' V' C ∧ Pl.Grow E.N E.bot [] [(s, k)] V V' (fun t => Pl.has m t = true) (fun t => Pl.has m' t = true) ∧ TC TsA true E.B w w'
def Env.L1 (E : Env) (s : Nat) (k : List Nat) (V : List Pl.Cfg) (C : Nat) : Prop :=
  ∀ w v m, E.At w m V C → PCv w E.bot k v → Calls Tryz.prog 51 #[.pointer (some ⟨E.la, 0, none⟩), dv E.ds E.bs s, .nilIface, v, .pointer (some ⟨E.p, 0, none⟩), .pointer (some ⟨E.jb, 0, none⟩), .pointer (some ⟨E.cb, 0, none⟩), .bool (!E.bot), .bool (!E.bot)] w (E.Post w s k V m C)

theorem Env.Fits.ptr {E : Env} (F : E.Fits) {s : Nat} (hs : s < E.ds.length) : ∃ (K : SK) (sb : Nat), dv E.ds E.bs s = .iface K.ptr (.pointer (some ⟨sb, 0, none⟩)) := by
  obtain ⟨K, sb, h, _⟩ := F.net.stNum s hs
  exact ⟨K, sb, h⟩

set_option maxRecDepth 100000 in
theorem look2_any (E : Env) (F : E.Fits) (f : Nat) (k : List Nat) (V : List Pl.Cfg) (C : Nat) (hf : f < E.ds.length) (h : E.L1 f k V C) (w : World) (v : Value) (m : Nat) (K : SK) (sb : Nat) (hA : E.At w m V C) (hv : PCv w E.bot (f :: k) v) :
    Calls Tryz.prog 76 #[.pointer (some ⟨E.la, 0, none⟩), .iface K.ptr (.pointer (some ⟨sb, 0, none⟩)), .nilIface, v, .pointer (some ⟨E.p, 0, none⟩), .pointer (some ⟨E.jb, 0, none⟩), .pointer (some ⟨E.cb, 0, none⟩), .bool (!E.bot), .bool (!E.bot), .int .i64 0] w (E.Post w f k V m C) := by
  obtain ⟨b, v', rfl, hb, hv'⟩ := hv
  obtain ⟨q, rfl⟩ := hv'.ptr
  obtain ⟨g, cp, hst, hsa⟩ := F.net.states F.n0
  obtain ⟨K2, sb2, hfv⟩ := F.ptr hf
  have a0 : w.cell? ⟨E.la, 0, none⟩ = some (.pointer (some ⟨E.ba, 0, none⟩)) := Chg.keep hA.base (by rw [F.la.cell]; rfl) (fun h => h)
  have a1 : w.cell? ⟨E.ba, 9, none⟩ = some (.slice (some ⟨g, 0, none⟩) E.ds.length cp) := Chg.keep hA.base hst (fun h => h)
  have a2 : w.cell? ⟨g, f, none⟩ = some (dv E.ds E.bs f) := Chg.keep hA.base (hsa f hf) (fun h => h)
  rw [hfv] at a2
  have b1 : ∀ n, (w.drewN n).cell? ⟨b, 1, none⟩ = some (.int .i64 1) := fun n => by show w.cell? _ = _; rw [hb.cell]; rfl
  have b2 : ∀ n, (w.drewN n).cell? ⟨b, 2, none⟩ = some (.pointer q) := fun n => by show w.cell? _ = _; rw [hb.cell]; rfl
  have b3 : ∀ n, (w.drewN n).cell? ⟨b, 3, none⟩ = some (.int .i64 (f : Int)) := fun n => by show w.cell? _ = _; rw [hb.cell]; rfl
  have f0 : (0 : Int) ≤ ↑f := by omega
  have f1 : (f : Int) < ↑E.ds.length := by omega
  have HL := Lib.hid h
  have HA := Lib.hid hA
  have HV := Lib.hid hv'
  unfold Env.L1 at h
  have HC := Lib.hid (fun n => h (w.drewN n) _ m (hA.no ((Chg.refl No w).drewN n)) (PCv.chg ((Chg.refl No w).drewN n) (fun _ h => h.elim) hv'))
  rw [hfv] at HC
  have B1 := Lib.hid b1
  have B2 := Lib.hid b2
  have B3 := Lib.hid b3
  clear h hA hv' hst hsa hb b1 b2 b3
  go_enter Tryz.func76, Tryz.ntmps76
  go_wp2
  go_quiet ((go_at_call 75; exact qof (pcRet_s _ _ _ _ (B1.out _) (B3.out _))))
  go_wp2_with (first | (go_at_call 109; refine (pcPar_s _ _ _ _ (B1.out _) (B2.out _)).mono ?_; rintro e w' ⟨rfl, rfl⟩))
  refine (HC.out _).mono ?_
  rintro e w' ⟨rfl, m', V', h1, h2, h3⟩
  have H1 := Lib.hid h1
  have H2 := Lib.hid h2
  have H3 := Lib.hid h3
  clear h1 h2 h3
  go_wp2
  go_end0
  exact ⟨rfl, m', V', H1.out, H2.out, (TC.no ((Chg.refl No w).drewN _)).trans H3.out⟩
end Go.Proofs.YtemdillhbnmjkaaGreatDoor
namespace Go.Proofs.YtemdillhbnmjkaaGreatDoor
open Go.RowKit

set_option maxRecDepth 100000 in
theorem undo_any (u : FrameMode) (w : World) (B xb tx t sb cb m q : Nat) (K : SK) (hq : q < 6) (hx : w.cell? ⟨xb, 0, none⟩ = some (.pointer (some ⟨cb, 0, none⟩))) (ht : w.cell? ⟨tx, 0, none⟩ = some (.pointer (some ⟨t, 0, none⟩)))
    (htt : w.cell? ⟨t, 0, none⟩ = some (.iface K.ptr (.pointer (some ⟨sb, 0, none⟩)))) (hr : w.cell? ⟨sb, 3, none⟩ = some (.int .i64 (q : Int))) (hB : Bits w B cb m) :
    CallsD Tryz.prog 110 #[.pointer (some ⟨xb, 0, none⟩), .pointer (some ⟨tx, 0, none⟩)] u w fun e u' w' => u' = u ∧ (e = .returned (.tuple #[]) ∧ (Bits w' B cb (m &&& (63 - 2 ^ q)) ∧ TC TsB false B w w')) := by
  have HC := Lib.hid (remBit_any w.drew B cb m q hq (Bits.tc (TC.no (Ts := []) (mp := false) (B := 0) (Chg.refl No w).drew) hB (by simp) (by simp)))
  clear hB
  go_enter_d Tryz.func110, Tryz.ntmps110
  refine wp_tail 6 (by kernel_rfl) ?_
  simp only [List.take_succ_cons, List.take_zero, List.drop_succ_cons, List.drop_zero]
  repeat (first | still_step | still_call ((getTarget_s w.drew t _ htt ⟨_, _, rfl⟩)) | still_call (ruleIndex_s w.drew sb _ hr))
  refine wpStill_nil ?_
  go_wp2_with fail
  refine HC.out.mono ?_
  rintro e w' ⟨rfl, h1, h2⟩
  have H1 := Lib.hid h1
  have H2 := Lib.hid h2
  clear h1 h2
  go_wp2
  go_end0
  exact ⟨rfl, H1.out, (TC.no (Chg.refl No w).drew).trans H2.out⟩

set_option maxRecDepth 100000 in
theorem redo_any (u : FrameMode) (w : World) (B rb xb xs sb cb m q : Nat) (K : SK) (rm : Bool) (hq : q < 6) (hrb : w.cell? ⟨rb, 0, none⟩ = some (.bool rm)) (hx : w.cell? ⟨xb, 0, none⟩ = some (.pointer (some ⟨cb, 0, none⟩)))
    (hs : w.cell? ⟨xs, 0, none⟩ = some (.iface K.ptr (.pointer (some ⟨sb, 0, none⟩)))) (hr : w.cell? ⟨sb, 3, none⟩ = some (.int .i64 (q : Int))) (hB : Bits w B cb m) (hBs : B ≤ w.heap.size) :
    CallsD Tryz.prog 71 #[.pointer (some ⟨rb, 0, none⟩), .pointer (some ⟨xb, 0, none⟩), .pointer (some ⟨xs, 0, none⟩)] u w fun e u' w' => u' = u ∧ (e = .returned (.tuple #[]) ∧ (Bits w' B cb (if rm then m ||| 2 ^ q else m) ∧ TC TsB false B w w')) := by
  cases rm with
  | true =>
    have HC := Lib.hid (addBit_any w.drew B cb m q hq (Bits.tc (TC.no (Ts := []) (mp := false) (B := 0) (Chg.refl No w).drew) hB (by simp) (by simp)) hBs)
    clear hB
    go_enter_d Tryz.func71, Tryz.ntmps71
    go_wp2
    refine wp_tail 3 (by kernel_rfl) ?_
    simp only [List.take_succ_cons, List.take_zero, List.drop_succ_cons, List.drop_zero]
    repeat (first | still_step | still_call (ruleIndex_s w.drew sb _ hr))
    refine wpStill_nil ?_
    go_wp2_with fail
    refine HC.out.mono ?_
    rintro e w' ⟨rfl, h1, h2⟩
    have H1 := Lib.hid h1
    have H2 := Lib.hid h2
    clear h1 h2
    go_wp2
    go_end0
    exact ⟨rfl, H1.out, (TC.no (Chg.refl No w).drew).trans H2.out⟩
  | false =>
    have HB := Lib.hid hB
    clear hB
    go_enter_d Tryz.func71, Tryz.ntmps71
    go_wp2
    go_end0
    exact ⟨rfl, HB.out, TC.refl _ _ _ _⟩

theorem Env.At.withBits {E : Env} {w w' : World} {m : Nat} {V : List Pl.Cfg} {C C' : Nat} (h : E.At w m V C) (hc : TC TsB false E.B w w') (hb : Bits w' E.B E.cb C') : E.At w' m V C' :=
  ⟨TC.keep hc h.base, LookS.tc hc h.look (by decide) (by decide), h.busy.tc hc (by decide), hb, h.nodup, h.all⟩
theorem bit_back : ∀ m : Nat, m < 64 → ∀ q, q < 6 → m.testBit q = false → (m ||| 2 ^ q) &&& (63 - 2 ^ q) = m := by decide +kernel
theorem TsB_sub : ∀ T ∈ TsB, T ∈ TsA := by decide
theorem Env.At.lt {E : Env} {w : World} {m : Nat} {V : List Pl.Cfg} {C : Nat} (h : E.At w m V C) : E.B ≤ w.heap.size := h.base.size

set_option maxHeartbeats 1000000 in
set_option maxRecDepth 100000 in
theorem look3_any (E : Env) (F : E.Fits) (st f t : Nat) (k : List Nat) (V : List Pl.Cfg) (C : Nat) (hst : st < E.R) (hf : f < E.ds.length) (hbit : C.testBit st = false) (ht : TrAt E.w0 E.ds E.bs t (.rule st f (st : Int)))
    (h : E.L1 st (f :: f :: k) V (C ||| 2 ^ st)) (w : World) (v : Value) (m : Nat) (hA : E.At w m V C) (hv : PCv w E.bot (f :: k) v) :
    Calls Tryz.prog 78 #[.pointer (some ⟨E.la, 0, none⟩), .nilIface, v, .pointer (some ⟨E.p, 0, none⟩), .pointer (some ⟨E.jb, 0, none⟩), .pointer (some ⟨E.cb, 0, none⟩), .bool (!E.bot), .bool (!E.bot), .pointer (some ⟨t, 0, none⟩)] w (E.Post w st (f :: f :: k) V m C) := by
  have hst6 : st < 6 := Nat.lt_of_lt_of_le hst F.r6
  have hf' : f < 1000 := Nat.lt_trans hf F.n
  obtain ⟨po, hblk⟩ := ht
  obtain ⟨sbS, AS, cpS, tbS, hS⟩ := F.net.state (F.rules.start st hst)
  obtain ⟨fb, Af, cpf, tbf, hFf⟩ := F.net.state (List.getElem?_eq_getElem hf)
  have t0 : E.w0.cell? ⟨t, 0, none⟩ = some (dv E.ds E.bs st) := by rw [hblk.cell]; rfl
  have t5 : E.w0.cell? ⟨t, 1 + 4, none⟩ = some (dv E.ds E.bs f) := by rw [hblk.cell]; rfl
  rw [hS.val] at t0
  have hval := hS.val
  rw [hFf.val] at t5
  have sr : E.w0.cell? ⟨sbS, 3, none⟩ = some (.int .i64 (st : Int)) := hS.rule
  have fn := hFf.num
  generalize SK.rstart = K at *
  generalize (E.ds[f]).k = K2 at *
  have HF := Lib.hid F
  have HVal := Lib.hid hval
  clear hval
  have HT0 := Lib.hid t0
  have HT5 := Lib.hid t5
  have HSR := Lib.hid sr
  have HFN := Lib.hid fn
  obtain ⟨b, v', rfl, hb, hv'⟩ := hv
  have hvv : PCv w E.bot (f :: k) (.pointer (some ⟨b, 0, none⟩)) := ⟨b, v', rfl, hb, hv'⟩
  have w1c : Chg No w ((w.alloc (.cells #[.pointer (some ⟨E.cb, 0, none⟩)] 165)).alloc (.cells #[.pointer (some ⟨t, 0, none⟩)] 191)) := ((Chg.refl No w).alloc _).alloc _
  have bx := (Blk.new w #[.pointer (some ⟨E.cb, 0, none⟩)] 165).alloc (.cells #[.pointer (some ⟨t, 0, none⟩)] 191)
  have bt := Blk.new (w.alloc (.cells #[.pointer (some ⟨E.cb, 0, none⟩)] 165)) #[.pointer (some ⟨t, 0, none⟩)] 191
  have q0 := Chg.keep (hA.base.trans w1c) t0 (fun h => h)
  have q5 := Chg.keep (hA.base.trans w1c) t5 (fun h => h)
  have qn := Chg.keep (hA.base.trans w1c) fn (fun h => h)
  have HS1 := Lib.hid (single_any _ E.bot (f :: k) _ f (PCv.chg w1c (fun _ h => h.elim) hvv) hf')
  have HA1 := Lib.hid (hA.no w1c)
  have HW := Lib.hid w1c
  have HX := Lib.hid bx
  have HT := Lib.hid bt
  have HL := Lib.hid h
  have Hbit := Lib.hid hbit
  have hmf : ∀ (fn : Fn) (first cap : Array Value) (w : World), (Instr.makeFunc fn first cap).run Tryz.prog w = .ok (.func fn first cap) w := fun _ _ _ _ => rfl
  clear hblk hS hFf hA hv' hvv hb w1c bx bt F t0 t5 sr fn h hbit
  go_enter_defers Tryz.func78, Tryz.ntmps78
  go_wp2_with (first | (go_at_call 222; refine (stateNum_s _ _ _ qn).mono ?_; rintro e w' ⟨rfl, rfl⟩))
  refine HS1.out.mono ?_
  rintro e w2 ⟨rfl, h1, h2⟩
  simp only [World.size_alloc] at h1 ⊢
  have hA2 := HA1.out.no h2
  have hx2 := HX.out.chg h2 (fun h => h)
  have ht2 := HT.out.chg h2 (fun h => h)
  have hc2 := HW.out.trans h2
  have x0 : w2.cell? ⟨w.heap.size, 0, none⟩ = some (.pointer (some ⟨E.cb, 0, none⟩)) := by rw [hx2.cell]; rfl
  have x1 : w2.cell? ⟨w.heap.size + 1, 0, none⟩ = some (.pointer (some ⟨t, 0, none⟩)) := by rw [World.size_alloc] at ht2; rw [ht2.cell]; rfl
  have c0 := Chg.keep hA2.base HT0.out (fun h => h)
  have cr := Chg.keep hA2.base HSR.out (fun h => h)
  have HB3 := Lib.hid (addBit_any w2.drew E.B E.cb C st hst6 (hA2.no (Chg.refl No w2).drew).bits hA2.lt)
  have HA2 := Lib.hid hA2
  have HC2 := Lib.hid hc2
  have HX2 := Lib.hid hx2
  have HT2 := Lib.hid ht2
  have HV2 := Lib.hid h1
  clear hA2 hc2 hx2 ht2 h1 h2 q0 q5 qn
  go_wp2
  refine wp_tail 6 (by kernel_rfl) ?_
  simp only [List.take_succ_cons, List.take_zero, List.drop_succ_cons, List.drop_zero]
  repeat (first | still_step | still_call ((getTarget_s w2.drew t _ c0 ⟨_, _, rfl⟩)) | still_call (ruleIndex_s w2.drew sbS _ cr))
  refine wpStill_nil ?_
  go_wp2_with fail
  refine HB3.out.mono ?_
  rintro e w3 ⟨rfl, h3, h4⟩
  have hA3 := (HA2.out.no (Chg.refl No w2).drew).withBits h4 h3
  have hx3 := TC.blk h4 HX2.out.drew (by decide)
  have ht3 := TC.blk h4 HT2.out.drew (by decide)
  have hv3 : PCv w3 E.bot (f :: f :: k) _ := TC.pc h4 (PCv.chg (Chg.refl No w2).drew (fun _ h => h.elim) HV2.out) (by decide)
  have htc3 : TC TsA true E.B w w3 := (TC.no HC2.out.drew).trans (TC.mono h4 TsB_sub (fun h => by cases h))
  clear x0 x1 c0 cr
  rw [World.size_alloc] at ht3
  have x0 : w3.cell? ⟨w.heap.size, 0, none⟩ = some (.pointer (some ⟨E.cb, 0, none⟩)) := by rw [hx3.cell]; rfl
  have x1 : w3.cell? ⟨w.heap.size + 1, 0, none⟩ = some (.pointer (some ⟨t, 0, none⟩)) := by rw [ht3.cell]; rfl
  have c0 := Chg.keep hA3.base HT0.out (fun h => h)
  have hl3 := HL.out w3.drew _ m (hA3.no (Chg.refl No w3).drew) (PCv.chg (Chg.refl No w3).drew (fun _ h => h.elim) hv3)
  rw [HVal.out] at hl3
  have HC3 := Lib.hid hl3
  have HA3 := Lib.hid hA3
  have HX3 := Lib.hid hx3
  have HT3 := Lib.hid ht3
  have HTC3 := Lib.hid htc3
  clear hA3 hx3 ht3 htc3 hl3 hv3 h3 h4
  go_wp2
  refine wp_tail 12 (by kernel_rfl) ?_
  simp only [List.take_succ_cons, List.take_zero, List.drop_succ_cons, List.drop_zero]
  repeat (first | still_step | still_call ((getTarget_s w3.drew t _ c0 ⟨_, _, rfl⟩)))
  refine wpStill_nil ?_
  go_wp2_with fail
  refine HC3.out.mono ?_
  rintro e w4 ⟨rfl, m', V', h5, h6, h7⟩
  have hx4 := TC.blk h7 HX3.out.drew (by decide)
  have ht4 := TC.blk h7 HT3.out.drew (by decide)
  have x4 : w4.cell? ⟨w.heap.size, 0, none⟩ = some (.pointer (some ⟨E.cb, 0, none⟩)) := by rw [hx4.cell]; rfl
  have x5 : w4.cell? ⟨w.heap.size + 1, 0, none⟩ = some (.pointer (some ⟨t, 0, none⟩)) := by rw [ht4.cell]; rfl
  have c4 := Chg.keep h5.base HT0.out (fun h => h)
  have cr4 := Chg.keep h5.base HSR.out (fun h => h)
  have HU := Lib.hid (undo_any .returning w4 E.B w.heap.size (w.heap.size + 1) t sbS E.cb (C ||| 2 ^ st) st K hst6 x4 x5 c4 cr4 h5.bits)
  have H5 := Lib.hid h5
  have H6 := Lib.hid h6
  have H7 := Lib.hid h7
  clear h5 h6 h7 hx4 ht4 x0 x1 c0 x4 x5 c4 cr4
  go_wp2
  refine leaves_cons (f := 110) (args := #[.pointer (some ⟨w.heap.size, 0, none⟩), .pointer (some ⟨w.heap.size + 1, 0, none⟩)]) (by simp) (by simp [go_sem]) ?_
  refine HU.out.mono ?_
  rintro e u' w5 ⟨rfl, rfl, h8, h9⟩
  rw [bit_back C HA2.out.bits.1 st hst6 Hbit.out] at h8
  have hp : E.Post w st (f :: f :: k) V m C (.returned (.tuple #[])) w5 := ⟨rfl, m', V', H5.out.withBits h9 h8, H6.out, (HTC3.out.trans (TC.no (Chg.refl No w3).drew)).trans (H7.out.trans (TC.mono h9 TsB_sub (fun h => by cases h)))⟩
  simp [Leaves, settle, results, Tryz.results78, go_sem]
  exact hp
end Go.Proofs.YtemdillhbnmjkaaGreatDoor

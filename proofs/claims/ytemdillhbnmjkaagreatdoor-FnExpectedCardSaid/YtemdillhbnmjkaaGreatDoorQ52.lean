/- The contexts of rules: a chain of the states from which they were invoked (39, 200, 201). · What can follow a state, kept by the states (61, 97, 98). · What can follow a state: NextTokens (61, 97, 98). · What may come at a state within rules that were called: getExpectedTokens (48). · What may come within rules that were called: ZZExpectedTokens (37), the thin package's Expected (19). -/
import Derived.Test.YtemdillhbnmjkaaGreatDoorQ50
import Derived.Test.YtemdillhbnmjkaaGreatDoorQ49
import Derived.Test.YtemdillhbnmjkaaGreatDoorQ51
import Derived.Test.YtemdillhbnmjkaaGreatDoorQ39
namespace Go.Proofs.YtemdillhbnmjkaaGreatDoor
open Go.RowKit

@[go_sem] theorem m_ctx_inv (a : Addr) (w : World) : (method 583 146 (.pointer (some a)) "GetInvokingState").run Tryz.prog w = .ok (200, .pointer (some a)) w := by kernel_rfl
@[go_sem] theorem n_ctx_inv (a : Addr) (w : World) : (nilAhead 583 146 (.pointer (some a)) "GetInvokingState").run Tryz.prog w = .ok (some false) w := by kernel_rfl
@[go_sem] theorem m_ctx_par (a : Addr) (w : World) : (method 583 146 (.pointer (some a)) "GetParent").run Tryz.prog w = .ok (201, .pointer (some a)) w := by kernel_rfl
@[go_sem] theorem n_ctx_par (a : Addr) (w : World) : (nilAhead 583 146 (.pointer (some a)) "GetParent").run Tryz.prog w = .ok (some false) w := by kernel_rfl
@[go_sem] theorem ta_ctx (a : Addr) (w : World) : (Instr.typeAssert (.iface 146 (.pointer (some a))) 106 106 false).run Tryz.prog w = .ok (.iface 146 (.pointer (some a))) w := by kernel_rfl

/-- the chain of contexts, the innermost state first -/
def CtxAt (w : World) : List Nat → Value → Prop
  | [], v => ∃ b, v = .iface 146 (.pointer (some ⟨b, 0, none⟩)) ∧ Blk w b #[.nilIface, .int .i64 (-1)] 148
  | s :: ss, v => ∃ b u, v = .iface 146 (.pointer (some ⟨b, 0, none⟩)) ∧ Blk w b #[u, .int .i64 (s : Int)] 148 ∧ CtxAt w ss u
theorem CtxAt.chg {S : Nat → Prop} {w w' : World} (hc : Chg S w w') (hn : ∀ k, S k → k < w.heap.size → ∃ c T, Blk w k c T ∧ T ≠ 148) : ∀ {ss : List Nat} {v : Value}, CtxAt w ss v → CtxAt w' ss v := by
  have hb : ∀ {b : Nat} {c : Array Value}, Blk w b c 148 → Blk w' b c 148 := fun h => h.chg hc (fun hS => by
    obtain ⟨c', T, h1, h2⟩ := hn _ hS h.lt
    exact h2 (h.uniq h1).2.symm)
  intro ss
  induction ss with
  | nil => rintro v ⟨b, rfl, h⟩; exact ⟨b, rfl, hb h⟩
  | cons s ss ih => rintro v ⟨b, u, rfl, h1, h2⟩; exact ⟨b, u, rfl, hb h1, ih h2⟩
theorem CtxAt.no {w w' : World} (hc : Chg No w w') {ss : List Nat} {v : Value} (h : CtxAt w ss v) : CtxAt w' ss v := h.chg hc (fun _ h => h.elim)
theorem CtxAt.ptr {w : World} {ss : List Nat} {v : Value} (h : CtxAt w ss v) : ∃ b, v = .iface 146 (.pointer (some ⟨b, 0, none⟩)) := by
  cases ss with
  | nil => obtain ⟨b, rfl, _⟩ := h; exact ⟨b, rfl⟩
  | cons s ss => obtain ⟨b, u, rfl, _⟩ := h; exact ⟨b, rfl⟩

theorem ctxInv_s (w : World) (b : Nat) (n : Int) (c : w.cell? ⟨b, 1, none⟩ = some (.int .i64 n)) : Calls Tryz.prog 200 #[.pointer (some ⟨b, 0, none⟩)] w fun e w' => e = .returned (.int .i64 n) ∧ w = w' := by
  go_enter Tryz.func200, Tryz.ntmps200
  go_wp2
  go_ret
  exact ⟨rfl, rfl⟩
theorem ctxPar_s (w : World) (b : Nat) (a : Addr) (c : w.cell? ⟨b, 0, none⟩ = some (.iface 146 (.pointer (some a)))) : Calls Tryz.prog 201 #[.pointer (some ⟨b, 0, none⟩)] w fun e w' => e = .returned (.iface 146 (.pointer (some a))) ∧ w = w' := by
  go_enter Tryz.func201, Tryz.ntmps201
  go_wp2
  go_ret
  exact ⟨rfl, rfl⟩

set_option maxHeartbeats 1000000 in
set_option maxRecDepth 100000 in
theorem zzContext_any (w : World) (v : Value) (xs : List Nat) (h : Rd1 w v (xs.map fun x => ((x : Nat) : Int))) (hl : xs.length < 1000) :
    Calls Tryz.prog 39 #[v] w fun e w' => ∃ u, e = .returned u ∧ CtxAt w' xs.reverse u ∧ Chg No w w' := by
  obtain ⟨A, c, rfl⟩ := h.slice
  have HR := Lib.hid h
  have hlm : (xs.map fun x => ((x : Nat) : Int)).length = xs.length := List.length_map _
  rw [hlm] at *
  clear h
  go_enter Tryz.func39, Tryz.ntmps39
  go_wp2
  go_loopw [3, 11] (fun u i wr => ∃ k : Nat, k ≤ xs.length ∧ i = .int .i64 (k : Int) ∧ CtxAt wr (xs.take k).reverse u ∧ Chg No w wr) (fun _ i _ => xs.length - (intOf i).toNat)
  case atStart => exact ⟨0, Nat.zero_le _, rfl, ⟨_, rfl, Blk.new _ _ _⟩, (Chg.refl _ _).alloc _⟩
  case round =>
    obtain ⟨k, hk, rfl, hC, hn⟩ := hrel
    obtain ⟨bb, rfl⟩ := hC.ptr
    by_cases hlt : k < xs.length
    · obtain ⟨x, hx⟩ : ∃ x, xs[k]? = some x := ⟨_, List.getElem?_eq_getElem hlt⟩
      obtain ⟨b, o, rfl, h1⟩ := HR.out.at_ (i := k) (x := (x : Int)) (by rw [List.getElem?_map, hx]; rfl)
      have h2 := Chg.kept hn h1 (fun h => h)
      have HX := Lib.hid hx
      have HC := Lib.hid hC
      have HN := Lib.hid hn
      clear h1 hx hC hn
      go_wp2
      go_roundw
      case rel =>
        refine ⟨k + 1, by omega, by go_num, ?_, HN.out.alloc _⟩
        rw [List.take_add_one, HX.out, Option.toList_some, List.reverse_append]
        exact ⟨_, _, rfl, Blk.new _ _ _, HC.out.no ((Chg.refl No _).alloc _)⟩
      case measure => simp [intOf]; omega
    · obtain rfl : k = xs.length := by omega
      have HC := Lib.hid hC
      have HN := Lib.hid hn
      clear hC hn
      go_wp2
      go_ret
      exact ⟨_, rfl, by have := HC.out; rwa [List.take_length] at this, HN.out⟩
end Go.Proofs.YtemdillhbnmjkaaGreatDoor
namespace Go.Proofs.YtemdillhbnmjkaaGreatDoor
open Go.RowKit

/-- the network of g -/
noncomputable def nG (g : Pl.Gr) : Pl.NetG := netG g.length (T2of (dsOf g) g.length (edOf g))
/-- what a state keeps -/
def Kept (g : Pl.Gr) (w0 w : World) (S : Nat → Prop) (j : Nat) (x : Value) : Prop :=
  x = .pointer none ∨ ∃ q m u, x = .pointer (some ⟨q, 0, none⟩) ∧ SetG w q m u ∧ (∀ t, Pl.has m t = true ↔ Pl.TR (nG g) false (j, []) t) ∧ (w0.heap.size ≤ q ∧ ¬ S q) ∧ ∀ k, u.ownBlock = some k → w0.heap.size ≤ k ∧ ¬ S k
/-- the network with what its states keep; S: blocks that none of them keeps -/
structure NetC (g : Pl.Gr) (w0 w : World) (ba : Nat) (bs : List Nat) (S : Nat → Prop) : Prop where
  mk' ::
  chg : Chg (fun k => k ∈ bs) w0 w
  ex : ∃ A ss, Net w0 ba A (dsOf g) bs ss (T2of (dsOf g) g.length (edOf g)) ∧ ∀ (j : Nat) s b, ss[j]? = some s → bs[j]? = some b → ∃ x, Blk w b (({ s with next := x } : St).cells ba j) s.k.str ∧ Kept g w0 w S j x

theorem ATNw.netC {g : Pl.Gr} {w0 : World} {ba : Nat} {bs : List Nat} (h : ATNw w0 ba (dsOf g) bs g.length (T2of (dsOf g) g.length (edOf g))) (S : Nat → Prop) : NetC g w0 w0 ba bs S := by
  obtain ⟨A, ss, hn, _, hx⟩ := h.ex
  refine ⟨Chg.refl _ _, A, ss, hn, fun j s b hs hb => ⟨.pointer none, ?_, .inl rfl⟩⟩
  have := hn.core.sts.at_ j s b hs hb
  rw [show ({ s with next := .pointer none } : St) = s by have := hx j s hs; cases s; simp at this; subst this; rfl]
  exact this
theorem Net.inBs {w0 : World} {ba : Nat} {A : AF} {ds : List Ds} {bs : List Nat} {ss : List St} {T : List (List TD)} (hn : Net w0 ba A ds bs ss T) : ∀ k ∈ bs, ∃ (j : Nat) (s : St), ss[j]? = some s ∧ bs[j]? = some k ∧ Blk w0 k (s.cells ba j) s.k.str := by
  intro k hk
  obtain ⟨j, hj⟩ := List.getElem?_of_mem hk
  have hl := (List.getElem?_eq_some_iff.1 hj).1
  have := hn.core.sts.len
  obtain ⟨s, hs⟩ : ∃ s, ss[j]? = some s := ⟨_, List.getElem?_eq_getElem (by omega)⟩
  exact ⟨j, s, hs, hj, hn.core.sts.at_ j s k hs hj⟩
theorem NetC.view {g : Pl.Gr} {w0 w : World} {ba : Nat} {bs : List Nat} {S : Nat → Prop} (h : NetC g w0 w ba bs S) : ATNv w ba (dsOf g) bs (T2of (dsOf g) g.length (edOf g)) := by
  obtain ⟨A, ss, hn, hk⟩ := h.ex
  have hin := hn.inBs
  refine ⟨fun h0 => ?_, fun {s d} hd => ?_⟩
  · have how := hn.core.own
    obtain ⟨gb, cp, cur, he, hb, hcur⟩ := Own.blk how (by have := hn.slen; omega)
    have how2 : Own w 109 1 A.st ss.length (stvs ss bs) := how.chg h.chg (fun k hk hkb => by
      obtain ⟨j, s, h1, h2, h3⟩ := hin k hkb
      exact how.ne h3 (Ne.symm (SK.str_ne2 _).2.2.2.1) hk)
    have hat : Blk w ba A.cells 118 := hn.core.atn.chg h.chg (fun hkb => by
      obtain ⟨j, s, h1, h2, h3⟩ := hin _ hkb
      exact hn.core.atn.ne h3 (Ne.symm (SK.str_ne2 _).2.2.1) rfl)
    refine ⟨gb, cp, ?_, fun s hs => ?_⟩
    · rw [hat.cell, ← hn.slen, ← he]; rfl
    · rw [he] at how2
      refine how2.cellAt ?_
      unfold stvs
      rw [List.getElem?_map, List.getElem?_range (by have := hn.slen; omega)]
      obtain ⟨st, hst⟩ : ∃ st, ss[s]? = some st := ⟨_, List.getElem?_eq_getElem (by have := hn.slen; omega)⟩
      obtain ⟨d, hd⟩ : ∃ d, (dsOf g)[s]? = some d := ⟨_, List.getElem?_eq_getElem hs⟩
      obtain ⟨k1, k2⟩ := hn.kind s d st hd hst
      simp [stv, dv, hst, hd, k1]
  · have hs := (List.getElem?_eq_some_iff.1 hd).1
    obtain ⟨b, hb⟩ : ∃ b, bs[s]? = some b := ⟨_, List.getElem?_eq_getElem (by have := hn.blen; omega)⟩
    obtain ⟨st, hst⟩ : ∃ st, ss[s]? = some st := ⟨_, List.getElem?_eq_getElem (by have := hn.slen; omega)⟩
    obtain ⟨ts, hts⟩ : ∃ ts, (T2of (dsOf g) g.length (edOf g))[s]? = some ts := ⟨_, List.getElem?_eq_getElem (by have := hn.tlen; omega)⟩
    obtain ⟨k1, k2⟩ := hn.kind s d st hd hst
    obtain ⟨x, hblk, _⟩ := hk s st b hst hb
    obtain ⟨tb, t1, t2, t3⟩ := (hn.row s st ts hst hts).ex
    have t2' := t2.chg h.chg (fun k hk hkb => by
      obtain ⟨j, s, h1, h2, h3⟩ := hin k hkb
      exact t2.ne h3 (Ne.symm (SK.str_tr _).2) hk)
    obtain ⟨AA, cp, hA⟩ := t2.slice
    rw [hA] at t2'
    rw [hts, Option.getD_some]
    refine ⟨b, AA, cp, tb, ?_, ?_, ?_, ?_, t2', t1, fun i t d' h1 h2 => (t3 i t d' h1 h2).chg h.chg (fun k hkb _ => ?_)⟩
    · unfold dv; rw [hd, hb]; rfl
    · rw [hblk.cell, St.c3, ← k2]
    · rw [hblk.cell, St.c4]
    · rw [hblk.cell, St.c6, ← hA]
    · obtain ⟨j, s, h1, h2, h3⟩ := hin k hkb
      exact ⟨_, _, h3, (SK.str_tr _).1⟩
/-- other blocks change -/
theorem NetC.go {g : Pl.Gr} {w0 w w' : World} {ba : Nat} {bs : List Nat} {S S1 S2 : Nat → Prop} (h : NetC g w0 w ba bs S) (hc : Chg S1 w w') (h1 : ∀ k, k < w.heap.size → S1 k → w0.heap.size ≤ k ∧ S k) (h2 : ∀ k, k < w.heap.size → S2 k → S k) : NetC g w0 w' ba bs S2 := by
  obtain ⟨A, ss, hn, hk⟩ := h.ex
  have hsz := h.chg.size
  refine ⟨h.chg.then hc (fun k hk e => by have := (h1 k (by omega) e).1; omega), A, ss, hn, fun j s b hs hb => ?_⟩
  obtain ⟨x, hx, hkx⟩ := hk j s b hs hb
  have hb0 := hn.core.sts.lt hb
  refine ⟨x, hx.chg hc (fun e => by have := (h1 b hx.lt e).1; omega), ?_⟩
  rcases hkx with e | ⟨q, m, u, e, k1, k2, k3, k4⟩
  · exact .inl e
  · obtain ⟨l1, l2⟩ := k1.lt
    refine .inr ⟨q, m, u, e, k1.chg hc (fun e => k3.2 (h1 q l1 e).2) (fun k hk e => (k4 k hk).2 (h1 k (l2 k hk) e).2), k2, ⟨k3.1, fun e => k3.2 (h2 q l1 e)⟩, fun k hk => ⟨(k4 k hk).1, fun e => (k4 k hk).2 (h2 k (l2 k hk) e)⟩⟩
theorem NetC.no {g : Pl.Gr} {w0 w w' : World} {ba : Nat} {bs : List Nat} {S : Nat → Prop} (h : NetC g w0 w ba bs S) (hc : Chg No w w') : NetC g w0 w' ba bs S := h.go hc (fun _ _ h => h.elim) (fun _ _ h => h)
/-- a state keeps a set -/
theorem NetC.put {g : Pl.Gr} {w0 w : World} {ba : Nat} {bs : List Nat} {S : Nat → Prop} (h : NetC g w0 w ba bs S) {j b q m : Nat} {u : Value} (hb : bs[j]? = some b) (hs : SetG w q m u) (ht : ∀ t, Pl.has m t = true ↔ Pl.TR (nG g) false (j, []) t)
    (hq : w0.heap.size ≤ q ∧ ¬ S q) (hu : ∀ k, u.ownBlock = some k → w0.heap.size ≤ k ∧ ¬ S k) : NetC g w0 (w.setCell ⟨b, 0, none⟩ (.pointer (some ⟨q, 0, none⟩))) ba bs S ∧ SetG (w.setCell ⟨b, 0, none⟩ (.pointer (some ⟨q, 0, none⟩))) q m u ∧ Chg (fun k => k ∈ bs) w (w.setCell ⟨b, 0, none⟩ (.pointer (some ⟨q, 0, none⟩))) := by
  obtain ⟨A, ss, hn, hk⟩ := h.ex
  have hb0 := hn.core.sts.lt hb
  have hc : Chg (fun k => k = b) w (w.setCell ⟨b, 0, none⟩ (.pointer (some ⟨q, 0, none⟩))) := (Chg.refl (fun k => k = b) w).setCell (p := ⟨b, 0, none⟩) (fun _ => rfl) _
  have hset : ∀ {q' m' : Nat} {u' : Value}, SetG w q' m' u' → w0.heap.size ≤ q' → (∀ k, u'.ownBlock = some k → w0.heap.size ≤ k) → SetG (w.setCell ⟨b, 0, none⟩ (.pointer (some ⟨q, 0, none⟩))) q' m' u' := fun h1 h2 h3 => h1.chg hc (fun e => by omega) (fun k hk e => by have := h3 k hk; omega)
  refine ⟨⟨h.chg.setCell (fun _ => List.mem_of_getElem? hb) _, A, ss, hn, fun i s b' hs' hb' => ?_⟩, hset hs hq.1 (fun k hk => (hu k hk).1), hc.mono (fun k _ e => by subst e; exact List.mem_of_getElem? hb)⟩
  obtain ⟨x, hx, hkx⟩ := hk i s b' hs' hb'
  by_cases hi : i = j
  · subst hi
    obtain rfl : b' = b := Option.some.inj (hb'.symm.trans hb)
    refine ⟨.pointer (some ⟨q, 0, none⟩), ?_, .inr ⟨q, m, u, rfl, hset hs hq.1 (fun k hk => (hu k hk).1), ht, hq, hu⟩⟩
    have := hx.set 0 (.pointer (some ⟨q, 0, none⟩))
    rwa [St.set0] at this
  · refine ⟨x, hx.other (fun e => hi (hn.core.sts.inj hb' (by rw [e]; exact hb))) _, ?_⟩
    rcases hkx with e | ⟨q', m', u', e, k1, k2, k3, k4⟩
    · exact .inl e
    · exact .inr ⟨q', m', u', e, hset k1 k3.1 (fun k hk => (k4 k hk).1), k2, k3, k4⟩
end Go.Proofs.YtemdillhbnmjkaaGreatDoor
namespace Go.Proofs.YtemdillhbnmjkaaGreatDoor
open Go.RowKit

theorem nextTok_s (w : World) (b : Nat) (q : Option Addr) (c : w.cell? ⟨b, 0, none⟩ = some (.pointer q)) : Calls Tryz.prog 220 #[.pointer (some ⟨b, 0, none⟩)] w fun e w' => e = .returned (.pointer q) ∧ w = w' := by
  go_enter Tryz.func220, Tryz.ntmps220
  go_wp2
  go_ret
  exact ⟨rfl, rfl⟩
theorem setTok_s (w : World) (b : Nat) (x : Value) (q : Option Addr) (c : w.cell? ⟨b, 0, none⟩ = some x) (f : w.frozen? ⟨b, 0, none⟩ = false) : Calls Tryz.prog 226 #[.pointer (some ⟨b, 0, none⟩), .pointer q] w fun e w' => e = .returned (.tuple #[]) ∧ w.setCell ⟨b, 0, none⟩ (.pointer q) = w' := by
  go_enter Tryz.func226, Tryz.ntmps226
  go_wp2
  go_end0
  exact ⟨rfl, rfl⟩

set_option maxRecDepth 100000 in
theorem inCtx_any (g : Pl.Gr) (G : Pl.GoodG g) (w : World) (ba : Nat) (bs : List Nat) (hn : ATNv w ba (dsOf g) bs (T2of (dsOf g) g.length (edOf g)))
    (s : Nat) (hs : s < (dsOf g).length) (hA : (s, []) ∈ Pl.allCfg g) (hok : Pl.Ok (netG g.length (T2of (dsOf g) g.length (edOf g))) false (fun _ => false) s []) :
    Calls Tryz.prog 98 #[.pointer (some ⟨ba, 0, none⟩), dv (dsOf g) bs s, .nilIface] w (LookRet g false w s) := by
  obtain ⟨K, sb, hdv, _⟩ := hn.stNum s hs
  have hc : Chg No w (w.alloc (.cells #[.pointer (some ⟨ba, 0, none⟩)] 150)) := (Chg.refl No w).alloc _
  have h := look_any g G (w.alloc (.cells #[.pointer (some ⟨ba, 0, none⟩)] 150)) w.heap.size ba bs (hn.no hc) (Blk.new _ _ _) s hs hA hok
  rw [hdv] at h ⊢
  have HL := Lib.hid h
  have HC := Lib.hid hc
  clear h hc hn hdv hok hA
  go_enter Tryz.func98, Tryz.ntmps98
  go_wp2_with (first | (go_at_call 40; refine (newLL_any _ _).mono ?_; rintro e w' ⟨rfl, rfl⟩))
  refine HL.out.mono ?_
  rintro e w' ⟨p, m, rfl, h1, h2, h3⟩
  have H1 := Lib.hid h1
  have H2 := Lib.hid h2
  have H3 := Lib.hid h3
  clear h1 h2 h3
  go_wp2
  go_ret
  have hsz := HC.out.size
  refine ⟨p, m, rfl, ?_, H2.out, HC.out.trans H3.out⟩
  obtain ⟨a1, a2, v, ro, a3, a4⟩ := H1.out
  refine ⟨a1, by omega, v, ro, a3, ?_⟩
  rcases a4 with a4 | ⟨g', c, e, a5, a6⟩
  · exact .inl a4
  · exact .inr ⟨g', c, e, a5, by omega⟩

/-- what NextTokens returns -/
def NtRet (g : Pl.Gr) (w0 w : World) (ba : Nat) (bs : List Nat) (S : Nat → Prop) (s : Nat) (e : Ending) (w' : World) : Prop :=
  ∃ q m u, e = .returned (.pointer (some ⟨q, 0, none⟩)) ∧ SetG w' q m u ∧ (∀ t, Pl.has m t = true ↔ Pl.TR (nG g) false (s, []) t) ∧ (¬ S q ∧ ∀ k, u.ownBlock = some k → ¬ S k) ∧ NetC g w0 w' ba bs S ∧ Chg (fun k => k ∈ bs) w w'

set_option maxRecDepth 100000 in
theorem noCtx_any (g : Pl.Gr) (G : Pl.GoodG g) (w0 w : World) (ba : Nat) (bs : List Nat) (S : Nat → Prop) (hn : NetC g w0 w ba bs S) (hS : ∀ k, S k → k < w.heap.size)
    (s : Nat) (hs : s < (dsOf g).length) (hA : (s, []) ∈ Pl.allCfg g) (hok : Pl.Ok (nG g) false (fun _ => false) s []) :
    Calls Tryz.prog 97 #[.pointer (some ⟨ba, 0, none⟩), dv (dsOf g) bs s] w (NtRet g w0 w ba bs S s) := by
  obtain ⟨d, hd⟩ : ∃ d, (dsOf g)[s]? = some d := ⟨_, List.getElem?_eq_getElem hs⟩
  obtain ⟨A, ss, hN, hk⟩ := hn.ex
  obtain ⟨b, hb⟩ : ∃ b, bs[s]? = some b := ⟨_, List.getElem?_eq_getElem (by have := hN.blen; omega)⟩
  obtain ⟨st, hst⟩ : ∃ st, ss[s]? = some st := ⟨_, List.getElem?_eq_getElem (by have := hN.slen; omega)⟩
  have hdv : dv (dsOf g) bs s = .iface d.k.ptr (.pointer (some ⟨b, 0, none⟩)) := by unfold dv; rw [hd, hb]; rfl
  obtain ⟨x, hblk, hkept⟩ := hk s st b hst hb
  have hs0 := hn.chg.size
  have hctx := inCtx_any g G w ba bs hn.view s hs hA hok
  rw [hdv] at hctx ⊢
  have c0 : w.cell? ⟨b, 0, none⟩ = some x := by rw [hblk.cell, St.c0]
  have blt := hblk.lt
  rcases hkept with rfl | ⟨q, m, u, rfl, k1, k2, k3, k4⟩
  · have HX := Lib.hid hctx
    have HN := Lib.hid hn
    have HB := Lib.hid hblk
    clear hctx hn hblk hk hN hok hA hdv
    go_enter Tryz.func97, Tryz.ntmps97
    go_wp2_with (first | (go_at_call 220; refine (nextTok_s _ _ _ c0).mono ?_; rintro e w' ⟨rfl, rfl⟩))
    refine HX.out.mono ?_
    rintro e w2 ⟨p, m, rfl, h1, h2, h3⟩
    obtain ⟨v, g1, g2, g3⟩ := h1.setG
    obtain ⟨hm, ⟨ro, hb2⟩, hv⟩ := g1
    have r0 : w2.cell? ⟨p, 1, none⟩ = some (.bool ro) := by rw [hb2.cell]; rfl
    have rf := hb2.fz 1
    have plt := hb2.lt
    have hb3 := hb2.set 1 (.bool true)
    have hcs : Chg (fun k => k = p) w2 (w2.setCell ⟨p, 1, none⟩ (.bool true)) := (Chg.refl (fun k => k = p) w2).setCell (p := ⟨p, 1, none⟩) (fun _ => rfl) _
    have hgood : SetG (w2.setCell ⟨p, 1, none⟩ (.bool true)) p m v := by
      refine ⟨hm, ⟨true, hb3⟩, ?_⟩
      rcases hv with hv | ⟨gg, c, e, h5⟩
      · exact .inl hv
      · exact .inr ⟨gg, c, e, h5.chg hcs (fun k hk e => h5.ne hb2 (by decide) (by rw [← e]; exact hk))⟩
    have hb4 := (HB.out.chg h3 (fun h => h)).other (a := ⟨p, 1, none⟩) (show b ≠ p by omega) (.bool true)
    have hcw : Chg No w (w2.setCell ⟨p, 1, none⟩ (.bool true)) := h3.setCell (fun h => by simp at h; omega) _
    have hput := (HN.out.no hcw).put hb hgood h2 ⟨by omega, fun h => by have := hS p h; omega⟩ (fun k hk => ⟨by have := g3 k hk; omega, fun h => by have := hS k h; have := g3 k hk; omega⟩)
    have d0 : (w2.setCell ⟨p, 1, none⟩ (.bool true)).cell? ⟨b, 0, none⟩ = some (.pointer none) := by rw [hb4.cell, St.c0]
    have df := hb4.fz 0
    have HP := Lib.hid hput
    have HT := Lib.hid h2
    have HW := Lib.hid hcw
    have HNS := Lib.hid (show ¬ S p ∧ ∀ k, v.ownBlock = some k → ¬ S k from ⟨fun h => by have := hS p h; omega, fun k hk h => by have := hS k h; have := g3 k hk; omega⟩)
    clear h1 h2 h3 g2 g3 hb2 hv hb3 hcs hgood hb4 hcw hput
    go_wp2_with (first | (go_at_call 226; refine (setTok_s _ _ _ _ d0 df).mono ?_; rintro e w' ⟨rfl, rfl⟩))
    go_ret
    exact ⟨p, m, v, rfl, HP.out.2.1, HT.out, HNS.out, HP.out.1, (HW.out.mono (fun _ _ h => h.elim)).trans HP.out.2.2⟩
  · have HK1 := Lib.hid k1
    have HK2 := Lib.hid k2
    have HK := Lib.hid (show ¬ S q ∧ ∀ k, u.ownBlock = some k → ¬ S k from ⟨k3.2, fun k hk => (k4 k hk).2⟩)
    have HN := Lib.hid hn
    clear hctx hn hblk hk hN hok hA hdv k1 k2 k3 k4
    go_enter Tryz.func97, Tryz.ntmps97
    go_wp2_with (first | (go_at_call 220; refine (nextTok_s _ _ _ c0).mono ?_; rintro e w' ⟨rfl, rfl⟩))
    go_ret
    exact ⟨q, m, u, rfl, HK1.out, HK2.out, HK.out, HN.out, Chg.refl _ _⟩

set_option maxRecDepth 100000 in
theorem nextTokens_any (g : Pl.Gr) (G : Pl.GoodG g) (w0 w : World) (ba : Nat) (bs : List Nat) (S : Nat → Prop) (hn : NetC g w0 w ba bs S) (hS : ∀ k, S k → k < w.heap.size)
    (s : Nat) (hs : s < (dsOf g).length) (hA : (s, []) ∈ Pl.allCfg g) (hok : Pl.Ok (nG g) false (fun _ => false) s []) :
    Calls Tryz.prog 61 #[.pointer (some ⟨ba, 0, none⟩), dv (dsOf g) bs s, .nilIface] w (NtRet g w0 w ba bs S s) := by
  have h := noCtx_any g G w0 w ba bs S hn hS s hs hA hok
  obtain ⟨K, sb, hdv, _⟩ := hn.view.stNum s hs
  rw [hdv] at h ⊢
  have H := Lib.hid h
  clear h hn hok hA hdv
  go_enter Tryz.func61, Tryz.ntmps61
  go_wp2_with fail
  refine H.out.mono ?_
  rintro e w' ⟨q, m, u, rfl, h1⟩
  have H1 := Lib.hid h1
  clear h1
  go_wp2
  go_ret
  exact ⟨q, m, u, rfl, H1.out⟩
end Go.Proofs.YtemdillhbnmjkaaGreatDoor
namespace Go.Proofs.YtemdillhbnmjkaaGreatDoor
open Go.RowKit

@[go_sem] theorem ta_rule1 (a : Addr) (w : World) : (Instr.typeAssert (.iface 191 (.pointer (some a))) 179 191 false).run Tryz.prog w = .ok (.pointer (some a)) w := by kernel_rfl

theorem map_single {α β : Type} {f : α → β} {l : List α} {b : β} (h : l.map f = [b]) : ∃ a, l = [a] ∧ f a = b := by
  cases l with
  | nil => simp at h
  | cons a l =>
    simp at h
    obtain ⟨h1, rfl⟩ := h
    exact ⟨a, rfl, h1⟩
theorem trOf_call {d : TD} {q st f : Nat} (h : trOf d = .call q st f) : ∃ qi, d = .rule st f qi := by
  cases d with
  | eps x => exact (by cases h)
  | atom x t => exact (by cases h)
  | rule st' f' qi =>
    unfold trOf at h
    injection h with _ e2 e3
    subst e2 e3
    exact ⟨qi, rfl⟩
theorem frame_at {g : Pl.Gr} (G : Pl.GoodG g) {f : Pl.Fr} {q : Nat} (h : Pl.FrAt g f q) : posOf g f < (dsOf g).length ∧ Pl.follow g f < (dsOf g).length ∧ (Pl.follow g f, []) ∈ Pl.allCfg g ∧ Pl.Ok (nG g) false (fun _ => false) (Pl.follow g f) [] ∧
    ∃ st qi, ((T2of (dsOf g) g.length (edOf g))[posOf g f]?).getD [] = [TD.rule st (Pl.follow g f) qi] := by
  obtain ⟨alts, h1, h2, h3, h4⟩ := h.alt
  have hp := Pl.place_end g h1 h2
  refine ⟨by rw [ds_len]; unfold posOf; omega, by rw [ds_len]; unfold Pl.follow; omega, Pl.all_pos h1 h2 h4, Pl.pos_ok (net_is G) false G.hsym G.wf h1 h2 _ h4, ?_⟩
  have hr := ((net_is G).ruleS f.r f.a f.k q alts _ h1 h2 h3).2
  obtain ⟨d, hd, e⟩ := map_single hr
  obtain ⟨qi, rfl⟩ := trOf_call e
  exact ⟨_, qi, hd⟩
theorem no_two : ∀ n, n < 64 → Pl.has n (-2) = false → (0 ||| n) &&& 62 = n := by decide +kernel

/-- the blocks of the set that is being filled -/
def Sx (p : Nat) (v : Value) (k : Nat) : Prop := k = p ∨ v.ownBlock = some k
/-- the loop: fo: what was found last; p: what may come -/
structure ExpR (g : Pl.Gr) (w0 w wr : World) (ba : Nat) (bs : List Nat) (q : Nat) (l : List Int) (p : Nat) (ctx fo : Value) (fs : List Pl.Fr) : Prop where
  mk' ::
  ex : ∃ m n qb u v, fo = .pointer (some ⟨qb, 0, none⟩) ∧ SetG wr qb n u ∧ (¬ Sx p v qb ∧ ∀ k, u.ownBlock = some k → ¬ Sx p v k) ∧ SetG wr p m v ∧ NetC g w0 wr ba bs (Sx p v) ∧ Pl.Exp g q l m n fs ∧ (w.heap.size ≤ p ∧ ∀ k, v.ownBlock = some k → w.heap.size ≤ k)
  ctx : CtxAt wr (fs.map (posOf g)) ctx
  chg : Chg (fun k => k ∈ bs) w wr
theorem ExpR.no {g : Pl.Gr} {w0 w wr w' : World} {ba : Nat} {bs : List Nat} {q : Nat} {l : List Int} {p : Nat} {ctx fo : Value} {fs : List Pl.Fr} (h : ExpR g w0 w wr ba bs q l p ctx fo fs) (hc : Chg No wr w') : ExpR g w0 w w' ba bs q l p ctx fo fs := by
  obtain ⟨m, n, qb, u, v, h1, h2, h3, h4, h5, h6, h7⟩ := h.ex
  exact ⟨⟨m, n, qb, u, v, h1, h2.no hc, h3, h4.no hc, h5.no hc, h6, h7⟩, h.ctx.no hc, h.chg.then hc (fun _ _ h => h.elim)⟩
theorem NetC.bsLt {g : Pl.Gr} {w0 w : World} {ba : Nat} {bs : List Nat} {S : Nat → Prop} (h : NetC g w0 w ba bs S) : ∀ k ∈ bs, k < w0.heap.size ∧ ∃ c T, Blk w k c T ∧ T ≠ 148 := by
  obtain ⟨A, ss, hn, hk⟩ := h.ex
  intro k hkb
  obtain ⟨j, s, h1, h2, h3⟩ := hn.inBs k hkb
  obtain ⟨x, hx, _⟩ := hk j s k h1 h2
  exact ⟨h3.lt, _, _, hx, by show s.k.str ≠ 148; cases s.k <;> decide⟩
theorem SetG.types {w : World} {p m : Nat} {v : Value} (h : SetG w p m v) : ∀ k, Sx p v k → k < w.heap.size → ∃ c T, Blk w k c T ∧ T ≠ 148 := by
  obtain ⟨_, ⟨ro, hb⟩, hv⟩ := h
  rintro k (rfl | e) _
  · exact ⟨_, _, hb, by decide⟩
  · rcases hv with ⟨rfl, _⟩ | ⟨g, c, rfl, h5⟩
    · cases e
    · obtain ⟨cur, hcur⟩ := h5.own e
      exact ⟨_, _, hcur, by decide⟩
/-- the set has been filled -/
theorem ExpR.of {g : Pl.Gr} {w0 w w6 w8 : World} {ba : Nat} {bs : List Nat} {q : Nat} {l : List Int} {p m m' n qb : Nat} {u v ctx : Value} {fs : List Pl.Fr} (hN : NetC g w0 w6 ba bs (Sx p v)) (hq : SetG w6 qb n u)
    (hd : ¬ Sx p v qb ∧ ∀ k, u.ownBlock = some k → ¬ Sx p v k) (hw : Chg (fun k => k ∈ bs) w w6) (hp : w.heap.size ≤ p ∧ ∀ k, v.ownBlock = some k → w.heap.size ≤ k) (hw0 : w0.heap.size ≤ w.heap.size)
    (hS : SetG w6 p m v) (hT : SetTo w6 w8 p v m') (hE : Pl.Exp g q l m' n fs) (hC : CtxAt w6 (fs.map (posOf g)) ctx) : ExpR g w0 w w8 ba bs q l p ctx (.pointer (some ⟨qb, 0, none⟩)) fs := by
  obtain ⟨v', h1, h2, h3⟩ := hT
  have hsz := hw.size
  have h2' : Chg (Sx p v) w6 w8 := h2
  have hlow : ∀ k, Sx p v k → w.heap.size ≤ k := by
    rintro k (rfl | e)
    · exact hp.1
    · exact hp.2 k e
  have hup : ∀ k, k < w6.heap.size → Sx p v' k → Sx p v k := by
    rintro k hk (rfl | e)
    · exact .inl rfl
    · rcases h3 k e with e | e
      · exact .inr e
      · omega
  obtain ⟨l1, l2⟩ := hq.lt
  refine ⟨⟨m', n, qb, u, v', rfl, hq.chg h2' hd.1 hd.2, ⟨fun e => hd.1 (hup _ l1 e), fun k hk e => hd.2 k hk (hup _ (l2 k hk) e)⟩, h1, ?_, hE, hp.1, fun k hk => ?_⟩, hC.chg h2' hS.types, hw.then h2' (fun k hk e => by have := hlow k e; omega)⟩
  · exact hN.go h2' (fun k _ e => ⟨by have := hlow k e; omega, e⟩) hup
  · rcases h3 k hk with e | e
    · exact hp.2 k e
    · omega

/-- what getExpectedTokens returns -/
def ExpRet (g : Pl.Gr) (w : World) (bs : List Nat) (q : Nat) (l : List Int) (e : Ending) (w' : World) : Prop :=
  ∃ p m, e = .returned (.pointer (some ⟨p, 0, none⟩)) ∧ LookS w' 0 p m ∧ Pl.rowOf m = Pl.wantOf g q l ∧ Chg (fun k => k ∈ bs) w w'

set_option maxHeartbeats 4000000 in
set_option maxRecDepth 100000 in
theorem expTokens_any (g : Pl.Gr) (G : Pl.GoodG g) (w0 w : World) (ba : Nat) (bs : List Nat) (hn : NetC g w0 w ba bs No) (q : Nat) (fs0 : List Pl.Fr) (hl : Pl.Linked g q fs0) (h0 : 0 < q) (hq : q < g.length) (hfs : fs0 ≠ []) (ctx : Value) (hC : CtxAt w (fs0.map (posOf g)) ctx)
    (s : Nat) (hs : s = 2 * g.length + q) :
    Calls Tryz.prog 48 #[.pointer (some ⟨ba, 0, none⟩), .int .i64 (s : Int), ctx] w (ExpRet g w bs q (Pl.restOf g fs0)) := by
  have hnl := (net_ok G).n
  have hsl : s < (dsOf g).length := by rw [ds_len, hs]; unfold Pl.states; omega
  obtain ⟨gg, cp, a9, asx⟩ := hn.view.states (by omega)
  have as_ := asx s hsl
  obtain ⟨K, sb, hdv, _⟩ := hn.view.stNum s hsl
  obtain ⟨alts, hr⟩ : ∃ u, g[q]? = some u := ⟨_, List.getElem?_eq_getElem hq⟩
  have hnt := nextTokens_any g G w0 w ba bs No hn (fun _ h => h.elim) s hsl (by rw [hs]; exact Pl.all_block hr) (by rw [hs]; exact Pl.block_ok (net_is G) false G.hsym G.wf hr)
  rw [hdv] at as_ hnt
  obtain ⟨cb, rfl⟩ := hC.ptr
  have s0 : (0 : Int) ≤ (s : Int) := by omega
  have s1 : (s : Int) < ((dsOf g).length : Int) := by omega
  have hw0 := hn.chg.size
  have HG := Lib.hid G
  have HNT := Lib.hid hnt
  have HL := Lib.hid hl
  have HC := Lib.hid hC
  have HF := Lib.hid hfs
  have HS := Lib.hid hs
  have HBs := Lib.hid hn.bsLt
  clear hn hl hfs hC asx hdv hnt hs hr G
  go_enter Tryz.func48, Tryz.ntmps48
  go_wp2_with fail
  refine HNT.out.mono ?_
  rintro e w1 ⟨q1, n1, u1, rfl, g1, g2, g3, g4, g5⟩
  have hh := has2_any w1 0 q1 n1 g1.lookS
  have HH := Lib.hid hh
  have H1 := Lib.hid g1
  have H2 := Lib.hid g2
  have H4 := Lib.hid g4
  have H5 := Lib.hid g5
  clear g1 g2 g3 g4 g5 hh a9 as_
  go_wp2_with fail
  refine HH.out.mono ?_
  rintro e w2 ⟨rfl, hc2⟩
  have HC2 := Lib.hid hc2
  clear hc2
  have hE := Pl.Exp.start HG.out (net_is HG.out) hq HL.out h0 H1.out.1 (fun t => by rw [← HS.out]; exact H2.out t)
  cases hb : Pl.has n1 (-2) with
  | false =>
    have hrow := Pl.Exp.row HG.out hq HL.out HF.out hE hb
    rw [no_two n1 H1.out.1 hb] at hrow
    have HR := Lib.hid hrow
    clear hrow hE hb
    go_wp2
    go_ret
    exact ⟨q1, n1, rfl, (H1.out.no HC2.out).lookS, HR.out, H5.out.then HC2.out (fun _ _ h => h.elim)⟩
  | true =>
    have hw1 := H5.out.size
    have hw2 := HC2.out.size
    have hc3 : Chg No w1 (w2.alloc (.cells #[.slice none 0 0, .bool false] 145)) := HC2.out.alloc _
    have hnew : SetG (w2.alloc (.cells #[.slice none 0 0, .bool false] 145)) w2.heap.size 0 (.slice none 0 0) := ⟨by decide, ⟨false, Blk.new _ _ _⟩, .inl ⟨rfl, rfl⟩⟩
    obtain ⟨l1, l2⟩ := H1.out.lt
    have hd : ¬ Sx w2.heap.size (.slice none 0 0) q1 ∧ ∀ k, u1.ownBlock = some k → ¬ Sx w2.heap.size (.slice none 0 0) k := by
      constructor
      · rintro (e | e)
        · omega
        · cases e
      · rintro k hk (e | e)
        · have := l2 k hk; omega
        · cases e
    have ha := addSetG_any _ w2.heap.size q1 0 n1 (.slice none 0 0) u1 hnew (H1.out.no hc3) (fun e => hd.1 (.inl e)) (fun k hk e => hd.2 k hk (.inr e))
    have HA := Lib.hid ha
    have HNew := Lib.hid hnew
    have HC3 := Lib.hid hc3
    have HD := Lib.hid hd
    have HE := Lib.hid hE
    clear hc3 hnew hd ha hE hb
    go_wp2_with (first | (go_at_call 49; refine (newSet_any _).mono ?_; rintro e w' ⟨rfl, rfl⟩))
    refine HA.out.mono ?_
    rintro e w4 ⟨rfl, v4, t1, t2, t3⟩
    have hr2 := removeTwo_any w4 w2.heap.size _ v4 t1
    have HR2 := Lib.hid hr2
    have HT2 := Lib.hid t2
    have HT3 := Lib.hid t3
    clear t1 t2 t3 hr2
    go_wp2_with fail
    refine HR2.out.mono ?_
    rintro e w5 ⟨rfl, t5⟩
    have hT := SetTo.then HT2.out HT3.out t5
    have hR : ExpR g w0 w w5 ba bs q (Pl.restOf g fs0) w2.heap.size (.iface 146 (.pointer (some ⟨cb, 0, none⟩))) (.pointer (some ⟨q1, 0, none⟩)) fs0 := by
      refine ExpR.of (H4.out.go HC3.out (fun _ _ h => h.elim) (fun k hk e => ?_)) (H1.out.no HC3.out) HD.out (H5.out.then HC3.out (fun _ _ h => h.elim)) ⟨by omega, fun k hk => by cases hk⟩ hw0 HNew.out hT HE.out (CtxAt.no HC3.out (HC.out.chg H5.out (fun k hk _ => (HBs.out k hk).2)))
      · rcases e with e | e
        · omega
        · cases e
    have HR := Lib.hid hR
    clear t5 hT hR
    go_wp2_with fail
    go_loopg [2, 8] fs0.length (fun k c f wr => ∃ fs, fs.length = k ∧ ExpR g w0 w wr ba bs q (Pl.restOf g fs0) w2.heap.size c f fs)
    case atStart => exact ⟨fs0, rfl, HR.out⟩
    case round =>
      obtain ⟨fs, hk, hR⟩ := hrel
      cases fs with
      | nil =>
        obtain ⟨m, n, qb, u, v, rfl, r1, r2, r3, r4, r5, r6⟩ := hR.ex
        obtain ⟨b, rfl, hb⟩ := hR.ctx
        have c1 : wr.cell? ⟨b, 1, none⟩ = some (.int .i64 (-1)) := by rw [hb.cell]; rfl
        have hh := has2_any wr 0 qb n r1.lookS
        rw [r5.out] at hh
        have hrow := Pl.Exp.row HG.out hq HL.out HF.out r5 r5.out
        have HH := Lib.hid hh
        have HR1 := Lib.hid r3
        have HR2 := Lib.hid hrow
        have HR3 := Lib.hid hR.chg
        clear hk hR r1 r2 r3 r4 r5 r6 hb hrow hh
        go_wp2_with (first | (go_at_call 200; refine (ctxInv_s _ _ _ c1).mono ?_; rintro e w' ⟨rfl, rfl⟩))
        refine HH.out.mono ?_
        rintro e w7 ⟨rfl, hc7⟩
        have HC7 := Lib.hid hc7
        clear hc7
        go_wp2
        go_ret
        exact ⟨_, m, rfl, (HR1.out.no HC7.out).lookS, HR2.out, HR3.out.then HC7.out (fun _ _ h => h.elim)⟩
      | cons f fs =>
        obtain ⟨m, n, qb, u, v, rfl, r1, r2, r3, r4, r5, r6⟩ := hR.ex
        obtain ⟨b, uu, rfl, hb, hcu⟩ := hR.ctx
        obtain ⟨bu, rfl⟩ := hcu.ptr
        have c1 : wr.cell? ⟨b, 1, none⟩ = some (.int .i64 ((posOf g f : Nat) : Int)) := by rw [hb.cell]; rfl
        have hh := has2_any wr 0 qb n r1.lookS
        have HH := Lib.hid hh
        have HR1 := Lib.hid r1
        have HR2 := Lib.hid r2
        have HR3 := Lib.hid r3
        have HR4 := Lib.hid r4
        have HR5 := Lib.hid r5
        have HR6 := Lib.hid r6
        have HRC := Lib.hid hR.chg
        have HB := Lib.hid hb
        have HCU := Lib.hid hcu
        have HK := Lib.hid hk
        have z0 : (0 : Int) ≤ ((posOf g f : Nat) : Int) := by omega
        clear hR r1 r2 r3 r4 r5 r6 hb hcu hh hk
        go_wp2_with (first | (go_at_call 200; refine (ctxInv_s _ _ _ c1).mono ?_; rintro e w' ⟨rfl, rfl⟩))
        refine HH.out.mono ?_
        rintro e w5 ⟨rfl, hc5⟩
        have HC5 := Lib.hid hc5
        clear hc5 c1
        cases hb : Pl.has n (-2) with
        | false =>
          have hh5 := has2_any w5 0 qb n (HR1.out.no HC5.out).lookS
          rw [hb] at hh5
          have hrow := Pl.Exp.row HG.out hq HL.out HF.out HR5.out hb
          have HH5 := Lib.hid hh5
          have HX2 := Lib.hid hrow
          clear hh5 hrow
          go_wp2_with fail
          refine HH5.out.mono ?_
          rintro e w7 ⟨rfl, hc7⟩
          have HC7 := Lib.hid hc7
          clear hc7
          go_wp2
          go_ret
          exact ⟨_, m, rfl, (HR3.out.no (HC5.out.trans HC7.out)).lookS, HX2.out, HRC.out.then (HC5.out.trans HC7.out) (fun _ _ h => h.elim)⟩
        | true =>
          obtain ⟨pr, hlk, _⟩ := HR5.out.link
          obtain ⟨f1, f2, f3, f4, st, qi, f5⟩ := frame_at HG.out hlk.1
          have hv := (HR4.out.no HC5.out).view
          obtain ⟨gg5, cp5, a9, asx⟩ := hv.states (by omega)
          have as5 := asx _ f1
          obtain ⟨d, hd⟩ : ∃ d, (dsOf g)[posOf g f]? = some d := ⟨_, List.getElem?_eq_getElem f1⟩
          obtain ⟨sb5, A5, cpp5, tb5, hst⟩ := hv.state hd
          rw [f5] at hst
          have h6 := hst.trans
          obtain ⟨gt, tt, rfl, h7, pz, h8⟩ := hst.trans_at (i := 0) rfl
          rw [hst.val] at as5
          obtain ⟨K4, sb4, hdv4, _⟩ := hv.stNum _ f2
          have h9 : w5.cell? ⟨tt, 5, none⟩ = some (dv (dsOf g) bs (Pl.follow g f)) := by rw [h8.cell]; rfl
          have h7' : w5.cell? ⟨gt, 0, none⟩ = some (.iface 191 (.pointer (some ⟨tt, 0, none⟩))) := h7
          obtain ⟨l1, l2⟩ := (HR3.out.no HC5.out).lt
          have hnt := fun wy (hc : Chg No w5 wy) => nextTokens_any g HG.out w0 wy ba bs (Sx w2.heap.size v) (HR4.out.no (HC5.out.trans hc)) (by
            have := hc.size
            rintro k (rfl | e)
            · omega
            · have := l2 k e; omega) _ f2 f3 f4
          rw [hdv4] at h9 hnt
          have c1 : w5.cell? ⟨b, 1, none⟩ = some (.int .i64 ((posOf g f : Nat) : Int)) := by rw [(HB.out.chg HC5.out (fun h => h)).cell]; rfl
          have z1 : ((posOf g f : Nat) : Int) < ((dsOf g).length : Int) := by omega
          have HNT5 := Lib.hid hnt
          have HLK := Lib.hid hlk
          clear hnt hlk hv asx hst h8 h7 f3 f4 f5 hd hdv4
          go_wp2
          go_quiet ((go_at_call 200; exact qof (ctxInv_s _ _ _ c1)))
          have hcy : Chg No w5 (w5.drewN nq) := (Chg.refl No w5).drewN nq
          have y6 := Chg.kept hcy h6 (fun h => h)
          have y7 := Chg.kept hcy h7' (fun h => h)
          have y9 := Chg.kept hcy h9 (fun h => h)
          generalize w5.drewN nq = wy at *
          have hnty := HNT5.out wy hcy
          have HNTY := Lib.hid hnty
          have HCY := Lib.hid (HC5.out.trans hcy)
          have HBs5 := Lib.hid (HR4.out.no HCY.out).bsLt
          clear hnty hcy h6 h7' h9 c1 a9 as5
          go_wp2_with (first | (go_at_call 121; refine (getT_s _ _ _ y6 ⟨_, _, _, rfl⟩).mono ?_; rintro e w' ⟨rfl, rfl⟩))
          refine HNTY.out.mono ?_
          rintro e w6 ⟨q2, n2, u2, rfl, g1, g2, g3, g4, g5⟩
          have hS6 : SetG w6 w2.heap.size m v := (HR3.out.no HCY.out).chg g5 (fun e => by have := (HBs.out _ e).1; have := HR6.out.1; omega) (fun k hk e => by have := (HBs.out _ e).1; have := HR6.out.2 k hk; omega)
          have ha := addSetG_any w6 w2.heap.size q2 m n2 v u2 hS6 g1 (fun e => g3.1 (.inl e)) (fun k hk e => g3.2 k hk (.inr e))
          have HA := Lib.hid ha
          have HS6 := Lib.hid hS6
          have HG1 := Lib.hid g1
          have HG2 := Lib.hid g2
          have HG3 := Lib.hid g3
          have HG4 := Lib.hid g4
          have HG5 := Lib.hid g5
          clear ha hS6 g1 g2 g3 g4 g5 y6 y7 y9
          go_wp2_with fail
          refine HA.out.mono ?_
          rintro e w7 ⟨rfl, v7, t1, t2, t3⟩
          have hr2 := removeTwo_any w7 w2.heap.size _ v7 t1
          have HR2' := Lib.hid hr2
          have HT2' := Lib.hid t2
          have HT3' := Lib.hid t3
          clear t1 t2 t3 hr2
          go_wp2_with fail
          refine HR2'.out.mono ?_
          rintro e w8 ⟨rfl, t8⟩
          have hT := SetTo.then HT2'.out HT3'.out t8
          have hb6 := (HB.out.chg HCY.out (fun h => h))
          have hT2 := hT
          obtain ⟨v8, x1, x2, x3⟩ := hT2
          have hb8 := ((HB.out.chg HCY.out (fun h => h)).chg HG5.out (fun e => by
            obtain ⟨c, T, e1, e2⟩ := (HBs5.out _ e).2
            exact e2 ((HB.out.chg HCY.out (fun h => h)).uniq e1).2.symm)).chg (S := Sx w2.heap.size v) x2 (fun e => by
              have hbb := ((HB.out.chg HCY.out (fun h => h)).chg HG5.out (fun e => by
                obtain ⟨c, T, e1, e2⟩ := (HBs5.out _ e).2
                exact e2 ((HB.out.chg HCY.out (fun h => h)).uniq e1).2.symm))
              obtain ⟨c, T, e1, e2⟩ := HS6.out.types _ e hbb.lt
              exact e2 (hbb.uniq e1).2.symm)
          have p0 : w8.cell? ⟨b, 0, none⟩ = some (.iface 146 (.pointer (some ⟨bu, 0, none⟩))) := by rw [hb8.cell]; rfl
          have hE := Pl.Exp.step HG.out (net_is HG.out) HR5.out hb HG1.out.1 HG2.out
          have hRel := ExpR.of HG4.out HG1.out HG3.out ((HRC.out.then HCY.out (fun _ _ h => h.elim)).trans HG5.out) HR6.out hw0 HS6.out hT hE ((CtxAt.no HCY.out HCU.out).chg HG5.out (fun k hk _ => (HBs5.out k hk).2))
          have HRel := Lib.hid hRel
          clear hT x1 x2 x3 hb8 hE hRel t8
          go_wp2_with (first | (go_at_call 201; refine (ctxPar_s _ _ _ p0).mono ?_; rintro e w' ⟨rfl, rfl⟩))
          go_roundg fs.length
          case measure => have := HK.out; simp at this; omega
          case rel => exact ⟨fs, rfl, HRel.out⟩
end Go.Proofs.YtemdillhbnmjkaaGreatDoor
namespace Go.Proofs.YtemdillhbnmjkaaGreatDoor
open Go.RowKit

theorem ExpRet.no {g : Pl.Gr} {w w1 : World} {bs : List Nat} {q : Nat} {l : List Int} {e : Ending} {w' : World} (hc : Chg No w w1) (h : ExpRet g w1 bs q l e w') : ExpRet g w bs q l e w' := by
  obtain ⟨p, m, h1, h2, h3, h4⟩ := h
  exact ⟨p, m, h1, h2, h3, (hc.mono (fun _ _ h => h.elim)).trans h4⟩
set_option maxHeartbeats 1000000 in
set_option maxRecDepth 100000 in
theorem zzExp_any (g : Pl.Gr) (G : Pl.GoodG g) (w0 w : World) (ba : Nat) (bs : List Nat) (hn : NetC g w0 w ba bs No) (q : Nat) (fs : List Pl.Fr) (hl : Pl.Linked g q fs) (h0 : 0 < q) (hq : q < g.length) (hfs : fs ≠ []) (hlen : fs.length ≤ 900) (v : Value)
    (hv : Rd1 w v ((fs.reverse.map (posOf g)).map fun x => ((x : Nat) : Int))) (s : Nat) (hs : s = 2 * g.length + q) :
    Calls Tryz.prog 37 #[.pointer (some ⟨ba, 0, none⟩), .int .i64 (s : Int), v] w (ExpRet g w bs q (Pl.restOf g fs)) := by
  have hz := zzContext_any w v (fs.reverse.map (posOf g)) hv (by simp; omega)
  obtain ⟨A, c, rfl⟩ := hv.slice
  have e : ((fs.reverse.map (posOf g)).map fun x => ((x : Nat) : Int)).length = fs.length := by simp
  rw [e] at hz ⊢
  clear e
  have HZ := Lib.hid hz
  have HX := Lib.hid (fun w1 ctx (hc : Chg No w w1) hC => expTokens_any g G w0 w1 ba bs (hn.no hc) q fs hl h0 hq hfs ctx hC s hs)
  clear hz hv hn hl hfs hs G
  go_enter Tryz.func37, Tryz.ntmps37
  go_wp2_with fail
  refine HZ.out.mono ?_
  rintro e w1 ⟨u, rfl, h1, h2⟩
  rw [← List.map_reverse, List.reverse_reverse] at h1
  have HC := Lib.hid h2
  have HE := Lib.hid (HX.out w1 u h2 h1)
  obtain ⟨b, rfl⟩ := h1.ptr
  clear h1 h2
  go_wp2_with fail
  refine HE.out.mono ?_
  rintro e w2 h3
  have HR := Lib.hid (h3.no HC.out)
  obtain ⟨p, m, rfl, _⟩ := h3
  go_wp2
  go_ret
  exact HR.out

/-- a row of ranges: what may come -/
def ExpVal (g : Pl.Gr) (w : World) (q : Nat) (l : List Int) (e : Ending) (w' : World) : Prop :=
  ∃ v m, e = .returned v ∧ m < 64 ∧ Own w' 67 2 v (Pl.canon m).length ((Pl.canon m).flatMap iv2) ∧ Pl.rowOf m = Pl.wantOf g q l ∧ Chg No w w'
set_option maxHeartbeats 1000000 in
set_option maxRecDepth 100000 in
theorem implExp_any (g : Pl.Gr) (G : Pl.GoodG g) (w : World) (vS vR vE vD : Value) (h : NetVal w g vS vR vE vD) (q : Nat) (fs : List Pl.Fr) (hl : Pl.Linked g q fs) (h0 : 0 < q) (hq : q < g.length) (hfs : fs ≠ []) (hlen : fs.length ≤ 900) (v : Value)
    (hv : Rd1 w v ((fs.reverse.map (posOf g)).map fun x => ((x : Nat) : Int))) (s : Nat) (hs : s = 2 * g.length + q) :
    Calls Tryz.prog 19 #[.agg #[.int .i64 4, vS, vR, vE, vD], .int .i64 (s : Int), v] w (ExpVal g w q (Pl.restOf g fs)) := by
  have HB := Lib.hid (buildN_any g G (w.alloc (.cells #[.int .i64 4, vS, vR, vE, vD] 39)) vS vR vE vD (h.no ((Chg.refl No _).alloc _)))
  have HZ := Lib.hid (fun w0 w1 ba bs v hn hv => zzExp_any g G w0 w1 ba bs hn q fs hl h0 hq hfs hlen v hv s hs)
  obtain ⟨AS, cS, rfl⟩ := h.s.slice
  obtain ⟨AR, cR, rfl⟩ := h.r.slice
  obtain ⟨AE, cE, rfl⟩ := h.e.slice
  obtain ⟨AD, cD, rfl⟩ := h.d.slice
  have HV := Lib.hid hv
  have HSrc := Lib.hid (SrcL.rd1 hv)
  obtain ⟨A, c, rfl⟩ := hv.slice
  obtain ⟨xs, hxs⟩ : ∃ xs, xs = (fs.reverse.map (posOf g)).map fun x => ((x : Nat) : Int) := ⟨_, rfl⟩
  have hxl : xs.length = fs.length := by rw [hxs]; simp
  rw [← hxs] at HV HSrc HZ ⊢
  rw [hxl] at HSrc ⊢
  have HXL := Lib.hid hxl
  clear h hv hl hfs hs hxs G
  go_enter Tryz.func19, Tryz.ntmps19
  go_wp2_with fail
  refine HB.out.mono ?_
  rintro e w1 ⟨ba, bs, rfl, h1, h2, h3, h4⟩
  have HC1 := Lib.hid (((Chg.refl No w).alloc _).trans h2)
  have HN := Lib.hid (h1.netC No)
  have HBs := Lib.hid h4
  clear h1 h2 h3 h4 HB
  go_wp2_with (first | (at_builtin; refine wp_appS et36 rfl _ _ rfl (.slice (some ⟨w1.heap.size, 0, none⟩) 0 0) 0 [] rfl (own_made _ _ (by simp) 3 1) (.slice A fs.length c) rfl fs.length _ (HSrc.out.no (HC1.out.trans ((Chg.refl No w1).alloc _))) (by rw [List.length_map, Nat.mul_one]; exact HXL.out) ?a1 ?a2 ?a3 ?a4))
  case a1 => intro u hu; obtain ⟨x, _, rfl⟩ := List.mem_map.1 hu; rfl
  case a2 => omega
  case a3 => omega
  case a4 =>
    intro A2 c2 w2 h1 h2 h3
    have hr := Own.rd1 (show Own w2 3 1 (.slice A2 fs.length c2) fs.length (xs.map iv1) from h1) HXL.out.symm
    have hc : Chg No w1 w2 := Chg.then ((Chg.refl No w1).alloc _) (Chg.grownBy h2) (fun k hk e => by simp [Value.ownBlock] at e; omega)
    have HZ2 := Lib.hid (HZ.out w1 w2 ba bs _ (HN.out.no hc) hr)
    have HC2 := Lib.hid (HC1.out.trans hc)
    clear h1 h2 h3 hr hc
    go_wp2_with fail
    refine HZ2.out.mono ?_
    rintro e w3 ⟨p, m, rfl, g1, g2, g3⟩
    have HR := Lib.hid (ranges_any w3 0 p m g1)
    have hm := g1.1
    have HT := Lib.hid g2
    have HC3 := Lib.hid (show Chg No w w3 from HC2.out.then g3 (fun k hk e => by have := HBs.out k e; simp at this; omega))
    clear g1 g2 g3
    go_wp2_with fail
    refine HR.out.mono ?_
    rintro e w4 ⟨v4, rfl, h5⟩
    have HX := Lib.hid (show ExpVal g w q (Pl.restOf g fs) (.returned v4) w4 from ⟨v4, m, rfl, hm, h5.own, HT.out, HC3.out.trans h5.chg⟩)
    obtain ⟨A4, c4, rfl⟩ := h5.own.slice
    clear h5
    go_wp2
    go_ret
    exact HX.out
end Go.Proofs.YtemdillhbnmjkaaGreatDoor

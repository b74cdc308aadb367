/- What has been visited: configurations in memory; frames by kinds of blocks. · The store of what has been visited: one is sought. · The store of what has been visited: one is put in. -/
import Derived.Test.YtemdillhbnmjkaaGreatDoorQ18
import Derived.Test.YtemdillhbnmjkaaGreatDoorQ04
import Derived.Test.YtemdillhbnmjkaaGreatDoorQ02
import Derived.LoopTactic
import Derived.Deep.RegionHeld3
import Derived.Outline
namespace Go.Proofs.YtemdillhbnmjkaaGreatDoor
open Go.RowKit

/-- Changed are at most blocks from B on, of the types Ts, and (mp) maps. -/
def TC (Ts : List TypeId) (mp : Bool) (B : Nat) (w w' : World) : Prop :=
  Chg (fun k => B ≤ k ∧ ((∃ c T, Blk w k c T ∧ T ∈ Ts) ∨ (mp = true ∧ ∃ es cl, w.heap[k]? = some (.map es cl)))) w w'
theorem TC.refl (Ts : List TypeId) (mp : Bool) (B : Nat) (w : World) : TC Ts mp B w w := Chg.refl _ w
theorem TC.trans {Ts : List TypeId} {mp : Bool} {B : Nat} {a b c : World} (h : TC Ts mp B a b) (k : TC Ts mp B b c) : TC Ts mp B a c := by
  refine ⟨k.os.trans h.os, k.tape.trans h.tape, k.output.trans h.output, Nat.le_trans h.size k.size, fun i hi hs => ?_⟩
  have e := h.block i hi hs
  refine (k.block i (Nat.lt_of_lt_of_le hi h.size) ?_).trans e
  rintro ⟨hB, ⟨c', T, h1, h2⟩ | ⟨hm, es, cl, h1⟩⟩
  · exact hs ⟨hB, .inl ⟨c', T, e.symm.trans h1, h2⟩⟩
  · exact hs ⟨hB, .inr ⟨hm, es, cl, e.symm.trans h1⟩⟩
theorem TC.mono {Ts Ts' : List TypeId} {mp mp' : Bool} {B : Nat} {a b : World} (h : TC Ts mp B a b) (hs : ∀ T ∈ Ts, T ∈ Ts') (hm : mp = true → mp' = true) : TC Ts' mp' B a b := by
  refine Chg.mono h ?_
  rintro k _ ⟨hB, ⟨c, T, h1, h2⟩ | ⟨h1, h2⟩⟩
  · exact ⟨hB, .inl ⟨c, T, h1, hs T h2⟩⟩
  · exact ⟨hB, .inr ⟨hm h1, h2⟩⟩
theorem TC.no {Ts : List TypeId} {mp : Bool} {B : Nat} {a b : World} (h : Chg No a b) : TC Ts mp B a b := Chg.mono h (fun _ _ h => h.elim)
theorem TC.keep {Ts : List TypeId} {mp : Bool} {w0 a b : World} (h : TC Ts mp w0.heap.size a b) (h0 : Chg No w0 a) : Chg No w0 b :=
  h0.then h (fun k hk hS => by have := hS.1; omega)
theorem TC.blk {Ts : List TypeId} {mp : Bool} {B : Nat} {w w' : World} (h : TC Ts mp B w w') {k : Nat} {c : Array Value} {T : TypeId} (hb : Blk w k c T) (hT : T ∉ Ts) : Blk w' k c T := by
  refine hb.chg h ?_
  rintro ⟨_, ⟨c', T', h1, h2⟩ | ⟨_, es, cl, h1⟩⟩
  · exact hT ((hb.uniq h1).2 ▸ h2)
  · unfold Blk at hb; rw [hb] at h1; cases h1
theorem TC.not {Ts : List TypeId} {mp : Bool} {B : Nat} {w : World} {T : TypeId} (hT : T ∉ Ts) : ∀ k, (B ≤ k ∧ ((∃ c T, Blk w k c T ∧ T ∈ Ts) ∨ (mp = true ∧ ∃ es cl, w.heap[k]? = some (.map es cl)))) → k < w.heap.size → ∀ c, ¬ Blk w k c T := by
  rintro k ⟨_, ⟨c', T', h1, h2⟩ | ⟨_, es, cl, h1⟩⟩ _ c hb
  · exact hT ((hb.uniq h1).2 ▸ h2)
  · unfold Blk at hb; rw [hb] at h1; cases h1
theorem TC.own {Ts : List TypeId} {mp : Bool} {B : Nat} {w w' : World} {e : TypeId} {size n : Nat} {v : Value} {xs : List Value} (hc : TC Ts mp B w w') (h : Own w e size v n xs) (he : e ∉ Ts) : Own w' e size v n xs := by
  refine Own.chg h hc (fun k hk hS => ?_)
  obtain ⟨cur, hcur⟩ := h.own hk
  exact TC.not he k hS hcur.lt _ hcur
theorem TC.pc {Ts : List TypeId} {mp : Bool} {B : Nat} {w w' : World} {bot : Bool} {k : List Nat} {v : Value} (hc : TC Ts mp B w w') (h : PCv w bot k v) (he : (203 : TypeId) ∉ Ts) : PCv w' bot k v :=
  PCv.chg hc (TC.not he) h
theorem TC.bits {Ts : List TypeId} {mp : Bool} {B : Nat} {w w' : World} {cb m : Nat} (hc : TC Ts mp B w w') (h : ∃ v, Blk w cb #[v] 221 ∧ ((v = .slice none 0 0 ∧ m = 0) ∨ ∃ g c, v = .slice (some ⟨g, 0, none⟩) 1 c ∧ Own w 239 1 v 1 [.int .u64 (m : Int)])) (h1 : (221 : TypeId) ∉ Ts) (h2 : (239 : TypeId) ∉ Ts) :
    ∃ v, Blk w' cb #[v] 221 ∧ ((v = .slice none 0 0 ∧ m = 0) ∨ ∃ g c, v = .slice (some ⟨g, 0, none⟩) 1 c ∧ Own w' 239 1 v 1 [.int .u64 (m : Int)]) := by
  obtain ⟨v, h3, h4⟩ := h
  refine ⟨v, hc.blk h3 h1, ?_⟩
  rcases h4 with h4 | ⟨g, c, rfl, h5⟩
  · exact .inl h4
  · exact .inr ⟨g, c, rfl, hc.own h5 h2⟩

/-- the states' numbers are known -/
def StNum (w : World) (ds : List Ds) (bs : List Nat) : Prop :=
  ∀ s, s < ds.length → ∃ (K : SK) (sb : Nat), dv ds bs s = .iface K.ptr (.pointer (some ⟨sb, 0, none⟩)) ∧ w.cell? ⟨sb, 4, none⟩ = some (.int .i64 (s : Int))
theorem StNum.chg {w w' : World} {ds : List Ds} {bs : List Nat} (h : StNum w ds bs) (hc : Chg No w w') : StNum w' ds bs := by
  intro s hs
  obtain ⟨K, sb, h1, h2⟩ := h s hs
  exact ⟨K, sb, h1, Chg.kept hc h2 (fun h => h)⟩
theorem StNum.inj {w : World} {ds : List Ds} {bs : List Nat} (h : StNum w ds bs) {s s' : Nat} (hs : s < ds.length) (hs' : s' < ds.length) (e : dv ds bs s = dv ds bs s') : s = s' := by
  obtain ⟨K, sb, h1, h2⟩ := h s hs
  obtain ⟨K', sb', h3, h4⟩ := h s' hs'
  rw [h1, h3] at e
  simp at e
  obtain ⟨_, rfl⟩ := e
  rw [h2] at h4
  simp at h4
  omega

/-- the configuration c lies at block b -/
def CfgAt (w : World) (bot : Bool) (ds : List Ds) (bs : List Nat) (b : Nat) (c : Pl.Cfg) : Prop :=
  c.1 < ds.length ∧ ∃ v pb, Blk w b (gcell (dv ds bs c.1) v (.iface 315 (.pointer (some ⟨pb, 0, none⟩)))) 314 ∧ PCv w bot c.2 v ∧ Blk w pb pcell 372
theorem CfgAt.tc {Ts : List TypeId} {mp : Bool} {B : Nat} {w w' : World} {bot : Bool} {ds : List Ds} {bs : List Nat} {b : Nat} {c : Pl.Cfg} (hc : TC Ts mp B w w') (h : CfgAt w bot ds bs b c) (h1 : (314 : TypeId) ∉ Ts) (h2 : (203 : TypeId) ∉ Ts) (h3 : (372 : TypeId) ∉ Ts) :
    CfgAt w' bot ds bs b c := by
  obtain ⟨h0, v, pb, h4, h5, h6⟩ := h
  exact ⟨h0, v, pb, hc.blk h4 h1, hc.pc h5 h2, hc.blk h6 h3⟩
theorem CfgAt.no {w w' : World} {bot : Bool} {ds : List Ds} {bs : List Nat} {b : Nat} {c : Pl.Cfg} (h : CfgAt w bot ds bs b c) (hc : Chg No w w') : CfgAt w' bot ds bs b c :=
  CfgAt.tc (TC.no (Ts := []) (mp := false) (B := 0) hc) h (by simp) (by simp) (by simp)
theorem CfgAt.lt {w : World} {bot : Bool} {ds : List Ds} {bs : List Nat} {b : Nat} {c : Pl.Cfg} (h : CfgAt w bot ds bs b c) : b < w.heap.size := by
  obtain ⟨_, v, pb, h4, _⟩ := h
  exact h4.lt
def chsh (bot : Bool) (c : Pl.Cfg) : Int := ghash (c.1 : Int) (chash bot c.2)
theorem chsh_wf (bot : Bool) (c : Pl.Cfg) : (Lit.int .i64 (chsh bot c)).wf = true := wf_mF _ _

theorem hash_any (w : World) (bot : Bool) (ds : List Ds) (bs : List Nat) (b : Nat) (c : Pl.Cfg) (x : Value) (hx : ∃ p, x = .pointer p) (hS : StNum w ds bs) (h : CfgAt w bot ds bs b c) :
    Calls Tryz.prog 207 #[x, .pointer (some ⟨b, 0, none⟩)] w fun e w' => e = .returned (.int .i64 (chsh bot c)) ∧ w = w' := by
  obtain ⟨h0, v, pb, h1, h2, h3⟩ := h
  obtain ⟨K, sb, h4, h5⟩ := hS c.1 h0
  rw [h4] at h1
  have c6 : w.cell? ⟨b, 6, none⟩ = some (.int .i64 1) := by rw [h1.cell]; rfl
  have e1 : w.cell? ⟨b, 1, none⟩ = some (.iface K.ptr (.pointer (some ⟨sb, 0, none⟩))) := by rw [h1.cell]; rfl
  have e2 : w.cell? ⟨b, 2, none⟩ = some (.int .i64 0) := by rw [h1.cell]; rfl
  have e3 : w.cell? ⟨b, 3, none⟩ = some v := by rw [h1.cell]; rfl
  have e4 : w.cell? ⟨b, 4, none⟩ = some (.iface 315 (.pointer (some ⟨pb, 0, none⟩))) := by rw [h1.cell]; rfl
  refine hash1_s w b x hx _ (cfgHash_s w b _ c6 ?_)
  obtain ⟨p, rfl⟩ := h2.ptr
  unfold chsh
  rcases p with _ | ⟨vb, o, fr⟩
  · have hk : chash bot c.2 = 0 := by
      generalize c.2 = k at h2
      cases k with
      | nil => rfl
      | cons f k => obtain ⟨_, _, he, _⟩ := h2; cases he
    rw [hk]
    exact pHash_nil w b sb pb K _ e1 e2 e3 e4 h5 h3
  · have ho : o = 0 ∧ fr = none := by
      generalize c.2 = k at h2
      cases k with
      | nil =>
        unfold PCv at h2
        split at h2
        · obtain ⟨_, he, _⟩ := h2; simp at he; exact he.2
        · cases h2
      | cons f k => obtain ⟨_, _, he, _⟩ := h2; simp at he; exact he.2
    obtain ⟨rfl, rfl⟩ := ho
    exact pHash_ptr w b sb pb vb K _ _ e1 e2 e3 h2.cells.1 e4 h5 h3

theorem equal_any (w : World) (bot : Bool) (ds : List Ds) (bs : List Nat) (b b' : Nat) (c c' : Pl.Cfg) (x : Value) (hx : ∃ p, x = .pointer p) (hS : StNum w ds bs) (h : CfgAt w bot ds bs b c) (h' : CfgAt w bot ds bs b' c') :
    Calls Tryz.prog 206 #[x, .pointer (some ⟨b, 0, none⟩), .pointer (some ⟨b', 0, none⟩)] w fun e w' => e = .returned (.bool (decide (c = c'))) ∧ ∃ n, w' = w.drewN n := by
  obtain ⟨h0, v, pb, h1, h2, h3⟩ := h
  obtain ⟨h0', v', pb', h1', h2', h3'⟩ := h'
  have c6 : w.cell? ⟨b, 6, none⟩ = some (.int .i64 1) := by rw [h1.cell]; rfl
  refine eq2_s w b b' x hx _ (cfgEq_s w b b' _ c6 ?_)
  by_cases hb : b = b'
  · subst hb
    have he := (h1.uniq h1').1
    simp [gcell] at he
    obtain ⟨hd, rfl, _⟩ := he
    have e1 := hS.inj h0 h0' hd
    have e2 := h2.inj h2'
    have : c = c' := Prod.ext e1 e2
    subst this
    have hd : decide (c = c) = true := by simp
    rw [hd]
    exact (pEq_same w b).mono (fun _ _ ⟨a, b⟩ => ⟨a, 0, b.symm⟩)
  · obtain ⟨K, sb, h4, h5⟩ := hS c.1 h0
    obtain ⟨K', sb', h4', h5'⟩ := hS c'.1 h0'
    rw [h4] at h1
    rw [h4'] at h1'
    obtain ⟨q, rfl⟩ := h2'.ptr
    obtain ⟨p, rfl⟩ := h2.ptr
    obtain ⟨s, k⟩ := c
    obtain ⟨s', k'⟩ := c'
    simp only at *
    have hd : decide ((s, k) = (s', k')) = (decide ((s : Int) = (s' : Int)) && decide (k = k')) := by
      rw [Bool.eq_iff_iff]; simp
      intro _; omega
    rw [hd]
    rcases p with _ | ⟨vb, o, fr⟩
    · have hk : k = [] ∧ bot = false := by
        cases k with
        | nil =>
          unfold PCv at h2
          split at h2
          · obtain ⟨_, he, _⟩ := h2; cases he
          · rename_i hb; exact ⟨rfl, by simpa using hb⟩
        | cons f k => obtain ⟨_, _, he, _⟩ := h2; cases he
      obtain ⟨rfl, rfl⟩ := hk
      have hq : decide (([] : List Nat) = k') = q.isNone := by
        cases k' with
        | nil =>
          unfold PCv at h2'
          simp at h2'
          subst h2'
          rfl
        | cons f k => obtain ⟨_, _, he, _⟩ := h2'; simp at he; subst he; simp
      rw [hq]
      exact pEq_nil w b b' sb sb' pb pb' q K K' _ _ hb h1 h1' h5 h5' h3 h3'
    · have ho : o = 0 ∧ fr = none := by
        cases k with
        | nil =>
          unfold PCv at h2
          split at h2
          · obtain ⟨_, he, _⟩ := h2; simp at he; exact he.2
          · cases h2
        | cons f k => obtain ⟨_, _, he, _⟩ := h2; simp at he; exact he.2
      obtain ⟨rfl, rfl⟩ := ho
      exact pEq_ptr w b b' sb sb' pb pb' vb q K K' _ _ _ hb h1 h1' h5 h5' h3 h3' (fun n => pcEq_any w bot k k' vb _ n h2 h2')
end Go.Proofs.YtemdillhbnmjkaaGreatDoor
namespace Go.Proofs.YtemdillhbnmjkaaGreatDoor
open Go.RowKit

def pv (p : Nat × Pl.Cfg) : Value := .pointer (some ⟨p.1, 0, none⟩)
/-- the result of a look-up: whether there is one, and it -/
def Found (w : World) (_ : Nat) (L : List (Nat × Pl.Cfg)) (c : Pl.Cfg) (e : Ending) (w' : World) : Prop :=
  ∃ (b' : Nat) (r : Bool), e = .returned (.tuple #[.pointer (some ⟨b', 0, none⟩), .bool r]) ∧ (r = true ↔ ∃ p ∈ L, p.2 = c) ∧ ∃ n, w' = w.drewN n

theorem own_pv {w : World} {A : Option Addr} {cp : Nat} {L : List (Nat × Pl.Cfg)} (h : Own w 158 1 (.slice A L.length cp) L.length (L.map pv)) {j : Nat} {p : Nat × Pl.Cfg} (hj : L[j]? = some p) :
    ∃ g, A = some ⟨g, 0, none⟩ ∧ w.cell? ⟨g, j, none⟩ = some (.pointer (some ⟨p.1, 0, none⟩)) := by
  have hl := (List.getElem?_eq_some_iff.1 hj).1
  obtain ⟨g, cap, cur, he, _, _⟩ := Own.blk h (by omega)
  simp at he
  obtain ⟨rfl, rfl⟩ := he
  refine ⟨g, rfl, h.cellAt ?_⟩
  rw [List.getElem?_map, hj]
  rfl

set_option maxHeartbeats 1000000 in
set_option maxRecDepth 100000 in
theorem get_core (w : World) (bot : Bool) (ds : List Ds) (bs : List Nat) (jb mb cmp b cp : Nat) (A : Option Addr) (n : Value) (c : Pl.Cfg) (L : List (Nat × Pl.Cfg)) (hS : StNum w ds bs) (hc : CfgAt w bot ds bs b c)
    (hj : Blk w jb #[.map (some mb), n, .iface 161 (.pointer (some ⟨cmp, 0, none⟩))] 218)
    (hlk : ∀ m, (Instr.lookup 216 (.map (some mb)) (.int .i64 (chsh bot c)) false).run Tryz.prog (w.drewN m) = .ok (.slice A L.length cp) (w.drewN m))
    (hL : Own w 158 1 (.slice A L.length cp) L.length (L.map pv)) (hat : ∀ p ∈ L, CfgAt w bot ds bs p.1 p.2) :
    Calls Tryz.prog 104 #[.pointer (some ⟨jb, 0, none⟩), .pointer (some ⟨b, 0, none⟩)] w (Found w b L c) := by
  have hle := hL.le
  unfold maxLen at hle
  have c0 : w.cell? ⟨jb, 0, none⟩ = some (.map (some mb)) := by rw [hj.cell]; rfl
  have c2 : w.cell? ⟨jb, 2, none⟩ = some (.iface 161 (.pointer (some ⟨cmp, 0, none⟩))) := by rw [hj.cell]; rfl
  have HH := Lib.hid (hash_any w bot ds bs b c (.pointer (some ⟨cmp, 0, none⟩)) ⟨_, rfl⟩ hS hc)
  have HS := Lib.hid hS
  have HC := Lib.hid hc
  have HL := Lib.hid hL
  have HAt := Lib.hid hat
  have h0 := hlk 0
  have hl0 : (Instr.lookup 216 (.map (some mb)) (.int .i64 (chsh bot c)) false).run Tryz.prog w = .ok (.slice A L.length cp) w := h0
  have Hle := Lib.hid hle
  clear hS hc hL hat hj hlk h0 hle
  go_enter Tryz.func104, Tryz.ntmps104
  go_wp2_with fail
  refine HH.out.mono ?_
  rintro e w' ⟨rfl, rfl⟩
  go_wp2
  have hle := Hle.out
  go_loopw [22] (fun i wr => ∃ k n : Nat, k ≤ L.length ∧ i = .int .i64 (k : Int) ∧ wr = w.drewN n ∧ ∀ p ∈ L.take k, p.2 ≠ c) (fun i _ => L.length - (intOf i).toNat)
  case atStart => exact ⟨0, 0, Nat.zero_le _, rfl, rfl, by simp⟩
  case round =>
    obtain ⟨k, n, hk, rfl, rfl, hno⟩ := hrel
    have HNo := Lib.hid hno
    clear hno
    by_cases hlt : k < L.length
    · obtain ⟨p, hp⟩ : ∃ p, L[k]? = some p := ⟨_, List.getElem?_eq_getElem hlt⟩
      have hpm := List.mem_of_getElem? hp
      obtain ⟨g, rfl, hcell⟩ := own_pv HL.out hp
      have HE := Lib.hid (equal_any (w.drewN n) bot ds bs b p.1 c p.2 (.pointer (some ⟨cmp, 0, none⟩)) ⟨_, rfl⟩ (HS.out.chg ((Chg.refl No w).drewN n)) (HC.out.no ((Chg.refl No w).drewN n)) ((HAt.out p hpm).no ((Chg.refl No w).drewN n)))
      have Hp := Lib.hid hp
      have Hpm := Lib.hid hpm
      clear hp hpm
      by_cases he : c = p.2
      · have hd : decide (c = p.2) = true := by simpa using he
        rw [hd] at HE
        have He := Lib.hid he
        clear he hd
        go_wp2_with fail
        refine HE.out.mono ?_
        rintro e w' ⟨rfl, m, rfl⟩
        go_wp2
        go_ret2
        exact ⟨p.1, true, rfl, ⟨fun _ => ⟨p, Hpm.out, He.out.symm⟩, fun _ => rfl⟩, _, by first | rfl | exact World.drewN_drewN ..⟩
      · have hd : decide (c = p.2) = false := by simpa using he
        rw [hd] at HE
        have He := Lib.hid he
        clear he hd
        go_wp2_with fail
        refine HE.out.mono ?_
        rintro e w' ⟨rfl, m, rfl⟩
        go_wp2
        go_roundw
        case rel =>
          refine ⟨k + 1, n + m, by omega, by go_num, by first | rfl | exact World.drewN_drewN .., ?_⟩
          intro q hq
          rw [List.take_add_one, Hp.out] at hq
          simp at hq
          rcases hq with hq | rfl
          · exact HNo.out q hq
          · exact fun e => He.out e.symm
        case measure => simp [intOf]; omega
    · have hkk : k = L.length := by omega
      subst hkk
      go_wp2
      go_ret2
      refine ⟨b, false, rfl, ⟨(fun h => by cases h), ?_⟩, _, rfl⟩
      rintro ⟨p, hp, hpc⟩
      have := HNo.out
      rw [List.take_length] at this
      exact absurd hpc (this p hp)

/-- what has been visited, in memory -/
structure Busy (w : World) (bot : Bool) (ds : List Ds) (bs : List Nat) (B jb : Nat) (V : List Pl.Cfg) : Prop where
  mk' ::
  ex : ∃ (mb cmp : Nat) (n : Int) (f : Int → Option Value) (F : Int → List (Nat × Pl.Cfg)), Blk w jb #[.map (some mb), .int .i64 n, .iface 161 (.pointer (some ⟨cmp, 0, none⟩))] 218 ∧ MapI w mb V.length f ∧ B ≤ jb ∧ B ≤ mb ∧
    (∀ a v, f a = some v → Own w 158 1 v (F a).length ((F a).map pv) ∧ ∀ k, v.ownBlock = some k → B ≤ k) ∧
    (∀ a, f a = none → F a = []) ∧
    (∀ a p, p ∈ F a → CfgAt w bot ds bs p.1 p.2 ∧ chsh bot p.2 = a) ∧
    (∀ c, c ∈ V ↔ ∃ p ∈ F (chsh bot c), p.2 = c) ∧
    (∀ a a' v v' k, f a = some v → f a' = some v' → a ≠ a' → v.ownBlock = some k → v'.ownBlock ≠ some k) ∧
    (∀ a, (F a).length ≤ V.length)
theorem Busy.tc {Ts : List TypeId} {B' : Nat} {w w' : World} {bot : Bool} {ds : List Ds} {bs : List Nat} {B jb : Nat} {V : List Pl.Cfg} (h : Busy w bot ds bs B jb V) (hc : TC Ts false B' w w') (hT : ∀ T ∈ ([218, 158, 314, 203, 372] : List TypeId), T ∉ Ts) : Busy w' bot ds bs B jb V := by
  obtain ⟨mb, cmp, n, f, F, h1, h2, h3, h4, h5, h6, h7, h8, h9, h10⟩ := h.ex
  refine ⟨mb, cmp, n, f, F, hc.blk h1 (hT _ (by simp)), ?_, h3, h4, fun a v hv => ⟨hc.own (h5 a v hv).1 (hT _ (by simp)), (h5 a v hv).2⟩, h6, fun a p hp => ⟨(h7 a p hp).1.tc hc (hT _ (by simp)) (hT _ (by simp)) (hT _ (by simp)), (h7 a p hp).2⟩, h8, h9, h10⟩
  refine h2.chg hc ?_
  rintro ⟨_, ⟨c, T, hb, _⟩ | ⟨hm, _⟩⟩
  · exact h2.not_cells hb
  · cases hm
theorem Busy.no {w w' : World} {bot : Bool} {ds : List Ds} {bs : List Nat} {B jb : Nat} {V : List Pl.Cfg} (h : Busy w bot ds bs B jb V) (hc : Chg No w w') : Busy w' bot ds bs B jb V :=
  h.tc (Ts := []) (B' := 0) (TC.no hc) (by simp)

theorem zero237 (w : World) : (zeroValue 237).run Tryz.prog w = .ok (.slice none 0 0) w := by kernel_rfl
/-- the row at a hash -/
theorem Busy.row {w : World} {bot : Bool} {ds : List Ds} {bs : List Nat} {B jb : Nat} {V : List Pl.Cfg} (h : Busy w bot ds bs B jb V) (c : Pl.Cfg) :
    ∃ (mb cmp : Nat) (n : Int) (A : Option Addr) (cp : Nat) (L : List (Nat × Pl.Cfg)), Blk w jb #[.map (some mb), .int .i64 n, .iface 161 (.pointer (some ⟨cmp, 0, none⟩))] 218 ∧
      (∀ m, (Instr.lookup 216 (.map (some mb)) (.int .i64 (chsh bot c)) false).run Tryz.prog (w.drewN m) = .ok (.slice A L.length cp) (w.drewN m)) ∧
      Own w 158 1 (.slice A L.length cp) L.length (L.map pv) ∧ (∀ p ∈ L, CfgAt w bot ds bs p.1 p.2) ∧ ((∃ p ∈ L, p.2 = c) ↔ c ∈ V) := by
  obtain ⟨mb, cmp, n, f, F, h1, h2, h3, h4, h5, h6, h7, h8, h9, h10⟩ := h.ex
  have hlk : ∀ m, (Instr.lookup 216 (.map (some mb)) (.int .i64 (chsh bot c)) false).run Tryz.prog (w.drewN m) = .ok ((f (chsh bot c)).getD (.slice none 0 0)) (w.drewN m) := fun m =>
    (h2.chg ((Chg.refl No w).drewN m) (fun h => h)).look Tryz.underlying216 Tryz.underlying3 (zero237 _) (chsh_wf bot c)
  cases hf : f (chsh bot c) with
  | none =>
    rw [hf] at hlk
    refine ⟨mb, cmp, n, none, 0, [], h1, hlk, ⟨rfl, .inl ⟨rfl, rfl⟩⟩, by simp, ?_⟩
    rw [h8, h6 _ hf]
  | some v =>
    rw [hf] at hlk
    obtain ⟨hown, _⟩ := h5 _ _ hf
    obtain ⟨A, cp, rfl⟩ := hown.slice
    exact ⟨mb, cmp, n, A, cp, F (chsh bot c), h1, hlk, hown, fun p hp => (h7 _ p hp).1, (h8 c).symm⟩

theorem get_any (w : World) (bot : Bool) (ds : List Ds) (bs : List Nat) (B jb b : Nat) (V : List Pl.Cfg) (c : Pl.Cfg) (hS : StNum w ds bs) (hc : CfgAt w bot ds bs b c) (h : Busy w bot ds bs B jb V) :
    Calls Tryz.prog 104 #[.pointer (some ⟨jb, 0, none⟩), .pointer (some ⟨b, 0, none⟩)] w fun e w' => ∃ (b' : Nat), e = .returned (.tuple #[.pointer (some ⟨b', 0, none⟩), .bool (decide (c ∈ V))]) ∧ ∃ n, w' = w.drewN n := by
  obtain ⟨mb, cmp, n, A, cp, L, h1, h2, h3, h4, h5⟩ := h.row c
  refine (get_core w bot ds bs jb mb cmp b cp A _ c L hS hc h1 h2 h3 h4).mono ?_
  rintro e w' ⟨b', r, rfl, hr, n, rfl⟩
  have : r = decide (c ∈ V) := by rw [Bool.eq_iff_iff, hr, h5]; simp
  rw [this]
  exact ⟨b', rfl, n, rfl⟩
theorem contains_any (w : World) (bot : Bool) (ds : List Ds) (bs : List Nat) (B jb b : Nat) (V : List Pl.Cfg) (c : Pl.Cfg) (hS : StNum w ds bs) (hc : CfgAt w bot ds bs b c) (h : Busy w bot ds bs B jb V) :
    Calls Tryz.prog 67 #[.pointer (some ⟨jb, 0, none⟩), .pointer (some ⟨b, 0, none⟩)] w fun e w' => e = .returned (.bool (decide (c ∈ V))) ∧ ∃ n, w' = w.drewN n := by
  have H := Lib.hid (get_any w bot ds bs B jb b V c hS hc h)
  generalize decide (c ∈ V) = r at *
  clear hS hc h
  go_enter Tryz.func67, Tryz.ntmps67
  go_wp2_with fail
  refine H.out.mono ?_
  rintro e w' ⟨b', rfl, n, rfl⟩
  go_wp2
  go_ret
  exact ⟨rfl, n, rfl⟩
end Go.Proofs.YtemdillhbnmjkaaGreatDoor
namespace Go.Proofs.YtemdillhbnmjkaaGreatDoor
open Go.RowKit

theorem et237 : ET 237 158 (.pointer none) 1 8 := ⟨by kernel_rfl, by kernel_rfl, rfl, by decide⟩

/-- what is known behind a put, once the look for it has found nothing -/
structure PutP (w w' : World) (jb mb b g c' : Nat) (v0 : Value) (n : Int) (cmp : Nat) (xs : List Value) (h : Int) (m : Nat) (f : Int → Option Value) : Prop where
  blk : ∃ n' : Int, Blk w' jb #[.map (some mb), .int .i64 n', .iface 161 (.pointer (some ⟨cmp, 0, none⟩))] 218
  map : MapI w' mb (m + 1) (fun x => if x = h then some (.slice (some ⟨g, 0, none⟩) (xs.length + 1) c') else f x)
  own : Own w' 158 1 (.slice (some ⟨g, 0, none⟩) (xs.length + 1) c') (xs.length + 1) (xs ++ [.pointer (some ⟨b, 0, none⟩)])
  chg : Chg (fun k => v0.ownBlock = some k ∨ k = mb ∨ k = jb) w w'
  at_ : v0.ownBlock = some g ∨ w.heap.size ≤ g

set_option maxHeartbeats 2000000 in
set_option maxRecDepth 100000 in
theorem jput_core (w : World) (bot : Bool) (ds : List Ds) (bs : List Nat) (jb mb cmp b cp m : Nat) (A : Option Addr) (n : Int) (c : Pl.Cfg) (L : List (Nat × Pl.Cfg)) (f : Int → Option Value) (hS : StNum w ds bs) (hc : CfgAt w bot ds bs b c)
    (hj : Blk w jb #[.map (some mb), .int .i64 n, .iface 161 (.pointer (some ⟨cmp, 0, none⟩))] 218) (hm : MapI w mb m f) (hmm : m < 100000000000000)
    (hlk : (f (chsh bot c)).getD (.slice none 0 0) = .slice A L.length cp)
    (hL : Own w 158 1 (.slice A L.length cp) L.length (L.map pv)) (hat : ∀ p ∈ L, CfgAt w bot ds bs p.1 p.2) (hno : ∀ p ∈ L, p.2 ≠ c) (hLl : L.length < 15000000000000) :
    Calls Tryz.prog 68 #[.pointer (some ⟨jb, 0, none⟩), .pointer (some ⟨b, 0, none⟩)] w fun e w' => e = .returned (.tuple #[.pointer (some ⟨b, 0, none⟩), .bool false]) ∧ ∃ g c', PutP w w' jb mb b g c' (.slice A L.length cp) n cmp (L.map pv) (chsh bot c) m f := by
  have hle := hL.le
  unfold maxLen at hle
  have hlkm : ∀ W, Chg No w W → (Instr.lookup 216 (.map (some mb)) (.int .i64 (chsh bot c)) false).run Tryz.prog W = .ok (.slice A L.length cp) W := by
    intro W hW
    have := (hm.chg hW (fun h => h)).look Tryz.underlying216 Tryz.underlying3 (zero237 W) (chsh_wf bot c)
    rwa [hlk] at this
  have c0 : w.cell? ⟨jb, 0, none⟩ = some (.map (some mb)) := by rw [hj.cell]; rfl
  have c2 : w.cell? ⟨jb, 2, none⟩ = some (.iface 161 (.pointer (some ⟨cmp, 0, none⟩))) := by rw [hj.cell]; rfl
  have HH := Lib.hid (hash_any w bot ds bs b c (.pointer (some ⟨cmp, 0, none⟩)) ⟨_, rfl⟩ hS hc)
  have HS := Lib.hid hS
  have HC := Lib.hid hc
  have HL := Lib.hid hL
  have HAt := Lib.hid hat
  have HNo := Lib.hid hno
  have HM := Lib.hid hm
  have HJ := Lib.hid hj
  have Hlk := Lib.hid hlkm
  have hl0 : (Instr.lookup 216 (.map (some mb)) (.int .i64 (chsh bot c)) false).run Tryz.prog w = .ok (.slice A L.length cp) w := hlkm w (Chg.refl _ _)
  have Hle := Lib.hid hle
  have hwf := Lib.hid (chsh_wf bot c)
  clear hS hc hL hat hj hlk hlkm hle hno hm
  generalize chsh bot c = h at *
  go_enter Tryz.func68, Tryz.ntmps68
  go_wp2_with fail
  refine HH.out.mono ?_
  rintro e w' ⟨rfl, rfl⟩
  go_wp2
  have hle := Hle.out
  go_loopw [22] (fun i wr => ∃ k n : Nat, k ≤ L.length ∧ i = .int .i64 (k : Int) ∧ wr = w.drewN n) (fun i _ => L.length - (intOf i).toNat)
  case atStart => exact ⟨0, 0, Nat.zero_le _, rfl, rfl⟩
  case round =>
    obtain ⟨k, n', hk, rfl, rfl⟩ := hrel
    by_cases hlt : k < L.length
    · obtain ⟨p, hp⟩ : ∃ p, L[k]? = some p := ⟨_, List.getElem?_eq_getElem hlt⟩
      have hpm := List.mem_of_getElem? hp
      obtain ⟨g, rfl, hcell⟩ := own_pv HL.out hp
      have HE := Lib.hid (equal_any (w.drewN n') bot ds bs b p.1 c p.2 (.pointer (some ⟨cmp, 0, none⟩)) ⟨_, rfl⟩ (HS.out.chg ((Chg.refl No w).drewN n')) (HC.out.no ((Chg.refl No w).drewN n')) ((HAt.out p hpm).no ((Chg.refl No w).drewN n')))
      have hd : decide (c = p.2) = false := by simpa using fun e => HNo.out p hpm e.symm
      rw [hd] at HE
      clear hp hpm hd
      go_wp2_with fail
      refine HE.out.mono ?_
      rintro e w' ⟨rfl, m, rfl⟩
      go_wp2
      go_roundw
      case rel => exact ⟨k + 1, n' + m, by omega, by go_num, by first | rfl | exact World.drewN_drewN ..⟩
      case measure => simp [intOf]; omega
    · have hkk : k = L.length := by omega
      subst hkk
      clear hlt hk
      go_wp2
      have hch : Chg No w (w.drewN n') := (Chg.refl No w).drewN n'
      have hj1 := HJ.out.drewN n'
      have hm1 := HM.out.chg hch (fun h => h)
      have hL1 := HL.out.no hch
      have hlk1 := fun W (hW : Chg No (w.drewN n') W) => Hlk.out W (hch.trans hW)
      generalize hwx : w.drewN n' = wx at *
      have Hch := Lib.hid hch
      have HJ1 := Lib.hid hj1
      have HM1 := Lib.hid hm1
      have HL1 := Lib.hid hL1
      have cj : wx.cell? ⟨jb, 0, none⟩ = some (.map (some mb)) := by rw [hj1.cell]; rfl
      have la := hlk1 wx.drew (Chg.refl No wx).drew
      have lb := fun o => hlk1 (wx.alloc o).drew ((Chg.refl No wx).alloc o).drew
      have hjlt := hj1.lt
      clear hch hj1 hm1 hL1 hlk1 hwx
      go_region_held3 (fun w' => w'.cell? ⟨jb, 0, none⟩ = some (.map (some mb))) (first | assumption | go_keep)
        ((refine step_app et237 rfl _ _ rfl (.slice A L.length cp) L.length (L.map pv) rfl ?_ ⟨wx.heap.size, 0, none⟩ 1 1 rfl [.pointer (some ⟨b, 0, none⟩)] ?_ rfl (by omega) ?_ (by omega) (by omega) ?_; exact (HL1.out.no ((Chg.refl No wx).alloc _).drew); exact cells_one ((Blk.new wx #[.pointer (some ⟨b, 0, none⟩)] 158).drew); simp [Value.oneCell']; intro g c' w1 h1 h2 h3; have hjn : jb ≠ g := (by intro e; obtain ⟨cur, hcur⟩ := h1.own (k := g) rfl; have hr : (Value.slice A L.length cp).ownBlock ≠ some jb := HL1.out.ne HJ1.out (by decide); rcases h3 with h3 | h3; exact hr (h3.trans (by rw [e])); simp at h3; omega); have hj2 := ((HJ1.out.alloc (.cells #[.pointer (some ⟨b, 0, none⟩)] 158)).drew).chg (Chg.grownBy h2) (fun e => HL1.out.ne HJ1.out (by decide) e.symm); have hm2 := (HM1.out.chg ((Chg.refl No wx).alloc (.cells #[.pointer (some ⟨b, 0, none⟩)] 158)).drew (fun h => h)).chg (Chg.grownBy h2) (fun e => by obtain ⟨cur, hcur⟩ := HL1.out.own e.symm; exact HM1.out.not_cells hcur); obtain ⟨w2, hrun, hm3, hc3, hs3⟩ := hm2.put (P := Tryz.prog) (by unfold maxLen; omega) Tryz.underlying216 Tryz.underlying3 hwf.out (.slice (some ⟨g, 0, none⟩) (L.length + 1) c'); have hjm : jb ≠ mb := (fun e => by subst e; exact HM1.out.not_cells HJ1.out); have hj3 := hj2.chg hc3 hjm; have cj1 : w1.cell? ⟨jb, 0, none⟩ = some (.map (some mb)) := (by rw [hj2.cell]; rfl); have cj2 : w2.cell? ⟨jb, 0, none⟩ = some (.map (some mb)) := (by rw [hj3.cell]; rfl); have cn2 : w2.cell? ⟨jb, 1, none⟩ = some (.int .i64 n) := (by rw [hj3.cell]; rfl); have fn2 := hj3.fz 1; have Hjn := Lib.hid hjn; have Hjm := Lib.hid hjm; have Hj3 := Lib.hid hj3; have Hm3 := Lib.hid hm3; have Hc3 := Lib.hid hc3; have Hs3 := Lib.hid hs3; have G1 := Lib.hid h1; have G2 := Lib.hid h2; have G3 := Lib.hid h3; clear hjn hj2 hm2 hm3 hc3 hs3 hjm hj3 h1 h2 h3))
      all_goals
        go_wp2
        go_ret2
        have hlen : (L.map pv).length = L.length := by simp
        have hst : ∀ u, Chg (fun k => k = jb) w2 (w2.setCell ⟨jb, 1, none⟩ u) := fun u => Chg.setCell (S := fun k => k = jb) (Chg.refl _ _) (fun _ => rfl) u
        refine ⟨rfl, g, c', ⟨?_, ?_, ?_, ?_, ?_⟩⟩
        · exact ⟨_, by simpa using Hj3.out.set 1 (.int .i64 _)⟩
        · rw [hlen]
          exact Hm3.out.chg (hst _) (fun e => Hjm.out e.symm)
        · rw [hlen]
          have h5 : Own w2 158 1 (.slice (some ⟨g, 0, none⟩) (L.length + 1) c') (L.length + 1) (L.map pv ++ [.pointer (some ⟨b, 0, none⟩)]) := by
            refine G1.out.chg Hc3.out (fun k hk e => ?_)
            obtain ⟨cur, hcur⟩ := G1.out.own hk
            subst e
            have hmm := (HM1.out.chg ((Chg.refl No wx).alloc (.cells #[.pointer (some ⟨b, 0, none⟩)] 158)).drew (fun h => h)).chg (Chg.grownBy G2.out) (fun e => by obtain ⟨cur, hcur⟩ := HL1.out.own e.symm; exact HM1.out.not_cells hcur)
            exact hmm.not_cells hcur
          exact h5.chg (hst _) (fun k hk e => by subst e; exact Hjn.out (by simpa [Value.ownBlock] using hk.symm))
        · have h6 : Chg (fun k => (Value.slice A L.length cp).ownBlock = some k ∨ k = mb ∨ k = jb) w (wx.alloc (.cells #[.pointer (some ⟨b, 0, none⟩)] 158)).drew := ((Chg.mono Hch.out (fun _ _ h => h.elim)).alloc _).drew
          have h7 := h6.grown G2.out (fun k hk _ => .inl hk)
          have h8 := h7.then Hc3.out (fun k _ e => .inr (.inl e))
          exact h8.then (hst _) (fun k _ e => .inr (.inr e))
        · rcases G3.out with h | h
          · exact .inl h
          · refine .inr ?_
            have := Hch.out.size
            simp at h
            omega

def TsJ : List TypeId := [218, 158]
theorem jput_any (w : World) (bot : Bool) (ds : List Ds) (bs : List Nat) (B jb b : Nat) (V : List Pl.Cfg) (c : Pl.Cfg) (hS : StNum w ds bs) (hc : CfgAt w bot ds bs b c) (hB : Busy w bot ds bs B jb V) (hn : c ∉ V) (hV : V.length < 15000000000000) (hBs : B ≤ w.heap.size) :
    Calls Tryz.prog 68 #[.pointer (some ⟨jb, 0, none⟩), .pointer (some ⟨b, 0, none⟩)] w fun e w' => e = .returned (.tuple #[.pointer (some ⟨b, 0, none⟩), .bool false]) ∧ (Busy w' bot ds bs B jb (c :: V) ∧ TC TsJ true B w w') := by
  obtain ⟨mb, cmp, n, f, F, h1, h2, h3, h4, h5, h6, h7, h8, h9, h10⟩ := hB.ex
  have hrow : ∃ A cp, (f (chsh bot c)).getD (.slice none 0 0) = .slice A (F (chsh bot c)).length cp ∧ Own w 158 1 (.slice A (F (chsh bot c)).length cp) (F (chsh bot c)).length ((F (chsh bot c)).map pv) ∧
      (∀ k, (Value.slice A (F (chsh bot c)).length cp).ownBlock = some k → B ≤ k ∧ f (chsh bot c) = some (.slice A (F (chsh bot c)).length cp)) := by
    cases hf : f (chsh bot c) with
    | none =>
      rw [h6 _ hf]
      exact ⟨none, 0, rfl, ⟨rfl, .inl ⟨rfl, rfl⟩⟩, fun k hk => by simp [Value.ownBlock] at hk⟩
    | some v =>
      obtain ⟨hown, hb⟩ := h5 _ _ hf
      obtain ⟨A, cp, rfl⟩ := hown.slice
      exact ⟨A, cp, rfl, hown, fun k hk => ⟨hb k hk, rfl⟩⟩
  obtain ⟨A, cp, hlk, hL, hAB⟩ := hrow
  have hno : ∀ p ∈ F (chsh bot c), p.2 ≠ c := fun p hp e => hn ((h8 c).2 ⟨p, hp, e⟩)
  have hLl : (F (chsh bot c)).length < 15000000000000 := Nat.lt_of_le_of_lt (h10 _) hV
  refine (jput_core w bot ds bs jb mb cmp b cp V.length A n c (F (chsh bot c)) f hS hc h1 h2 (by omega) hlk hL (fun p hp => (h7 _ p hp).1) hno hLl).mono ?_
  rintro e w' ⟨rfl, g, c', p1, p2, p3, p4, p5⟩
  refine ⟨rfl, ?_, ?_⟩
  · obtain ⟨n', p1⟩ := p1
    rw [List.length_map] at p2 p3
    have keepOwn : ∀ a v, f a = some v → a ≠ chsh bot c → Own w' 158 1 v (F a).length ((F a).map pv) := by
      intro a v hv hne
      refine (h5 a v hv).1.chg p4 (fun k hk hS => ?_)
      rcases hS with hS | hS | hS
      · have := (hAB k hS).2
        exact h9 a _ v _ k hv this hne hk hS
      · subst hS
        obtain ⟨cur, hcur⟩ := (h5 a v hv).1.own hk
        exact h2.not_cells hcur
      · subst hS
        exact (h5 a v hv).1.ne h1 (by decide) hk
    have keepCfg : ∀ b c, CfgAt w bot ds bs b c → CfgAt w' bot ds bs b c := by
      intro b c h
      have hnt : ∀ (T : TypeId), T ≠ 158 → T ≠ 218 → ∀ k, ((Value.slice A (F (chsh bot c)).length cp).ownBlock = some k ∨ k = mb ∨ k = jb) → True := fun _ _ _ _ _ => trivial
      have hk : ∀ {k : Nat} {cs : Array Value} {T : TypeId}, Blk w k cs T → T ≠ 158 → T ≠ 218 → Blk w' k cs T := by
        intro k cs T hb hT1 hT2
        refine hb.chg p4 (fun hS => ?_)
        rcases hS with hS | hS | hS
        · exact hL.ne hb (Ne.symm hT1) hS
        · subst hS; exact h2.not_cells hb
        · subst hS; exact hT2 (hb.uniq h1).2
      obtain ⟨h0, v, pb, q1, q2, q3⟩ := h
      refine ⟨h0, v, pb, hk q1 (by decide) (by decide), PCv.chg p4 (fun k hS _ cs hb => ?_) q2, hk q3 (by decide) (by decide)⟩
      rcases hS with hS | hS | hS
      · exact hL.ne hb (by decide) hS
      · subst hS; exact h2.not_cells hb
      · subst hS
        have := (hb.uniq h1).2
        revert this
        decide
    refine ⟨mb, cmp, n', _, fun a => if a = chsh bot c then F a ++ [(b, c)] else F a, p1, p2, h3, h4, ?_, ?_, ?_, ?_, ?_, ?_⟩
    · intro a v hv
      by_cases ha : a = chsh bot c
      · subst ha
        simp only [if_true] at hv ⊢
        cases hv
        refine ⟨by simpa [pv] using p3, fun k hk => ?_⟩
        simp [Value.ownBlock] at hk
        subst hk
        rcases p5 with h | h
        · exact (hAB _ h).1
        · omega
      · simp only [if_neg ha] at hv ⊢
        exact ⟨keepOwn a v hv ha, (h5 a v hv).2⟩
    · intro a ha
      by_cases hac : a = chsh bot c
      · subst hac; simp at ha
      · simp only [if_neg hac] at ha ⊢; exact h6 a ha
    · intro a p hp
      by_cases ha : a = chsh bot c
      · subst ha
        simp only [if_true, List.mem_append, List.mem_singleton] at hp
        rcases hp with hp | rfl
        · exact ⟨keepCfg _ _ (h7 _ p hp).1, (h7 _ p hp).2⟩
        · exact ⟨keepCfg _ _ hc, rfl⟩
      · simp only [if_neg ha] at hp
        exact ⟨keepCfg _ _ (h7 _ p hp).1, (h7 _ p hp).2⟩
    · intro d
      rw [List.mem_cons, h8]
      by_cases hd : chsh bot d = chsh bot c
      · simp only [if_pos hd, List.mem_append, List.mem_singleton]
        constructor
        · rintro (rfl | ⟨p, hp, he⟩)
          · exact ⟨(b, d), .inr rfl, rfl⟩
          · exact ⟨p, .inl hp, he⟩
        · rintro ⟨p, hp | rfl, he⟩
          · exact .inr ⟨p, hp, he⟩
          · exact .inl he.symm
      · simp only [if_neg hd]
        constructor
        · rintro (rfl | h)
          · exact absurd rfl hd
          · exact h
        · exact .inr
    · intro a a' v v' k hv hv' hne hk hk'
      by_cases ha : a = chsh bot c
      · subst ha
        simp only [if_true] at hv
        cases hv
        simp only [if_neg (Ne.symm hne)] at hv'
        simp [Value.ownBlock] at hk
        subst hk
        rcases p5 with h | h
        · exact h9 _ a' _ v' g ((hAB g h).2) hv' hne h hk'
        · have := (h5 a' v' hv').1.lt hk'
          omega
      · simp only [if_neg ha] at hv
        by_cases ha' : a' = chsh bot c
        · subst ha'
          simp only [if_true] at hv'
          cases hv'
          simp [Value.ownBlock] at hk'
          subst hk'
          rcases p5 with h | h
          · exact h9 a _ v _ g hv ((hAB g h).2) ha hk h
          · have := (h5 a v hv).1.lt hk
            omega
        · simp only [if_neg ha'] at hv'
          exact h9 a a' v v' k hv hv' hne hk hk'
    · intro a
      by_cases ha : a = chsh bot c
      · simp only [if_pos ha, List.length_append, List.length_cons, List.length_nil]
        have := h10 a
        omega
      · simp only [if_neg ha, List.length_cons]
        have := h10 a
        omega
  · refine Chg.mono p4 (fun k _ hS => ?_)
    rcases hS with hS | hS | hS
    · obtain ⟨cur, hcur⟩ := hL.own hS
      exact ⟨(hAB k hS).1, .inl ⟨_, _, hcur, by decide⟩⟩
    · subst hS
      obtain ⟨es, cl, hm, _⟩ := h2.ex
      exact ⟨h4, .inr ⟨rfl, es, cl, hm⟩⟩
    · subst hS
      exact ⟨h3, .inl ⟨_, _, h1, by decide⟩⟩
set_option maxRecDepth 100000 in
/-- an empty store -/
theorem newStore_any (w : World) (bot : Bool) (ds : List Ds) (bs : List Nat) (cmp : Nat) (x : Int) (s : ByteArray) :
    Calls Tryz.prog 52 #[.iface 161 (.pointer (some ⟨cmp, 0, none⟩)), .int .i64 x, .string s] w fun e w' => ∃ jb, e = .returned (.pointer (some ⟨jb, 0, none⟩)) ∧ (Busy w' bot ds bs w.heap.size jb [] ∧ Chg No w w') := by
  have hmm : ∀ w, (Instr.makeMap 216 (some (.int .i64 1))).run Tryz.prog w = .ok (.map (some w.heap.size)) (w.alloc (.map #[] 0)) := fun _ => by kernel_rfl
  go_enter Tryz.func52, Tryz.ntmps52
  go_wp2
  go_ret
  refine ⟨w.heap.size + 1, by simp, ?_, ((Chg.refl _ _).alloc _).alloc _⟩
  refine ⟨w.heap.size, cmp, 0, fun _ => none, fun _ => [], Blk.at_new (by simp) _ _, (MapI.made w rfl).chg ((Chg.refl No _).alloc _) (fun h => h), by omega, by omega, by simp, by simp, by simp, by simp, by simp, by simp⟩
end Go.Proofs.YtemdillhbnmjkaaGreatDoor

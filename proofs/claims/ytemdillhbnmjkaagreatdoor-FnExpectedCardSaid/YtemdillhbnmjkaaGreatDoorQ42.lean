/- How much a set of tokens holds, whether it has the token 0 (58, 59). · What the alternatives of a decision begin with: the search from one alternative, the row of sets (51, 44). -/
import Derived.Test.YtemdillhbnmjkaaGreatDoorQ21
import Derived.Test.YtemdillhbnmjkaaGreatDoorQ25
import Derived.Test.YtemdillhbnmjkaaGreatDoorQ39
namespace Go.Proofs.YtemdillhbnmjkaaGreatDoor
open Go.RowKit

theorem u64 (n : Int) (h : -9223372036854775808 ≤ n ∧ n ≤ 9223372036854775807) : wrap64 n = n := by unfold wrap64; omega
def isum (l : List Pl.Iv) : Int := (l.map fun i => i.2 - i.1).sum
theorem isum_snoc (l : List Pl.Iv) (i : Pl.Iv) : isum (l ++ [i]) = isum l + (i.2 - i.1) := by simp [isum]
theorem isum_low : ∀ (l : List Pl.Iv), (∀ i ∈ l, -2 ≤ i.1 ∧ i.1 < i.2 ∧ i.2 ≤ 5) → (l.length : Int) ≤ isum l ∧ isum l ≤ 7 * (l.length : Int)
  | [], _ => by simp [isum]
  | i :: l, h => by
    have h1 := isum_low l (fun j hj => h j (by simp [hj]))
    have h2 := h i (by simp)
    have e : isum (i :: l) = (i.2 - i.1) + isum l := by simp [isum]
    rw [e, List.length_cons]
    omega
theorem canon_nil : ∀ m, m < 64 → (Pl.canon m = [] ↔ m = 0) := by decide +kernel
theorem canon_no0 : ∀ m, m < 64 → ∀ i ∈ Pl.canon m, ¬ (i.1 ≤ 0 ∧ 0 < i.2) := by decide +kernel

/-- where a set's intervals lie -/
theorem LookS.lies {w : World} {B p m : Nat} (h : LookS w B p m) : ∃ A c, w.cell? ⟨p, 0, none⟩ = some (.slice A (Pl.canon m).length c) ∧ (A = none → Pl.canon m = []) ∧ ∀ (j : Nat) i, (Pl.canon m)[j]? = some i → ∃ g, A = some ⟨g, 0, none⟩ ∧ w.cell? ⟨g, j * 2, none⟩ = some (.int .i64 i.1) ∧ w.cell? ⟨g, j * 2 + 1, none⟩ = some (.int .i64 i.2) := by
  obtain ⟨hm, hp, v, ro, h3, h4⟩ := h
  rcases h4 with ⟨rfl, rfl⟩ | ⟨g, c, rfl, h5, h6⟩
  · exact ⟨none, 0, by rw [h3.cell, canon_zero]; rfl, fun _ => canon_zero, fun j i hj => by rw [canon_zero] at hj; simp at hj⟩
  · exact ⟨_, c, by rw [h3.cell]; rfl, fun h => (by cases h), fun j i hj => ⟨g, rfl, h5.cellAt (ivs_at hj).1, h5.cellAt (ivs_at hj).2⟩⟩

/-- what length returns -/
def LenRet (w : World) (m : Nat) (e : Ending) (w' : World) : Prop := ∃ n : Int, e = .returned (.int .i64 n) ∧ (n = 0 ↔ m = 0) ∧ Chg No w w'
set_option maxHeartbeats 1000000 in
set_option maxRecDepth 100000 in
theorem ivLen_any (w : World) (B p m : Nat) (h : LookS w B p m) : Calls Tryz.prog 58 #[.pointer (some ⟨p, 0, none⟩)] w (LenRet w m) := by
  have hm := h.1
  obtain ⟨hlen, hb, _⟩ := Pl.canon_facts m hm
  obtain ⟨A, c, h1, _, h3⟩ := h.lies
  have hz := canon_nil m hm
  have HZ := Lib.hid hz
  have HB := Lib.hid hb
  have HR := Lib.hid h3
  have HL := Lib.hid hlen
  generalize Pl.canon m = l at *
  clear h hb h3 hz hlen
  go_enter Tryz.func58, Tryz.ntmps58
  go_wp2
  go_loopw [3, 11] (fun n i wr => ∃ j : Nat, j ≤ l.length ∧ i = .int .i64 (j : Int) ∧ n = .int .i64 (isum (l.take j)) ∧ Chg No w wr) (fun _ i _ => l.length - (intOf i).toNat)
  case atStart => exact ⟨0, Nat.zero_le _, rfl, rfl, Chg.refl _ _⟩
  case round =>
    obtain ⟨j, hj, rfl, rfl, hn⟩ := hrel
    have htl : (l.take j).length = j := by rw [List.length_take, Nat.min_eq_left hj]
    by_cases hlt : j < l.length
    · obtain ⟨x, hx⟩ : ∃ x, l[j]? = some x := ⟨_, List.getElem?_eq_getElem hlt⟩
      obtain ⟨g, rfl, p0, p1⟩ := HR.out j x hx
      have q0 := Chg.kept hn p0 (fun h => h)
      have q1 := Chg.kept hn p1 (fun h => h)
      have htake : l.take (j + 1) = l.take j ++ [x] := by rw [List.take_add_one, hx]; rfl
      have hs1 := isum_snoc (l.take j) x
      rw [← htake] at hs1
      have hlo := isum_low (l.take j) (fun i hi => HB.out i (List.mem_of_mem_take hi))
      have hxb := HB.out x (List.mem_of_getElem? hx)
      have hl100 := HL.out
      rw [htl] at hlo
      have HS := Lib.hid hs1
      have HN := Lib.hid hn
      have hw1 : wrap64 (x.2 - x.1) = x.2 - x.1 := u64 _ (by omega)
      have hw2 : wrap64 (isum (l.take j) + (x.2 - x.1)) = isum (l.take j) + (x.2 - x.1) := u64 _ (by omega)
      clear htake hn htl hx p0 p1 hs1 hlo hxb
      go_wp2
      go_roundw
      case rel => exact ⟨j + 1, by omega, by go_num, by rw [HS.out, hw2], ((HN.out.alloc _).alloc _)⟩
      case measure => simp [intOf]; omega
    · obtain rfl : j = l.length := by omega
      rw [List.take_length]
      have hlo := isum_low l HB.out
      have HN := Lib.hid hn
      have HLo := Lib.hid hlo
      clear hlo hn htl
      go_wp2
      go_ret
      refine ⟨isum l, rfl, ?_, HN.out⟩
      rw [← HZ.out]
      have := HLo.out
      constructor
      · intro h0
        exact List.eq_nil_of_length_eq_zero (by omega)
      · intro h0; subst h0; rfl

set_option maxHeartbeats 1000000 in
set_option maxRecDepth 100000 in
theorem no0_any (w : World) (B p m : Nat) (h : LookS w B p m) : Calls Tryz.prog 59 #[.pointer (some ⟨p, 0, none⟩), .int .i64 0] w fun e w' => e = .returned (.bool false) ∧ Chg No w w' := by
  have hm := h.1
  obtain ⟨hlen, hb, _⟩ := Pl.canon_facts m hm
  obtain ⟨A, c, h1, h2, h3⟩ := h.lies
  have h0 := canon_no0 m hm
  have H0 := Lib.hid h0
  have HR := Lib.hid h3
  have heq := fun (w : World) (x : Option Addr) (l c : Nat) => Lib.run_eql_slice_nil (P := Tryz.prog) w 102 104 x l c 0 0 Tryz.underlying102
  generalize Pl.canon m = l at *
  clear h hb h3 h0
  cases A with
  | none =>
    clear h2
    go_enter Tryz.func59, Tryz.ntmps59
    go_wp2
    go_ret
    exact ⟨rfl, Chg.refl _ _⟩
  | some a =>
    clear h2
    go_enter Tryz.func59, Tryz.ntmps59
    go_wp2
    go_loopw [5] (fun i wr => ∃ j : Nat, j ≤ l.length ∧ i = .int .i64 (j : Int) ∧ Chg No w wr) (fun i _ => l.length - (intOf i).toNat)
    case atStart => exact ⟨0, Nat.zero_le _, rfl, Chg.refl _ _⟩
    case round =>
      obtain ⟨j, hj, rfl, hn⟩ := hrel
      have q := Chg.kept hn h1 (fun h => h)
      by_cases hlt : j < l.length
      · obtain ⟨x, hx⟩ : ∃ x, l[j]? = some x := ⟨_, List.getElem?_eq_getElem hlt⟩
        obtain ⟨g, hg, p0, p1⟩ := HR.out j x hx
        cases hg
        have q0 := Chg.kept hn p0 (fun h => h)
        have q1 := Chg.kept hn p1 (fun h => h)
        have hxn := H0.out x (List.mem_of_getElem? hx)
        have HN := Lib.hid hn
        by_cases hx1 : x.1 ≤ 0
        · have hx2 : x.2 ≤ 0 := by omega
          have d1 : decide (x.1 ≤ 0) = true := decide_eq_true hx1
          have d2 : decide (0 < x.2) = false := decide_eq_false (by omega)
          clear hn hx p0 p1 hxn
          go_wp2
          go_roundw
          case rel => exact ⟨j + 1, by omega, by go_num, (HN.out.alloc _)⟩
          case measure => simp [intOf]; omega
        · have d1 : decide (x.1 ≤ 0) = false := decide_eq_false hx1
          clear hn hx p0 p1 hxn
          go_wp2
          go_roundw
          case rel => exact ⟨j + 1, by omega, by go_num, (HN.out.alloc _)⟩
          case measure => simp [intOf]; omega
      · obtain rfl : j = l.length := by omega
        have HN := Lib.hid hn
        clear hn
        go_wp2
        go_ret
        exact ⟨rfl, HN.out⟩
end Go.Proofs.YtemdillhbnmjkaaGreatDoor
namespace Go.Proofs.YtemdillhbnmjkaaGreatDoor
open Go.RowKit

/-- the set of what alternative a of rule r can begin with, through the network -/
def AltSet (g : Pl.Gr) (r a m : Nat) : Prop := m < 64 ∧ ∀ t, Pl.has m t = true ↔ Pl.TR (netG g.length (T2of (dsOf g) g.length (edOf g))) true (Pl.place g r a, []) t
/-- a set, or nil where it is empty -/
def SetP (w : World) (B : Nat) (u : Value) (m : Nat) : Prop := (u = .pointer none ∧ m = 0) ∨ ∃ p, u = .pointer (some ⟨p, 0, none⟩) ∧ LookS w B p m
theorem LookS.no {w w' : World} {B p m : Nat} (h : LookS w B p m) (hc : Chg No w w') : LookS w' B p m := LookS.tc (TC.no (Ts := []) (mp := false) (B := 0) hc) h (by simp) (by simp)
theorem LookS.low {w : World} {B B' p m : Nat} (h : LookS w B p m) (hB : B' ≤ B) : LookS w B' p m := by
  obtain ⟨h1, h2, v, ro, h3, h4⟩ := h
  refine ⟨h1, by omega, v, ro, h3, ?_⟩
  rcases h4 with h4 | ⟨g, c, h5, h6, h7⟩
  · exact .inl h4
  · exact .inr ⟨g, c, h5, h6, by omega⟩
theorem SetP.no {w w' : World} {B m : Nat} {u : Value} (h : SetP w B u m) (hc : Chg No w w') : SetP w' B u m := by
  rcases h with h | ⟨p, h1, h2⟩
  · exact .inl h
  · exact .inr ⟨p, h1, h2.no hc⟩
/-- a set that lies elsewhere than what has changed -/
theorem LookS.off {S : Nat → Prop} {w w' : World} {B p m : Nat} (h : LookS w B p m) (hc : Chg S w w') (hT : ∀ k, S k → k < w.heap.size → ∃ c T, Blk w k c T ∧ T ≠ 145 ∧ T ≠ 104) : LookS w' B p m := by
  obtain ⟨h1, h2, v, ro, h3, h4⟩ := h
  refine ⟨h1, h2, v, ro, h3.chg hc (fun hS => ?_), ?_⟩
  · obtain ⟨c, T, hb, ht, _⟩ := hT p hS h3.lt
    exact hb.ne h3 ht rfl
  · rcases h4 with h4 | ⟨g, c, rfl, h6, h7⟩
    · exact .inl h4
    · refine .inr ⟨g, c, rfl, h6.chg hc (fun k hk hS => ?_), h7⟩
      obtain ⟨cur, hcur⟩ := h6.own hk
      obtain ⟨c', T, hb, _, ht⟩ := hT k hS hcur.lt
      exact hb.ne hcur ht rfl

theorem block_tds {g : Pl.Gr} (G : Pl.GoodG g) {r : Nat} {alts : List (List Int)} (hr : g[r]? = some alts) : ((T2of (dsOf g) g.length (edOf g))[2 * g.length + r]?).getD [] = alts.zipIdx.map fun x => TD.eps (Pl.place g r x.2) := by
  rw [t2_row G (by omega), Pl.row_block hr, List.map_map]
  rfl
theorem block_td {g : Pl.Gr} (r : Nat) {alts : List (List Int)} {j : Nat} (hj : j < alts.length) : (alts.zipIdx.map fun x => TD.eps (Pl.place g r x.2))[j]? = some (.eps (Pl.place g r j)) := by
  rw [List.getElem?_map, List.getElem?_eq_getElem (by simpa using hj)]
  simp

/-- what one alternative's search leaves -/
def AltRet (g : Pl.Gr) (r a p : Nat) (W0 : World) (e : Ending) (w' : World) : Prop := e = .returned (.tuple #[]) ∧ ∃ m, AltSet g r a m ∧ LookS w' W0.heap.size p m ∧ Chg No W0 w'
theorem alt_search (g : Pl.Gr) (G : Pl.GoodG g) (W0 : World) (la ba : Nat) (bs : List Nat) (hn : ATNv W0 ba (dsOf g) bs (T2of (dsOf g) g.length (edOf g))) (hla : Blk W0 la #[.pointer (some ⟨ba, 0, none⟩)] 150)
    (r a : Nat) (alts : List (List Int)) (hr : g[r]? = some alts) (ha : a < alts.length) (W : World) (p jb b cb : Nat) (hW : Chg No W0 W) (hp : Blk W p #[.slice none 0 0, .bool false] 145) (hp0 : W0.heap.size ≤ p)
    (hbusy : Busy W true (dsOf g) bs W0.heap.size jb []) (hb : Blk W b c0cell 203) (hcb : Blk W cb #[.slice none 0 0] 221) (hcb0 : W0.heap.size ≤ cb) :
    Calls Tryz.prog 51 #[.pointer (some ⟨la, 0, none⟩), dv (dsOf g) bs (Pl.place g r a), .nilIface, .pointer (some ⟨b, 0, none⟩), .pointer (some ⟨p, 0, none⟩), .pointer (some ⟨jb, 0, none⟩), .pointer (some ⟨cb, 0, none⟩), .bool false, .bool false] W (AltRet g r a p W0) := by
  obtain ⟨alt, hal⟩ : ∃ u, alts[a]? = some u := ⟨_, List.getElem?_eq_getElem ha⟩
  have hs : Pl.place g r a < (dsOf g).length := by rw [ds_len]; have := Pl.place_end g hr hal; omega
  have hA : (Pl.place g r a, []) ∈ Pl.allCfg g := by have := Pl.all_pos hr hal (Nat.zero_le alt.length); rwa [Nat.add_zero] at this
  have hok := Pl.pos_ok (net_is G) true G.hsym G.wf hr hal 0 (Nat.zero_le _)
  rw [Nat.add_zero] at hok
  have hl := look1_all (mkE g true W0 la ba bs p jb cb) (mkE_fits G p jb cb hn hla) (s := Pl.place g r a) (k := []) (V := []) (C := 0) hs (by simp) hA (by decide) (by
    have e : (fun x => Nat.testBit 0 x) = fun _ => false := by funext x; simp
    rw [e]; exact hok)
  have hat : (mkE g true W0 la ba bs p jb cb).At W 0 [] 0 := by
    refine ⟨hW, ⟨by decide, hp0, .slice none 0 0, false, hp, .inl ⟨rfl, rfl⟩⟩, hbusy, ⟨by decide, hcb0, .slice none 0 0, hcb, .inl ⟨rfl, rfl⟩⟩, List.nodup_nil, by simp⟩
  have hl' := hl W (.pointer (some ⟨b, 0, none⟩)) 0 hat ⟨b, rfl, hb⟩
  refine Calls.mono hl' ?_
  rintro e w' ⟨rfl, m', V', h1, h2, h3⟩
  exact ⟨rfl, m', ⟨h1.look.1, Pl.Grow.all h2 has_zero⟩, h1.look, h1.base⟩

/-- the row of sets, as far as it is filled -/
structure Dl (g : Pl.Gr) (r n : Nat) (w wr : World) (q j : Nat) : Prop where
  chg : Chg No w wr
  new : w.heap.size ≤ q
  ex : ∃ us : List Value, us.length = n ∧ Blk wr q us.toArray 71 ∧ ∀ (i : Nat) u, us[i]? = some u → i < j → ∃ m, AltSet g r i m ∧ SetP wr w.heap.size u m
theorem et88 : ET 88 71 (.pointer none) 1 8 := ⟨by kernel_rfl, by kernel_rfl, rfl, by decide⟩
theorem ptrs_made (n : Nat) : madeCells #[Value.pointer none] n = (List.replicate n (Value.pointer none)).toArray := by
  apply Array.ext'
  apply List.ext_getElem?
  intro i
  rw [Array.getElem?_toList]
  simp only [madeCells]
  rw [List.getElem?_replicate]
  by_cases h : i < n <;> simp [h, Nat.mod_one]
theorem make_sets (n : Nat) (h : n < 1000) (w : World) : (Instr.makeSlice 88 (.int .i64 (n : Int)) (.int .i64 (n : Int))).run Tryz.prog w = .ok (.slice (some ⟨w.heap.size, 0, none⟩) n n) (w.alloc (.cells (List.replicate n (Value.pointer none)).toArray 71)) := by
  rw [← ptrs_made]
  exact run_make_row' 88 71 (.pointer none) 8 et88.under et88.info rfl .i64 .i64 n (by omega) (by omega) w
theorem chg_swap (w : World) (o : Obj) (a : Addr) (v : Value) : Chg No (w.setCell a v) ((w.alloc o).setCell a v) := by
  refine ⟨rfl, rfl, rfl, ?_, fun k hk _ => ?_⟩
  · rw [heapSize_setCell, heapSize_setCell]; simp
  · rw [heapSize_setCell] at hk
    simp only [World.setCell, World.alloc, Array.getElem?_modify, Array.getElem?_push]
    rw [if_neg (show ¬ k = w.heap.size by omega)]
theorem cell_lt {w : World} {b o : Nat} {v : Value} (h : w.cell? ⟨b, o, none⟩ = some v) : b < w.heap.size := by
  rcases Nat.lt_or_ge b w.heap.size with h1 | h1
  · exact h1
  · have : w.heap[b]? = none := Array.getElem?_eq_none h1
    simp [World.cell?, this] at h
theorem Dl.next {g : Pl.Gr} {r n : Nat} {w wr wf : World} {q j : Nat} {us : List Value} {u : Value} (hd : Dl g r n w wr q j) (hl : us.length = n) (hb : Blk wr q us.toArray 71) (hc : Chg (fun k => k = q) wr wf) (hbf : Blk wf q (us.set j u).toArray 71)
    (hu : ∃ m, AltSet g r j m ∧ SetP wf w.heap.size u m) : Dl g r n w wf q (j + 1) := by
  have hnew := hd.new
  obtain ⟨us', h1, h2, h3⟩ := hd.ex
  obtain rfl : us' = us := by
    have := (h2.uniq hb).1
    simpa using this
  refine ⟨hd.chg.then hc (fun k hk e => by omega), hnew, us'.set j u, by simp [hl], hbf, fun i v hv hi => ?_⟩
  rw [List.getElem?_set] at hv
  by_cases hij : j = i
  · subst hij
    rw [if_pos rfl] at hv
    split at hv
    · cases hv; exact hu
    · cases hv
  · rw [if_neg hij] at hv
    obtain ⟨m, a1, a2⟩ := h3 i v hv (by omega)
    refine ⟨m, a1, ?_⟩
    rcases a2 with a2 | ⟨p, a2, a3⟩
    · exact .inl a2
    · exact .inr ⟨p, a2, a3.off hc (fun k hk _ => by subst hk; exact ⟨_, _, hb, by decide, by decide⟩)⟩

def DecRet (g : Pl.Gr) (r n : Nat) (w : World) (e : Ending) (w' : World) : Prop := ∃ q, e = .returned (.slice (some ⟨q, 0, none⟩) n n) ∧ Dl g r n w w' q n

set_option maxHeartbeats 4000000 in
set_option maxRecDepth 100000 in
theorem getDec_any (g : Pl.Gr) (G : Pl.GoodG g) (w : World) (la ba : Nat) (bs : List Nat) (hn : ATNv w ba (dsOf g) bs (T2of (dsOf g) g.length (edOf g))) (hla : Blk w la #[.pointer (some ⟨ba, 0, none⟩)] 150)
    (r : Nat) (alts : List (List Int)) (hr : g[r]? = some alts) (hal : alts.length < 1000) :
    Calls Tryz.prog 44 #[.pointer (some ⟨la, 0, none⟩), dv (dsOf g) bs (2 * g.length + r)] w (DecRet g r alts.length w) := by
  have hrl := (List.getElem?_eq_some_iff.1 hr).1
  obtain ⟨sb, A, cp, tb, hS⟩ := hn.state (ds_block g hrl)
  rw [block_tds G hr] at hS
  have hmk := make_sets alts.length hal
  have y6 := hS.trans
  have hts : (alts.zipIdx.map fun x => TD.eps (Pl.place g r x.2)).length = alts.length := by simp
  rw [hts] at y6
  have hsearch := fun (W0 : World) (hc : Chg No w W0) a ha => alt_search g G W0 la ba bs (hn.no hc) (hla.chg hc (fun h => h)) r a alts hr ha
  have htr := fun j (hj : j < alts.length) => hS.trans_at (block_td r hj)
  have hpt := fun j (hj : j < alts.length) => hn.stNum (Pl.place g r j) (by
    obtain ⟨alt, hal⟩ : ∃ u, alts[j]? = some u := ⟨_, List.getElem?_eq_getElem hj⟩
    rw [ds_len]; have := Pl.place_end g hr hal; omega)
  rw [hS.val]
  have HSearch := Lib.hid hsearch
  have HTr := Lib.hid htr
  have HPt := Lib.hid hpt
  generalize alts.length = n at *
  clear hn hla hS hsearch htr hpt hr hts
  go_enter Tryz.func44, Tryz.ntmps44
  go_wp2_with (first | (go_at_call 121; refine (getT_s _ _ _ y6 ⟨_, _, _, rfl⟩).mono ?_; rintro e w' ⟨rfl, rfl⟩))
  go_loopw [7] (fun i wr => ∃ j : Nat, j ≤ n ∧ i = .int .i64 (j : Int) ∧ Dl g r n w wr w.heap.size j) (fun i _ => n - (intOf i).toNat)
  case atStart => exact ⟨0, Nat.zero_le _, rfl, (Chg.refl No w).alloc _, Nat.le_refl _, _, by simp, Blk.new _ _ _, fun i u _ hi => by omega⟩
  case round =>
    obtain ⟨j, hj, rfl, hd⟩ := hrel
    by_cases hlt : j < n
    · obtain ⟨us, u1, u2, u3⟩ := hd.ex
      obtain ⟨gA, t, hA, t1, t2⟩ := HTr.out j hlt
      subst hA
      obtain ⟨K2, sb2, hv2, _⟩ := HPt.out j hlt
      have t1 : w.cell? ⟨gA, j, none⟩ = some (.iface TK.eps.ptr (.pointer (some ⟨t, 0, none⟩))) := t1
      obtain ⟨o, hblk⟩ := t2
      obtain ⟨uj, huj⟩ : ∃ u, us[j]? = some u := ⟨_, List.getElem?_eq_getElem (by omega)⟩
      have hql := u2.lt
      have hW0 : Chg No w (wr.setCell ⟨w.heap.size, j, none⟩ (.pointer (some ⟨wr.heap.size, 0, none⟩))) := hd.chg.setCell (fun h => absurd h (by simp)) _
      have hset := fun v => (show (us.set j v).toArray = us.toArray.setIfInBounds j v by simp)
      have hq0 : Blk (wr.setCell ⟨w.heap.size, j, none⟩ (.pointer (some ⟨wr.heap.size, 0, none⟩))) w.heap.size (us.set j (.pointer (some ⟨wr.heap.size, 0, none⟩))).toArray 71 := by rw [hset]; exact u2.set j _
      have c0 : w.cell? ⟨t, 0, none⟩ = some (dv (dsOf g) bs (Pl.place g r j)) := by rw [hblk.cell]; rfl
      have hsr := HSearch.out _ hW0 j hlt
      rw [hv2] at c0 hsr
      have e6 := Chg.kept hW0 y6 (fun h => h)
      have eT := Chg.kept hW0 t1 (fun h => h)
      have e0 := Chg.kept hW0 c0 (fun h => h)
      have eq_ : (wr.setCell ⟨w.heap.size, j, none⟩ (.pointer (some ⟨wr.heap.size, 0, none⟩))).cell? ⟨w.heap.size, j, none⟩ = some (.pointer (some ⟨wr.heap.size, 0, none⟩)) := by
        have hjl : j < us.length := by omega
        rw [hq0.cell]; simp [hjl]
      have x0 : ∀ o, (wr.alloc o).cell? ⟨w.heap.size, j, none⟩ = some uj := fun o => by rw [(u2.alloc o).cell]; simpa using huj
      have x1 : ∀ o, (wr.alloc o).frozen? ⟨w.heap.size, j, none⟩ = false := fun o => (u2.alloc o).fz j
      have j0 : (0 : Int) ≤ (j : Int) := by omega
      have j1 : (j : Int) < (n : Int) := by omega
      have HD := Lib.hid hd
      have HU2 := Lib.hid u2
      have HSr := Lib.hid hsr
      have HQ0 := Lib.hid hq0
      have HW0 := Lib.hid hW0
      have HE6 := Lib.hid e6
      have HET := Lib.hid eT
      have HE0 := Lib.hid e0
      have HEQ := Lib.hid eq_
      have HSet := Lib.hid hset
      have HQL := Lib.hid hql
      clear hd u2 u3 hsr hq0 hW0 hset t1 hblk hv2 c0 e6 eT e0 eq_ huj hql
      go_wp2_with (first | (go_at_call 49; refine (newSet_any _).mono ?_; rintro e w' ⟨rfl, rfl⟩))
      refine (newStore_any _ true (dsOf g) bs _ _ _).mono ?_
      rintro e w2 ⟨jb, rfl, h1, h2⟩
      have hc2 := ((chg_swap wr (.cells #[.slice none 0 0, .bool false] 145) ⟨w.heap.size, j, none⟩ (.pointer (some ⟨wr.heap.size, 0, none⟩))).alloc (.cells #[] 163)).trans h2
      have hp2 := (((Blk.new wr #[.slice none 0 0, .bool false] 145).other (a := ⟨w.heap.size, j, none⟩) (by have := HQL.out; simp; omega) (.pointer (some ⟨wr.heap.size, 0, none⟩))).alloc (.cells #[] 163)).chg h2 (fun h => h)
      have hbz := h1.low (show (wr.setCell ⟨w.heap.size, j, none⟩ (.pointer (some ⟨wr.heap.size, 0, none⟩))).heap.size ≤ _ by simp; omega)
      have H51 := Lib.hid (fun W b cb (hW : Chg No w2 W) hb hcb hcb0 => HSr.out W wr.heap.size jb b cb (hc2.trans hW) (hp2.chg hW (fun h => h)) (by rw [heapSize_setCell]; exact Nat.le_refl _) (hbz.no hW) hb hcb hcb0)
      have c6 := Chg.kept hc2 HE6.out (fun h => h)
      have cT := Chg.kept hc2 HET.out (fun h => h)
      have c0 := Chg.kept hc2 HE0.out (fun h => h)
      have cq := Chg.kept hc2 HEQ.out (fun h => h)
      have hs2 : wr.heap.size ≤ w2.heap.size := by have := hc2.size; rwa [heapSize_setCell] at this
      have l6 := cell_lt c6
      have lT := cell_lt cT
      have l0 := cell_lt c0
      have lq := cell_lt cq
      have m6 : sb ≠ w2.heap.size ∧ sb ≠ w2.heap.size + 1 := by omega
      have mT : gA ≠ w2.heap.size ∧ gA ≠ w2.heap.size + 1 := by omega
      have m0 : t ≠ w2.heap.size ∧ t ≠ w2.heap.size + 1 := by omega
      have mq : w.heap.size ≠ w2.heap.size ∧ w.heap.size ≠ w2.heap.size + 1 := by omega
      obtain ⟨m61, m62⟩ := m6
      obtain ⟨mT1, mT2⟩ := mT
      obtain ⟨m01, m02⟩ := m0
      obtain ⟨mq1, mq2⟩ := mq
      clear h1 h2 hp2 hbz hc2 y6
      go_wp2
      go_region_held3 (fun w' => w'.cell? ⟨sb, 6, none⟩ = some (.slice (some ⟨gA, 0, none⟩) n cp) ∧ w'.cell? ⟨gA, j, none⟩ = some (.iface TK.eps.ptr (.pointer (some ⟨t, 0, none⟩))) ∧ w'.cell? ⟨t, 0, none⟩ = some (.iface K2.ptr (.pointer (some ⟨sb2, 0, none⟩))) ∧ w'.cell? ⟨w.heap.size, j, none⟩ = some (.pointer (some ⟨wr.heap.size, 0, none⟩)))
        (refine ⟨?_, ?_, ?_, ?_⟩ <;> first | with_reducible assumption | go_keep)
        (first | (go_at_call 121; refine (getT_s _ _ _ (‹_ ∧ _ ∧ _ ∧ _›).1 ⟨_, _, _, rfl⟩).mono ?_; rintro e w' ⟨rfl, rfl⟩) | (go_at_call 77; refine (getTg_s _ _ _ (‹_ ∧ _ ∧ _ ∧ _›).2.2.1 ⟨_, _, rfl⟩).mono ?_; rintro e w' ⟨rfl, rfl⟩) | (go_at_call 57; refine (empty_any _).mono ?_; rintro e w' ⟨rfl, rfl⟩) | (go_at_call 53; refine (newBits_any _).mono ?_; rintro e w' ⟨rfl, rfl⟩) | (go_at_call 51; refine (H51.out _ _ _ (by repeat (first | with_reducible exact Chg.refl No _ | with_reducible refine Chg.drew ?_ | with_reducible refine Chg.drewN ?_ _ | with_reducible refine Chg.alloc ?_ _)) (by repeat (first | with_reducible refine Blk.drew ?_ | with_reducible refine Blk.drewN ?_ _ | exact Blk.at_new (by simp) _ _ | with_reducible refine Blk.alloc ?_ _)) (by repeat (first | with_reducible refine Blk.drew ?_ | with_reducible refine Blk.drewN ?_ _ | exact Blk.at_new (by simp) _ _ | with_reducible refine Blk.alloc ?_ _)) (by rw [heapSize_setCell]; first | omega | (simp; omega))).mono ?_; rintro e w5 ⟨rfl, m, a1, a2, a3⟩; have d6 := Chg.kept a3 HE6.out (fun h => h); have dT := Chg.kept a3 HET.out (fun h => h); have d0 := Chg.kept a3 HE0.out (fun h => h); have dq := Chg.kept a3 HEQ.out (fun h => h)))
      have hq5 := HQ0.out.chg a3 (fun h => h)
      have HA1 := Lib.hid a1
      have HA2 := Lib.hid a2
      have HA3 := Lib.hid a3
      have HQ5 := Lib.hid hq5
      have HLen := Lib.hid (ivLen_any _ _ _ _ a2)
      clear a1 a2 a3 hq5 d6 dT d0 c6 cT c0 cq x0 x1
      go_wp2_with fail
      refine HLen.out.mono ?_
      rintro e w6 ⟨n', rfl, hz, hc6⟩
      have hq6 := HQ5.out.chg hc6 (fun h => h)
      have hcq : Chg (fun k => k = w.heap.size) wr w6 := ((Chg.setCell (S := fun k => k = w.heap.size) (Chg.refl _ wr) (fun _ => rfl) _).then HA3.out (fun k _ h => h.elim)).then hc6 (fun k _ h => h.elim)
      have cq6 : w6.cell? ⟨w.heap.size, j, none⟩ = some (.pointer (some ⟨wr.heap.size, 0, none⟩)) := Chg.kept hc6 dq (fun h => h)
      have fq6 : w6.frozen? ⟨w.heap.size, j, none⟩ = false := hq6.fz j
      have HQ6 := Lib.hid hq6
      have HCQ := Lib.hid hcq
      by_cases hm : m = 0
      · have hn0 := hz.2 hm
        subst hn0
        clear hz hc6 hq6 hcq dq
        go_wp2
        go_roundw
        case rel =>
          refine ⟨j + 1, by omega, by go_num, HD.out.next u1 HU2.out (HCQ.out.setCell (fun _ => rfl) _) ?_ ⟨m, HA1.out, .inl ⟨rfl, hm⟩⟩⟩
          have := HQ6.out.set j (.pointer none)
          rw [HSet.out]
          rw [HSet.out] at this
          simpa using this
        case measure => simp [intOf]; omega
      · have hn0 : n' ≠ 0 := fun h => hm (hz.1 h)
        have d1 : decide (n' = 0) = false := decide_eq_false hn0
        have d2 : (n' == 0) = false := by simp [hn0]
        have HNo := Lib.hid (no0_any w6 _ _ _ (HA2.out.no hc6))
        have HC6 := Lib.hid hc6
        clear hz hc6 hq6 hcq dq
        go_wp2_with fail
        refine HNo.out.mono ?_
        rintro e w7 ⟨rfl, hc7⟩
        have HC7 := Lib.hid hc7
        clear hc7
        go_wp2
        go_roundw
        case rel =>
          exact ⟨j + 1, by omega, by go_num, HD.out.next u1 HU2.out (HCQ.out.then HC7.out (fun k _ h => h.elim)) (HQ6.out.chg HC7.out (fun h => h)) ⟨m, HA1.out, .inr ⟨_, rfl, ((HA2.out.no HC6.out).no HC7.out).low (by rw [heapSize_setCell]; exact HD.out.chg.size)⟩⟩⟩
        case measure => simp [intOf]; omega
    · obtain rfl : j = n := by omega
      have HD := Lib.hid hd
      clear hd
      go_wp2
      go_ret
      exact ⟨_, rfl, HD.out⟩
end Go.Proofs.YtemdillhbnmjkaaGreatDoor

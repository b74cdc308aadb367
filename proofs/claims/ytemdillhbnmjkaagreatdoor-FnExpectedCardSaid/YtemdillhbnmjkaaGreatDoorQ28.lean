/- Which rules can be nothing (24); the symbol of a rule, the rule of a symbol (21, 22). · With which rules each rule can begin (23). -/
import Derived.Test.YtemdillhbnmjkaaGreatDoorQ27
import Derived.Test.YtemdillhbnmjkaaGreatDoorQ02
import Derived.Deep.OwnRows
namespace Go.Proofs.YtemdillhbnmjkaaGreatDoor
open Go.RowKit

/-- numbers that fit -/
def InI (s : Int) : Prop := -9223372036854775808 ≤ s ∧ s ≤ 9223372036854775807

theorem rule_pos (w : World) (s : Int) (h0 : -9223372036854775808 ≤ s) (h : s ≤ -100) : Calls Tryz.prog 22 #[.int .i64 s] w fun e w' => e = .returned (.int .i64 ((Pl.idx s : Nat) : Int)) ∧ w = w' := by
  have e : -100 - s = ((Pl.idx s : Nat) : Int) := by unfold Pl.idx; omega
  have h1 : -100 - s ≤ 9223372036854775807 := by omega
  have h2 : 0 ≤ -100 - s := by omega
  have E := Lib.hid e
  clear e
  go_enter Tryz.func22, Tryz.ntmps22
  go_wp2
  go_ret
  exact ⟨by rw [← E.out]; rfl, rfl⟩
theorem rule_neg (w : World) (s : Int) (h : -100 < s) : Calls Tryz.prog 22 #[.int .i64 s] w fun e w' => e = .returned (.int .i64 (-1)) ∧ w = w' := by
  go_enter Tryz.func22, Tryz.ntmps22
  go_wp2
  go_ret
  exact ⟨rfl, rfl⟩
theorem of_any (w : World) (q : Nat) (h : q < 1000) : Calls Tryz.prog 21 #[.int .i64 (q : Int)] w fun e w' => e = .returned (.int .i64 (Pl.ofR q)) ∧ w = w' := by
  have h1 : (q : Int) < 1000 := by omega
  have h2 : 0 ≤ (q : Int) := by omega
  go_enter Tryz.func21, Tryz.ntmps21
  go_wp2
  go_ret
  exact ⟨rfl, rfl⟩

/-- the cells of a row of truths -/
def bcells (l : List Bool) : Array Value := (l.map Value.bool).toArray
theorem bcells_made (n : Nat) : madeCells #[.bool false] n = bcells (List.replicate n false) := by
  apply Array.ext'
  apply List.ext_getElem?
  intro i
  rw [Array.getElem?_toList]
  simp only [bcells, madeCells, List.map_replicate]
  rw [List.getElem?_replicate]
  by_cases h : i < n <;> simp [h, Nat.mod_one]
theorem bcells_at {l : List Bool} {i : Nat} (h : i < l.length) : (bcells l)[i]? = some (.bool (Pl.gb l i)) := by
  unfold bcells Pl.gb
  simp [h]
theorem bcells_set (l : List Bool) (i : Nat) (v : Bool) : (bcells l).setIfInBounds i (.bool v) = bcells (l.set i v) := by
  apply Array.ext'
  rw [Array.toList_setIfInBounds]
  simp [bcells, List.map_set]
theorem et30 : ET 30 4 (.bool false) 1 1 := ⟨by kernel_rfl, by kernel_rfl, rfl, by decide⟩
theorem make_bools (n : Nat) (h : n < 1000) (w : World) : (Instr.makeSlice 30 (.int .i64 (n : Int)) (.int .i64 (n : Int))).run Tryz.prog w = .ok (.slice (some ⟨w.heap.size, 0, none⟩) n n) (w.alloc (.cells (bcells (List.replicate n false)) 4)) := by
  rw [← bcells_made]
  exact run_make_row' 30 4 (.bool false) 1 et30.under et30.info rfl .i64 .i64 n (by omega) (by omega) w

theorem foldl_take {α β : Type} (f : β → α → β) (l : List α) (j : Nat) (x : α) (b : β) (h : l[j]? = some x) : (l.take (j + 1)).foldl f b = f ((l.take j).foldl f b) x := by
  rw [List.take_add_one, h, List.foldl_append]; rfl
theorem nullAlt_take (o : List Bool) (l : List Int) (j : Nat) (s : Int) (h : l[j]? = some s) : Pl.nullAlt o (l.take (j + 1)) = (Pl.nullAlt o (l.take j) && (decide (s ≤ -100) && Pl.gb o (Pl.idx s))) := by
  rw [List.take_add_one, h]
  unfold Pl.nullAlt
  rw [List.all_append]
  simp
theorem nullFold_len (l : List (List (List Int) × Nat)) (o : List Bool) : (l.foldl Pl.nullRule o).length = o.length := (Pl.fold_le Pl.nullRule o.length l (fun _ _ _ _ => Pl.nullRule_le _ _) o rfl).1.symm
theorem nullSteps_len (r : Nat) (l : List (List Int)) (o : List Bool) : (l.foldl (Pl.nullStep r) o).length = o.length := (Pl.fold_le (Pl.nullStep r) o.length l (fun _ _ _ _ => Pl.nullStep_le _ _ _) o rfl).1.symm
theorem nullRound_len (g : Pl.Gr) (o : List Bool) : (Pl.nullRound g o).length = o.length := nullFold_len _ _
theorem nullIter_len (g : Pl.Gr) (n : Nat) (o : List Bool) : (Pl.iter (Pl.nullRound g) n o).length = o.length := by
  induction n with
  | zero => rfl
  | succ n ih => show (Pl.nullRound g _).length = _; rw [nullRound_len, ih]

/-- the bounds of a grammar -/
structure GB (g : Pl.Gr) : Prop where
  l : g.length ≤ 6
  a : ∀ alts ∈ g, alts.length ≤ 4
  s : ∀ alts ∈ g, ∀ alt ∈ alts, alt.length ≤ 5
  i : ∀ alts ∈ g, ∀ alt ∈ alts, ∀ s ∈ alt, InI s ∧ (s ≤ -100 → Pl.idx s < g.length)

set_option maxHeartbeats 1000000 in
set_option maxRecDepth 100000 in
theorem emptyOf_any (w : World) (v : Value) (g : Pl.Gr) (hg : GB g) (hv : Rd3 w v g) :
    Calls Tryz.prog 24 #[v] w fun e w' => ∃ b, e = .returned (.slice (some ⟨b, 0, none⟩) g.length g.length) ∧ Blk w' b (bcells (Pl.emptyOf g)) 4 ∧ Chg No w w' ∧ w.heap.size ≤ b := by
  obtain ⟨A, c, rfl⟩ := hv.slice
  have hl := hg.l
  have hmk := make_bools g.length (by omega)
  have HG := Lib.hid hg
  have HV := Lib.hid hv
  clear hg hv
  go_enter Tryz.func24, Tryz.ntmps24
  go_wp2
  go_loopw [16] (fun i wr => ∃ n : Nat, n ≤ g.length ∧ i = .int .i64 (n : Int) ∧ Blk wr w.heap.size (bcells (Pl.iter (Pl.nullRound g) n (List.replicate g.length false))) 4 ∧ Chg No w wr) (fun i _ => g.length - (intOf i).toNat)
  case atStart => exact ⟨0, Nat.zero_le _, rfl, Blk.new _ _ _, (Chg.refl _ _).alloc _⟩
  case round =>
    obtain ⟨n, hn, rfl, hb, hc⟩ := hrel
    clear hmk
    by_cases hlt : n < g.length
    · obtain ⟨wa, rfl⟩ : ∃ wa : World, wa = wr := ⟨_, rfl⟩
      obtain ⟨o1, ho1⟩ : ∃ o1, o1 = Pl.iter (Pl.nullRound g) n (List.replicate g.length false) := ⟨_, rfl⟩
      have hlo1 : o1.length = g.length := by rw [ho1, nullIter_len]; simp
      rw [← ho1] at hb
      have HO1 := Lib.hid ho1
      have HL1 := Lib.hid hlo1
      have HB1 := Lib.hid hb
      have HC1 := Lib.hid hc
      clear ho1 hlo1 hb hc
      go_wp2
      go_loopw [20] (fun i wr => ∃ r : Nat, r ≤ g.length ∧ i = .int .i64 (r : Int) ∧ Blk wr w.heap.size (bcells ((g.zipIdx.take r).foldl Pl.nullRule o1)) 4 ∧ Chg No w wr) (fun i _ => g.length - (intOf i).toNat)
      case atStart => exact ⟨0, Nat.zero_le _, rfl, HB1.out, HC1.out⟩
      case round =>
        obtain ⟨r, hr, rfl, hb, hc⟩ := hrel
        by_cases hlt2 : r < g.length
        · obtain ⟨alts, hu⟩ : ∃ u, g[r]? = some u := ⟨_, List.getElem?_eq_getElem hlt2⟩
          have hal := HG.out.a alts (List.mem_of_getElem? hu)
          obtain ⟨b2, o2, A', c', rfl, h10, h2⟩ := Rd3.at_ HV.out hu
          have h1 := Chg.kept hc h10 (fun h => h)
          obtain ⟨wb, rfl⟩ : ∃ wb : World, wb = wr := ⟨_, rfl⟩
          obtain ⟨ob, hob⟩ : ∃ ob, ob = (g.zipIdx.take r).foldl Pl.nullRule o1 := ⟨_, rfl⟩
          have hlob : ob.length = g.length := by rw [hob, nullFold_len, HL1.out]
          rw [← hob] at hb
          have hz : g.zipIdx[r]? = some (alts, r) := by rw [List.getElem?_zipIdx, hu]; simp
          have hstep := foldl_take Pl.nullRule g.zipIdx r (alts, r) o1 hz
          rw [← hob] at hstep
          have HST := Lib.hid hstep
          have HLB := Lib.hid hlob
          have HB2 := Lib.hid hb
          have HC2 := Lib.hid hc
          have HU := Lib.hid hu
          have HR2 := Lib.hid h2
          clear hob hlob hb hc hu h2 hz hstep h10
          go_wp2
          go_loopw [27] (fun i wr => ∃ a : Nat, a ≤ alts.length ∧ i = .int .i64 (a : Int) ∧ Blk wr w.heap.size (bcells ((alts.take a).foldl (Pl.nullStep r) ob)) 4 ∧ Chg No w wr) (fun i _ => alts.length - (intOf i).toNat)
          case atStart => exact ⟨0, Nat.zero_le _, rfl, HB2.out, HC2.out⟩
          case round =>
            obtain ⟨a, ha, rfl, hb, hc⟩ := hrel
            clear h1
            by_cases hlt3 : a < alts.length
            · obtain ⟨alt, hu⟩ : ∃ u, alts[a]? = some u := ⟨_, List.getElem?_eq_getElem hlt3⟩
              have hall := HG.out.s alts (List.mem_of_getElem? HU.out) alt (List.mem_of_getElem? hu)
              have hsym := HG.out.i alts (List.mem_of_getElem? HU.out) alt (List.mem_of_getElem? hu)
              obtain ⟨b3, o3, A3, c3, rfl, h30, h4⟩ := Rd2.at_ HR2.out hu
              have h3 := Chg.kept hc h30 (fun h => h)
              obtain ⟨wc, rfl⟩ : ∃ wc : World, wc = wr := ⟨_, rfl⟩
              obtain ⟨oc, hoc⟩ : ∃ oc, oc = (alts.take a).foldl (Pl.nullStep r) ob := ⟨_, rfl⟩
              have hloc : oc.length = g.length := by rw [hoc, nullSteps_len, HLB.out]
              rw [← hoc] at hb
              have hstep := foldl_take (Pl.nullStep r) alts a alt ob hu
              rw [← hoc] at hstep
              have HST3 := Lib.hid hstep
              have HLC := Lib.hid hloc
              have HB3 := Lib.hid hb
              have HC3 := Lib.hid hc
              have HU3 := Lib.hid hu
              have HR3 := Lib.hid h4
              have HSY := Lib.hid hsym
              clear hoc hloc hb hc hu h4 hstep hsym h30
              go_wp2
              go_loopw [8, 33] (fun z i wr => ∃ k : Nat, k ≤ alt.length ∧ i = .int .i64 (k : Int) ∧ z = .bool (Pl.nullAlt oc (alt.take k)) ∧ wc = wr) (fun _ i _ => alt.length - (intOf i).toNat)
              case atStart => exact ⟨0, Nat.zero_le _, rfl, rfl, rfl⟩
              case round =>
                obtain ⟨k, hk, rfl, rfl, rfl⟩ := hrel
                clear h3
                by_cases hlt4 : k < alt.length
                · obtain ⟨s, hu⟩ : ∃ u, alt[k]? = some u := ⟨_, List.getElem?_eq_getElem hlt4⟩
                  obtain ⟨b4, o4, rfl, h50⟩ := Rd1.at_ HR3.out hu
                  have h5 := Chg.kept HC3.out h50 (fun h => h)
                  clear h50
                  obtain ⟨⟨hs1, hs2⟩, hs3⟩ := HSY.out s (List.mem_of_getElem? hu)
                  have hnx := nullAlt_take oc alt k s hu
                  obtain ⟨z, hz⟩ : ∃ z, z = Pl.nullAlt oc (alt.take k) := ⟨_, rfl⟩
                  rw [← hz] at hnx ⊢
                  clear hz hu
                  cases z with
                  | false =>
                    have HN := Lib.hid hnx
                    clear hnx hs3
                    go_wp2
                    go_roundw
                    case rel => exact ⟨k + 1, by omega, by go_num, by rw [HN.out]; rfl, by trivial⟩
                    case measure => simp [intOf]; omega
                  | true =>
                    by_cases hle : s ≤ -100
                    · have hix := hs3 hle
                      have hcell : wc.cell? ⟨w.heap.size, Pl.idx s, none⟩ = some (.bool (Pl.gb oc (Pl.idx s))) := by rw [HB3.out.cell]; exact bcells_at (by rw [HLC.out]; exact hix)
                      rw [decide_eq_true hle, Bool.true_and, Bool.true_and] at hnx
                      have HN := Lib.hid hnx
                      have hi0 : (0 : Int) ≤ ((Pl.idx s : Nat) : Int) := by omega
                      clear hnx hs3
                      go_wp2_with (first | (go_at_call 22; refine (rule_pos _ _ hs1 hle).mono ?_; rintro e w' ⟨rfl, rfl⟩))
                      go_roundw
                      case rel => exact ⟨k + 1, by omega, by go_num, by rw [HN.out], by trivial⟩
                      case measure => simp [intOf]; omega
                    · have hgt : -100 < s := by omega
                      rw [decide_eq_false hle] at hnx
                      have HN := Lib.hid hnx
                      clear hnx hs3
                      go_wp2_with (first | (go_at_call 22; refine (rule_neg _ _ hgt).mono ?_; rintro e w' ⟨rfl, rfl⟩))
                      go_roundw
                      case rel => exact ⟨k + 1, by omega, by go_num, by rw [HN.out]; rfl, by trivial⟩
                      case measure => simp [intOf]; omega
                · obtain rfl : k = alt.length := by omega
                  rw [List.take_length]
                  have hcell : wc.cell? ⟨w.heap.size, r, none⟩ = some (.bool (Pl.gb oc r)) := by rw [HB3.out.cell]; exact bcells_at (by rw [HLC.out]; exact hlt2)
                  have hfz := HB3.out.fz r
                  have hset := HB3.out.set r (.bool (Pl.gb oc r || Pl.nullAlt oc alt))
                  rw [bcells_set] at hset
                  rw [show oc.set r (Pl.gb oc r || Pl.nullAlt oc alt) = Pl.nullStep r oc alt from rfl, ← HST3.out] at hset
                  obtain ⟨x, hx⟩ : ∃ x, x = Pl.gb oc r := ⟨_, rfl⟩
                  obtain ⟨y, hy⟩ : ∃ y, y = Pl.nullAlt oc alt := ⟨_, rfl⟩
                  rw [← hx, ← hy] at hset
                  rw [← hx] at hcell
                  rw [← hy]
                  have hch : ∀ u, Chg No w (wc.setCell ⟨w.heap.size, r, none⟩ u) := fun u => Chg.setCell HC3.out (fun h => absurd h (Nat.lt_irrefl _)) u
                  have hlb := HB2.out.lt
                  have HS := Lib.hid hset
                  have HCH := Lib.hid hch
                  clear hx hy hset hch
                  cases x
                  all_goals
                    go_wp2
                    go_roundw
                    case rel => exact ⟨a + 1, by omega, by go_num, HS.out, HCH.out _⟩
                    case measure => simp [intOf]; omega
            · obtain rfl : a = alts.length := by omega
              rw [List.take_length] at hb
              have HB3 := Lib.hid hb
              have HC3 := Lib.hid hc
              clear hb hc
              go_wp2
              go_roundw
              case rel => exact ⟨r + 1, by omega, by go_num, by rw [HST.out]; exact HB3.out, HC3.out⟩
              case measure => simp [intOf]; omega
        · obtain rfl : r = g.length := by omega
          rw [List.take_of_length_le (by simp)] at hb
          have HB3 := Lib.hid hb
          have HC3 := Lib.hid hc
          clear hb hc
          go_wp2
          go_roundw
          case rel => exact ⟨n + 1, by omega, by go_num, by show Blk _ _ (bcells (Pl.nullRound g _)) 4; rw [← HO1.out]; exact HB3.out, HC3.out⟩
          case measure => simp [intOf]; omega
    · obtain rfl : n = g.length := by omega
      have HB3 := Lib.hid hb
      have HC3 := Lib.hid hc
      clear hb hc
      go_wp2
      go_ret
      exact ⟨_, rfl, HB3.out, HC3.out, Nat.le_refl _⟩
end Go.Proofs.YtemdillhbnmjkaaGreatDoor
namespace Go.Proofs.YtemdillhbnmjkaaGreatDoor
open Go.RowKit

/-- the first k have been joined -/
def orPart (k : Nat) (a b : List Bool) : List Bool := (List.range a.length).map fun i => if i < k then Pl.gb a i || Pl.gb b i else Pl.gb a i
theorem orPart_len (k : Nat) (a b : List Bool) : (orPart k a b).length = a.length := by simp [orPart]
theorem orPart_at (k : Nat) (a b : List Bool) (i : Nat) (h : i < a.length) : Pl.gb (orPart k a b) i = if i < k then Pl.gb a i || Pl.gb b i else Pl.gb a i := by
  unfold orPart
  rw [Pl.gb, List.getElem?_map, List.getElem?_range h]
  rfl
theorem orPart_zero (a b : List Bool) : orPart 0 a b = a := by
  refine Pl.gb_ext (orPart_len _ _ _) (fun i => ?_)
  rcases Nat.lt_or_ge i a.length with h | h
  · rw [orPart_at _ _ _ _ h]; simp
  · rw [Pl.gb_ge _ _ (by rw [orPart_len]; exact h), Pl.gb_ge _ _ h]
theorem orPart_all (a b : List Bool) : orPart a.length a b = Pl.orRow a b := by
  refine Pl.gb_ext (by rw [orPart_len, Pl.orRow_len]) (fun i => ?_)
  rcases Nat.lt_or_ge i a.length with h | h
  · rw [orPart_at _ _ _ _ h, Pl.gb_orRow _ _ _ h, if_pos h]
  · rw [Pl.gb_ge _ _ (by rw [orPart_len]; exact h), Pl.gb_ge _ _ (by rw [Pl.orRow_len]; exact h)]
theorem orPart_succ (k : Nat) (a b : List Bool) (h : k < a.length) : (orPart k a b).set k (Pl.gb (orPart k a b) k || Pl.gb b k) = orPart (k + 1) a b := by
  refine Pl.gb_ext (by simp [orPart_len]) (fun i => ?_)
  rw [Pl.gb_set _ _ _ _ (by rw [orPart_len]; exact h)]
  rcases Nat.lt_or_ge i a.length with hi | hi
  · rw [orPart_at _ _ _ _ hi, orPart_at _ _ _ _ h]
    by_cases e : i = k
    · subst e; simp; rw [orPart_at _ _ _ _ hi, if_pos (by omega)]
    · rw [if_neg e, orPart_at _ _ _ _ hi]
      by_cases h1 : i < k
      · rw [if_pos h1, if_pos (by omega)]
      · rw [if_neg h1, if_neg (by omega)]
  · rw [Pl.gb_ge (orPart (k + 1) a b) i (by rw [orPart_len]; exact hi), if_neg (by omega), Pl.gb_ge _ _ (by rw [orPart_len]; exact hi)]

/-- the rows' heads, the first n of them -/
def ocells (b0 R n : Nat) : Array Value := ((List.range R).map fun (i : Nat) => if i < n then Value.slice (some ⟨b0 + 1 + i, 0, none⟩) R R else Value.slice none 0 0).toArray
theorem ocells_at {b0 R n i : Nat} (hi : i < R) (h : i < n) : (ocells b0 R n)[i]? = some (.slice (some ⟨b0 + 1 + i, 0, none⟩) R R) := by
  unfold ocells
  simp [hi, h]
theorem ocells_made (b0 R : Nat) : madeCells #[.slice none 0 0] R = ocells b0 R 0 := by
  apply Array.ext'
  apply List.ext_getElem?
  intro i
  rw [Array.getElem?_toList]
  simp only [ocells, madeCells]
  by_cases h : i < R <;> simp [h, Nat.mod_one]
theorem ocells_set (b0 R n : Nat) (h : n < R) : (ocells b0 R n).setIfInBounds n (.slice (some ⟨b0 + 1 + n, 0, none⟩) R R) = ocells b0 R (n + 1) := by
  apply Array.ext'
  rw [Array.toList_setIfInBounds]
  apply List.ext_getElem?
  intro i
  rw [List.getElem?_set]
  simp only [ocells, List.getElem?_map, List.length_map, List.length_range]
  by_cases e : n = i
  · subst e
    rw [if_pos rfl, if_pos h, List.getElem?_range h]
    simp
  · rw [if_neg e]
    by_cases hi : i < R
    · rw [List.getElem?_range hi]
      simp only [Option.map_some]
      by_cases h1 : i < n
      · rw [if_pos h1, if_pos (by omega)]
      · rw [if_neg h1, if_neg (by omega)]
    · rw [List.getElem?_eq_none (by simpa using hi)]; rfl
/-- a square of truths, its first n rows -/
structure MatN (w : World) (b0 R n : Nat) (M : Pl.Mat) : Prop where
  o : Blk w b0 (ocells b0 R n) 30
  r : ∀ i, i < n → Blk w (b0 + 1 + i) (bcells (Pl.row M i)) 4
abbrev MatAt (w : World) (b0 R : Nat) (M : Pl.Mat) : Prop := MatN w b0 R R M
theorem MatN.no {w w' : World} {b0 R n : Nat} {M : Pl.Mat} (h : MatN w b0 R n M) (hc : Chg No w w') : MatN w' b0 R n M := ⟨h.o.chg hc (fun h => h), fun i hi => (h.r i hi).chg hc (fun h => h)⟩
theorem MatAt.head {w : World} {b0 R : Nat} {M : Pl.Mat} (h : MatAt w b0 R M) {i : Nat} (hi : i < R) : w.cell? ⟨b0, i, none⟩ = some (.slice (some ⟨b0 + 1 + i, 0, none⟩) R R) := by rw [h.o.cell]; exact ocells_at hi hi
theorem MatAt.cell {w : World} {b0 R : Nat} {M : Pl.Mat} (h : MatAt w b0 R M) (hM : Pl.Sq R M) {i k : Nat} (hi : i < R) (hk : k < R) : w.cell? ⟨b0 + 1 + i, k, none⟩ = some (.bool (Pl.gb (Pl.row M i) k)) := by
  rw [(h.r i hi).cell]; exact bcells_at (by rw [Pl.row_len hM hi]; exact hk)
theorem MatAt.set {w : World} {b0 R : Nat} {M : Pl.Mat} (h : MatAt w b0 R M) (hM : Pl.Sq R M) {i k : Nat} (hi : i < R) (v : Bool) :
    MatAt (w.setCell ⟨b0 + 1 + i, k, none⟩ (.bool v)) b0 R (M.set i ((Pl.row M i).set k v)) := by
  refine ⟨h.o.other (by simp; omega) _, fun j hj => ?_⟩
  rw [Pl.row_set hM hi]
  by_cases e : j = i
  · subst e
    rw [if_pos rfl]
    have := (h.r j hj).set k (.bool v)
    rwa [bcells_set] at this
  · rw [if_neg e]
    exact (h.r j hj).other (by simp; omega) _
theorem sq_put {R : Nat} {M : Pl.Mat} (hM : Pl.Sq R M) {i k : Nat} (hi : i < R) (v : Bool) : Pl.Sq R (M.set i ((Pl.row M i).set k v)) := Pl.sq_set hM (by rw [List.length_set]; exact Pl.row_len hM hi)

/-- the matrix after k have been joined -/
def matPart (M : Pl.Mat) (r q k : Nat) : Pl.Mat := M.set r (orPart k (Pl.row M r) (Pl.row M q))
theorem matPart_sq {R : Nat} {M : Pl.Mat} (hM : Pl.Sq R M) {r q k : Nat} (hr : r < R) : Pl.Sq R (matPart M r q k) := Pl.sq_set hM (by rw [orPart_len]; exact Pl.row_len hM hr)
theorem matPart_zero {R : Nat} {M : Pl.Mat} (hM : Pl.Sq R M) {r q : Nat} (hr : r < R) : matPart M r q 0 = M := by
  unfold matPart
  rw [orPart_zero]
  apply List.ext_getElem?
  intro i
  rw [List.getElem?_set]
  split
  · rename_i e; subst e
    have hl : r < M.length := by rw [hM.1]; exact hr
    rw [if_pos hl]
    unfold Pl.row
    rw [List.getElem?_eq_getElem hl]; rfl
  · rfl
theorem matPart_all {R : Nat} {M : Pl.Mat} (hM : Pl.Sq R M) {r q : Nat} (hr : r < R) : matPart M r q R = M.set r (Pl.orRow (Pl.row M r) (Pl.row M q)) := by
  unfold matPart
  rw [← orPart_all, Pl.row_len hM hr]
theorem matPart_row {R : Nat} {M : Pl.Mat} (hM : Pl.Sq R M) {r q k : Nat} (hr : r < R) : Pl.row (matPart M r q k) r = orPart k (Pl.row M r) (Pl.row M q) := by
  unfold matPart; rw [Pl.row_set hM hr, if_pos rfl]
theorem matPart_is {R : Nat} {M : Pl.Mat} (hM : Pl.Sq R M) {r q k : Nat} (hr : r < R) (hk : k < R) : Pl.gb (Pl.row (matPart M r q k) q) k = Pl.gb (Pl.row M q) k := by
  unfold matPart
  rw [Pl.row_set hM hr]
  split
  · rename_i e; subst e
    rw [orPart_at _ _ _ _ (by rw [Pl.row_len hM hr]; exact hk)]
    simp
  · rfl
theorem matPart_succ {R : Nat} {M : Pl.Mat} (hM : Pl.Sq R M) {r q k : Nat} (hr : r < R) (hk : k < R) :
    (matPart M r q k).set r ((Pl.row (matPart M r q k) r).set k (Pl.gb (Pl.row (matPart M r q k) r) k || Pl.gb (Pl.row M q) k)) = matPart M r q (k + 1) := by
  rw [matPart_row hM hr, orPart_succ _ _ _ (by rw [Pl.row_len hM hr]; exact hk)]
  unfold matPart
  rw [List.set_set]

theorem leftAlt_sq {R : Nat} (none : List Bool) (r : Nat) (hr : r < R) : ∀ (l : List Int) (M : Pl.Mat), Pl.Sq R M → (∀ s ∈ l, s ≤ -100 → Pl.idx s < R) → Pl.Sq R (Pl.leftAlt none r l M) := by
  intro l M hM hs
  exact (Pl.leftAlt_col none r 0 hr (by omega) l M hM hs).1
theorem et62 : ET 62 30 (.slice none 0 0) 1 24 := ⟨by kernel_rfl, by kernel_rfl, rfl, by decide⟩
theorem make_rows (n : Nat) (h : n < 1000) (w : World) : (Instr.makeSlice 62 (.int .i64 (n : Int)) (.int .i64 (n : Int))).run Tryz.prog w = .ok (.slice (some ⟨w.heap.size, 0, none⟩) n n) (w.alloc (.cells (ocells w.heap.size n 0) 30)) := by
  rw [← ocells_made]
  exact run_make_row' 62 30 (.slice none 0 0) 24 et62.under et62.info rfl .i64 .i64 n (by omega) (by omega) w
end Go.Proofs.YtemdillhbnmjkaaGreatDoor

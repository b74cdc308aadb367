/- Hashes; contexts: stacks of states, in memory. · Contexts: what is read of them; a stack grows; two are compared. · Configurations: made, their hashes, two are compared. -/
import Derived.Test.YtemdillhbnmjkaaGreatDoorQ04
import Derived.WalkLawsBesides
import Derived.LaidEqlPtr
import Derived.Outline
import Derived.Test.YtemdillhbnmjkaaGreatDoorQ08
namespace Go.Proofs.YtemdillhbnmjkaaGreatDoor
open Go.RowKit

def mK (x : Int) : Int := bits BinOp.or IntKind.u32 (x % 4294967296 * 3432918353 % 4294967296 * 32768 % 4294967296) (x % 4294967296 * 3432918353 % 4294967296 / 131072) * 461845907 % 4294967296
def mU (h x : Int) : Int :=
  (bits BinOp.or IntKind.u32 (bits BinOp.xor IntKind.u32 (h % 4294967296) (mK x) * 8192 % 4294967296) (bits BinOp.xor IntKind.u32 (h % 4294967296) (mK x) / 524288) * 5 + 3864292196) % 4294967296
def mF1 (h x : Int) : Int := bits BinOp.xor IntKind.u32 (h % 4294967296) (x % 4294967296 * 4 % 4294967296)
def mF2 (a : Int) : Int := bits BinOp.xor IntKind.u32 a (a / 65536) * 2246822507 % 4294967296
def mF3 (b : Int) : Int := bits BinOp.xor IntKind.u32 b (b / 8192) * 3266489909 % 4294967296
def mF (h x : Int) : Int := wrap64 (bits BinOp.xor IntKind.u32 (mF3 (mF2 (mF1 h x))) (mF3 (mF2 (mF1 h x)) / 65536))

theorem wf_mF (h x : Int) : (Lit.int .i64 (mF h x)).wf = true := wrap64_wf _

theorem mInit (w : World) (x : Int) : Calls Tryz.prog 164 #[.int .i64 x] w fun e w' => e = .returned (.int .i64 x) ∧ w = w' := by
  go_enter Tryz.func164, Tryz.ntmps164
  go_wp2
  go_ret
  exact ⟨rfl, rfl⟩
theorem mUpd (w : World) (h x : Int) : Calls Tryz.prog 165 #[.int .i64 h, .int .i64 x] w fun e w' => e = .returned (.int .i64 (mU h x)) ∧ w = w' := by
  go_enter Tryz.func165, Tryz.ntmps165
  go_wp2
  go_ret
  exact ⟨rfl, rfl⟩
theorem mFin (w : World) (h x : Int) : Calls Tryz.prog 167 #[.int .i64 h, .int .i64 x] w fun e w' => e = .returned (.int .i64 (mF h x)) ∧ w = w' := by
  go_enter Tryz.func167, Tryz.ntmps167
  go_wp2
  go_ret
  exact ⟨rfl, rfl⟩
theorem emptyHash_any (w : World) : Calls Tryz.prog 129 #[] w fun e w' => e = .returned (.int .i64 (mF 1 0)) ∧ w = w' := by
  go_enter Tryz.func129, Tryz.ntmps129
  go_wp2_with (first | (go_at_call 164; refine (mInit _ _).mono ?_; rintro e w' ⟨rfl, rfl⟩) | (go_at_call 167; refine (mFin _ _ _).mono ?_; rintro e w' ⟨rfl, rfl⟩))
  go_ret
  exact ⟨rfl, rfl⟩

/-! contexts -/
def chash (bot : Bool) : List Nat → Int
  | [] => 0
  | f :: k => if bot = false ∧ k = [] then mF 1 0 else mF (mU (mU 1 (chash bot k)) (f : Int)) 2
def ccell (bot : Bool) (f : Nat) (k : List Nat) (v : Value) : Array Value := #[.int .i64 (chash bot (f :: k)), .int .i64 1, v, .int .i64 (f : Int), .slice none 0 0, .slice none 0 0]
def c0cell : Array Value := #[.int .i64 0, .int .i64 0, .pointer none, .int .i64 2147483647, .slice none 0 0, .slice none 0 0]
/-- v is the context of the stack k; at its end there is nothing, or (bot) the empty context -/
def PCv (w : World) (bot : Bool) : List Nat → Value → Prop
  | [], v => if bot = true then ∃ b : Nat, v = .pointer (some ⟨b, 0, none⟩) ∧ Blk w b c0cell 203 else v = .pointer none
  | f :: k, v => ∃ (b : Nat) (v' : Value), v = .pointer (some ⟨b, 0, none⟩) ∧ Blk w b (ccell bot f k v') 203 ∧ PCv w bot k v'

theorem PCv.chg {S : Nat → Prop} {w w' : World} {bot : Bool} (hc : Chg S w w') (hn : ∀ k, S k → k < w.heap.size → ∀ c, ¬ Blk w k c 203) : ∀ {k : List Nat} {v : Value}, PCv w bot k v → PCv w' bot k v
  | [], v, h => by
    unfold PCv at h ⊢
    split
    · rename_i hb
      rw [if_pos hb] at h
      obtain ⟨b, rfl, h1⟩ := h
      exact ⟨b, rfl, h1.chg hc (fun hs => hn b hs h1.lt _ h1)⟩
    · rename_i hb
      rw [if_neg hb] at h
      exact h
  | f :: k, v, h => by
    obtain ⟨b, v', rfl, h1, h2⟩ := h
    exact ⟨b, v', rfl, h1.chg hc (fun hs => hn b hs h1.lt _ h1), PCv.chg hc hn h2⟩
theorem PCv.ptr {w : World} {bot : Bool} {k : List Nat} {v : Value} (h : PCv w bot k v) : ∃ p, v = .pointer p := by
  cases k with
  | nil =>
    unfold PCv at h
    split at h
    · obtain ⟨b, rfl, _⟩ := h; exact ⟨_, rfl⟩
    · exact ⟨_, h⟩
  | cons f k => obtain ⟨b, v', rfl, _⟩ := h; exact ⟨_, rfl⟩
theorem ccell_inj {bot : Bool} {f f' : Nat} {k k' : List Nat} {v v' : Value} (h : ccell bot f k v = ccell bot f' k' v') : f = f' ∧ v = v' := by
  simp [ccell] at h
  exact ⟨by omega, h.2.1⟩
theorem PCv.inj {w : World} {bot : Bool} : ∀ {k k' : List Nat} {v : Value}, PCv w bot k v → PCv w bot k' v → k = k'
  | [], [], _, _, _ => rfl
  | [], f :: k', v, h, h' => by
    obtain ⟨b, v', rfl, h1, _⟩ := h'
    unfold PCv at h
    split at h
    · obtain ⟨b', he, h2⟩ := h
      simp at he
      subst he
      have := (h1.uniq h2).1
      simp [ccell, c0cell] at this
    · cases h
  | f :: k, [], v, h, h' => by
    obtain ⟨b, v', rfl, h1, _⟩ := h
    unfold PCv at h'
    split at h'
    · obtain ⟨b', he, h2⟩ := h'
      simp at he
      subst he
      have := (h1.uniq h2).1
      simp [ccell, c0cell] at this
    · cases h'
  | f :: k, f' :: k', v, h, h' => by
    obtain ⟨b, u, rfl, h1, h2⟩ := h
    obtain ⟨b', u', he, h3, h4⟩ := h'
    simp at he
    subst he
    obtain ⟨rfl, rfl⟩ := ccell_inj (h1.uniq h3).1
    rw [PCv.inj h2 h4]

theorem empty_any (w : World) : Calls Tryz.prog 57 #[] w fun e w' => e = .returned (.pointer (some ⟨w.heap.size, 0, none⟩)) ∧ w.alloc (.cells c0cell 203) = w' := by
  go_enter Tryz.func57, Tryz.ntmps57
  go_wp2
  go_ret
  exact ⟨rfl, rfl⟩
theorem pcHash_s (w : World) (b : Nat) (h : Int) (c : w.cell? ⟨b, 0, none⟩ = some (.int .i64 h)) : Calls Tryz.prog 166 #[.pointer (some ⟨b, 0, none⟩)] w fun e w' => e = .returned (.int .i64 h) ∧ w = w' := by
  go_enter Tryz.func166, Tryz.ntmps166
  go_wp2
  go_ret
  exact ⟨rfl, rfl⟩
theorem calcHash_s (w : World) (b : Nat) (h f : Int) (c : w.cell? ⟨b, 0, none⟩ = some (.int .i64 h)) : Calls Tryz.prog 128 #[.pointer (some ⟨b, 0, none⟩), .int .i64 f] w fun e w' => e = .returned (.int .i64 (mF (mU (mU 1 h) f) 2)) ∧ w = w' := by
  go_enter Tryz.func128, Tryz.ntmps128
  go_wp2_with (first | (go_at_call 164; refine (mInit _ _).mono ?_; rintro e w' ⟨rfl, rfl⟩) | (go_at_call 167; refine (mFin _ _ _).mono ?_; rintro e w' ⟨rfl, rfl⟩) | (go_at_call 165; refine (mUpd _ _ _).mono ?_; rintro e w' ⟨rfl, rfl⟩) | (go_at_call 166; refine (pcHash_s _ _ _ c).mono ?_; rintro e w' ⟨rfl, rfl⟩))
  go_ret
  exact ⟨rfl, rfl⟩
/-- what a block of a context holds in its first cells -/
theorem PCv.cells {w : World} {bot : Bool} {k : List Nat} {b : Nat} (h : PCv w bot k (.pointer (some ⟨b, 0, none⟩))) :
    w.cell? ⟨b, 0, none⟩ = some (.int .i64 (chash bot k)) ∧ w.cell? ⟨b, 1, none⟩ = some (.int .i64 (if k = [] then 0 else 1)) ∧ (k = [] → bot = true) ∧ b < w.heap.size := by
  cases k with
  | nil =>
    unfold PCv at h
    split at h
    · rename_i hb
      obtain ⟨b', he, h1⟩ := h
      simp at he
      subst he
      exact ⟨by rw [h1.cell]; rfl, by rw [h1.cell]; rfl, fun _ => hb, h1.lt⟩
    · cases h
  | cons f k =>
    obtain ⟨b', v', he, h1, _⟩ := h
    simp at he
    subst he
    exact ⟨by rw [h1.cell]; rfl, by rw [h1.cell]; rfl, (fun h => by cases h), h1.lt⟩

theorem newSingle_any (w : World) (bot : Bool) (k : List Nat) (v : Value) (f : Nat) (h : PCv w bot k v) :
    Calls Tryz.prog 101 #[v, .int .i64 (f : Int)] w fun e w' => e = .returned (.pointer (some ⟨w.heap.size, 0, none⟩)) ∧ (PCv w' bot (f :: k) (.pointer (some ⟨w.heap.size, 0, none⟩)) ∧ Chg No w w') := by
  obtain ⟨p, rfl⟩ := h.ptr
  have fin : ∀ w', Blk w' w.heap.size (ccell bot f k (.pointer p)) 203 → Chg No w w' → PCv w' bot (f :: k) (.pointer (some ⟨w.heap.size, 0, none⟩)) ∧ Chg No w w' := by
    intro w' h1 h2
    exact ⟨⟨_, _, rfl, h1, PCv.chg h2 (fun _ hs => hs.elim) h⟩, h2⟩
  rcases p with _ | ⟨b, o, fr⟩
  · have hk : k = [] ∧ bot = false := by
      cases k with
      | nil =>
        unfold PCv at h
        split at h
        · obtain ⟨b, he, _⟩ := h; cases he
        · rename_i hb; exact ⟨rfl, by simpa using hb⟩
      | cons f k => obtain ⟨b, v', he, _⟩ := h; cases he
    obtain ⟨rfl, rfl⟩ := hk
    have Fin := Lib.hid fin
    clear h fin
    go_enter Tryz.func101, Tryz.ntmps101
    go_wp2_with (first | (go_at_call 129; refine (emptyHash_any _).mono ?_; rintro e w' ⟨rfl, rfl⟩))
    go_ret
    refine ⟨rfl, Fin.out _ ?_ ((Chg.refl _ _).alloc _)⟩
    have := Blk.new w (ccell false f [] (.pointer none)) 203
    simpa [ccell, chash] using this
  · have hofs : o = 0 ∧ fr = none := by
      cases k with
      | nil =>
        unfold PCv at h
        split at h
        · obtain ⟨b', he, _⟩ := h; simp at he; exact ⟨he.2.1, he.2.2⟩
        · cases h
      | cons f k => obtain ⟨b', v', he, _⟩ := h; simp at he; exact ⟨he.2.1, he.2.2⟩
    obtain ⟨rfl, rfl⟩ := hofs
    obtain ⟨c0, _, hb, hlt⟩ := h.cells
    have hne : (bot = false ∧ k = []) = False := by
      simp only [eq_iff_iff, iff_false]
      rintro ⟨h1, h2⟩
      rw [hb h2] at h1
      cases h1
    have hca : ∀ o, (w.alloc o).cell? ⟨b, 0, none⟩ = some (.int .i64 (chash bot k)) := fun o => Chg.kept ((Chg.refl No w).alloc o) c0 (fun h => h)
    have Hca := Lib.hid hca
    clear hca c0
    have Fin := Lib.hid fin
    have Hne := Lib.hid hne
    clear h fin hb hne
    go_enter Tryz.func101, Tryz.ntmps101
    go_wp2_with (first | (go_at_call 128; refine (calcHash_s _ b (chash bot k) _ ?_).mono ?_; (exact Hca.out _); rintro e w' ⟨rfl, rfl⟩))
    go_ret
    refine ⟨rfl, Fin.out _ ?_ ((Chg.refl _ _).alloc _)⟩
    have := Blk.new w (ccell bot f k (.pointer (some ⟨b, 0, none⟩))) 203
    simpa [ccell, chash, Hne.out] using this
end Go.Proofs.YtemdillhbnmjkaaGreatDoor
namespace Go.Proofs.YtemdillhbnmjkaaGreatDoor
open Go.RowKit

theorem qof {f : FuncId} {args : Array Value} {w : World} {n : Nat} {v : Value} (h : Calls Tryz.prog f args (w.drewN n) fun e w' => e = .returned v ∧ w.drewN n = w') :
    Calls Tryz.prog f args (w.drewN n) fun e w'' => e = .returned v ∧ ∃ m, w'' = w.drewN m :=
  h.mono fun _ _ ⟨he, hm⟩ => ⟨he, n, hm.symm⟩
theorem qofn {f : FuncId} {args : Array Value} {w : World} {n : Nat} {v : Value} (h : Calls Tryz.prog f args (w.drewN n) fun e w' => e = .returned v ∧ ∃ m, w' = (w.drewN n).drewN m) :
    Calls Tryz.prog f args (w.drewN n) fun e w'' => e = .returned v ∧ ∃ m, w'' = w.drewN m :=
  h.mono fun _ _ ⟨he, m, hm⟩ => ⟨he, n + m, by rw [hm, World.drewN_drewN]⟩
/-- the same in a second such region -/
theorem qof2 {f : FuncId} {args : Array Value} {w : World} {a n : Nat} {v : Value} (h : Calls Tryz.prog f args (w.drewN (a + n)) fun e w' => e = .returned v ∧ w.drewN (a + n) = w') :
    Calls Tryz.prog f args (w.drewN (a + n)) fun e w'' => e = .returned v ∧ ∃ m, w'' = w.drewN (a + m) :=
  h.mono fun _ _ ⟨he, hm⟩ => ⟨he, n, hm.symm⟩
theorem qofn2 {f : FuncId} {args : Array Value} {w : World} {a n : Nat} {v : Value} (h : Calls Tryz.prog f args (w.drewN (a + n)) fun e w' => e = .returned v ∧ ∃ m, w' = (w.drewN (a + n)).drewN m) :
    Calls Tryz.prog f args (w.drewN (a + n)) fun e w'' => e = .returned v ∧ ∃ m, w'' = w.drewN (a + m) :=
  h.mono fun _ _ ⟨he, m, hm⟩ => ⟨he, n + m, by rw [hm, World.drewN_drewN, Nat.add_assoc]⟩
theorem pcEmpty_t (w : World) (b : Nat) (c : w.cell? ⟨b, 1, none⟩ = some (.int .i64 0)) : Calls Tryz.prog 69 #[.pointer (some ⟨b, 0, none⟩)] w fun e w' => e = .returned (.bool true) ∧ w = w' := by
  go_enter Tryz.func69, Tryz.ntmps69
  go_wp2
  go_ret
  exact ⟨rfl, rfl⟩
theorem pcEmpty_f (w : World) (b : Nat) (c : w.cell? ⟨b, 1, none⟩ = some (.int .i64 1)) : Calls Tryz.prog 69 #[.pointer (some ⟨b, 0, none⟩)] w fun e w' => e = .returned (.bool false) ∧ w = w' := by
  go_enter Tryz.func69, Tryz.ntmps69
  go_wp2
  go_ret
  exact ⟨rfl, rfl⟩
theorem pcLen_s (w : World) (b : Nat) (c : w.cell? ⟨b, 1, none⟩ = some (.int .i64 1)) : Calls Tryz.prog 74 #[.pointer (some ⟨b, 0, none⟩)] w fun e w' => e = .returned (.int .i64 1) ∧ w = w' := by
  go_enter Tryz.func74, Tryz.ntmps74
  go_wp2
  go_ret
  exact ⟨rfl, rfl⟩
theorem pcRet_s (w : World) (b : Nat) (f i : Int) (c : w.cell? ⟨b, 1, none⟩ = some (.int .i64 1)) (c3 : w.cell? ⟨b, 3, none⟩ = some (.int .i64 f)) : Calls Tryz.prog 75 #[.pointer (some ⟨b, 0, none⟩), .int .i64 i] w fun e w' => e = .returned (.int .i64 f) ∧ w = w' := by
  go_enter Tryz.func75, Tryz.ntmps75
  go_wp2
  go_ret
  exact ⟨rfl, rfl⟩
theorem pcPar_s (w : World) (b : Nat) (p : Option Addr) (i : Int) (c : w.cell? ⟨b, 1, none⟩ = some (.int .i64 1)) (c2 : w.cell? ⟨b, 2, none⟩ = some (.pointer p)) : Calls Tryz.prog 109 #[.pointer (some ⟨b, 0, none⟩), .int .i64 i] w fun e w' => e = .returned (.pointer p) ∧ w = w' := by
  go_enter Tryz.func109, Tryz.ntmps109
  go_wp2
  go_ret
  exact ⟨rfl, rfl⟩
theorem single_any (w : World) (bot : Bool) (k : List Nat) (v : Value) (f : Nat) (h : PCv w bot k v) (hf : f < 1000) :
    Calls Tryz.prog 65 #[v, .int .i64 (f : Int)] w fun e w' => e = .returned (.pointer (some ⟨w.heap.size, 0, none⟩)) ∧ (PCv w' bot (f :: k) (.pointer (some ⟨w.heap.size, 0, none⟩)) ∧ Chg No w w') := by
  obtain ⟨p, rfl⟩ := h.ptr
  have hc := newSingle_any w bot k _ f h
  have hne : ((f : Int) == 2147483647) = false := by simp; omega
  have H := Lib.hid hc
  clear hc h
  go_enter Tryz.func65, Tryz.ntmps65
  go_wp2_with fail
  refine H.out.mono ?_
  rintro e w' ⟨rfl, h1, h2⟩
  have H1 := Lib.hid h1
  have H2 := Lib.hid h2
  clear h1 h2
  go_wp2
  go_ret
  exact ⟨rfl, H1.out, H2.out⟩


theorem info_cmp {t : TypeId} (h : (Tryz.prog.info? t).map (·.comparable) = some true) : ∃ i, Tryz.prog.info? t = some i ∧ i.comparable = true := by
  cases hi : Tryz.prog.info? t with
  | none => rw [hi] at h; cases h
  | some i => rw [hi] at h; exact ⟨i, rfl, by simpa using h⟩
theorem info_pos {t : TypeId} {n : Nat} (h : (Tryz.prog.info? t).map (·.size) = some (n + 1)) : ∃ i, Tryz.prog.info? t = some i ∧ i.size ≠ 0 := by
  cases hi : Tryz.prog.info? t with
  | none => rw [hi] at h; cases h
  | some i => rw [hi] at h; simp at h; exact ⟨i, rfl, by omega⟩
theorem u480 : ∃ ms, Tryz.prog.underlying 480 = some (.interface ms) := ⟨_, Tryz.underlying480⟩
theorem u456 : ∃ ms, Tryz.prog.underlying 456 = some (.interface ms) := ⟨_, Tryz.underlying456⟩
theorem blk_obj {w : World} {b : Nat} {c : Array Value} {T : TypeId} (h : Blk w b c T) : w.heap[(⟨b, 0, none⟩ : Addr).block]? = some (.cells c T (0, 0)) := h
theorem addr_ne {a b : Nat} (h : a ≠ b) : (⟨a, 0, none⟩ : Addr) ≠ ⟨b, 0, none⟩ := fun e => h (congrArg Addr.block e)

theorem run_eql_iface_ptr_nil {P : Program} (w : World) {ti tp te : TypeId} {ms : Array (String × TypeId)} {i : TypeInfo} (a : Addr)
    (hi : P.underlying ti = some (.interface ms)) (hp : P.underlying tp = some (.pointer te)) (hinfo : P.info? tp = some i) (hcomp : i.comparable = true) :
    (binOp .eql ti (.iface tp (.pointer (some a))) (.iface tp (.pointer none))).run P w = .ok (.bool false) w := by
  have h : ∀ d : Nat, (Op.equalIn (d + 2) ti (.iface tp (.pointer (some a))) (.iface tp (.pointer none))).run P w = .ok false w := fun d => by
    simp [Op.equalIn, run_underlying hi, run_underlying hp, typeInfo, hinfo, hcomp]
  simp only [binOp]
  simp [Op.equal, Op.maxDepth, h 9998]
theorem eql480_same (w : World) (b : Nat) : (binOp .eql 480 (.iface 152 (.pointer (some ⟨b, 0, none⟩))) (.iface 152 (.pointer (some ⟨b, 0, none⟩)))).run Tryz.prog w = .ok (.bool true) w := by
  obtain ⟨ms, hms⟩ := u480
  obtain ⟨i, hi, hc⟩ := info_cmp (t := 152) (by kernel_rfl)
  obtain ⟨j, hj, _⟩ := info_pos (t := 203) (n := 5) (by kernel_rfl)
  exact run_eql_iface_ptr_same w _ hms Tryz.underlying152 hi hc hj
theorem eql480_other (w : World) {b b' : Nat} {c c' : Array Value} {T T' : TypeId} (hne : b ≠ b') (h : Blk w b c T) (h' : Blk w b' c' T') : (binOp .eql 480 (.iface 152 (.pointer (some ⟨b, 0, none⟩))) (.iface 152 (.pointer (some ⟨b', 0, none⟩)))).run Tryz.prog w = .ok (.bool false) w := by
  obtain ⟨ms, hms⟩ := u480
  obtain ⟨i, hi, hc⟩ := info_cmp (t := 152) (by kernel_rfl)
  obtain ⟨j, hj, hs⟩ := info_pos (t := 203) (n := 5) (by kernel_rfl)
  exact run_eql_iface_ptr_other w hms Tryz.underlying152 hi hc hj hs (addr_ne hne) (blk_obj h) (blk_obj h')
theorem eql480_nil (w : World) (b : Nat) : (binOp .eql 480 (.iface 152 (.pointer (some ⟨b, 0, none⟩))) (.iface 152 (.pointer none))).run Tryz.prog w = .ok (.bool false) w := by
  obtain ⟨ms, hms⟩ := u480
  obtain ⟨i, hi, hc⟩ := info_cmp (t := 152) (by kernel_rfl)
  exact run_eql_iface_ptr_nil w _ hms Tryz.underlying152 hi hc

/-- they are one: -/
theorem pcEq_same (w : World) (b : Nat) : Calls Tryz.prog 297 #[.pointer (some ⟨b, 0, none⟩), .iface 152 (.pointer (some ⟨b, 0, none⟩))] w fun e w' => e = .returned (.bool true) ∧ w = w' := by
  have h := fun w => eql480_same w b
  go_enter Tryz.func297, Tryz.ntmps297
  go_wp2
  go_ret
  exact ⟨rfl, rfl⟩
theorem ta480 (q : Option Addr) (w : World) : (Instr.typeAssert (.iface 152 (.pointer q)) 480 152 false).run Tryz.prog w = .ok (.pointer q) w := by kernel_rfl
/-- the empty one and another: -/
theorem pcEq_0 (w : World) (b b' : Nat) (r : Bool) (h : (binOp .eql 480 (.iface 152 (.pointer (some ⟨b, 0, none⟩))) (.iface 152 (.pointer (some ⟨b', 0, none⟩)))).run Tryz.prog w = .ok (.bool false) w)
    (c : w.cell? ⟨b, 1, none⟩ = some (.int .i64 0)) (hc : Calls Tryz.prog 69 #[.pointer (some ⟨b', 0, none⟩)] w fun e w' => e = .returned (.bool r) ∧ w = w') :
    Calls Tryz.prog 297 #[.pointer (some ⟨b, 0, none⟩), .iface 152 (.pointer (some ⟨b', 0, none⟩))] w fun e w' => e = .returned (.bool r) ∧ w = w' := by
  have hta := ta480
  have H := Lib.hid hc
  clear hc
  go_enter Tryz.func297, Tryz.ntmps297
  go_wp2_with fail
  refine H.out.mono ?_
  rintro e w' ⟨rfl, rfl⟩
  go_wp2
  go_ret
  exact ⟨rfl, rfl⟩
/-- a stack and another -/
theorem pcEq_1 (w : World) (b : Nat) (q : Option Addr) (r : Bool) (h : (binOp .eql 480 (.iface 152 (.pointer (some ⟨b, 0, none⟩))) (.iface 152 (.pointer q))).run Tryz.prog w = .ok (.bool false) w)
    (c : w.cell? ⟨b, 1, none⟩ = some (.int .i64 1)) (hc : Calls Tryz.prog 298 #[.pointer (some ⟨b, 0, none⟩), .iface 152 (.pointer q)] w fun e w' => e = .returned (.bool r) ∧ ∃ n, w' = w.drewN n) :
    Calls Tryz.prog 297 #[.pointer (some ⟨b, 0, none⟩), .iface 152 (.pointer q)] w fun e w' => e = .returned (.bool r) ∧ ∃ n, w' = w.drewN n := by
  have H := Lib.hid hc
  clear hc
  go_enter Tryz.func297, Tryz.ntmps297
  go_wp2_with fail
  refine H.out.mono ?_
  rintro e w' ⟨rfl, n, rfl⟩
  go_wp2
  go_ret
  exact ⟨rfl, n, rfl⟩
/-- none there -/
theorem sEq_nil (w : World) (b : Nat) : Calls Tryz.prog 298 #[.pointer (some ⟨b, 0, none⟩), .iface 152 (.pointer none)] w fun e w' => e = .returned (.bool false) ∧ w = w' := by
  have hta := ta480
  go_enter Tryz.func298, Tryz.ntmps298
  go_wp2
  go_ret
  exact ⟨rfl, rfl⟩
/-- the empty one there -/
theorem sEq_0 (w : World) (b b' : Nat) (c : w.cell? ⟨b', 1, none⟩ = some (.int .i64 0)) : Calls Tryz.prog 298 #[.pointer (some ⟨b, 0, none⟩), .iface 152 (.pointer (some ⟨b', 0, none⟩))] w fun e w' => e = .returned (.bool false) ∧ w = w' := by
  have hta := ta480
  go_enter Tryz.func298, Tryz.ntmps298
  go_wp2
  go_ret
  exact ⟨rfl, rfl⟩
/-- other hashes -/
theorem sEq_hash (w : World) (b b' : Nat) (h h' : Int) (hne : (h != h') = true) (c0 : w.cell? ⟨b, 0, none⟩ = some (.int .i64 h)) (c1 : w.cell? ⟨b', 1, none⟩ = some (.int .i64 1)) (c0' : w.cell? ⟨b', 0, none⟩ = some (.int .i64 h')) :
    Calls Tryz.prog 298 #[.pointer (some ⟨b, 0, none⟩), .iface 152 (.pointer (some ⟨b', 0, none⟩))] w fun e w' => e = .returned (.bool false) ∧ ∃ n, w' = w.drewN n := by
  have hta := ta480
  have e0 : (h == h') = false := by rw [bne_iff_ne] at hne; simpa using hne
  go_enter Tryz.func298, Tryz.ntmps298
  go_wp2
  go_quiet ((go_at_call 166; exact qof (pcHash_s _ _ _ c0')))
  go_wp2
  go_ret
  exact ⟨rfl, _, rfl⟩
/-- other states -/
theorem sEq_ret (w : World) (b b' : Nat) (h f f' : Int) (hne : (f != f') = true) (c0 : w.cell? ⟨b, 0, none⟩ = some (.int .i64 h)) (c1 : w.cell? ⟨b', 1, none⟩ = some (.int .i64 1)) (c0' : w.cell? ⟨b', 0, none⟩ = some (.int .i64 h))
    (c3 : w.cell? ⟨b, 3, none⟩ = some (.int .i64 f)) (c3' : w.cell? ⟨b', 3, none⟩ = some (.int .i64 f')) :
    Calls Tryz.prog 298 #[.pointer (some ⟨b, 0, none⟩), .iface 152 (.pointer (some ⟨b', 0, none⟩))] w fun e w' => e = .returned (.bool false) ∧ ∃ n, w' = w.drewN n := by
  have hta := ta480
  have e0 : (f == f') = false := by rw [bne_iff_ne] at hne; simpa using hne
  go_enter Tryz.func298, Tryz.ntmps298
  go_wp2
  go_quiet ((go_at_call 166; exact qof (pcHash_s _ _ _ c0')))
  go_wp2
  go_quiet ((go_at_call 75; exact qof2 (pcRet_s _ _ _ _ c1 c3')))
  go_wp2
  go_ret
  first | exact ⟨rfl, _, rfl⟩ | exact ⟨rfl, _, World.drewN_drewN ..⟩
/-- one state, nothing behind it -/
theorem sEq_end (w : World) (b b' : Nat) (h f : Int) (q : Option Addr) (c0 : w.cell? ⟨b, 0, none⟩ = some (.int .i64 h)) (c1 : w.cell? ⟨b', 1, none⟩ = some (.int .i64 1)) (c0' : w.cell? ⟨b', 0, none⟩ = some (.int .i64 h))
    (c3 : w.cell? ⟨b, 3, none⟩ = some (.int .i64 f)) (c3' : w.cell? ⟨b', 3, none⟩ = some (.int .i64 f)) (c2 : w.cell? ⟨b, 2, none⟩ = some (.pointer none)) (c2' : w.cell? ⟨b', 2, none⟩ = some (.pointer q)) :
    Calls Tryz.prog 298 #[.pointer (some ⟨b, 0, none⟩), .iface 152 (.pointer (some ⟨b', 0, none⟩))] w fun e w' => e = .returned (.bool q.isNone) ∧ ∃ n, w' = w.drewN n := by
  have hta := ta480
  go_enter Tryz.func298, Tryz.ntmps298
  go_wp2
  go_quiet ((go_at_call 166; exact qof (pcHash_s _ _ _ c0')))
  go_wp2
  go_quiet ((go_at_call 75; exact qof2 (pcRet_s _ _ _ _ c1 c3')))
  go_wp2
  go_ret
  first | exact ⟨rfl, _, rfl⟩ | exact ⟨rfl, _, World.drewN_drewN ..⟩
/-- one state, something behind it -/
theorem sEq_more (w : World) (b b' : Nat) (h f : Int) (a : Nat) (q : Option Addr) (r : Bool) (c0 : w.cell? ⟨b, 0, none⟩ = some (.int .i64 h)) (c1 : w.cell? ⟨b', 1, none⟩ = some (.int .i64 1)) (c0' : w.cell? ⟨b', 0, none⟩ = some (.int .i64 h))
    (c3 : w.cell? ⟨b, 3, none⟩ = some (.int .i64 f)) (c3' : w.cell? ⟨b', 3, none⟩ = some (.int .i64 f)) (c2 : w.cell? ⟨b, 2, none⟩ = some (.pointer (some ⟨a, 0, none⟩))) (c2' : w.cell? ⟨b', 2, none⟩ = some (.pointer q))
    (hc : ∀ n, Calls Tryz.prog 297 #[.pointer (some ⟨a, 0, none⟩), .iface 152 (.pointer q)] (w.drewN n) fun e w' => e = .returned (.bool r) ∧ ∃ m, w' = (w.drewN n).drewN m) :
    Calls Tryz.prog 298 #[.pointer (some ⟨b, 0, none⟩), .iface 152 (.pointer (some ⟨b', 0, none⟩))] w fun e w' => e = .returned (.bool r) ∧ ∃ n, w' = w.drewN n := by
  have hta := ta480
  have H := Lib.hid hc
  clear hc
  go_enter Tryz.func298, Tryz.ntmps298
  go_wp2
  go_quiet ((go_at_call 166; exact qof (pcHash_s _ _ _ c0')))
  go_wp2
  go_quiet ((go_at_call 75; exact qof2 (pcRet_s _ _ _ _ c1 c3')))
  go_wp2
  go_quiet ((go_at_call 297; exact qofn2 (H.out _)))
  go_wp2
  go_ret
  first | exact ⟨rfl, _, rfl⟩ | exact ⟨rfl, _, World.drewN_drewN ..⟩

theorem pcEq_any (w : World) (bot : Bool) : ∀ (k k' : List Nat) (b : Nat) (v' : Value) (n : Nat), PCv w bot k (.pointer (some ⟨b, 0, none⟩)) → PCv w bot k' v' →
    Calls Tryz.prog 297 #[.pointer (some ⟨b, 0, none⟩), .iface 152 v'] (w.drewN n) fun e w' => e = .returned (.bool (decide (k = k'))) ∧ ∃ m, w' = (w.drewN n).drewN m := by
  have q0 : ∀ {f : FuncId} {args : Array Value} {W : World} {v : Value}, (Calls Tryz.prog f args W fun e w' => e = .returned v ∧ W = w') → Calls Tryz.prog f args W fun e w' => e = .returned v ∧ ∃ m, w' = W.drewN m :=
    fun h => h.mono fun _ _ ⟨he, hm⟩ => ⟨he, 0, hm.symm⟩
  intro k
  induction k with
  | nil =>
    intro k' b v' n h h'
    obtain ⟨p, rfl⟩ := h'.ptr
    obtain ⟨c0, c1, hb, _⟩ := h.cells
    rw [if_pos rfl] at c1
    have hbt := hb rfl
    have hh := h
    unfold PCv at hh
    rw [if_pos hbt] at hh
    obtain ⟨b2, he, hblk⟩ := hh
    simp at he
    subst he
    rcases p with _ | ⟨b', o, fr⟩
    · exfalso
      cases k' with
      | nil =>
        unfold PCv at h'
        rw [if_pos hbt] at h'
        obtain ⟨b', he, _⟩ := h'
        cases he
      | cons f k => obtain ⟨b', v', he, _⟩ := h'; cases he
    · cases k' with
      | nil =>
        unfold PCv at h'
        rw [if_pos hbt] at h'
        obtain ⟨b'', he, hblk'⟩ := h'
        simp at he
        obtain ⟨rfl, rfl, rfl⟩ := he
        by_cases hs : b' = b
        · subst hs
          exact q0 (pcEq_same _ _)
        · refine q0 (pcEq_0 _ b b' true (eql480_other _ (Ne.symm hs) (hblk.drewN n) (hblk'.drewN n)) c1 (pcEmpty_t _ _ ?_))
          show w.cell? _ = _
          rw [hblk'.cell]; rfl
      | cons f k' =>
        obtain ⟨b'', v'', he, hblk', _⟩ := h'
        simp at he
        obtain ⟨rfl, rfl, rfl⟩ := he
        have hs : b ≠ b' := by
          rintro rfl
          have := (hblk.uniq hblk').1
          simp [ccell, c0cell] at this
        refine q0 (pcEq_0 _ b b' false (eql480_other _ hs (hblk.drewN n) (hblk'.drewN n)) c1 (pcEmpty_f _ _ ?_))
        show w.cell? _ = _
        rw [hblk'.cell]; rfl
  | cons f k ih =>
    intro k' b v' n h h'
    obtain ⟨p, rfl⟩ := h'.ptr
    obtain ⟨b2, v, he, hblk, hk⟩ := h
    simp at he
    subst he
    have c0 : w.cell? ⟨b, 0, none⟩ = some (.int .i64 (chash bot (f :: k))) := by rw [hblk.cell]; rfl
    have c1 : w.cell? ⟨b, 1, none⟩ = some (.int .i64 1) := by rw [hblk.cell]; rfl
    have c2 : w.cell? ⟨b, 2, none⟩ = some v := by rw [hblk.cell]; rfl
    have c3 : w.cell? ⟨b, 3, none⟩ = some (.int .i64 (f : Int)) := by rw [hblk.cell]; rfl
    cases k' with
    | nil =>
      have hd : decide (f :: k = ([] : List Nat)) = false := by simp
      rw [hd]
      unfold PCv at h'
      split at h'
      · obtain ⟨b', he, hblk'⟩ := h'
        simp at he
        subst he
        have hs : b ≠ b' := by
          rintro rfl
          have := (hblk.uniq hblk').1
          simp [ccell, c0cell] at this
        refine pcEq_1 _ b _ false (eql480_other _ hs (hblk.drewN n) (hblk'.drewN n)) c1 (q0 (sEq_0 _ _ _ ?_))
        show w.cell? _ = _
        rw [hblk'.cell]; rfl
      · simp at h'
        subst h'
        exact pcEq_1 _ b _ false (eql480_nil _ _) c1 (q0 (sEq_nil _ _))
    | cons f' k' =>
      obtain ⟨b', u, he, hblk', hk'⟩ := h'
      simp at he
      subst he
      have c0' : w.cell? ⟨b', 0, none⟩ = some (.int .i64 (chash bot (f' :: k'))) := by rw [hblk'.cell]; rfl
      have c1' : w.cell? ⟨b', 1, none⟩ = some (.int .i64 1) := by rw [hblk'.cell]; rfl
      have c2' : w.cell? ⟨b', 2, none⟩ = some u := by rw [hblk'.cell]; rfl
      have c3' : w.cell? ⟨b', 3, none⟩ = some (.int .i64 (f' : Int)) := by rw [hblk'.cell]; rfl
      by_cases hs : b' = b
      · subst hs
        obtain ⟨rfl, rfl⟩ := ccell_inj (hblk.uniq hblk').1
        have hkk := hk.inj hk'
        subst hkk
        have hd : decide (f :: k = f :: k) = true := by simp
        rw [hd]
        exact q0 (pcEq_same _ _)
      · have heq := eql480_other (w.drewN n) (Ne.symm hs) (hblk.drewN n) (hblk'.drewN n)
        refine pcEq_1 _ b _ _ heq c1 ?_
        by_cases hh : chash bot (f :: k) = chash bot (f' :: k')
        · rw [← hh] at c0'
          by_cases hf : f = f'
          · subst hf
            obtain ⟨q, rfl⟩ := hk'.ptr
            obtain ⟨p, rfl⟩ := hk.ptr
            rcases p with _ | ⟨a, o, fr⟩
            · have hnil : k = [] ∧ bot = false := by
                cases k with
                | nil =>
                  unfold PCv at hk
                  split at hk
                  · obtain ⟨_, he, _⟩ := hk; cases he
                  · rename_i hb; exact ⟨rfl, by simpa using hb⟩
                | cons f k => obtain ⟨_, _, he, _⟩ := hk; cases he
              obtain ⟨rfl, rfl⟩ := hnil
              have hd : decide ([f] = f :: k') = q.isNone := by
                cases k' with
                | nil =>
                  unfold PCv at hk'
                  simp at hk'
                  subst hk'
                  simp
                | cons f k => obtain ⟨_, _, he, _⟩ := hk'; simp at he; subst he; simp
              rw [hd]
              exact sEq_end _ _ _ _ _ _ c0 c1' c0' c3 c3' c2 c2'
            · have ho : o = 0 ∧ fr = none := by
                cases k with
                | nil =>
                  unfold PCv at hk
                  split at hk
                  · obtain ⟨_, he, _⟩ := hk; simp at he; exact he.2
                  · cases hk
                | cons f k => obtain ⟨_, _, he, _⟩ := hk; simp at he; exact he.2
              obtain ⟨rfl, rfl⟩ := ho
              have hd : decide (f :: k = f :: k') = decide (k = k') := by simp
              rw [hd]
              exact sEq_more _ _ _ _ _ _ _ _ c0 c1' c0' c3 c3' c2 c2' (fun m => by rw [World.drewN_drewN]; exact ih k' a _ (n + m) hk hk')
          · have hd : decide (f :: k = f' :: k') = false := by simp [hf]
            rw [hd]
            exact sEq_ret _ _ _ _ _ _ (by simpa using fun e => hf (by omega)) c0 c1' c0' c3 c3'
        · have hd : decide (f :: k = f' :: k') = false := by
            simp only [decide_eq_false_iff_not]
            intro e
            exact hh (by rw [e])
          rw [hd]
          exact sEq_hash _ _ _ _ _ (by simpa using hh) c0 c1' c0'
end Go.Proofs.YtemdillhbnmjkaaGreatDoor
namespace Go.Proofs.YtemdillhbnmjkaaGreatDoor
open Go.RowKit

def pcell : Array Value := #[.int .i64 (-1), .int .i64 (-1), .bool false]
def ksem : Int := mF (mU (mU (mU 0 (-1)) (-1)) 0) 3

theorem newPred_any (w : World) : Calls Tryz.prog 130 #[.int .i64 (-1), .int .i64 (-1), .bool false] w fun e w' => e = .returned (.pointer (some ⟨w.heap.size, 0, none⟩)) ∧ w.alloc (.cells pcell 372) = w' := by
  go_enter Tryz.func130, Tryz.ntmps130
  go_wp2
  go_ret
  exact ⟨rfl, rfl⟩
theorem semNone_any (w : World) : Calls Tryz.prog 103 #[] w fun e w' => e = .returned (.iface 315 (.pointer (some ⟨w.heap.size, 0, none⟩))) ∧ w.alloc (.cells pcell 372) = w' := by
  go_enter Tryz.func103, Tryz.ntmps103
  go_wp2_with (first | (go_at_call 130; refine (newPred_any _).mono ?_; rintro e w' ⟨rfl, rfl⟩))
  go_ret
  exact ⟨rfl, rfl⟩
theorem semHash_s (w : World) (b : Nat) (h : Blk w b pcell 372) : Calls Tryz.prog 247 #[.pointer (some ⟨b, 0, none⟩)] w fun e w' => e = .returned (.int .i64 ksem) ∧ w = w' := by
  have c0 : w.cell? ⟨b, 0, none⟩ = some (.int .i64 (-1)) := by rw [h.cell]; rfl
  have c1 : w.cell? ⟨b, 1, none⟩ = some (.int .i64 (-1)) := by rw [h.cell]; rfl
  have c2 : w.cell? ⟨b, 2, none⟩ = some (.bool false) := by rw [h.cell]; rfl
  clear h
  go_enter Tryz.func247, Tryz.ntmps247
  go_wp2_with (first | (go_at_call 164; refine (mInit _ _).mono ?_; rintro e w' ⟨rfl, rfl⟩) | (go_at_call 167; refine (mFin _ _ _).mono ?_; rintro e w' ⟨rfl, rfl⟩) | (go_at_call 165; refine (mUpd _ _ _).mono ?_; rintro e w' ⟨rfl, rfl⟩))
  go_ret
  exact ⟨rfl, rfl⟩
theorem eql456_same (w : World) (b : Nat) : (binOp .eql 456 (.iface 315 (.pointer (some ⟨b, 0, none⟩))) (.iface 315 (.pointer (some ⟨b, 0, none⟩)))).run Tryz.prog w = .ok (.bool true) w := by
  obtain ⟨ms, hms⟩ := u456
  obtain ⟨i, hi, hc⟩ := info_cmp (t := 315) (by kernel_rfl)
  obtain ⟨j, hj, _⟩ := info_pos (t := 372) (n := 2) (by kernel_rfl)
  exact run_eql_iface_ptr_same w _ hms Tryz.underlying315 hi hc hj
theorem eql456_other (w : World) {b b' : Nat} {c c' : Array Value} {T T' : TypeId} (hne : b ≠ b') (h : Blk w b c T) (h' : Blk w b' c' T') : (binOp .eql 456 (.iface 315 (.pointer (some ⟨b, 0, none⟩))) (.iface 315 (.pointer (some ⟨b', 0, none⟩)))).run Tryz.prog w = .ok (.bool false) w := by
  obtain ⟨ms, hms⟩ := u456
  obtain ⟨i, hi, hc⟩ := info_cmp (t := 315) (by kernel_rfl)
  obtain ⟨j, hj, hs⟩ := info_pos (t := 372) (n := 2) (by kernel_rfl)
  exact run_eql_iface_ptr_other w hms Tryz.underlying315 hi hc hj hs (addr_ne hne) (blk_obj h) (blk_obj h')
theorem ta456 (q : Option Addr) (w : World) : (Instr.typeAssert (.iface 315 (.pointer q)) 456 315 false).run Tryz.prog w = .ok (.pointer q) w := by kernel_rfl
theorem ta456t (q : Option Addr) (w : World) : (Instr.typeAssert (.iface 315 (.pointer q)) 456 315 true).run Tryz.prog w = .ok (.tuple #[.pointer q, .bool true]) w := by kernel_rfl
theorem semEq_any (w : World) (b b' : Nat) (h : Blk w b pcell 372) (h' : Blk w b' pcell 372) :
    Calls Tryz.prog 246 #[.pointer (some ⟨b, 0, none⟩), .iface 315 (.pointer (some ⟨b', 0, none⟩))] w fun e w' => e = .returned (.bool true) ∧ ∃ n, w' = w.drewN n := by
  by_cases hs : b = b'
  · subst hs
    have he := eql456_same w b
    clear h h'
    go_enter Tryz.func246, Tryz.ntmps246
    go_wp2
    go_ret
    exact ⟨rfl, 0, rfl⟩
  · have he := eql456_other w hs h h'
    have hta := ta456
    have htt := ta456t
    have c0 : w.cell? ⟨b, 0, none⟩ = some (.int .i64 (-1)) := by rw [h.cell]; rfl
    have c1 : w.cell? ⟨b, 1, none⟩ = some (.int .i64 (-1)) := by rw [h.cell]; rfl
    have c2 : w.cell? ⟨b, 2, none⟩ = some (.bool false) := by rw [h.cell]; rfl
    have c0' : w.cell? ⟨b', 0, none⟩ = some (.int .i64 (-1)) := by rw [h'.cell]; rfl
    have c1' : w.cell? ⟨b', 1, none⟩ = some (.int .i64 (-1)) := by rw [h'.cell]; rfl
    have c2' : w.cell? ⟨b', 2, none⟩ = some (.bool false) := by rw [h'.cell]; rfl
    clear h h'
    go_enter Tryz.func246, Tryz.ntmps246
    go_wp2
    go_quiet (fail)
    go_wp2
    go_ret
    exact ⟨rfl, _, rfl⟩

/-- the cells of a configuration -/
def gcell (x v s : Value) : Array Value := #[.bool false, x, .int .i64 0, v, s, .int .i64 0, .int .i64 1, .pointer none, .bool false]
theorem newCfg5_any (w : World) (T : TypeId) (sb pb : Nat) (p : Option Addr) :
    Calls Tryz.prog 102 #[.iface T (.pointer (some ⟨sb, 0, none⟩)), .int .i64 0, .pointer p, .iface 315 (.pointer (some ⟨pb, 0, none⟩))] w fun e w' => e = .returned (.pointer (some ⟨w.heap.size, 0, none⟩)) ∧ w.alloc (.cells (gcell (.iface T (.pointer (some ⟨sb, 0, none⟩))) (.pointer p) (.iface 315 (.pointer (some ⟨pb, 0, none⟩)))) 314) = w' := by
  go_enter Tryz.func102, Tryz.ntmps102
  go_wp2
  go_ret
  exact ⟨rfl, rfl⟩
theorem newCfg_any (w : World) (T : TypeId) (sb : Nat) (p : Option Addr) :
    Calls Tryz.prog 66 #[.iface T (.pointer (some ⟨sb, 0, none⟩)), .int .i64 0, .pointer p] w fun e w' => e = .returned (.pointer (some ⟨w.heap.size + 1, 0, none⟩)) ∧
      (w.alloc (.cells pcell 372)).alloc (.cells (gcell (.iface T (.pointer (some ⟨sb, 0, none⟩))) (.pointer p) (.iface 315 (.pointer (some ⟨w.heap.size, 0, none⟩)))) 314) = w' := by
  go_enter Tryz.func66, Tryz.ntmps66
  go_wp2_with (first | (go_at_call 103; refine (semNone_any _).mono ?_; rintro e w' ⟨rfl, rfl⟩))
  refine (newCfg5_any _ _ _ _ _).mono ?_
  rintro e w' ⟨rfl, rfl⟩
  go_wp2
  go_ret
  exact ⟨by simp, rfl⟩
theorem stateNum_s (w : World) (b : Nat) (n : Int) (c : w.cell? ⟨b, 4, none⟩ = some (.int .i64 n)) : Calls Tryz.prog 222 #[.pointer (some ⟨b, 0, none⟩)] w fun e w' => e = .returned (.int .i64 n) ∧ w = w' := by
  go_enter Tryz.func222, Tryz.ntmps222
  go_wp2
  go_ret
  exact ⟨rfl, rfl⟩
end Go.Proofs.YtemdillhbnmjkaaGreatDoor

import Derived.Test.Qxb6603276aRFind
namespace Go.Proofs.Qxb6603276aR
open Go.ChangeShapes Go.WideShapes Go.ChangeAt Go.RowKit
set_option linter.unusedVariables false

/-- n numbers of kind k lie at (b, off) -/
def Src (w : World) (b off n : Nat) (k : IntKind) (f : Nat → Int) : Prop := b < w.heap.size ∧ ∀ j, j < n → w.cell? ⟨b, off + j, none⟩ = some (.int k (f j))
theorem Row.srcOf {w : World} {b n : Nat} {k : IntKind} {f : Nat → Int} (h : Row w b n (fun i => .int k (f i))) : Src w b 0 n k f :=
  ⟨h.lt, fun j hj => by rw [Nat.zero_add]; exact h.cell j hj⟩
theorem Src.below {w w' : World} {b off n : Nat} {k : IntKind} {f : Nat → Int} (h : Src w b off n k f) {B : Nat} (hb : Below B w w') (hB : b < B) : Src w' b off n k f :=
  ⟨Nat.lt_of_lt_of_le h.1 hb.size, fun j hj => (hb.cell (p := ⟨b, off + j, none⟩) hB).trans (h.2 j hj)⟩
theorem Row.keep {w w' : World} {b n : Nat} {v : Nat → Value} (h : Row w b n v) (k : Below w.heap.size w w') : Row w' b n v := h.of_block (k.block _ h.lt)
/-- the first k of f are those of g -/
def Pre (k : Nat) (f g : Nat → Int) : Prop := ∀ j, j < k → f j = g j
theorem Pre.zero (f g : Nat → Int) : Pre 0 f g := fun j hj => by omega
theorem Pre.succ {k : Nat} {f g : Nat → Int} (h : Pre k f g) {x : Int} (hx : x = g k) : Pre (k + 1) (upd f k x) g := by
  intro j hj
  unfold upd
  by_cases e : j = k
  · rw [if_pos e, e]; exact hx
  · rw [if_neg e]; exact h j (by omega)
theorem row_upd {w : World} {b n k : Nat} {kd : IntKind} {f : Nat → Int} (h : Row w b n (fun i => .int kd (f i))) (x : Int) : Row (w.setCell ⟨b, k, none⟩ (.int kd x)) b n (fun i => .int kd (upd f k x i)) :=
  (h.set k _).congr fun i _ => by by_cases e : i = k <;> simp [e, upd]
theorem made_get (z : Value) (n i : Nat) (h : i < n) : (madeCells #[z] n)[i]? = some z := by simp [madeCells, h, Nat.mod_one]
theorem row_made (w : World) (z : Value) (n : Nat) (e : TypeId) : Row (w.alloc (.cells (madeCells #[z] n) e)) w.heap.size n (fun _ => z) :=
  Row.new w _ e n (size_madeCells _ _) _ (fun i hi => made_get z n i hi)
theorem Try.info5 : (Try.prog.info? 5).map (fun i => (i.zero, i.size, i.bytes)) = some (some (.int .u8 0), 1, 1) := by kernel_rfl

/-- what a clone leaves -/
def COut (w : World) (n : Nat) (f : Nat → Int) (e : Ending) (w' : World) : Prop :=
  e = .returned (.slice (some ⟨w.heap.size, 0, none⟩) n n) ∧ Row w' w.heap.size n (fun i => .int .u8 (f i)) ∧ Below w.heap.size w w' ∧ w'.heap.size = w.heap.size + 1
set_option maxHeartbeats 1000000 in
theorem clone_any (w : World) (b off n c : Nat) (f : Nat → Int) (hn : n ≤ 1048576) (H : Src w b off n .u8 f) :
    Calls Try.prog 9 #[.slice (some ⟨b, off, none⟩) n c] w fun e w' => COut w n f e w' := by
  have hmk := run_make_row' (P := Try.prog) 22 5 (.int .u8 0) 1 Try.underlying22 Try.info5 rfl .i64 .i64 n (by omega) (by omega)
  have hnil : ∀ w, (binOp .eql 22 (.slice (some ⟨b, off, none⟩) n c) (.slice none 0 0)).run Try.prog w = .ok (.bool false) w := fun w => Lib.run_eql_slice_nil w 22 5 (some ⟨b, off, none⟩) n c 0 0 Try.underlying22
  have lb := H.1
  go_enter Try.func9, Try.ntmps9
  go_wp2
  go_loopw [4] (fun i wr => ∃ k : Nat, k ≤ n ∧ i = .int .i64 k ∧ (∃ g : Nat → Int, Pre k g f ∧ Row wr w.heap.size n (fun i => .int .u8 (g i))) ∧ Below w.heap.size w wr ∧ wr.heap.size = w.heap.size + 1) (fun i _ => n - (intOf i).toNat)
  case atStart => exact ⟨0, by omega, rfl, ⟨fun _ => 0, Pre.zero _ _, row_made w _ n 5⟩, (Below.refl _ _).alloc (Nat.le_refl _) _, by simp⟩
  case round =>
    obtain ⟨k, hk, rfl, ⟨g, pg, R⟩, B, z⟩ := hrel
    have Z : Hid _ := z
    clear z
    by_cases hlt : k < n
    · have g1 := (B.cell (p := ⟨b, off + k, none⟩) lb).trans (H.2 k hlt)
      have c1 := R.cell k hlt
      have f1 := R.free k
      clear hmk
      go_wp2
      go_roundw
      case rel => exact ⟨k + 1, by omega, by go_num, ⟨_, pg.succ rfl, row_upd R _⟩, B.setCell (Nat.le_refl _) _, by simpa using Z.out⟩
      case measure => simp [intOf]; omega
    · go_wp2
      go_ret
      exact ⟨rfl, R.congr (fun i hi => by rw [pg i (by omega)]), B, Z.out⟩

/-- a yes, and the world but for draws -/
def Yes (w : World) (e : Ending) (w' : World) : Prop := e = .returned (.bool true) ∧ ∃ n, w' = w.drewN n
set_option maxHeartbeats 1000000 in
theorem equal_any (w : World) (b c n : Nat) (f : Nat → Int) (hn : n ≤ 1048576) (R1 : Row w b n (fun i => .int .u8 (f i))) (R2 : Row w c n (fun i => .int .u8 (f i))) :
    Calls Try.prog 12 #[.slice (some ⟨b, 0, none⟩) n n, .slice (some ⟨c, 0, none⟩) n n] w fun e w' => Yes w e w' := by
  go_enter Try.func12, Try.ntmps12
  go_wp2
  go_loopw [5] (fun i wr => ∃ k : Nat, k ≤ n ∧ i = .int .i64 k ∧ ∃ j, wr = w.drewN j) (fun i _ => n - (intOf i).toNat)
  case atStart => exact ⟨0, by omega, rfl, 0, rfl⟩
  case round =>
    obtain ⟨k, hk, rfl, j, rfl⟩ := hrel
    by_cases hlt : k < n
    · have g1 := R1.cell k hlt
      have g2 := R2.cell k hlt
      go_wp2
      go_quiet (fail)
      go_wp2
      go_roundw
      case rel => exact ⟨k + 1, by omega, by go_num, _, rfl⟩
      case measure => simp [intOf]; omega
    · go_wp2
      go_ret
      exact ⟨rfl, j, rfl⟩

/-- some Bool comes back, nothing turns -/
def Any (w : World) (e : Ending) (w' : World) : Prop := ∃ r : Bool, e = .returned (.bool r) ∧ w' = w
set_option maxHeartbeats 1000000 in
theorem bytes8 (w : World) (a0 : Option Addr) (l0 c0 : Nat) (x y : Int) (h0 : l0 ≤ maxLen) : Calls Try.prog 8 #[.slice a0 l0 c0, .int .i64 x, .int .u32 y] w fun e w' => Any w e w' := by
  unfold maxLen at h0
  go_enter Try.func8, Try.ntmps8
  go_wp2
  all_goals (go_ret; exact ⟨_, rfl, rfl⟩)
set_option maxHeartbeats 1000000 in
theorem bytes11 (w : World) (a0 : Option Addr) (l0 c0 : Nat) (x y : Int) (h0 : l0 ≤ maxLen) : Calls Try.prog 11 #[.slice a0 l0 c0, .int .i64 x, .int .u32 y] w fun e w' => Any w e w' := by
  unfold maxLen at h0
  go_enter Try.func11, Try.ntmps11
  go_wp2
  all_goals (go_ret; exact ⟨_, rfl, rfl⟩)

theorem pow_cast (k : Nat) : ((2 ^ k : Nat) : Int) = (2 : Int) ^ k := by
  induction k with
  | zero => rfl
  | succ k ih => rw [Nat.pow_succ, Int.pow_succ, Int.natCast_mul, ih]; rfl
theorem wrap_len (bt : Nat) (h : bt ≤ 16) : wrap64 (16 * 2 ^ bt) = ((16 * 2 ^ bt : Nat) : Int) := by
  have := pow_le bt h
  rw [← pow_cast]
  generalize 2 ^ bt = p at this ⊢
  refine (IntWalk.wrap64_in _ (by omega)).trans ?_
  omega
theorem len_of {l : Nat} {x : Int} (h1 : 2 ≤ x) (h2 : x ≤ 16) (h : ((l : Int) != wrap64 (16 * 2 ^ x.toNat)) = false) : l = 16 * 2 ^ x.toNat := by
  rw [wrap_len _ (by omega)] at h
  simp only [bne_eq_false_iff_eq] at h
  exact Int.ofNat.inj h

set_option maxHeartbeats 1000000 in
set_option maxRecDepth 100000 in
theorem early4 (w : World) (a0 : Option Addr) (l0 c0 : Nat) (x y : Int) (h0 : l0 ≤ maxLen) (bad : ¬ (2 ≤ x ∧ x ≤ 16 ∧ l0 = 16 * 2 ^ x.toNat)) :
    Calls Try.prog 4 #[.slice a0 l0 c0, .int .i64 x, .int .u32 y] w fun e w' => e = .returned (.bool true) ∧ w' = w := by
  have BAD : Hid (¬ (2 ≤ x ∧ x ≤ 16 ∧ l0 = 16 * 2 ^ x.toNat)) := bad
  have H0 : Hid (l0 ≤ maxLen) := h0
  clear bad
  unfold maxLen at h0
  go_enter Try.func4, Try.ntmps4
  go_wp2_with (go_at_call 11; refine (bytes11 _ _ _ _ _ _ H0.out).mono ?_; rintro e w' ⟨r, rfl, rfl⟩; cases r)
  all_goals first
    | (go_ret; exact ⟨rfl, rfl⟩)
    | exact absurd ⟨by omega, by omega, len_of (by omega) (by omega) ‹_›⟩ BAD.out

set_option maxHeartbeats 1000000 in
set_option maxRecDepth 100000 in
theorem early3 (w : World) (a0 : Option Addr) (l0 c0 : Nat) (x y : Int) (h0 : l0 ≤ maxLen) (bad : ¬ (2 ≤ x ∧ x ≤ 16 ∧ l0 = 16 * 2 ^ x.toNat)) :
    Calls Try.prog 3 #[.slice a0 l0 c0, .int .i64 x, .int .u32 y] w fun e w' => e = .returned (.bool true) ∧ w' = w := by
  have BAD : Hid (¬ (2 ≤ x ∧ x ≤ 16 ∧ l0 = 16 * 2 ^ x.toNat)) := bad
  have H0 : Hid (l0 ≤ maxLen) := h0
  clear bad
  unfold maxLen at h0
  go_enter Try.func3, Try.ntmps3
  go_wp2_with (go_at_call 8; refine (bytes8 _ _ _ _ _ _ H0.out).mono ?_; rintro e w' ⟨r, rfl, rfl⟩; cases r)
  all_goals first
    | (go_ret; exact ⟨rfl, rfl⟩)
    | exact absurd ⟨by omega, by omega, len_of (by omega) (by omega) ‹_›⟩ BAD.out
end Go.Proofs.Qxb6603276aR

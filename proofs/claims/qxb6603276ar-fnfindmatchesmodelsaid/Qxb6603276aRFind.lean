import Derived.Test.Qxb6603276aRRows
import Derived.Test.Qxb6603276aRMem
import Derived.Test.Qxb6603276aRPlain
import Derived.WalkKit
import Derived.ProofKit
import Derived.Outline
import Derived.LoopTactic
import Derived.WalkLawsBesides
import Derived.Deep.QuietTactic
import Derived.BigQuiet
import Derived.Deep.Light
import Derived.Deep.OwnRows
import Derived.Handy
import Derived.RegionTactic
import Derived.Lib.SliceRun
namespace Go.Proofs.Qxb6603276aR
open Go.ChangeShapes Go.WideShapes Go.ChangeAt Go.RowKit
set_option linter.unusedVariables false


/-! ### clearing sixteen bytes -/
theorem setCells_row (n : Nat) : ∀ {w : World} {b N : Nat} {v : Nat → Value} (r : Nat) (x : Value), Row w b N v → Row (w.setCells b r (List.replicate n x)) b N (fun i => if r ≤ i ∧ i < r + n then x else v i) := by
  induction n with
  | zero =>
    intro w b N v r x h
    exact h.congr fun i _ => by rw [if_neg (by omega)]
  | succ n ih =>
    intro w b N v r x h
    have := ih (r + 1) x (h.set r x)
    show Row ((w.setCell ⟨b, r, none⟩ x).setCells b (r + 1) (List.replicate n x)) b N _
    refine this.congr fun i _ => ?_
    by_cases e : i = r
    · subst e
      rw [if_neg (by omega), if_pos rfl, if_pos (by omega)]
    · by_cases q : r + 1 ≤ i ∧ i < r + 1 + n
      · rw [if_pos q, if_pos (by omega)]
      · rw [if_neg q, if_neg e, if_neg (by omega)]
theorem setCells_keep (n : Nat) : ∀ {a w : World} {M : Nat → Prop} {b : Nat} (r : Nat) (x : Value), M b → Keep M a w → Keep M a (w.setCells b r (List.replicate n x)) := by
  induction n with
  | zero => intro a w M b r x _ h; exact h
  | succ n ih => intro a w M b r x hb h; exact ih (r + 1) x hb (h.setCell (fun _ => hb) x)
theorem setCells_size (n : Nat) : ∀ {w : World} {b : Nat} (r : Nat) (x : Value), (w.setCells b r (List.replicate n x)).heap.size = w.heap.size := by
  induction n with
  | zero => intro w b r x; rfl
  | succ n ih =>
    intro w b r x
    show ((w.setCell ⟨b, r, none⟩ x).setCells b (r + 1) (List.replicate n x)).heap.size = _
    rw [ih]
    simp [World.setCell]
def clr (w : World) (b r : Nat) : World := w.setCells b r (List.replicate 16 (.int .u8 0))
theorem clr_run (w : World) (b N r c ty : Nat) (R : Nat → Int) (h : Row w b N (fun i => .int .u8 (R i))) (hr : r + 16 ≤ N) (k : Nat) :
    (Builtin.clear_ #[22] ty #[.slice (some ⟨b, r, none⟩) 16 c]).run Try.prog (w.drewN k) = .ok (.tuple #[]) (clr (w.drewN k) b r) :=
  Lib.run_clear_slice (P := Try.prog) (w.drewN k) 22 5 ty (.int .u8 0) Try.underlying22 (fun _ => by kernel_rfl) rfl rfl b r 16 c (by omega)
    (fun j hj => by rw [(h.drewN k).cell (r + j) (by omega)]; rfl) (fun j hj => (h.drewN k).free (r + j))
theorem clr_row {w : World} {b N r : Nat} {R : Nat → Int} (h : Row w b N (fun i => .int .u8 (R i))) (ck : Int) : Row ((clr w b r).setCell ⟨b, r, none⟩ (.int .u8 ck)) b N (fun i => .int .u8 (taken R r ck i)) := by
  refine ((setCells_row 16 r _ h).set r _).congr fun i _ => ?_
  unfold taken
  by_cases e : i = r
  · rw [if_pos e, if_pos e]
  · rw [if_neg e, if_neg e]
    by_cases q : r ≤ i ∧ i < r + 16
    · rw [if_pos q, if_pos q]
    · rw [if_neg q, if_neg q]

theorem clr_cell {w : World} {b N r : Nat} {R : Nat → Int} (h : Row w b N (fun i => .int .u8 (R i))) (hr : r + 16 ≤ N) (k : Nat) : (clr (w.drewN k) b r).cell? ⟨b, r, none⟩ = some (.int .u8 0) := by
  have := (setCells_row 16 r (.int .u8 0) (h.drewN k)).cell r (by omega)
  rw [if_pos (by omega)] at this
  exact this
theorem clr_free {w : World} {b N r : Nat} {R : Nat → Int} (h : Row w b N (fun i => .int .u8 (R i))) (k : Nat) : (clr (w.drewN k) b r).frozen? ⟨b, r, none⟩ = false :=
  (setCells_row 16 r (.int .u8 0) (h.drewN k)).free r

/-- what 'find' leaves -/
def FOut (w : World) (b N : Nat) (R : Nat → Int) (r0 r1 r2 : Nat) (ck : Int) (e : Ending) (w' : World) : Prop :=
  e = .returned (.int .i64 (fRes R r0 r1 r2 ck)) ∧ Row w' b N (fun i => .int .u8 (fRow R r0 r1 r2 ck i)) ∧ Keep (fun x => x = b) w w' ∧ w'.heap.size = w.heap.size
theorem fout_hit {w : World} {b N : Nat} {R : Nat → Int} {r0 r1 r2 r : Nat} {ck : Int} (h : Row w b N (fun i => .int .u8 (R i))) (e : fRes R r0 r1 r2 ck = r ∧ fRow R r0 r1 r2 ck = R) : FOut w b N R r0 r1 r2 ck (.returned (.int .i64 (r : Int))) w := by
  refine ⟨by rw [e.1], by rw [e.2]; exact h, Keep.refl _ _, rfl⟩
theorem fout_miss {w : World} {b N : Nat} {R : Nat → Int} {r0 r1 r2 r : Nat} {ck : Int} (k : Nat) (h : Row w b N (fun i => .int .u8 (R i))) (e : fRes R r0 r1 r2 ck = missAt R r0 r1 r2 ∧ fRow R r0 r1 r2 ck = taken R (missAt R r0 r1 r2) ck) (hr : missAt R r0 r1 r2 = r) :
    FOut w b N R r0 r1 r2 ck (.returned (.int .i64 (r : Int))) ((clr (w.drewN k) b r).setCell ⟨b, r, none⟩ (.int .u8 ck)) := by
  refine ⟨by rw [e.1, hr], by rw [e.2, hr]; exact clr_row (h.drewN k) ck, Keep.setCell (M := fun x => x = b) (p := ⟨b, r, none⟩) (setCells_keep (M := fun x => x = b) (b := b) 16 r (.int .u8 0) rfl ((Keep.refl (fun x => x = b) w).drewN k)) (fun _ => rfl) (.int .u8 ck), ?_⟩
  show ((clr (w.drewN k) b r).setCell _ _).heap.size = w.heap.size
  have := setCells_size 16 (w := w.drewN k) (b := b) r (.int .u8 0)
  simpa [World.setCell, clr] using this

set_option maxHeartbeats 4000000 in
theorem find_core (w : World) (b N bt : Nat) (R : Nat → Int) (cx ck : Int) (r0 r1 r2 : Nat) (hb2 : 2 ≤ bt) (hb16 : bt ≤ 16) (l1 : N ≤ 1048576) (h0 : 0 ≤ cx) (h1 : cx ≤ 4294967295)
    (e0 : bits .and .i64 (cx * 16 % 4294967296) ((N : Int) - 1) = (r0 : Int)) (e1 : bits .xor .i64 (r0 : Int) 16 = (r1 : Int)) (e2 : bits .xor .i64 (r0 : Int) 32 = (r2 : Int)) (ec : cx / 2 ^ bt % 256 = ck)
    (C : Cand N r0 r1 r2) (r : Row w b N (fun i => .int .u8 (R i))) :
    Calls Try.prog 15 #[.slice (some ⟨b, 0, none⟩) N N, .int .i64 bt, .int .u32 cx] w fun e w' => FOut w b N R r0 r1 r2 ck e w' := by
  have le0 := C.le0
  have le1 := C.le1
  have le2 := C.le2
  have g0 := r.cell r0 (by omega)
  have g1 := r.cell r1 (by omega)
  have g2 := r.cell r2 (by omega)
  have k0 := r.cell (r0 + 1) (by omega)
  have k1 := r.cell (r1 + 1) (by omega)
  have k2 := r.cell (r2 + 1) (by omega)
  by_cases t0 : R r0 = ck
  · have t0' : (R r0 == ck) = true := by simpa using t0
    have T0 : Hid _ := t0
    clear t0
    go_enter Try.func15, Try.ntmps15
    go_wp2
    go_ret
    exact fout_hit r (res0 T0.out)
  have t0' : (R r0 == ck) = false := by simpa using t0
  have T0 : Hid _ := t0
  clear t0
  by_cases t1 : R r1 = ck
  · have t1' : (R r1 == ck) = true := by simpa using t1
    have T1 : Hid _ := t1
    clear t1
    go_enter Try.func15, Try.ntmps15
    go_wp2
    go_ret
    exact fout_hit r (res1 T0.out T1.out)
  have t1' : (R r1 == ck) = false := by simpa using t1
  have T1 : Hid _ := t1
  clear t1
  by_cases t2 : R r2 = ck
  · have t2' : (R r2 == ck) = true := by simpa using t2
    have T2 : Hid _ := t2
    clear t2
    go_enter Try.func15, Try.ntmps15
    go_wp2
    go_ret
    exact fout_hit r (res2 T0.out T1.out T2.out)
  have t2' : (R r2 == ck) = false := by simpa using t2
  have T2 : Hid _ := t2
  clear t2
  have RM := resm T0.out T1.out T2.out
  have HM : Hid _ := RM
  clear RM
  by_cases ab : R (r0 + 1) ≤ R (r1 + 1)
  · have dab : decide (R (r0 + 1) ≤ R (r1 + 1)) = true := decide_eq_true ab
    by_cases ac : R (r0 + 1) ≤ R (r2 + 1)
    · have MS : Hid (missAt R r0 r1 r2 = r0) := by show missAt R r0 r1 r2 = r0; unfold missAt; rw [if_pos ⟨ab, ac⟩]
      have hcl := fun c ty k => clr_run w b N r0 c ty R r le0 k
      have z1 := fun k => clr_cell (r := r0) r le0 k
      have z2 := fun k => clr_free (r := r0) r k
      go_enter Try.func15, Try.ntmps15
      go_wp2
      go_quiet (fail)
      go_wp2
      go_ret
      exact fout_miss _ r HM.out MS.out
    · have bc : ¬ R (r1 + 1) < R (r2 + 1) := by omega
      have MS : Hid (missAt R r0 r1 r2 = r2) := by show missAt R r0 r1 r2 = r2; unfold missAt; rw [if_neg (fun q => ac q.2), if_neg bc]
      have hcl := fun c ty k => clr_run w b N r2 c ty R r le2 k
      have z1 := fun k => clr_cell (r := r2) r le2 k
      have z2 := fun k => clr_free (r := r2) r k
      go_enter Try.func15, Try.ntmps15
      go_wp2
      go_quiet (fail)
      go_wp2
      go_quiet (fail)
      go_wp2
      go_ret
      exact fout_miss _ r HM.out MS.out
  · have dab : decide (R (r0 + 1) ≤ R (r1 + 1)) = false := decide_eq_false ab
    by_cases bc : R (r1 + 1) < R (r2 + 1)
    · have MS : Hid (missAt R r0 r1 r2 = r1) := by show missAt R r0 r1 r2 = r1; unfold missAt; rw [if_neg (fun q => ab q.1), if_pos bc]
      have hcl := fun c ty k => clr_run w b N r1 c ty R r le1 k
      have z1 := fun k => clr_cell (r := r1) r le1 k
      have z2 := fun k => clr_free (r := r1) r k
      go_enter Try.func15, Try.ntmps15
      go_wp2
      go_quiet (fail)
      go_wp2
      go_quiet (fail)
      go_wp2
      go_ret
      exact fout_miss _ r HM.out MS.out
    · have MS : Hid (missAt R r0 r1 r2 = r2) := by show missAt R r0 r1 r2 = r2; unfold missAt; rw [if_neg (fun q => ab q.1), if_neg bc]
      have hcl := fun c ty k => clr_run w b N r2 c ty R r le2 k
      have z1 := fun k => clr_cell (r := r2) r le2 k
      have z2 := fun k => clr_free (r := r2) r k
      go_enter Try.func15, Try.ntmps15
      go_wp2
      go_quiet (fail)
      go_wp2
      go_quiet (fail)
      go_wp2
      go_ret
      exact fout_miss _ r HM.out MS.out

theorem find_any (w : World) (b bt cx : Nat) (R : Nat → Int) (hb2 : 2 ≤ bt) (hb16 : bt ≤ 16) (hcx : cx < 4294967296) (r : Row w b (16 * 2 ^ bt) (fun i => .int .u8 (R i))) :
    Calls Try.prog 15 #[.slice (some ⟨b, 0, none⟩) (16 * 2 ^ bt) (16 * 2 ^ bt), .int .i64 bt, .int .u32 cx] w fun e w' => FOut w b (16 * 2 ^ bt) R (home cx bt) (home cx bt ^^^ 16) (home cx bt ^^^ 32) ((cx : Int) / 2 ^ bt % 256) e w' := by
  have p := pow_le bt hb16
  have C := cand cx bt hb2
  have l := C.le0
  exact find_core w b (16 * 2 ^ bt) bt R cx _ _ _ _ hb2 hb16 (by omega) (by omega) (by omega) (home_find cx bt hcx hb2 hb16) (xor_find (home cx bt) 16 (by omega) (by omega)) (xor_find (home cx bt) 32 (by omega) (by omega)) rfl C r

theorem find_anyN (w : World) (b N bt cx : Nat) (R : Nat → Int) (hN : N = 16 * 2 ^ bt) (hb2 : 2 ≤ bt) (hb16 : bt ≤ 16) (hcx : cx < 4294967296) (r : Row w b N (fun i => .int .u8 (R i))) :
    Calls Try.prog 15 #[.slice (some ⟨b, 0, none⟩) N N, .int .i64 bt, .int .u32 cx] w fun e w' => FOut w b N R (home cx bt) (home cx bt ^^^ 16) (home cx bt ^^^ 32) ((cx : Int) / 2 ^ bt % 256) e w' := by
  subst hN
  exact find_any w b bt cx R hb2 hb16 hcx r

set_option maxHeartbeats 1000000 in
theorem zzfind_any (w : World) (b N bt cx : Nat) (R : Nat → Int) (hN : N = 16 * 2 ^ bt) (hb2 : 2 ≤ bt) (hb16 : bt ≤ 16) (hcx : cx < 4294967296) (r : Row w b N (fun i => .int .u8 (R i))) :
    Calls Try.prog 10 #[.slice (some ⟨b, 0, none⟩) N N, .int .i64 bt, .int .u32 cx] w fun e w' => FOut w b N R (home cx bt) (home cx bt ^^^ 16) (home cx bt ^^^ 32) ((cx : Int) / 2 ^ bt % 256) e w' := by
  have HN : Hid (N = 16 * 2 ^ bt) := hN
  clear hN
  go_enter Try.func10, Try.ntmps10
  go_wp2_with (go_at_call 15; refine (find_anyN w b N bt cx R HN.out hb2 hb16 hcx r).mono ?_; rintro e w' ⟨rfl, h2⟩)
  go_ret
  exact ⟨rfl, h2⟩
end Go.Proofs.Qxb6603276aR

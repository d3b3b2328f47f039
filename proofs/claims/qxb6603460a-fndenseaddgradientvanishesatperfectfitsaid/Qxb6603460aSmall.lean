import Derived.Test.Qxb6603460aRows
import Derived.Test.Qxb6603460aMem
import Derived.Test.Qxb6603460aPlain
import Derived.WalkKit
import Derived.ProofKit
import Derived.Outline
import Derived.LoopTactic
import Derived.WalkLawsBesides
import Derived.Deep.QuietTactic
import Derived.BigQuiet
import Derived.Deep.Light
import Derived.Deep.OwnRows
import Derived.Handy
import Derived.RegionTactic
import Derived.Lib.SliceRun
import Derived.Laws.CopyOwn
namespace Go.Proofs.Qxb6603460a
open Go.ChangeShapes Go.WideShapes Go.ChangeAt Go.RowKit
set_option linter.unusedVariables false

/-! ### rows -/
def iv (f : Nat → Int) (i : Nat) : Value := .int .i64 (f i)
def fv (f : Nat → Nat) (i : Nat) : Value := .float .f64 (f i)
/-- n values lie at (b, off) -/
def Src (w : World) (b off n : Nat) (v : Nat → Value) : Prop := b < w.heap.size ∧ ∀ j, j < n → w.cell? ⟨b, off + j, none⟩ = some (v j)
theorem Src.below {w w' : World} {b off n : Nat} {v : Nat → Value} (h : Src w b off n v) {B : Nat} (hb : Below B w w') (hB : b < B) : Src w' b off n v :=
  ⟨Nat.lt_of_lt_of_le h.1 hb.size, fun j hj => (hb.cell (p := ⟨b, off + j, none⟩) hB).trans (h.2 j hj)⟩
theorem Row.srcOf {w : World} {b n : Nat} {v : Nat → Value} (h : Row w b n v) : Src w b 0 n v :=
  ⟨h.lt, fun j hj => by rw [Nat.zero_add]; exact h.cell j hj⟩
theorem Row.keep {w w' : World} {b n : Nat} {v : Nat → Value} (h : Row w b n v) (k : Below w.heap.size w w') : Row w' b n v := h.of_block (k.block _ h.lt)
theorem made_get (z : Value) (n i : Nat) (h : i < n) : (madeCells #[z] n)[i]? = some z := by simp [madeCells, h, Nat.mod_one]
theorem row_made (w : World) (z : Value) (n : Nat) (e : TypeId) : Row (w.alloc (.cells (madeCells #[z] n) e)) w.heap.size n (fun _ => z) :=
  Row.new w _ e n (size_madeCells _ _) _ (fun i hi => made_get z n i hi)

def cellsOf (n : Nat) (v : Nat → Value) : List Value := (List.range n).map v
theorem len_cellsOf (n : Nat) (v : Nat → Value) : (cellsOf n v).length = n := by simp [cellsOf]
theorem cells_get (n : Nat) (v : Nat → Value) (j : Nat) (x : Value) (h : (cellsOf n v)[j]? = some x) : j < n ∧ x = v j := by
  unfold cellsOf at h
  rw [List.getElem?_map] at h
  rcases Nat.lt_or_ge j n with q | q
  · rw [List.getElem?_range q] at h
    exact ⟨q, by simpa using h.symm⟩
  · rw [List.getElem?_eq_none (by simpa using q)] at h
    simp at h
theorem clone_leaves (w : World) (n : Nat) (v : Nat → Value) (e : TypeId) (arr : Array Value) (ha : arr.size = n) :
    Row ((w.alloc (.cells arr e)).setRow w.heap.size (arr.toList.take 0 ++ (cellsOf n v ++ arr.toList.drop (0 + (cellsOf n v).length))).toArray) w.heap.size n v ∧
    Below w.heap.size w ((w.alloc (.cells arr e)).setRow w.heap.size (arr.toList.take 0 ++ (cellsOf n v ++ arr.toList.drop (0 + (cellsOf n v).length))).toArray) ∧
    ((w.alloc (.cells arr e)).setRow w.heap.size (arr.toList.take 0 ++ (cellsOf n v ++ arr.toList.drop (0 + (cellsOf n v).length))).toArray).heap.size = w.heap.size + 1 := by
  have hl : (arr.toList.take 0 ++ (cellsOf n v ++ arr.toList.drop (0 + (cellsOf n v).length))) = cellsOf n v := by
    rw [List.take_zero, List.nil_append, List.drop_of_length_le (by rw [len_cellsOf]; simp [ha]), List.append_nil]
  rw [hl]
  have hb : Below w.heap.size w (w.alloc (.cells arr e)) := (Below.refl _ _).alloc (Nat.le_refl _) _
  refine ⟨⟨(cellsOf n v).toArray, e, ?_, by simp [cellsOf], ?_⟩, below_setRow hb (Nat.le_refl _) _, by simp⟩
  · exact setRow_heap _ _ arr _ e (0, 0) (by show (w.heap.push _)[_]? = _; simp)
  · intro i hi
    simp [cellsOf, hi]
theorem clone_run {P : Program} (w : World) (dT ty elem b off n c : Nat) (v : Nat → Value) (z : Value) (hu : P.underlying dT = some (.slice elem)) (hs : (P.info? elem).map (·.size) = some 1) (h1 : ∀ i, (v i).oneCell' = true) (H : Src w b off n v) :
    ∃ w2, (Builtin.copy_ #[dT, dT] ty #[.slice (some ⟨w.heap.size, 0, none⟩) n n, .slice (some ⟨b, off, none⟩) n c]).run P (w.alloc (.cells (madeCells #[z] n) elem)) = .ok (.int .i64 n) w2 ∧
      Row w2 w.heap.size n v ∧ Below w.heap.size w w2 ∧ w2.heap.size = w.heap.size + 1 := by
  have hr := run_copy_row (P := P) (w.alloc (.cells (madeCells #[z] n) elem)) dT dT ty elem w.heap.size 0 n n ⟨b, off, none⟩ n c (madeCells #[z] n) elem (cellsOf n v) hu hs (by show (w.heap.push _)[_]? = _; simp)
    (by rw [len_cellsOf]; exact (Nat.min_self n).symm) (by
      intro j x hj
      obtain ⟨q, rfl⟩ := cells_get n v j x hj
      rw [add_plain]
      exact (World.cell?_alloc_lt w _ (a := ⟨b, off + j, none⟩) H.1).trans (H.2 j q)) (by rw [len_cellsOf, size_madeCells]; omega) (by
      intro x hx
      obtain ⟨j, hj⟩ := List.getElem?_of_mem hx
      obtain ⟨q, rfl⟩ := cells_get n v j x hj
      exact h1 j)
  rw [List.append_assoc] at hr
  refine ⟨_, ?_, clone_leaves w n v elem (madeCells #[z] n) (size_madeCells _ _)⟩
  rw [hr, len_cellsOf]
  rfl

theorem Try.info3 : (Try.prog.info? 3).map (fun i => (i.zero, i.size, i.bytes)) = some (some (.int .i64 0), 1, 8) := by kernel_rfl
theorem Try.info32 : (Try.prog.info? 32).map (fun i => (i.zero, i.size, i.bytes)) = some (some (.float .f64 0), 1, 8) := by kernel_rfl
theorem Try.size3 : (Try.prog.info? 3).map (·.size) = some 1 := by kernel_rfl
theorem Try.size32 : (Try.prog.info? 32).map (·.size) = some 1 := by kernel_rfl

/-- what a clone leaves -/
def COut (w : World) (n : Nat) (v : Nat → Value) (e : Ending) (w' : World) : Prop :=
  e = .returned (.slice (some ⟨w.heap.size, 0, none⟩) n n) ∧ Row w' w.heap.size n v ∧ Below w.heap.size w w' ∧ w'.heap.size = w.heap.size + 1
set_option maxHeartbeats 1000000 in
theorem cloneI (w : World) (b off n c : Nat) (f : Nat → Int) (hn : n ≤ 1048576) (H : Src w b off n (iv f)) :
    Calls Try.prog 10 #[.slice (some ⟨b, off, none⟩) n c] w fun e w' => COut w n (iv f) e w' := by
  have hmk := run_make_row' (P := Try.prog) 22 3 (.int .i64 0) 8 Try.underlying22 Try.info3 rfl .i64 .i64 n (by omega) (by omega)
  obtain ⟨w2, hcp, hl⟩ := clone_run (P := Try.prog) w 22 3 3 b off n c (iv f) (.int .i64 0) Try.underlying22 Try.size3 (fun _ => rfl) H
  have HL : Hid _ := hl
  clear hl
  have hnil : ∀ w, (binOp .eql 22 (.slice (some ⟨b, off, none⟩) n c) (.slice none 0 0)).run Try.prog w = .ok (.bool false) w := fun w => Lib.run_eql_slice_nil w 22 3 (some ⟨b, off, none⟩) n c 0 0 Try.underlying22
  go_enter Try.func10, Try.ntmps10
  go_wp2
  go_ret
  exact ⟨rfl, HL.out⟩
set_option maxHeartbeats 1000000 in
theorem cloneF (w : World) (b off n c : Nat) (f : Nat → Nat) (hn : n ≤ 1048576) (H : Src w b off n (fv f)) :
    Calls Try.prog 11 #[.slice (some ⟨b, off, none⟩) n c] w fun e w' => COut w n (fv f) e w' := by
  have hmk := run_make_row' (P := Try.prog) 23 32 (.float .f64 0) 8 Try.underlying23 Try.info32 rfl .i64 .i64 n (by omega) (by omega)
  obtain ⟨w2, hcp, hl⟩ := clone_run (P := Try.prog) w 23 3 32 b off n c (fv f) (.float .f64 0) Try.underlying23 Try.size32 (fun _ => rfl) H
  have HL : Hid _ := hl
  clear hl
  have hnil : ∀ w, (binOp .eql 23 (.slice (some ⟨b, off, none⟩) n c) (.slice none 0 0)).run Try.prog w = .ok (.bool false) w := fun w => Lib.run_eql_slice_nil w 23 32 (some ⟨b, off, none⟩) n c 0 0 Try.underlying23
  go_enter Try.func11, Try.ntmps11
  go_wp2
  go_ret
  exact ⟨rfl, HL.out⟩

/-! ### b1Finite, b1EqF -/
def FOut (x : Nat) (w : World) (e : Ending) (w' : World) : Prop := ∃ (r : Bool) (k : Nat), e = .returned (.bool r) ∧ (r = true → IsNum x) ∧ w' = w.drewN k
theorem fin_true {x r : Nat} (h : Res (Ieee.double.sub x x) r) (e : Ieee.double.order r 0 = some .eq) : IsNum x := by
  cases q : Ieee.double.read x with
  | number s m i => exact ⟨s, m, i, q⟩
  | infinity s =>
    exfalso
    have : Ieee.double.sub x x = none := by
      unfold Ieee.Format.sub
      rw [q]
      cases s <;> rfl
    rw [this] at h
    rw [nan_order h] at e
    cases e
  | nan s t =>
    exfalso
    have : Ieee.double.sub x x = none := by
      unfold Ieee.Format.sub
      rw [q]
      rfl
    rw [this] at h
    rw [nan_order h] at e
    cases e
theorem fmt : FloatKind.f64.format = Ieee.double := rfl
theorem eq_of {a b : Nat} (h : FloatKind.f64.format.order a b = some .eq) : Ieee.double.order a b = some .eq := h
set_option maxHeartbeats 1000000 in
theorem finite_any (x : Nat) (w : World) : Calls Try.prog 18 #[.float .f64 x] w fun e w' => FOut x w e w' := by
  obtain ⟨r, k, hr, res⟩ := run_fsub Try.prog 32 x x w
  have RS : Hid _ := res
  clear res
  go_enter Try.func18, Try.ntmps18
  go_wp2
  go_ret
  exact ⟨_, k, rfl, fun h => fin_true RS.out (eq_of (by simpa using h)), rfl⟩

def YOut (w : World) (e : Ending) (w' : World) : Prop := e = .returned (.bool true) ∧ w' = w
set_option maxHeartbeats 1000000 in
theorem eqF_any (a b : Nat) (w : World) (h : EqFl a b) : Calls Try.prog 19 #[.float .f64 a, .float .f64 b] w fun e w' => YOut w e w' := by
  rcases h with ⟨h1, h2⟩ | ⟨h1, h2⟩
  · have e1 : (FloatKind.f64.format.order a a != some .eq) = false := by rw [fmt]; simpa using h1
    have e2 : (FloatKind.f64.format.order a b == some .eq) = true := by rw [fmt]; simpa using h2
    clear h1 h2
    go_enter Try.func19, Try.ntmps19
    go_wp2
    go_ret
    exact ⟨rfl, rfl⟩
  · have e1 : (FloatKind.f64.format.order a a != some .eq) = true := by rw [fmt]; simpa using h1
    have e2 : (FloatKind.f64.format.order b b != some .eq) = true := by rw [fmt]; simpa using h2
    clear h1 h2
    go_enter Try.func19, Try.ntmps19
    go_wp2
    go_ret
    exact ⟨rfl, rfl⟩

/-! ### layerSize, layer -/
set_option maxHeartbeats 1000000 in
theorem size_any (i o p : Nat) (w : World) (hi : i ≤ 1048576) (ho : o ≤ 1048576) (e : (o : Int) * ((i : Int) + 1) = (p : Int)) (hp : p ≤ 1048576) :
    Calls Try.prog 27 #[.int .i64 i, .int .i64 o] w fun e w' => e = .returned (.int .i64 p) ∧ w' = w := by
  go_enter Try.func27, Try.ntmps27
  go_wp2
  go_ret
  exact ⟨rfl, rfl⟩

/-- the widths, as they lie -/
def wv (W : Nat → Nat) : Nat → Value := iv fun i => (W i : Int)
/-- what 'layer' gives: the weights and the bias of layer l -/
structure LSlices (po : Option Addr) (np : Nat) (W : Nat → Nat) (l : Nat) (wo bo : Option Addr) (c1 c2 : Nat) : Prop where
  wat : ∀ b, po = some ⟨b, 0, none⟩ → 0 < W l * W (l - 1) → wo = some ⟨b, offN W l, none⟩
  bat : ∀ b, po = some ⟨b, 0, none⟩ → 0 < W l → bo = some ⟨b, offN W l + W l * W (l - 1), none⟩
  wcap : W l * W (l - 1) ≤ c1
  wc : c1 ≤ np
  bcap : W l ≤ c2
  bc : c2 ≤ np
def LOut (w : World) (po : Option Addr) (np : Nat) (W : Nat → Nat) (l : Nat) (e : Ending) (w' : World) : Prop :=
  ∃ wo bo c1 c2, e = .returned (.tuple #[.slice wo (W l * W (l - 1)) c1, .slice bo (W l) c2]) ∧ LSlices po np W l wo bo c1 c2 ∧ Below w.heap.size w w' ∧ w'.heap.size = w.heap.size + 1

theorem add_at {po : Option Addr} {b : Nat} (e : po = some ⟨b, 0, none⟩) (k : Nat) : po.map (fun x => x.add k) = some ⟨b, k, none⟩ := by
  subst e
  show some ((⟨b, 0, none⟩ : Addr).add k) = _
  rw [add_plain, Nat.zero_add]
theorem lout {w w' : World} {po wo bo : Option Addr} {np l n1 n2 c1 c2 : Nat} {W : Nat → Nat} (h1 : n1 = W l * W (l - 1)) (h2 : n2 = W l) (L : LSlices po np W l wo bo c1 c2) (hb : Below w.heap.size w w') (hz : w'.heap.size = w.heap.size + 1) :
    LOut w po np W l (.returned (.tuple #[.slice wo n1 c1, .slice bo n2 c2])) w' := by
  subst h1 h2
  exact ⟨wo, bo, c1, c2, rfl, L, hb, hz⟩
theorem lbelow {w wr : World} (B : Below w.heap.size w wr) (a b : Nat) : Below w.heap.size w ((wr.drewN a).drewN b) := below_drewN (below_drewN B a) b

set_option maxHeartbeats 2000000 in
theorem layer_any (w : World) (bw n np l : Nat) (po : Option Addr) (W : Nat → Nat) (R : Row w bw n (wv W)) (hn : n ≤ 4096) (hl : 1 ≤ l) (hln : l < n) (hW : ∀ i, i < n → W i ≤ 1048576) (hnp : np ≤ 131072) (hoff : offN W n ≤ np) :
    Calls Try.prog 26 #[.agg #[.slice (some ⟨bw, 0, none⟩) n n], .slice po np np, .int .i64 l] w fun e w' => LOut w po np W l e w' := by
  have lb := R.lt
  go_enter Try.func26, Try.ntmps26
  go_wp2
  go_loopw [8, 9] (fun o k wr => ∃ j : Nat, 1 ≤ j ∧ j ≤ l ∧ k = .int .i64 j ∧ o = .int .i64 (offN W j) ∧ wr.cell? ⟨w.heap.size, 0, none⟩ = some (.slice (some ⟨bw, 0, none⟩) n n) ∧ Below w.heap.size w wr ∧ wr.heap.size = w.heap.size + 1) (fun _ k _ => l - (intOf k).toNat)
  case atStart => exact ⟨1, by omega, hl, rfl, rfl, by simp [go_sem], (Below.refl _ _).alloc (Nat.le_refl _) _, by simp⟩
  case round =>
    obtain ⟨j, hj1, hj2, rfl, rfl, cb, B, z⟩ := hrel
    have Z : Hid (wr.heap.size = w.heap.size + 1) := z
    clear z
    by_cases hlt : j < l
    · obtain ⟨i0, hi0⟩ : ∃ i, i + 1 = j := ⟨j - 1, by omega⟩
      have g1 := (B.cell (p := ⟨bw, j, none⟩) lb).trans (R.cell j (by omega))
      have g2 := (B.cell (p := ⟨bw, i0, none⟩) lb).trans (R.cell i0 (by omega))
      have h1 := hW j (by omega)
      have h2 := hW i0 (by omega)
      have m1 := offN_mono W (j + 1) n (by omega) (by omega)
      have sc := offN_succ W j hj1
      rw [show j - 1 = i0 from by omega] at sc
      obtain ⟨p, hp⟩ : ∃ p, W j * (W i0 + 1) = p := ⟨_, rfl⟩
      rw [hp] at sc
      have ep : ((W j : Nat) : Int) * (((W i0 : Nat) : Int) + 1) = (p : Int) := by rw [← hp]; simp
      have SC : Hid _ := sc
      have pb : offN W j + p ≤ 131072 := by omega
      have jn : ((j : Int) - 1) = (i0 : Int) := by omega
      have i0n : i0 < n := by omega
      have wz : IntKind.i64.wrap (i0 : Int) = (i0 : Int) := IntWalk.i64_in _ (by omega)
      have jN : j < n := by omega
      have hp1 : p ≤ 1048576 := by omega
      have jZ : (j : Int) < (n : Int) := by omega
      clear sc hp hi0
      unfold wv iv at g1 g2
      go_wp2
      go_quiet ((go_at_call 27; exact Calls.quiet_of_same (size_any (W i0) (W j) p _ h2 h1 ep hp1)))
      go_wp2
      go_roundw
      case rel => exact ⟨j + 1, by omega, by omega, by go_num, by rw [SC.out]; go_num, cb, below_drewN B _, Z.out⟩
      case measure => simp [intOf]; omega
    · have e : j = l := by omega
      subst e
      obtain ⟨i0, hi0⟩ : ∃ i, i + 1 = j := ⟨j - 1, by omega⟩
      have g1 := (B.cell (p := ⟨bw, j, none⟩) lb).trans (R.cell j (by omega))
      have g2 := (B.cell (p := ⟨bw, i0, none⟩) lb).trans (R.cell i0 (by omega))
      have h1 := hW j (by omega)
      have h2 := hW i0 (by omega)
      have m1 := offN_mono W (j + 1) n (by omega) (by omega)
      have sc := offN_succ W j hj1
      have j1 : j - 1 = i0 := by omega
      rw [j1] at sc
      obtain ⟨p, hp⟩ : ∃ p, W j * W i0 = p := ⟨_, rfl⟩
      have hq : W j * (W i0 + 1) = p + W j := by rw [Nat.mul_add, hp, Nat.mul_one]
      rw [hq] at sc
      have ep : ((W j : Nat) : Int) * ((W i0 : Nat) : Int) = (p : Int) := by rw [← hp]; simp
      have eq : ((W j : Nat) : Int) * (((W i0 : Nat) : Int) + 1) = ((p + W j : Nat) : Int) := by rw [← hq]; simp
      have pb : offN W j + p + W j ≤ np := by omega
      have jn : ((j : Int) - 1) = (i0 : Int) := by omega
      have i0n : i0 < n := by omega
      have HP : Hid _ := hp
      have J1 : Hid _ := j1
      clear sc hp hi0 hq j1 m1 hoff
      unfold wv iv at g1 g2
      by_cases z1 : np = offN W j
      · subst z1
        have p0 : p = 0 := by omega
        have w0 : W j = 0 := by omega
        go_wp2
        go_quiet (fail)
        go_wp2
        go_quiet (fail)
        go_wp2
        go_ret2
        have j1 := J1.out
        exact lout (by rw [w0]; simp) w0.symm ⟨fun b _ q => by rw [w0] at q; simp at q, fun b _ q => by omega, by rw [w0]; simp, by omega, by omega, by omega⟩ (lbelow B _ _) Z.out
      · by_cases z2 : np = offN W j + p
        · subst z2
          go_wp2
          go_quiet (fail)
          go_wp2
          go_quiet (fail)
          go_wp2
          go_ret2
          have j1 := J1.out
          have hp := HP.out
          exact lout (Eq.trans (by omega) (show p = W j * W (j - 1) by rw [j1, hp])) (by omega) ⟨fun b e q => add_at e _, fun b _ q => by omega, by rw [j1, hp]; omega, by omega, by omega, by omega⟩ (lbelow B _ _) Z.out
        · go_wp2
          go_quiet (fail)
          go_wp2
          go_quiet (fail)
          go_wp2
          go_ret2
          have j1 := J1.out
          have hp := HP.out
          exact lout (Eq.trans (by omega) (show p = W j * W (j - 1) by rw [j1, hp])) (by omega) ⟨fun b e q => add_at e _, fun b e q => (add_at e _).trans (by rw [j1, hp]), by rw [j1, hp]; omega, by omega, by omega, by omega⟩ (lbelow B _ _) Z.out
end Go.Proofs.Qxb6603460a

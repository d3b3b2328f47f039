import Derived.Test.Qxb6603154aPut
import Derived.Laws.CopyOwn
import Derived.Deep.OwnRows
namespace Go.Proofs.Qxb6603154a
open Go.ChangeShapes Go.WideShapes Go.ChangeAt Go.RowKit
set_option linter.unusedVariables false

/-! ### zzOnLine -/
set_option maxHeartbeats 1000000 in
theorem onLine_le (a b : Nat) (w : World) (hb : b ≤ 65536) (h : Anc a b) (swap : Bool) :
    Calls Try.prog 11 (if swap then #[.int .i64 b, .int .i64 a] else #[.int .i64 a, .int .i64 b]) w fun e w' => e = .returned (.bool true) ∧ w' = w := by
  have hle := h.le
  have HA : Hid (Anc a b) := h
  clear h
  cases swap
  · simp only [Bool.false_eq_true, if_false]
    go_enter Try.func11, Try.ntmps11
    go_wp2
    go_loop [6] (fun i => ∃ c : Nat, c ≤ 65536 ∧ i = .int .i64 c ∧ Anc a c) (fun i => (intOf i).toNat)
    case atStart => exact ⟨b, hb, rfl, HA.out⟩
    case round =>
      obtain ⟨c, hc, rfl, hanc⟩ := hrel
      have hl := hanc.le
      have HC : Hid (Anc a c) := hanc
      clear hanc
      by_cases lt : a < c
      · have pe : ((c : Int) - 1) / 2 = ((par c : Nat) : Int) := by unfold par; omega
        have := par_lt (i := c) (by omega)
        go_wp2
        go_round
        case rel => exact ⟨par c, by omega, by rw [pe], HC.out.step (by omega)⟩
        case measure => simp [intOf]; omega
      · have e : c = a := by omega
        subst e
        go_wp2
        go_ret
        exact ⟨rfl, rfl⟩
  · simp only [if_true]
    by_cases lt0 : a < b
    · go_enter Try.func11, Try.ntmps11
      go_wp2
      go_loop [6] (fun i => ∃ c : Nat, c ≤ 65536 ∧ i = .int .i64 c ∧ Anc a c) (fun i => (intOf i).toNat)
      case atStart => exact ⟨b, hb, rfl, HA.out⟩
      case round =>
        obtain ⟨c, hc, rfl, hanc⟩ := hrel
        have hl := hanc.le
        have HC : Hid (Anc a c) := hanc
        clear hanc
        by_cases lt : a < c
        · have pe : ((c : Int) - 1) / 2 = ((par c : Nat) : Int) := by unfold par; omega
          have := par_lt (i := c) (by omega)
          go_wp2
          go_round
          case rel => exact ⟨par c, by omega, by rw [pe], HC.out.step (by omega)⟩
          case measure => simp [intOf]; omega
        · have e : c = a := by omega
          subst e
          go_wp2
          go_ret
          exact ⟨rfl, rfl⟩
    · have e : a = b := by omega
      subst e
      clear hle
      go_enter Try.func11, Try.ntmps11
      go_wp2
      refine wp_loop_rounds 1 ?_
      rw [rounds_succ]
      go_wp2
      go_ret
      exact ⟨rfl, rfl⟩
theorem onLine_up (a b : Nat) (w : World) (hb : b ≤ 65536) (h : Anc a b) : Calls Try.prog 11 #[.int .i64 a, .int .i64 b] w fun e w' => e = .returned (.bool true) ∧ w' = w := onLine_le a b w hb h false
theorem onLine_down (a b : Nat) (w : World) (hb : b ≤ 65536) (h : Anc a b) : Calls Try.prog 11 #[.int .i64 b, .int .i64 a] w fun e w' => e = .returned (.bool true) ∧ w' = w := onLine_le a b w hb h true

/-! ### the clones -/
/-- n numbers of kind k lie at (b, off) -/
def Src (w : World) (b off n : Nat) (k : IntKind) (f : Nat → Int) : Prop := b < w.heap.size ∧ ∀ j, j < n → w.cell? ⟨b, off + j, none⟩ = some (.int k (f j))
theorem Src.below {w w' : World} {b off n : Nat} {k : IntKind} {f : Nat → Int} (h : Src w b off n k f) {B : Nat} (hb : Below B w w') (hB : b < B) : Src w' b off n k f :=
  ⟨Nat.lt_of_lt_of_le h.1 hb.size, fun j hj => (hb.cell (p := ⟨b, off + j, none⟩) hB).trans (h.2 j hj)⟩
theorem Row.srcOf {w : World} {b n : Nat} {k : IntKind} {f : Nat → Int} (h : Row w b n (fun i => .int k (f i))) : Src w b 0 n k f :=
  ⟨h.lt, fun j hj => by rw [Nat.zero_add]; exact h.cell j hj⟩

def cellsOf (k : IntKind) (n : Nat) (f : Nat → Int) : List Value := (List.range n).map fun i => .int k (f i)
theorem len_cellsOf (k : IntKind) (n : Nat) (f : Nat → Int) : (cellsOf k n f).length = n := by simp [cellsOf]
theorem cells_get (k : IntKind) (n : Nat) (f : Nat → Int) (j : Nat) (v : Value) (h : (cellsOf k n f)[j]? = some v) : j < n ∧ v = .int k (f j) := by
  unfold cellsOf at h
  rw [List.getElem?_map] at h
  rcases Nat.lt_or_ge j n with q | q
  · rw [List.getElem?_range q] at h
    exact ⟨q, by simpa using h.symm⟩
  · rw [List.getElem?_eq_none (by simpa using q)] at h
    simp at h
theorem clone_leaves (w : World) (n : Nat) (k : IntKind) (f : Nat → Int) (z : Value) (e : TypeId) (arr : Array Value) (ha : arr.size = n) :
    Row ((w.alloc (.cells arr e)).setRow w.heap.size (arr.toList.take 0 ++ (cellsOf k n f ++ arr.toList.drop (0 + (cellsOf k n f).length))).toArray) w.heap.size n (fun i => .int k (f i)) ∧
    Below w.heap.size w ((w.alloc (.cells arr e)).setRow w.heap.size (arr.toList.take 0 ++ (cellsOf k n f ++ arr.toList.drop (0 + (cellsOf k n f).length))).toArray) ∧
    ((w.alloc (.cells arr e)).setRow w.heap.size (arr.toList.take 0 ++ (cellsOf k n f ++ arr.toList.drop (0 + (cellsOf k n f).length))).toArray).heap.size = w.heap.size + 1 := by
  have hl : (arr.toList.take 0 ++ (cellsOf k n f ++ arr.toList.drop (0 + (cellsOf k n f).length))) = cellsOf k n f := by
    rw [List.take_zero, List.nil_append, List.drop_of_length_le (by rw [len_cellsOf]; simp [ha]), List.append_nil]
  rw [hl]
  have hb : Below w.heap.size w (w.alloc (.cells arr e)) := (Below.refl _ _).alloc (Nat.le_refl _) _
  refine ⟨⟨(cellsOf k n f).toArray, e, ?_, by simp [cellsOf], ?_⟩, below_setRow hb (Nat.le_refl _) _, by simp⟩
  · exact setRow_heap _ _ arr _ e (0, 0) (by show (w.heap.push _)[_]? = _; simp)
  · intro i hi
    simp [cellsOf, hi]

theorem Try.info32 : (Try.prog.info? 32).map (fun i => (i.zero, i.size, i.bytes)) = some (some (.int .u64 0), 1, 8) := by kernel_rfl
theorem Try.info21 : (Try.prog.info? 21).map (fun i => (i.zero, i.size, i.bytes)) = some (some (.int .i32 0), 1, 4) := by kernel_rfl
theorem Try.size32 : (Try.prog.info? 32).map (·.size) = some 1 := by kernel_rfl
theorem Try.size21 : (Try.prog.info? 21).map (·.size) = some 1 := by kernel_rfl

theorem clone_run {P : Program} (w : World) (dT ty elem b off n c : Nat) (k : IntKind) (f : Nat → Int) (z : Value) (hu : P.underlying dT = some (.slice elem)) (hs : (P.info? elem).map (·.size) = some 1) (H : Src w b off n k f) :
    ∃ w2, (Builtin.copy_ #[dT, dT] ty #[.slice (some ⟨w.heap.size, 0, none⟩) n n, .slice (some ⟨b, off, none⟩) n c]).run P (w.alloc (.cells (madeCells #[z] n) elem)) = .ok (.int .i64 n) w2 ∧
      Row w2 w.heap.size n (fun i => .int k (f i)) ∧ Below w.heap.size w w2 ∧ w2.heap.size = w.heap.size + 1 := by
  have hr := run_copy_row (P := P) (w.alloc (.cells (madeCells #[z] n) elem)) dT dT ty elem w.heap.size 0 n n ⟨b, off, none⟩ n c (madeCells #[z] n) elem (cellsOf k n f) hu hs (by show (w.heap.push _)[_]? = _; simp)
    (by rw [len_cellsOf]; exact (Nat.min_self n).symm) (by
      intro j v hj
      obtain ⟨q, rfl⟩ := cells_get k n f j v hj
      rw [add_plain]
      exact (World.cell?_alloc_lt w _ (a := ⟨b, off + j, none⟩) H.1).trans (H.2 j q)) (by rw [len_cellsOf, size_madeCells]; omega) (by
      intro v hv
      obtain ⟨j, hj⟩ := List.getElem?_of_mem hv
      obtain ⟨q, rfl⟩ := cells_get k n f j v hj
      rfl)
  rw [List.append_assoc] at hr
  refine ⟨_, ?_, clone_leaves w n k f z elem (madeCells #[z] n) (size_madeCells _ _)⟩
  rw [hr, len_cellsOf]
  rfl

set_option maxHeartbeats 1000000 in
theorem cloneU (w : World) (b off n c : Nat) (f : Nat → Int) (hn : n ≤ 65536) (H : Src w b off n .u64 f) :
    Calls Try.prog 8 #[.slice (some ⟨b, off, none⟩) n c] w fun e w' => e = .returned (.slice (some ⟨w.heap.size, 0, none⟩) n n) ∧ Row w' w.heap.size n (fun i => .int .u64 (f i)) ∧ Below w.heap.size w w' ∧ w'.heap.size = w.heap.size + 1 := by
  have hmk := run_make_row' (P := Try.prog) 22 32 (.int .u64 0) 8 Try.underlying22 Try.info32 rfl .i64 .i64 n (by omega) (by omega)
  obtain ⟨w2, hcp, hl⟩ := clone_run (P := Try.prog) w 22 3 32 b off n c .u64 f (.int .u64 0) Try.underlying22 Try.size32 H
  have HL : Hid _ := hl
  clear hl
  have hnil : ∀ w, (binOp .eql 22 (.slice (some ⟨b, off, none⟩) n c) (.slice none 0 0)).run Try.prog w = .ok (.bool false) w := fun w => Lib.run_eql_slice_nil w 22 32 (some ⟨b, off, none⟩) n c 0 0 Try.underlying22
  go_enter Try.func8, Try.ntmps8
  go_wp2
  go_ret
  exact ⟨rfl, HL.out⟩
set_option maxHeartbeats 1000000 in
theorem cloneI (w : World) (b off n c : Nat) (f : Nat → Int) (hn : n ≤ 65536) (H : Src w b off n .i32 f) :
    Calls Try.prog 9 #[.slice (some ⟨b, off, none⟩) n c] w fun e w' => e = .returned (.slice (some ⟨w.heap.size, 0, none⟩) n n) ∧ Row w' w.heap.size n (fun i => .int .i32 (f i)) ∧ Below w.heap.size w w' ∧ w'.heap.size = w.heap.size + 1 := by
  have hmk := run_make_row' (P := Try.prog) 23 21 (.int .i32 0) 4 Try.underlying23 Try.info21 rfl .i64 .i64 n (by omega) (by omega)
  obtain ⟨w2, hcp, hl⟩ := clone_run (P := Try.prog) w 23 3 21 b off n c .i32 f (.int .i32 0) Try.underlying23 Try.size21 H
  have HL : Hid _ := hl
  clear hl
  have hnil : ∀ w, (binOp .eql 23 (.slice (some ⟨b, off, none⟩) n c) (.slice none 0 0)).run Try.prog w = .ok (.bool false) w := fun w => Lib.run_eql_slice_nil w 23 21 (some ⟨b, off, none⟩) n c 0 0 Try.underlying23
  go_enter Try.func9, Try.ntmps9
  go_wp2
  go_ret
  exact ⟨rfl, HL.out⟩
end Go.Proofs.Qxb6603154a

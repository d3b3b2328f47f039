import Derived.Test.Qxb6603460aTotal
namespace Go.Proofs.Qxb6603460a
open Go.ChangeShapes Go.WideShapes Go.ChangeAt Go.RowKit
set_option linter.unusedVariables false

/-- the law comes back with a yes, nothing that was there has turned -/
def Good (w : World) (e : Ending) (w' : World) : Prop := e = .returned (.bool true) ∧ Below w.heap.size w w'
theorem good {w w' : World} (h : Below w.heap.size w w') : Good w (.returned (.bool true)) w' := ⟨rfl, h⟩
/-- some Bool comes back, nothing turns -/
def Any (w : World) (e : Ending) (w' : World) : Prop := ∃ r : Bool, e = .returned (.bool r) ∧ w' = w
set_option maxHeartbeats 1000000 in
theorem bytes_any (w : World) (a0 a1 a2 a3 : Option Addr) (l0 c0 l1 c1 l2 c2 l3 c3 : Nat) (h0 : l0 ≤ maxLen) (h1 : l1 ≤ maxLen) (h2 : l2 ≤ maxLen) (h3 : l3 ≤ maxLen) :
    Calls Try.prog 23 #[.slice a0 l0 c0, .slice a1 l1 c1, .slice a2 l2 c2, .slice a3 l3 c3] w fun e w' => Any w e w' := by
  unfold maxLen at h0 h1 h2 h3
  go_enter Try.func23, Try.ntmps23
  go_wp2
  all_goals (go_ret; exact ⟨_, rfl, rfl⟩)

/-- n floats lie behind the slice, if n is not 0 -/
def FSrc (w : World) (a : Option Addr) (n : Nat) (f : Nat → Nat) : Prop := 0 < n → ∃ b off, a = some ⟨b, off, none⟩ ∧ Src w b off n (fv f)
theorem FSrc.keep {w w' : World} {a : Option Addr} {n : Nat} {f : Nat → Nat} (h : FSrc w a n f) (k : Below w.heap.size w w') : FSrc w' a n f := by
  intro q
  obtain ⟨b, off, e, s⟩ := h q
  exact ⟨b, off, e, s.below k s.1⟩
theorem Fl.src {w : World} {a : Option Addr} {n : Nat} {f : Nat → Nat} (h : Fl w a n f) : FSrc w a n f := by
  intro q
  obtain ⟨b, e, r⟩ := h q
  exact ⟨b, 0, e, r.srcOf⟩
/-- what the clone of a slice of floats leaves -/
def FCl (w : World) (n : Nat) (f : Nat → Nat) (e : Ending) (w' : World) : Prop :=
  ∃ co, e = .returned (.slice co n n) ∧ (0 < n → co = some ⟨w.heap.size, 0, none⟩ ∧ Row w' w.heap.size n (fv f)) ∧ Below w.heap.size w w' ∧ ∀ b, co = some ⟨b, 0, none⟩ → b < w'.heap.size
theorem clone_run0 {P : Program} (w : World) (dT ty elem n c : Nat) (n0 : n = 0) (a : Addr) (z : Value) (hu : P.underlying dT = some (.slice elem)) (hs : (P.info? elem).map (·.size) = some 1) :
    ∃ w2, (Builtin.copy_ #[dT, dT] ty #[.slice (some ⟨w.heap.size, 0, none⟩) n n, .slice (some a) n c]).run P (w.alloc (.cells (madeCells #[z] n) elem)) = .ok (.int .i64 n) w2 ∧ Below w.heap.size w w2 ∧ w2.heap.size = w.heap.size + 1 := by
  subst n0
  have hr := run_copy_row (P := P) (w.alloc (.cells (madeCells #[z] 0) elem)) dT dT ty elem w.heap.size 0 0 0 a 0 c (madeCells #[z] 0) elem [] hu hs (by show (w.heap.push _)[_]? = _; simp)
    (by simp) (by intro j x hj; simp at hj) (by simp) (by intro x hx; simp at hx)
  exact ⟨_, hr, below_setRow ((Below.refl _ _).alloc (Nat.le_refl _) _) (Nat.le_refl _) _, by simp⟩
set_option maxHeartbeats 1000000 in
theorem cloneF_any (w : World) (a : Option Addr) (n c : Nat) (f : Nat → Nat) (hn : n ≤ 1048576) (H : FSrc w a n f) :
    Calls Try.prog 11 #[.slice a n c] w fun e w' => FCl w n f e w' := by
  by_cases n0 : n = 0
  · have N0 : Hid (n = 0) := n0
    cases a with
    | none =>
      have hnil : ∀ w, (binOp .eql 23 (.slice none n c) (.slice none 0 0)).run Try.prog w = .ok (.bool true) w := fun w => Lib.run_eql_slice_nil w 23 32 none n c 0 0 Try.underlying23
      clear n0
      go_enter Try.func11, Try.ntmps11
      go_wp2
      go_ret
      exact ⟨none, by rw [N0.out]; rfl, fun q => absurd q (by have := N0.out; omega), Below.refl _ _, fun b q => by cases q⟩
    | some x =>
      have hmk := run_make_row' (P := Try.prog) 23 32 (.float .f64 0) 8 Try.underlying23 Try.info32 rfl .i64 .i64 n (by omega) (by omega)
      obtain ⟨w2, hcp, hl⟩ := clone_run0 (P := Try.prog) w 23 3 32 n c n0 x (.float .f64 0) Try.underlying23 Try.size32
      have HL : Hid _ := hl
      clear hl n0
      have hnil : ∀ w, (binOp .eql 23 (.slice (some x) n c) (.slice none 0 0)).run Try.prog w = .ok (.bool false) w := fun w => Lib.run_eql_slice_nil w 23 32 (some x) n c 0 0 Try.underlying23
      go_enter Try.func11, Try.ntmps11
      go_wp2
      go_ret
      exact ⟨_, rfl, fun q => absurd q (by have := N0.out; omega), HL.out.1, fun b q => by
        have z := HL.out.2
        have e : w.heap.size = b := by simpa using q
        omega⟩
  · obtain ⟨b, off, rfl, S⟩ := H (by omega)
    refine (cloneF w b off n c f hn S).mono ?_
    rintro e w' ⟨rfl, R, B, z⟩
    exact ⟨_, rfl, fun _ => ⟨rfl, R⟩, B, fun b q => by
      have e : w.heap.size = b := by simpa using q
      omega⟩

theorem levels_w (w : World) (bw n np cx la : Nat) (po xo : Option Addr) (W Pm X : Nat → Nat) (R : Row w bw n (wv W)) (hla : la + 1 = n) (hn : n ≤ 4096) (hW : ∀ i, i < n → W i ≤ 1048576) (hnp : np ≤ 131072) (hoff : offN W n ≤ np)
    (FP : Fl w po np Pm) (FX : Fl w xo (W 0) X) :
    Calls Try.prog 12 #[.slice (some ⟨bw, 0, none⟩) n n, .slice po np np, .slice xo (W 0) cx] w fun e w' => VOut w xo n W (lev la W Pm X) e w' := by
  have L := levels_any w bw n np cx la po xo W Pm X R hla hn hW hnp hoff FP FX
  have L' : Hid _ := L
  clear L R hla hn hW hnp hoff FP FX
  go_enter Try.func12, Try.ntmps12
  go_wp2_with fail
  refine Calls.mono L'.out ?_
  rintro e w1 ⟨ba, av, v, rfl, h⟩
  go_wp2
  go_ret
  exact ⟨ba, av, v, rfl, h⟩
theorem grad_w (w : World) (bw n np ng cx ct la bg : Nat) (po xo go_ to : Option Addr) (W Pm X T G0 : Nat → Nat) (U : Nat → Nat → Nat) (R : Row w bw n (wv W)) (hla : la + 1 = n) (hn : n ≤ 4096) (hW : ∀ i, i < n → W i ≤ 1048576) (hnp : np ≤ 131072) (hng : ng ≤ 131072) (hoff : offN W n ≤ np) (hoffg : offN W n ≤ ng)
    (FP : Fl w po np Pm) (FX : Fl w xo (W 0) X) (FT : Fl w to (W la) T) (SG : GSt w go_ bg ng G0) (lg : bg < w.heap.size)
    (hU : ∀ l, l < n → ∀ i, i < W l → Res (lev la W Pm X l i) (U l i) ∧ IsNum (U l i)) (hT : ∀ i, i < W la → T i = U la i) (hP : ∀ i, i < offN W n → IsNum (Pm i))
    (d1 : bw ≠ bg) (d2 : ∀ b, po = some ⟨b, 0, none⟩ → b ≠ bg) (d3 : ∀ b, xo = some ⟨b, 0, none⟩ → b ≠ bg) :
    Calls Try.prog 22 #[.slice (some ⟨bw, 0, none⟩) n n, .slice po np np, .slice go_ ng ng, .slice xo (W 0) cx, .slice to (W la) ct] w fun e w' => AOut w go_ bg ng G0 e w' := by
  have L := grad_any w bw n np ng cx ct la bg po xo go_ to W Pm X T G0 U R hla hn hW hnp hng hoff hoffg FP FX FT SG lg hU hT hP d1 d2 d3
  have L' : Hid _ := L
  clear L R hla hn hW hnp hng hoff hoffg FP FX FT SG lg hU hT hP d1 d2 d3
  go_enter Try.func22, Try.ntmps22
  go_wp2_with fail
  refine Calls.mono L'.out ?_
  rintro e w1 ⟨rfl, h⟩
  go_wp2
  go_end0
  exact ⟨rfl, h⟩
end Go.Proofs.Qxb6603460a

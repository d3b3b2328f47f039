import Derived.Test.Qxb6603460aRows
import Derived.WalkKit
import Derived.ProofKit
import Derived.OpenShut
import Derived.ShutString
import Derived.ChangeOld
import Derived.Below
import Derived.Deep.Slices
import Derived.Test.Qxb6603460aMain
namespace Go.Proofs.Qxb6603460a.fnDenseAddGradientVanishesAtPerfectFit
open Go.ChangeShapes Go.WideShapes Go.ChangeAt Go.RowKit
set_option linter.unusedVariables false

theorem own : ownKnob Try.prog.godebug = none := by kernel_rfl
theorem laidOut : laidOutB Try.prog = true := by kernel_rfl

/-- what the walk is told of a slice of integers that came in -/
def IsRow (k : IntKind) (w : World) (a : Option Addr) (len cap : Nat) (zs : List Int) : Prop :=
  (a = none ∧ len = 0 ∧ cap = 0 ∧ zs = []) ∨
  ∃ x, a = some x ∧ len ≤ cap ∧ cap ≤ maxLen ∧ zs.length = cap ∧ (∀ i, i < zs.length → w.cell? (x.add i) = some (.int k (zs.getD i 0))) ∧ ∀ n ∈ zs, (Lit.int k n).wf = true
/-- what the walk is told of a slice of floats that came in -/
def IsFRow (w : World) (a : Option Addr) (len cap : Nat) (zs : Nat → Nat) : Prop :=
  (a = none ∧ len = 0 ∧ cap = 0) ∨
  ∃ x, a = some x ∧ len ≤ cap ∧ cap ≤ maxLen ∧ ∀ i, i < cap → w.cell? (x.add i) = some (.float .f64 (zs i))

theorem lt_of_cell {w : World} {b off : Nat} {v : Value} (h : w.cell? ⟨b, off, none⟩ = some v) : b < w.heap.size := by
  rcases Nat.lt_or_ge b w.heap.size with q | q
  · exact q
  · unfold World.cell? at h
    simp [Array.getElem?_eq_none q] at h
theorem src_of {w : World} {a : Option Addr} {len cap : Nat} {zs : List Int} (h : IsRow .i64 w a len cap zs) (h0 : 0 < len) :
    ∃ b off, a = some ⟨b, off, none⟩ ∧ Src w b off len (iv fun i => zs.getD i 0) := by
  rcases h with ⟨_, h1, _, _⟩ | ⟨x, rfl, h1, h2, h3, h4, h5⟩
  · omega
  · obtain ⟨b, off, spot⟩ := x
    have c0 := h4 0 (by omega)
    have hspot : spot = none := by simpa [Addr.add] using World.cell?_spot c0
    subst hspot
    rw [add_plain] at c0
    refine ⟨b, off, rfl, lt_of_cell c0, fun j hj => ?_⟩
    rw [← add_plain]
    exact h4 j (by omega)
theorem fsrc_of {w : World} {a : Option Addr} {len cap : Nat} {zs : Nat → Nat} (h : IsFRow w a len cap zs) : FSrc w a len zs := by
  intro h0
  rcases h with ⟨_, h1, _⟩ | ⟨x, rfl, h1, h2, h4⟩
  · omega
  · obtain ⟨b, off, spot⟩ := x
    have c0 := h4 0 (by omega)
    have hspot : spot = none := by simpa [Addr.add] using World.cell?_spot c0
    subst hspot
    rw [add_plain] at c0
    refine ⟨b, off, rfl, lt_of_cell c0, fun j hj => ?_⟩
    rw [← add_plain]
    exact h4 j (by omega)
theorem max_of {k : IntKind} {w : World} {a : Option Addr} {len cap : Nat} {zs : List Int} (h : IsRow k w a len cap zs) : len ≤ maxLen := by
  rcases h with ⟨_, h1, _, _⟩ | ⟨x, rfl, h1, h2, h3, h4, h5⟩
  · rw [h1]; exact Nat.zero_le _
  · exact Nat.le_trans h1 h2
theorem fmax_of {w : World} {a : Option Addr} {len cap : Nat} {zs : Nat → Nat} (h : IsFRow w a len cap zs) : len ≤ maxLen := by
  rcases h with ⟨_, h1, _⟩ | ⟨x, rfl, h1, h2, h4⟩
  · rw [h1]; exact Nat.zero_le _
  · exact Nat.le_trans h1 h2

section
variable {H : Type} {enc : TypeId × Value → H} {P : Program} {w : World} {base : Nat} {held : Bool} {fuel : Nat} {t e : TypeId} {cs : List Value} {x : DataW H × List MemPlace}
theorem trod_float {spare : Nat → Bool} {k : FloatKind} (ht : P.underlying t = some (.float k)) (h : DataW.trod enc P w base spare held fuel t cs = some x) : ∃ n, cs = [.float k n] := by
  cases fuel with
  | zero => simp [DataW.trod] at h
  | succ n =>
    unfold DataW.trod at h
    rw [ht] at h
    split at h <;> simp_all
theorem open_floats (ht : P.underlying t = some (.slice e)) (he : P.underlying e = some (.float .f64)) (hc : P.cellsOf e = 1) {a : Option Addr} {len cap : Nat}
    (h : DataW.trod enc P w base (fun _ => true) held fuel t [.slice a len cap] = some x) : ∃ zs, IsFRow w a len cap zs := by
  rcases Go.Deep.open_slice1 ht hc h with ⟨h0, _⟩ | ⟨a', len', cap', m, n, V, D, Pl, hcs, hb, hl, hm, hmm, rfl, hx⟩
  · simp at h0
    exact ⟨fun _ => 0, .inl h0⟩
  · simp at hcs
    obtain ⟨rfl, rfl, rfl⟩ := hcs
    simp only [if_true] at hmm
    subst hmm
    refine ⟨fun i => match V i with | .float _ b => b | _ => 0, .inr ⟨a', rfl, hl, hm, fun i hi => ?_⟩⟩
    obtain ⟨b, hb⟩ := trod_float he (hx i hi).2
    rw [(hx i hi).1]
    simp at hb
    simp only [hb]
end

/-! ### the walk -/
theorem walk (a0 : Option Addr) (len0 cap0 : Nat) (z0 : List Int) (a1 : Option Addr) (len1 cap1 : Nat) (z1 : Nat → Nat) (a2 : Option Addr) (len2 cap2 : Nat) (z2 : Nat → Nat) (a3 : Option Addr) (len3 cap3 : Nat) (z3 : Nat → Nat) (w : World) (w0 : IsRow .i64 w a0 len0 cap0 z0) (w1 : IsFRow w a1 len1 cap1 z1) (w2 : IsFRow w a2 len2 cap2 z2) (w3 : IsFRow w a3 len3 cap3 z3) :
    Calls Try.prog 7 #[.slice a0 len0 cap0, .slice a1 len1 cap1, .slice a2 len2 cap2, .slice a3 len3 cap3] w fun e w' => e = .returned (.bool true) ∧ Below w.heap.size w w' := by
  by_cases ok : len0 ≤ 131072 ∧ len1 ≤ 131072 ∧ len2 ≤ 131072 ∧ len3 ≤ 131072 ∧ 8 * (len0 + len1 + len2 + len3) ≤ 1048576 ∧ 1 ≤ len0
  · obtain ⟨k0, k1, k2, k3, k4, k5⟩ := ok
    obtain ⟨b0, o0, rfl, s0⟩ := src_of w0 (by omega)
    exact (main w b0 o0 cap0 len0 cap1 len1 cap2 len2 cap3 len3 a1 a2 a3 _ z1 z2 z3 k5 k0 k1 k2 k3 k4 s0 (fsrc_of w1) (fsrc_of w2) (fsrc_of w3)).mono fun e w' h => h
  · exact (early w a0 a1 a2 a3 len0 cap0 len1 cap1 len2 cap2 len3 cap3 (max_of w0) (fmax_of w1) (fmax_of w2) (fmax_of w3) ok).mono fun e w' h => h

/-! ### the row's step -/
set_option maxRecDepth 100000 in
theorem lifted (os : Os) (started : os.Started) (H : Type) (enc : TypeId × Value → H) :
    ReturnsInHanded {} Try.checked os 7 .any (Rows.fnDenseAddGradientVanishesAtPerfectFitSpec.pre6 enc Try.prog Try.f7 Rows.fnDenseAddGradientVanishesAtPerfectFitRow.domain false) (Rows.fnDenseAddGradientVanishesAtPerfectFitSpec.post enc Try.prog Try.f7 false true false false) := by
  refine returnsInHanded_of_change (C := Try.checked) own started (by kernel_rfl) Try.func7
    (ChangeSpec.witness6 (enc := enc) (C := Try.checked) false ⟨#[], #[.slice none 0 0, .slice none 0 0, .slice none 0 0, .slice none 0 0], []⟩ 8 (by kernel_rfl) (by kernel_rfl) (by kernel_rfl) (by kernel_rfl)) ?_
  intro W base args ds gs before hval0 hW hcnd _
  have hval : ∀ (j : Nat) t v, Try.f7.params[j]? = some t → args[j]? = some v → Value.okWide Try.prog W .any base t v := hval0
  have hW' := hW
  obtain ⟨p, q, hA0, hV, rfl, hfz, hnd⟩ := hW
  have hA : DataW.TrodAll enc Try.prog W 0 (fun _ => true) true Try.f7.params.toList args.toList ds p := hA0
  rw [Try.params7] at hA hval
  obtain ⟨v0, vs0, d0, ds0, p0, q0, hargs, rfl, rfl, h0, r0⟩ := trodAll_cons hA
  obtain ⟨v1, vs1, d1, ds1, p1, q1, rfl, rfl, rfl, h1, r1⟩ := trodAll_cons r0
  obtain ⟨v2, vs2, d2, ds2, p2, q2, rfl, rfl, rfl, h2, r2⟩ := trodAll_cons r1
  obtain ⟨v3, vs3, d3, ds3, p3, q3, rfl, rfl, rfl, h3, r3⟩ := trodAll_cons r2
  obtain ⟨rfl, rfl, rfl⟩ := trodAll_nil r3
  obtain rfl : args = #[v0, v1, v2, v3] := by cases args; simp_all
  obtain ⟨rfl, rfl⟩ := trodVars_none hV
  obtain ⟨a0, len0, cap0, rfl⟩ := okWide_slice Try.underlying22 (hval 0 22 v0 rfl rfl)
  have k0 := h0
  have lt0 : ∀ x ∈ p0, x.block < W.heap.size := by obtain ⟨m, hm⟩ := k0; exact DataW.trod_lt m _ _ _ hm
  obtain ⟨z0, w0⟩ : ∃ zs, IsRow .i64 W a0 len0 cap0 zs := by
    obtain ⟨fuel, hf⟩ := h0
    rcases open_ints Try.underlying22 Try.underlying3 (by kernel_rfl) hf with ⟨hcs, _⟩ | ⟨x, l, c, zs, hcs, _, hl, hm, hz, _, hcell, hwz⟩
    · simp [Value.cells] at hcs
      obtain ⟨rfl, rfl, rfl⟩ := hcs
      exact ⟨[], .inl ⟨rfl, rfl, rfl, rfl⟩⟩
    · simp [Value.cells] at hcs
      obtain ⟨rfl, rfl, rfl⟩ := hcs
      exact ⟨zs, .inr ⟨_, rfl, hl, hm, by simpa using hz, hcell, hwz⟩⟩
  obtain ⟨a1, len1, cap1, rfl⟩ := okWide_slice Try.underlying23 (hval 1 23 v1 rfl rfl)
  have k1 := h1
  have lt1 : ∀ x ∈ p1, x.block < W.heap.size := by obtain ⟨m, hm⟩ := k1; exact DataW.trod_lt m _ _ _ hm
  obtain ⟨z1, w1⟩ : ∃ zs, IsFRow W a1 len1 cap1 zs := by
    obtain ⟨fuel, hf⟩ := h1
    exact open_floats Try.underlying23 Try.underlying32 (by kernel_rfl) (by simpa [Value.cells] using hf)
  obtain ⟨a2, len2, cap2, rfl⟩ := okWide_slice Try.underlying23 (hval 2 23 v2 rfl rfl)
  have k2 := h2
  have lt2 : ∀ x ∈ p2, x.block < W.heap.size := by obtain ⟨m, hm⟩ := k2; exact DataW.trod_lt m _ _ _ hm
  obtain ⟨z2, w2⟩ : ∃ zs, IsFRow W a2 len2 cap2 zs := by
    obtain ⟨fuel, hf⟩ := h2
    exact open_floats Try.underlying23 Try.underlying32 (by kernel_rfl) (by simpa [Value.cells] using hf)
  obtain ⟨a3, len3, cap3, rfl⟩ := okWide_slice Try.underlying23 (hval 3 23 v3 rfl rfl)
  have k3 := h3
  have lt3 : ∀ x ∈ p3, x.block < W.heap.size := by obtain ⟨m, hm⟩ := k3; exact DataW.trod_lt m _ _ _ hm
  obtain ⟨z3, w3⟩ : ∃ zs, IsFRow W a3 len3 cap3 zs := by
    obtain ⟨fuel, hf⟩ := h3
    exact open_floats Try.underlying23 Try.underlying32 (by kernel_rfl) (by simpa [Value.cells] using hf)
  clear hA0 hval0
  refine (walk a0 len0 cap0 z0 a1 len1 cap1 z1 a2 len2 cap2 z2 a3 len3 cap3 z3 W w0 w1 w2 w3).mono fun e W' ⟨he, bel⟩ => ?_
  subst he
  exact ⟨_, rfl, _, _, _, [], _, [], hW', trodAll_mk1 (shut_bool Try.underlying4 _), (trodAll_cons_mk (Below.trod laidOut (by kernel_rfl) (of_decide_eq_true (by kernel_rfl)) k0 bel lt0) (trodAll_cons_mk (Below.trod laidOut (by kernel_rfl) (of_decide_eq_true (by kernel_rfl)) k1 bel lt1) (trodAll_cons_mk (Below.trod laidOut (by kernel_rfl) (of_decide_eq_true (by kernel_rfl)) k2 bel lt2) (trodAll_cons_mk (Below.trod laidOut (by kernel_rfl) (of_decide_eq_true (by kernel_rfl)) k3 bel lt3) trodAll_mk0)))), rfl, bel.frame _, fun h => by cases h⟩

theorem over : Rows.fnDenseAddGradientVanishesAtPerfectFitRow.holds Try.pinned (OpenSpec.ofChange Rows.fnDenseAddGradientVanishesAtPerfectFitSpec) :=
  OpenClaim.holds_of_wide 7 Try.f7 rfl rfl rfl rfl rfl rfl rfl ⟨rfl, rfl, rfl, rfl, rfl⟩ rfl rfl rfl rfl rfl (by kernel_rfl) Try.func7 (by kernel_rfl)
    (of_decide_eq_true (by kernel_rfl)) (by unfold Func.isWrapper; first | (rw [if_pos (by decide +kernel)]; kernel_rfl) | (rw [if_neg (by decide +kernel)]; exact ⟨rfl, rfl⟩))
    (fun os started H enc _ => lifted os started H enc)

/-- THE STATEMENT -/
theorem proved : Rows.FnDenseAddGradientVanishesAtPerfectFitSaid := over
#print axioms proved
end Go.Proofs.Qxb6603460a.fnDenseAddGradientVanishesAtPerfectFit

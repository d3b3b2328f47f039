import Derived.Below
import Derived.Carry
import Derived.Deep.Draws
/-! Rows of cells, as functions from places to values; what a stretch of the run leaves alone. No Go text in sight. -/
namespace Go.Proofs.Qxb6603460a
open Go.RowKit

/-- Block b is a row of n cells, none of them frozen; cell i holds v i. -/
def Row (w : World) (b n : Nat) (v : Nat → Value) : Prop := ∃ arr t, w.heap[b]? = some (.cells arr t (0, 0)) ∧ arr.size = n ∧ ∀ i, i < n → arr[i]? = some (v i)

theorem Row.lt {w : World} {b n : Nat} {v : Nat → Value} (h : Row w b n v) : b < w.heap.size := by
  obtain ⟨arr, t, h, _⟩ := h
  rcases Nat.lt_or_ge b w.heap.size with h' | h'
  · exact h'
  · simp [Array.getElem?_eq_none h'] at h
theorem Row.cell {w : World} {b n : Nat} {v : Nat → Value} (h : Row w b n v) (i : Nat) (hi : i < n) : w.cell? ⟨b, i, none⟩ = some (v i) := by
  obtain ⟨arr, t, h, _, h2⟩ := h
  simp [World.cell?, h, h2 i hi]
theorem Row.free {w : World} {b n : Nat} {v : Nat → Value} (h : Row w b n v) (i : Nat) : w.frozen? ⟨b, i, none⟩ = false := by
  obtain ⟨arr, t, h, _, h2⟩ := h
  simp [World.frozen?, h]
theorem Row.congr {w : World} {b n : Nat} {v v' : Nat → Value} (h : Row w b n v) (e : ∀ i, i < n → v i = v' i) : Row w b n v' := by
  obtain ⟨arr, t, h, h1, h2⟩ := h
  exact ⟨arr, t, h, h1, fun i hi => (h2 i hi).trans (by rw [e i hi])⟩
theorem Row.of_block {w w' : World} {b n : Nat} {v : Nat → Value} (h : Row w b n v) (e : w'.heap[b]? = w.heap[b]?) : Row w' b n v := by
  obtain ⟨arr, t, h, h1, h2⟩ := h
  exact ⟨arr, t, e.trans h, h1, h2⟩
theorem Row.other {w : World} {b n : Nat} {v : Nat → Value} (h : Row w b n v) {a : Addr} (ha : b ≠ a.block) (x : Value) : Row (w.setCell a x) b n v :=
  h.of_block (Below.heap_setCell _ _ _ _ ha)
theorem Row.alloc {w : World} {b n : Nat} {v : Nat → Value} (h : Row w b n v) (o : Obj) : Row (w.alloc o) b n v :=
  h.of_block (Below.heap_alloc _ _ _ h.lt)
theorem Row.drew {w : World} {b n : Nat} {v : Nat → Value} (h : Row w b n v) : Row w.drew b n v := h
theorem Row.drewN {w : World} {b n : Nat} {v : Nat → Value} (h : Row w b n v) (k : Nat) : Row (w.drewN k) b n v := h
theorem Row.set {w : World} {b n : Nat} {v : Nat → Value} (h : Row w b n v) (i : Nat) (x : Value) : Row (w.setCell ⟨b, i, none⟩ x) b n (fun j => if j = i then x else v j) := by
  have hlt := h.lt
  obtain ⟨arr, t, h, h1, h2⟩ := h
  have h' : w.heap[b] = .cells arr t (0, 0) := by simpa [Array.getElem?_eq_getElem hlt] using h
  refine ⟨arr.setIfInBounds i x, t, ?_, by simpa using h1, ?_⟩
  · show (w.heap.modify b _)[b]? = _
    rw [Array.getElem?_eq_getElem (by simpa using hlt), Array.getElem_modify_self, h']
    rfl
  · intro j hj
    rw [Array.getElem?_setIfInBounds]
    by_cases e : i = j
    · subst e
      simp [h1, hj]
    · rw [if_neg e]
      show _ = some (if j = i then x else v j)
      rw [if_neg (fun q : j = i => e q.symm)]
      exact h2 j hj
theorem Row.new (w : World) (arr : Array Value) (t : TypeId) (n : Nat) (hn : arr.size = n) (v : Nat → Value) (hv : ∀ i, i < n → arr[i]? = some (v i)) : Row (w.alloc (.cells arr t)) w.heap.size n v :=
  ⟨arr, t, by show (w.heap.push _)[_]? = _; simp, hn, hv⟩

/-- From w to w' no block that was there has turned but those of M; the streams are as they were. -/
structure Keep (M : Nat → Prop) (w w' : World) : Prop where
  os : w'.os = w.os
  tape : w'.tape = w.tape
  output : w'.output = w.output
  size : w.heap.size ≤ w'.heap.size
  block : ∀ k, k < w.heap.size → ¬ M k → w'.heap[k]? = w.heap[k]?

theorem Keep.refl (M : Nat → Prop) (w : World) : Keep M w w := ⟨rfl, rfl, rfl, Nat.le_refl _, fun _ _ _ => rfl⟩
theorem Keep.trans {M : Nat → Prop} {a b c : World} (h : Keep M a b) (k : Keep M b c) : Keep M a c :=
  ⟨k.os.trans h.os, k.tape.trans h.tape, k.output.trans h.output, Nat.le_trans h.size k.size, fun i hi hm => (k.block i (Nat.lt_of_lt_of_le hi h.size) hm).trans (h.block i hi hm)⟩
/-- a later stretch may turn whatever is new -/
theorem Keep.then {M M' : Nat → Prop} {a b c : World} (h : Keep M a b) (k : Keep M' b c) (hm : ∀ i, i < a.heap.size → M' i → M i) : Keep M a c :=
  ⟨k.os.trans h.os, k.tape.trans h.tape, k.output.trans h.output, Nat.le_trans h.size k.size, fun i hi hn => (k.block i (Nat.lt_of_lt_of_le hi h.size) (fun q => hn (hm i hi q))).trans (h.block i hi hn)⟩
theorem Keep.drew {M : Nat → Prop} {a w : World} (h : Keep M a w) : Keep M a w.drew := ⟨h.os, h.tape, h.output, h.size, h.block⟩
theorem Keep.drewN {M : Nat → Prop} {a w : World} (h : Keep M a w) (n : Nat) : Keep M a (w.drewN n) := ⟨h.os, h.tape, h.output, h.size, h.block⟩
theorem Keep.alloc {M : Nat → Prop} {a w : World} (h : Keep M a w) (o : Obj) : Keep M a (w.alloc o) :=
  h.trans ⟨rfl, rfl, rfl, by simp, fun k hk _ => Below.heap_alloc _ _ _ hk⟩
theorem Keep.setCell {M : Nat → Prop} {a w : World} (h : Keep M a w) {p : Addr} (hp : p.block < a.heap.size → M p.block) (u : Value) : Keep M a (w.setCell p u) := by
  refine ⟨h.os, h.tape, h.output, by simpa [World.setCell] using h.size, fun k hk hm => ?_⟩
  rw [Below.heap_setCell _ _ _ _ (fun e => hm (by subst e; exact hp hk))]
  exact h.block k hk hm
theorem Keep.row {M : Nat → Prop} {w w' : World} (h : Keep M w w') {b n : Nat} {v : Nat → Value} (r : Row w b n v) (hb : ¬ M b) : Row w' b n v :=
  r.of_block (h.block b r.lt hb)
theorem Keep.below {M : Nat → Prop} {w w' : World} {B : Nat} (h : Keep M w w') (hB : B ≤ w.heap.size) (hm : ∀ k, k < B → ¬ M k) : Below B w w' :=
  ⟨h.os, h.tape, h.output, h.size, fun k hk => h.block k (by omega) (hm k hk)⟩
theorem Keep.of_below {M : Nat → Prop} {w w' : World} (h : Below w.heap.size w w') : Keep M w w' :=
  ⟨h.os, h.tape, h.output, h.size, fun k hk _ => h.block k hk⟩
end Go.Proofs.Qxb6603460a

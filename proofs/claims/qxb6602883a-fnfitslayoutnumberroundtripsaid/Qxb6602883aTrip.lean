import Derived.Test.Qxb6602883aWalks
import Derived.Laws.BytesArg
import Derived.Laws.NewBlocks
namespace Go.Proofs.Qxb6602883a
open Go.ChangeShapes Go.WideShapes Go.ChangeAt Go.RowKit

/-- the number that the first k bytes spell -/
def val (s : ByteArray) : Nat → Nat
  | 0 => 0
  | k + 1 => val s k * 10 + (byteAt s k - 48)
theorem val_lt (s : ByteArray) (k : Nat) (h : ∀ j, j < k → 48 ≤ byteAt s j ∧ byteAt s j ≤ 57) : val s k < 10 ^ k := by
  induction k with
  | zero => simp [val]
  | succ k ih =>
    have a := ih fun j hj => h j (by omega)
    have b := h k (by omega)
    simp only [val, Nat.pow_succ]
    omega
theorem val_bd (s : ByteArray) (k : Nat) (hk : k ≤ 4) (h : ∀ j, j < k → 48 ≤ byteAt s j ∧ byteAt s j ≤ 57) : val s k ≤ 9999 := by
  have a := val_lt s k h
  have b : (10 : Nat) ^ k ≤ 10 ^ 4 := Nat.pow_le_pow_right (by omega) hk
  omega
theorem ret_int {k : IntKind} {a b : Int} (h : a = b) : Ending.returned (.int k a) = .returned (.int k b) := by rw [h]

set_option maxHeartbeats 400000 in
theorem number_any (s : ByteArray) (w : World) (hs : s.size ≤ 4) (hd : ∀ j, j < s.size → 48 ≤ byteAt s j ∧ byteAt s j ≤ 57) :
    Calls Try.prog 17 #[.string s] w fun e w' => e = .returned (.int .i64 (val s s.size)) ∧ w' = w := by
  have HD : Hid (∀ j, j < s.size → 48 ≤ byteAt s j ∧ byteAt s j ≤ 57) := hd
  clear hd
  go_enter Try.func17, Try.ntmps17
  go_wp2
  go_loop [3, 7] (fun n i => ∃ k : Nat, k ≤ s.size ∧ i = .int .i64 k ∧ n = .int .i64 (val s k)) (fun _ i => s.size - (intOf i).toNat)
  case atStart => exact ⟨0, by omega, rfl, rfl⟩
  case round =>
    obtain ⟨k, hk, rfl, rfl⟩ := hrel
    have hb := val_bd s k (by omega) fun j hj => HD.out j (by omega)
    by_cases hlt : k < s.size
    · have h1 := HD.out k hlt
      rw [byteAt_eq hlt] at h1
      have h48 : (48 : Int) ≤ (s[k].toNat : Int) := by omega
      have h57 : (s[k].toNat : Int) ≤ 57 := by omega
      have HS : Hid (val s (k + 1) = val s k * 10 + (s[k].toNat - 48)) := by
        show val s (k + 1) = _
        rw [val, byteAt_eq hlt]
      clear h1
      go_wp2
      go_round
      case rel => exact ⟨k + 1, by omega, by go_num, by rw [HS.out]; go_num⟩
      case measure => simp [intOf]; omega
    · go_wp2
      go_ret
      have e : k = s.size := by omega
      exact ⟨ret_int (by rw [e]), rfl⟩

set_option maxHeartbeats 400000 in
theorem put4 (W : World) (c0 c1 c2 c3 c4 c5 c6 c7 c8 c9 : Value) (n : Int) (h0 : 0 ≤ n) (h1 : n ≤ 9999) :
    Calls Try.prog 12 #[.slice (some ⟨W.heap.size, 0, none⟩) 10 10, .int .i64 0, .int .i64 4, .int .i64 n] (W.alloc (.cells #[c0, c1, c2, c3, c4, c5, c6, c7, c8, c9] 5)) fun e w' =>
      e = .returned (.tuple #[]) ∧ w' = W.alloc (.cells #[.int .u8 (48 + n / 10 / 10 / 10 % 10), .int .u8 (48 + n / 10 / 10 % 10), .int .u8 (48 + n / 10 % 10), .int .u8 (48 + n % 10), c4, c5, c6, c7, c8, c9] 5) := by
  go_enter Try.func12, Try.ntmps12
  go_wp2
  go_rounds 5
  go_end0
  exact ⟨rfl, rfl⟩

set_option maxHeartbeats 400000 in
theorem put5 (W : World) (c0 c1 c2 c3 c4 c5 c6 c7 c8 c9 : Value) (n : Int) (h0 : 0 ≤ n) (h1 : n ≤ 99) :
    Calls Try.prog 12 #[.slice (some ⟨W.heap.size, 0, none⟩) 10 10, .int .i64 5, .int .i64 2, .int .i64 n] (W.alloc (.cells #[c0, c1, c2, c3, c4, c5, c6, c7, c8, c9] 5)) fun e w' =>
      e = .returned (.tuple #[]) ∧ w' = W.alloc (.cells #[c0, c1, c2, c3, c4, .int .u8 (48 + n / 10 % 10), .int .u8 (48 + n % 10), c7, c8, c9] 5) := by
  go_enter Try.func12, Try.ntmps12
  go_wp2
  go_rounds 3
  go_end0
  exact ⟨rfl, rfl⟩

set_option maxHeartbeats 400000 in
theorem put8 (W : World) (c0 c1 c2 c3 c4 c5 c6 c7 c8 c9 : Value) (n : Int) (h0 : 0 ≤ n) (h1 : n ≤ 99) :
    Calls Try.prog 12 #[.slice (some ⟨W.heap.size, 0, none⟩) 10 10, .int .i64 8, .int .i64 2, .int .i64 n] (W.alloc (.cells #[c0, c1, c2, c3, c4, c5, c6, c7, c8, c9] 5)) fun e w' =>
      e = .returned (.tuple #[]) ∧ w' = W.alloc (.cells #[c0, c1, c2, c3, c4, c5, c6, c7, .int .u8 (48 + n / 10 % 10), .int .u8 (48 + n % 10)] 5) := by
  go_enter Try.func12, Try.ntmps12
  go_wp2
  go_rounds 3
  go_end0
  exact ⟨rfl, rfl⟩

theorem zznumber_any (s : ByteArray) (w : World) (hs : s.size ≤ 4) (hd : ∀ j, j < s.size → 48 ≤ byteAt s j ∧ byteAt s j ≤ 57) :
    Calls Try.prog 11 #[.string s] w fun e w' => e = .returned (.int .i64 (val s s.size)) ∧ w' = w := by
  have HD : Hid (∀ j, j < s.size → 48 ≤ byteAt s j ∧ byteAt s j ≤ 57) := hd
  clear hd
  go_enter Try.func11, Try.ntmps11
  go_wp2_with (go_at_call 17; refine (number_any s _ hs HD.out).mono ?_; rintro e w' ⟨rfl, rfl⟩)
  go_ret
  exact ⟨rfl, rfl⟩
end Go.Proofs.Qxb6602883a

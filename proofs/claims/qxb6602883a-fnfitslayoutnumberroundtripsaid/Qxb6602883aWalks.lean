import Derived.Test.Qxb6602883aRows
import Derived.WalkKit
import Derived.ProofKit
import Derived.Outline
import Derived.LoopTactic
import Derived.WalkLawsBesides
import Derived.Deep.QuietTactic
import Derived.BigQuiet
import Derived.Deep.Light
import Derived.Handy
namespace Go.Proofs.Qxb6602883a
open Go.ChangeShapes Go.WideShapes Go.ChangeAt Go.RowKit

theorem ret_bool {a b : Bool} (h : a = b) : Ending.returned (.bool a) = .returned (.bool b) := by rw [h]

set_option maxHeartbeats 400000 in
theorem isDigit_any (n : Int) (w : World) :
    Calls Try.prog 15 #[.int .u8 n] w fun e w' => e = .returned (.bool (decide (48 ≤ n) && decide (n ≤ 57))) ∧ w' = w := by
  by_cases h : 48 ≤ n
  · go_enter Try.func15, Try.ntmps15
    go_wp2
    go_ret
    exact ⟨by simp [h], rfl⟩
  · have hd : decide (48 ≤ n) = false := by simpa using h
    go_enter Try.func15, Try.ntmps15
    go_wp2
    go_ret
    exact ⟨by simp, rfl⟩

set_option maxHeartbeats 400000 in
theorem fits_short (s : ByteArray) (w : World) (_hs : s.size ≤ maxLen) (h : s.size ≠ 10) :
    Calls Try.prog 16 #[.string s] w fun e w' => e = .returned (.bool false) ∧ w' = w := by
  unfold maxLen at _hs
  have h' : ((s.size : Int) == 10) = false := by simp; omega
  go_enter Try.func16, Try.ntmps16
  go_wp2
  go_ret
  exact ⟨rfl, rfl⟩

/-- the byte at place k, as a number (0 beyond the end) -/
def byteAt (s : ByteArray) (k : Nat) : Nat := if h : k < s.size then s[k].toNat else 0
theorem byteAt_eq {s : ByteArray} {k : Nat} (h : k < s.size) : byteAt s k = s[k].toNat := by simp [byteAt, h]
/-- does the byte at place k fit the layout's? -/
def fit (s : ByteArray) (k : Nat) : Bool := if k = 4 ∨ k = 7 then byteAt s k == 45 else decide (48 ≤ byteAt s k ∧ byteAt s k ≤ 57)
def fitTo (s : ByteArray) (k : Nat) : Bool := (List.range k).all (fit s)
theorem fitTo_iff (s : ByteArray) (k : Nat) : fitTo s k = true ↔ ∀ j, j < k → fit s j = true := by simp [fitTo, List.all_eq_true]
theorem fitTo_snoc {s : ByteArray} {k : Nat} (h : fitTo s k = true) (h2 : fit s k = true) : fitTo s (k + 1) = true := by
  rw [fitTo_iff] at h ⊢
  intro j hj
  by_cases e : j = k
  · rw [e]; exact h2
  · exact h j (by omega)
theorem fitTo_not {s : ByteArray} (k : Nat) (hk : k < 10) (h2 : fit s k = false) : false = fitTo s 10 := by
  cases e : fitTo s 10
  · rfl
  · have := (fitTo_iff s 10).1 e k hk
    rw [h2] at this
    exact this
theorem fit_dig_yes {s : ByteArray} (k : Nat) (h : k < s.size) (hk : k ≠ 4 ∧ k ≠ 7) (a : (48 : Int) ≤ (s[k].toNat : Int) ∧ (s[k].toNat : Int) ≤ 57) : fit s k = true := by
  unfold fit
  rw [if_neg (by omega), byteAt_eq h]
  exact decide_eq_true (by omega)
theorem fit_dig_no {s : ByteArray} (k : Nat) (h : k < s.size) (hk : k ≠ 4 ∧ k ≠ 7) (a : (s[k].toNat : Int) < 48 ∨ 57 < (s[k].toNat : Int)) : fit s k = false := by
  unfold fit
  rw [if_neg (by omega), byteAt_eq h]
  exact decide_eq_false (by omega)

theorem fit_dash_yes {s : ByteArray} (k : Nat) (h : k < s.size) (hk : k = 4 ∨ k = 7) {c : Int} (a : ((s[k].toNat : Int) != c) = false) (hc : c = 45) : fit s k = true := by
  subst hc
  unfold fit
  rw [if_pos hk, byteAt_eq h]
  simp at a ⊢
  omega
theorem fit_dash_no {s : ByteArray} (k : Nat) (h : k < s.size) (hk : k = 4 ∨ k = 7) {c : Int} (a : ((s[k].toNat : Int) != c) = true) (hc : c = 45) : fit s k = false := by
  subst hc
  unfold fit
  rw [if_pos hk, byteAt_eq h]
  simp at a ⊢
  omega

set_option maxHeartbeats 2000000 in
theorem fits_ten (s : ByteArray) (w : World) (h : s.size = 10) :
    Calls Try.prog 16 #[.string s] w fun e w' => e = .returned (.bool (fitTo s 10)) ∧ ∃ n, w' = w.drewN n := by
  have h' : ((s.size : Int) == 10) = true := by simp; omega
  go_enter Try.func16, Try.ntmps16
  go_wp2
  go_loopw [7] (fun i wr => ∃ k : Nat, k ≤ 10 ∧ i = .int .i64 k ∧ fitTo s k = true ∧ ∃ n, wr = w.drewN n) (fun i _ => 10 - (intOf i).toNat)
  case atStart => exact ⟨0, by omega, rfl, rfl, 0, rfl⟩
  case round =>
    obtain ⟨k, hk, rfl, hf, n, rfl⟩ := hrel
    by_cases hlt : k < 10
    · have hcs : k = 0 ∨ k = 1 ∨ k = 2 ∨ k = 3 ∨ k = 4 ∨ k = 5 ∨ k = 6 ∨ k = 7 ∨ k = 8 ∨ k = 9 := by omega
      rcases hcs with rfl | rfl | rfl | rfl | rfl | rfl | rfl | rfl | rfl | rfl
      · go_wp2
        · go_ret
          exact ⟨ret_bool (fitTo_not 0 (by omega) (fit_dig_no 0 (by omega) (by omega) ‹_›)), n, rfl⟩
        · go_roundw
          case rel => exact ⟨1, by omega, by go_num, fitTo_snoc hf (fit_dig_yes 0 (by omega) (by omega) ‹_›), n, rfl⟩
          case measure => simp [intOf]
        · go_ret
          exact ⟨ret_bool (fitTo_not 0 (by omega) (fit_dig_no 0 (by omega) (by omega) (.inl ‹_›))), n, rfl⟩
      · go_wp2
        · go_ret
          exact ⟨ret_bool (fitTo_not 1 (by omega) (fit_dig_no 1 (by omega) (by omega) ‹_›)), n, rfl⟩
        · go_roundw
          case rel => exact ⟨2, by omega, by go_num, fitTo_snoc hf (fit_dig_yes 1 (by omega) (by omega) ‹_›), n, rfl⟩
          case measure => simp [intOf]
        · go_ret
          exact ⟨ret_bool (fitTo_not 1 (by omega) (fit_dig_no 1 (by omega) (by omega) (.inl ‹_›))), n, rfl⟩
      · go_wp2
        · go_ret
          exact ⟨ret_bool (fitTo_not 2 (by omega) (fit_dig_no 2 (by omega) (by omega) ‹_›)), n, rfl⟩
        · go_roundw
          case rel => exact ⟨3, by omega, by go_num, fitTo_snoc hf (fit_dig_yes 2 (by omega) (by omega) ‹_›), n, rfl⟩
          case measure => simp [intOf]
        · go_ret
          exact ⟨ret_bool (fitTo_not 2 (by omega) (fit_dig_no 2 (by omega) (by omega) (.inl ‹_›))), n, rfl⟩
      · go_wp2
        · go_ret
          exact ⟨ret_bool (fitTo_not 3 (by omega) (fit_dig_no 3 (by omega) (by omega) ‹_›)), n, rfl⟩
        · go_roundw
          case rel => exact ⟨4, by omega, by go_num, fitTo_snoc hf (fit_dig_yes 3 (by omega) (by omega) ‹_›), n, rfl⟩
          case measure => simp [intOf]
        · go_ret
          exact ⟨ret_bool (fitTo_not 3 (by omega) (fit_dig_no 3 (by omega) (by omega) (.inl ‹_›))), n, rfl⟩
      · go_wp2
        go_quiet (fail)
        go_wp2
        · go_ret
          exact ⟨ret_bool (fitTo_not 4 (by omega) (fit_dash_no 4 (by omega) (by omega) ‹_› (by decide))), _, World.drewN_drewN _ _ _⟩
        · go_roundw
          case rel => exact ⟨5, by omega, by go_num, fitTo_snoc hf (fit_dash_yes 4 (by omega) (by omega) ‹_› (by decide)), _, rfl⟩
          case measure => simp [intOf]
      · go_wp2
        · go_ret
          exact ⟨ret_bool (fitTo_not 5 (by omega) (fit_dig_no 5 (by omega) (by omega) ‹_›)), n, rfl⟩
        · go_roundw
          case rel => exact ⟨6, by omega, by go_num, fitTo_snoc hf (fit_dig_yes 5 (by omega) (by omega) ‹_›), n, rfl⟩
          case measure => simp [intOf]
        · go_ret
          exact ⟨ret_bool (fitTo_not 5 (by omega) (fit_dig_no 5 (by omega) (by omega) (.inl ‹_›))), n, rfl⟩
      · go_wp2
        · go_ret
          exact ⟨ret_bool (fitTo_not 6 (by omega) (fit_dig_no 6 (by omega) (by omega) ‹_›)), n, rfl⟩
        · go_roundw
          case rel => exact ⟨7, by omega, by go_num, fitTo_snoc hf (fit_dig_yes 6 (by omega) (by omega) ‹_›), n, rfl⟩
          case measure => simp [intOf]
        · go_ret
          exact ⟨ret_bool (fitTo_not 6 (by omega) (fit_dig_no 6 (by omega) (by omega) (.inl ‹_›))), n, rfl⟩
      · go_wp2
        go_quiet (fail)
        go_wp2
        · go_ret
          exact ⟨ret_bool (fitTo_not 7 (by omega) (fit_dash_no 7 (by omega) (by omega) ‹_› (by decide))), _, World.drewN_drewN _ _ _⟩
        · go_roundw
          case rel => exact ⟨8, by omega, by go_num, fitTo_snoc hf (fit_dash_yes 7 (by omega) (by omega) ‹_› (by decide)), _, rfl⟩
          case measure => simp [intOf]
      · go_wp2
        · go_ret
          exact ⟨ret_bool (fitTo_not 8 (by omega) (fit_dig_no 8 (by omega) (by omega) ‹_›)), n, rfl⟩
        · go_roundw
          case rel => exact ⟨9, by omega, by go_num, fitTo_snoc hf (fit_dig_yes 8 (by omega) (by omega) ‹_›), n, rfl⟩
          case measure => simp [intOf]
        · go_ret
          exact ⟨ret_bool (fitTo_not 8 (by omega) (fit_dig_no 8 (by omega) (by omega) (.inl ‹_›))), n, rfl⟩
      · go_wp2
        · go_ret
          exact ⟨ret_bool (fitTo_not 9 (by omega) (fit_dig_no 9 (by omega) (by omega) ‹_›)), n, rfl⟩
        · go_roundw
          case rel => exact ⟨10, by omega, by go_num, fitTo_snoc hf (fit_dig_yes 9 (by omega) (by omega) ‹_›), n, rfl⟩
          case measure => simp [intOf]
        · go_ret
          exact ⟨ret_bool (fitTo_not 9 (by omega) (fit_dig_no 9 (by omega) (by omega) (.inl ‹_›))), n, rfl⟩
    · go_wp2
      go_ret
      have e : k = 10 := by omega
      rw [e] at hf
      exact ⟨ret_bool hf.symm, n, rfl⟩

/-- is every byte a digit's? -/
def digTo (s : ByteArray) (k : Nat) : Bool := (List.range k).all fun j => decide (48 ≤ byteAt s j ∧ byteAt s j ≤ 57)
theorem digTo_iff (s : ByteArray) (k : Nat) : digTo s k = true ↔ ∀ j, j < k → 48 ≤ byteAt s j ∧ byteAt s j ≤ 57 := by simp [digTo, List.all_eq_true]
theorem digTo_snoc {s : ByteArray} {k : Nat} (h : digTo s k = true) (hs : k < s.size) (h2 : (decide ((48 : Int) ≤ (s[k].toNat : Int)) && decide ((s[k].toNat : Int) ≤ 57)) = true) : digTo s (k + 1) = true := by
  rw [digTo_iff] at h ⊢
  intro j hj
  by_cases e : j = k
  · subst e
    rw [byteAt_eq hs]
    simp at h2
    omega
  · exact h j (by omega)
theorem digTo_not {s : ByteArray} {k : Nat} (hs : k < s.size) (h2 : (decide ((48 : Int) ≤ (s[k].toNat : Int)) && decide ((s[k].toNat : Int) ≤ 57)) = false) : false = digTo s s.size := by
  cases e : digTo s s.size
  · rfl
  · have := (digTo_iff s s.size).1 e k hs
    rw [byteAt_eq hs] at this
    simp at h2
    omega

set_option maxHeartbeats 400000 in
theorem allDigits_any (s : ByteArray) (w : World) (hs : s.size ≤ maxLen) :
    Calls Try.prog 8 #[.string s] w fun e w' => e = .returned (.bool (digTo s s.size)) ∧ w' = w := by
  unfold maxLen at hs
  go_enter Try.func8, Try.ntmps8
  go_wp2
  go_loop [3] (fun i => ∃ k : Nat, k ≤ s.size ∧ i = .int .i64 k ∧ digTo s k = true) (fun i => s.size - (intOf i).toNat)
  case atStart => exact ⟨0, by omega, rfl, rfl⟩
  case round =>
    obtain ⟨k, hk, rfl, hf⟩ := hrel
    by_cases hlt : k < s.size
    · cases hd : (decide ((48 : Int) ≤ (s[k].toNat : Int)) && decide ((s[k].toNat : Int) ≤ 57))
      · have HD : Hid (_ = _) := hd
        clear hd
        go_wp2_with (go_at_call 15; refine (isDigit_any _ _).mono ?_; rintro e w' ⟨rfl, rfl⟩; rw [HD.out])
        go_ret
        exact ⟨ret_bool (digTo_not hlt (HD.out)), rfl⟩
      · have HD : Hid (_ = _) := hd
        clear hd
        go_wp2_with (go_at_call 15; refine (isDigit_any _ _).mono ?_; rintro e w' ⟨rfl, rfl⟩; rw [HD.out])
        go_round
        case rel => exact ⟨k + 1, by omega, by go_num, digTo_snoc hf hlt (HD.out)⟩
        case measure => simp [intOf]; omega
    · go_wp2
      go_ret
      have e : k = s.size := by omega
      rw [e] at hf
      exact ⟨ret_bool hf.symm, rfl⟩
set_option maxHeartbeats 400000 in
theorem bytes7 (s : ByteArray) (w : World) (h : s.size ≤ 1048576) :
    Calls Try.prog 7 #[.string s] w fun e w' => e = .returned (.bool true) ∧ w' = w := by
  go_enter Try.func7, Try.ntmps7
  go_wp2
  go_ret
  exact ⟨rfl, rfl⟩
set_option maxHeartbeats 400000 in
theorem bytes10 (s : ByteArray) (w : World) (h : s.size ≤ 1048576) :
    Calls Try.prog 10 #[.string s] w fun e w' => e = .returned (.bool true) ∧ w' = w := by
  go_enter Try.func10, Try.ntmps10
  go_wp2
  go_ret
  exact ⟨rfl, rfl⟩
set_option maxHeartbeats 400000 in
theorem zzfits_short (s : ByteArray) (w : World) (hs : s.size ≤ maxLen) (h : s.size ≠ 10) :
    Calls Try.prog 9 #[.string s] w fun e w' => e = .returned (.bool false) ∧ w' = w := by
  go_enter Try.func9, Try.ntmps9
  go_wp2_with (go_at_call 16; refine (fits_short s _ hs h).mono ?_; rintro e w' ⟨rfl, rfl⟩)
  go_ret
  exact ⟨rfl, rfl⟩
set_option maxHeartbeats 400000 in
theorem zzfits_ten (s : ByteArray) (w : World) (h : s.size = 10) :
    Calls Try.prog 9 #[.string s] w fun e w' => e = .returned (.bool (fitTo s 10)) ∧ ∃ n, w' = w.drewN n := by
  go_enter Try.func9, Try.ntmps9
  go_wp2_with (go_at_call 16; refine (fits_ten s _ h).mono ?_; rintro e w' ⟨rfl, n, rfl⟩)
  go_ret
  exact ⟨rfl, n, rfl⟩
end Go.Proofs.Qxb6602883a

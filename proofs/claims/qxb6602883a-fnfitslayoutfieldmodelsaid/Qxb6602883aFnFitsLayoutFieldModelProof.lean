import Derived.Test.Qxb6602883aRows
import Derived.WalkKit
import Derived.ProofKit
import Derived.OpenShut
import Derived.ShutString
import Derived.Test.Qxb6602883aWalks
namespace Go.Proofs.Qxb6602883a.fnFitsLayoutFieldModel
open Go.ChangeShapes Go.WideShapes Go.ChangeAt Go.RowKit
open Go.ChangeMaps (open_string shut_string)
set_option linter.unusedVariables false      -- a walk need not use every 'w<i>' (that an integer argument fits its kind)

theorem own : ownKnob Try.prog.godebug = none := by kernel_rfl


theorem size_ext (s : ByteArray) (a b : Nat) (h : b ≤ s.size) : (s.extract a b).size = b - a := by
  rw [ByteArray.size_extract]; omega
theorem byteAt_ext (s : ByteArray) (a b k : Nat) (h : b ≤ s.size) (hk : a + k < b) : byteAt (s.extract a b) k = byteAt s (a + k) := by
  rw [byteAt_eq (by rw [size_ext s a b h]; omega), byteAt_eq (by omega), ByteArray.getElem_extract]
theorem digTo_ext (s : ByteArray) (a b : Nat) (h : b ≤ s.size) : digTo (s.extract a b) (s.extract a b).size = true ↔ ∀ j, a ≤ j → j < b → 48 ≤ byteAt s j ∧ byteAt s j ≤ 57 := by
  rw [digTo_iff, size_ext s a b h]
  constructor
  · intro h1 j h2 h3
    have := h1 (j - a) (by omega)
    rw [byteAt_ext s a b _ h (by omega)] at this
    rwa [show a + (j - a) = j from by omega] at this
  · intro h1 j h2
    rw [byteAt_ext s a b _ h (by omega)]
    exact h1 _ (by omega) (by omega)
theorem dash_iff (s : ByteArray) (k : Nat) (h : k < s.size) : ((s[k].toNat : Int) == 45) = (byteAt s k == 45) := by
  rw [byteAt_eq h, Bool.eq_iff_iff]
  simp
  omega

/-- THE PLAIN LAW: the two readings of the layout are one. -/
theorem two_ways (s : ByteArray) (h : s.size = 10) :
    fitTo s 10 = (digTo (s.extract 0 4) (s.extract 0 4).size && ((byteAt s 4 == 45) && (digTo (s.extract 5 7) (s.extract 5 7).size && ((byteAt s 7 == 45) && digTo (s.extract 8 10) (s.extract 8 10).size)))) := by
  rw [Bool.eq_iff_iff]
  simp only [Bool.and_eq_true, digTo_ext s _ _ (show 4 ≤ s.size by omega), digTo_ext s _ _ (show 7 ≤ s.size by omega), digTo_ext s _ _ (show 10 ≤ s.size by omega), fitTo_iff]
  constructor
  · intro f
    have f4 := f 4 (by omega)
    have f7 := f 7 (by omega)
    have fd : ∀ j, j < 10 → j ≠ 4 → j ≠ 7 → 48 ≤ byteAt s j ∧ byteAt s j ≤ 57 := by
      intro j a b c
      have := f j a
      unfold fit at this
      rw [if_neg (by omega)] at this
      exact of_decide_eq_true this
    exact ⟨fun j _ b => fd j (by omega) (by omega) (by omega), f4, fun j _ b => fd j (by omega) (by omega) (by omega), f7, fun j _ b => fd j (by omega) (by omega) (by omega)⟩
  · rintro ⟨a, b, c, d, e⟩ j hj
    unfold fit
    by_cases h4 : j = 4
    · subst h4; simpa using b
    by_cases h7 : j = 7
    · subst h7; simpa using d
    rw [if_neg (by omega)]
    apply decide_eq_true
    by_cases h5 : j < 4
    · exact a j (by omega) h5
    by_cases h6 : j < 7
    · exact c j (by omega) h6
    exact e j (by omega) (by omega)

theorem grown_drewN (w : World) (n : Nat) : Grown w (w.drewN n) := by
  induction n with
  | zero => exact Grown.refl _
  | succ n ih => exact ih.drew
theorem allDigits_ext (s : ByteArray) (a b : Nat) (w : World) (h : s.size = 10) :
    Calls Try.prog 8 #[.string (s.extract a b)] w fun e w' => e = .returned (.bool (digTo (s.extract a b) (s.extract a b).size)) ∧ w' = w :=
  allDigits_any _ _ (by rw [ByteArray.size_extract]; unfold maxLen; omega)

/-! ### STEP 1: THE WALK -/
set_option maxHeartbeats 1000000 in
theorem walk (a0 : ByteArray) (w0 : a0.size ≤ maxLen) (w : World) :
    Calls Try.prog 3 #[.string a0] w fun e w' => e = .returned (.bool true) ∧ Grown w w' := by
  have w0' := w0
  unfold maxLen at w0'
  by_cases big : a0.size ≤ 1048576
  · by_cases h10 : a0.size = 10
    · have g := two_ways a0 h10
      have i4 := dash_iff a0 4 (by omega)
      have i7 := dash_iff a0 7 (by omega)
      rw [← i4, ← i7] at g
      clear i4 i7
      cases c0 : digTo (a0.extract 0 4) (a0.extract 0 4).size
      · have G : Hid (fitTo a0 10 = false) := by rw [c0] at g; exact g
        clear g
        go_enter Try.func3, Try.ntmps3
        go_wp2_with (first | (go_at_call 7; refine (bytes7 a0 _ big).mono ?_; rintro e w' ⟨rfl, rfl⟩) | (go_at_call 8; refine (allDigits_ext _ _ _ _ h10).mono ?_; rintro e w' ⟨rfl, rfl⟩; first | rw [c0]) | (go_at_call 9; refine (zzfits_ten a0 _ h10).mono ?_; rintro e w' ⟨rfl, n, rfl⟩; rw [G.out]))
        go_ret
        exact ⟨rfl, grown_drewN _ _⟩
      -- c0 holds
      cases c4 : ((a0[4].toNat : Int) == 45)
      · have G : Hid (fitTo a0 10 = false) := by rw [c0, c4] at g; exact g
        clear g
        go_enter Try.func3, Try.ntmps3
        go_wp2_with (first | (go_at_call 7; refine (bytes7 a0 _ big).mono ?_; rintro e w' ⟨rfl, rfl⟩) | (go_at_call 8; refine (allDigits_ext _ _ _ _ h10).mono ?_; rintro e w' ⟨rfl, rfl⟩; first | rw [c0]) | (go_at_call 9; refine (zzfits_ten a0 _ h10).mono ?_; rintro e w' ⟨rfl, n, rfl⟩; rw [G.out]))
        go_ret
        exact ⟨rfl, grown_drewN _ _⟩
      -- c4 holds
      cases c5 : digTo (a0.extract 5 7) (a0.extract 5 7).size
      · have G : Hid (fitTo a0 10 = false) := by rw [c0, c4, c5] at g; exact g
        clear g
        go_enter Try.func3, Try.ntmps3
        go_wp2_with (first | (go_at_call 7; refine (bytes7 a0 _ big).mono ?_; rintro e w' ⟨rfl, rfl⟩) | (go_at_call 8; refine (allDigits_ext _ _ _ _ h10).mono ?_; rintro e w' ⟨rfl, rfl⟩; first | rw [c0] | rw [c5]) | (go_at_call 9; refine (zzfits_ten a0 _ h10).mono ?_; rintro e w' ⟨rfl, n, rfl⟩; rw [G.out]))
        go_ret
        exact ⟨rfl, grown_drewN _ _⟩
      -- c5 holds
      cases c7 : ((a0[7].toNat : Int) == 45)
      · have G : Hid (fitTo a0 10 = false) := by rw [c0, c4, c5, c7] at g; exact g
        clear g
        go_enter Try.func3, Try.ntmps3
        go_wp2_with (first | (go_at_call 7; refine (bytes7 a0 _ big).mono ?_; rintro e w' ⟨rfl, rfl⟩) | (go_at_call 8; refine (allDigits_ext _ _ _ _ h10).mono ?_; rintro e w' ⟨rfl, rfl⟩; first | rw [c0] | rw [c5]) | (go_at_call 9; refine (zzfits_ten a0 _ h10).mono ?_; rintro e w' ⟨rfl, n, rfl⟩; rw [G.out]))
        go_ret
        exact ⟨rfl, grown_drewN _ _⟩
      -- c7 holds
      cases c8 : digTo (a0.extract 8 10) (a0.extract 8 10).size
      · have G : Hid (fitTo a0 10 = false) := by rw [c0, c4, c5, c7, c8] at g; exact g
        clear g
        go_enter Try.func3, Try.ntmps3
        go_wp2_with (first | (go_at_call 7; refine (bytes7 a0 _ big).mono ?_; rintro e w' ⟨rfl, rfl⟩) | (go_at_call 8; refine (allDigits_ext _ _ _ _ h10).mono ?_; rintro e w' ⟨rfl, rfl⟩; first | rw [c0] | rw [c5] | rw [c8]) | (go_at_call 9; refine (zzfits_ten a0 _ h10).mono ?_; rintro e w' ⟨rfl, n, rfl⟩; rw [G.out]))
        go_ret
        exact ⟨rfl, grown_drewN _ _⟩
      -- c8 holds
      have G : Hid (fitTo a0 10 = true) := by rw [c0, c4, c5, c7, c8] at g; exact g
      clear g
      go_enter Try.func3, Try.ntmps3
      go_wp2_with (first | (go_at_call 7; refine (bytes7 a0 _ big).mono ?_; rintro e w' ⟨rfl, rfl⟩) | (go_at_call 8; refine (allDigits_ext _ _ _ _ h10).mono ?_; rintro e w' ⟨rfl, rfl⟩; first | rw [c0] | rw [c5] | rw [c8]) | (go_at_call 9; refine (zzfits_ten a0 _ h10).mono ?_; rintro e w' ⟨rfl, n, rfl⟩; rw [G.out]))
      go_ret
      exact ⟨rfl, grown_drewN _ _⟩
    · have hd : ((a0.size : Int) == 10) = false := by simp; omega
      go_enter Try.func3, Try.ntmps3
      go_wp2_with (first | (go_at_call 7; refine (bytes7 a0 _ big).mono ?_; rintro e w' ⟨rfl, rfl⟩) | (go_at_call 9; refine (zzfits_short a0 _ w0 h10).mono ?_; rintro e w' ⟨rfl, rfl⟩))
      go_ret
      exact ⟨rfl, by repeat (first | exact Grown.refl _ | apply Grown.drew | apply Grown.alloc)⟩
  · go_enter Try.func3, Try.ntmps3
    go_wp2
    go_ret
    exact ⟨rfl, by repeat (first | exact Grown.refl _ | apply Grown.drew | apply Grown.alloc)⟩

/-! ### THE ROW's STEP: WRITTEN OUT: LEAVE IT -/
set_option maxRecDepth 100000 in
theorem lifted (os : Os) (started : os.Started) (H : Type) (enc : TypeId × Value → H) :
    ReturnsInHanded {} Try.checked os 3 .any (Rows.fnFitsLayoutFieldModelSpec.pre6 enc Try.prog Try.f3 Rows.fnFitsLayoutFieldModelRow.domain false) (Rows.fnFitsLayoutFieldModelSpec.post enc Try.prog Try.f3 false true false false) := by
  refine returnsInHanded_of_change (C := Try.checked) own started (by kernel_rfl) Try.func3
    (ChangeSpec.witness6 (enc := enc) (C := Try.checked) false ⟨#[], #[.string ByteArray.empty], []⟩ 8 (by kernel_rfl) (by kernel_rfl) (by kernel_rfl) (by kernel_rfl)) ?_
  intro W base args ds gs before hval0 hW hcnd _
  have hval : ∀ (j : Nat) t v, Try.f3.params[j]? = some t → args[j]? = some v → Value.okWide Try.prog W .any base t v := hval0
  have hW' := hW
  obtain ⟨p, q, hA0, hV, rfl, hfz, hnd⟩ := hW
  have hA : DataW.TrodAll enc Try.prog W 0 (fun _ => true) true Try.f3.params.toList args.toList ds p := hA0
  rw [Try.params3] at hA hval
  obtain ⟨v0, vs0, d0, ds0, p0, q0, hargs, rfl, rfl, h0, r0⟩ := trodAll_cons hA
  obtain ⟨rfl, rfl, rfl⟩ := trodAll_nil r0
  obtain rfl : args = #[v0] := by cases args; simp_all
  obtain ⟨rfl, rfl⟩ := trodVars_none hV
  obtain ⟨a0, rfl, rfl, rfl, w0⟩ := open_string Try.underlying9 (hval 0 9 v0 rfl rfl) h0
  clear hA0 hval0
  simp only [List.append_nil] at hW'
  refine (walk a0 w0 W).mono fun e W' ⟨he, hg⟩ => ?_
  subst he
  exact ⟨_, rfl, post_of_same (pa := []) (pv := []) hW' (fun _ _ _ => (trodAll_cons_mk (shut_bool Try.underlying4 _) trodAll_mk0)) (fun sp _ => (trodAll_cons_mk (shut_string Try.underlying9 w0) trodAll_mk0)) (fun _ _ => rfl) rfl
    (hg.frame _) hg.2.1 (ok_one (by kernel_rfl) rfl (okWide_bool_mk Try.underlying4 _))⟩

theorem over : Rows.fnFitsLayoutFieldModelRow.holds Try.pinned (OpenSpec.ofChange Rows.fnFitsLayoutFieldModelSpec) :=
  OpenClaim.holds_of_wide 3 Try.f3 rfl rfl rfl rfl rfl rfl rfl ⟨rfl, rfl, rfl, rfl, rfl⟩ rfl rfl rfl rfl rfl (by kernel_rfl) Try.func3 (by kernel_rfl)
    (of_decide_eq_true (by kernel_rfl)) (by unfold Func.isWrapper; first | (rw [if_pos (by decide +kernel)]; kernel_rfl) | (rw [if_neg (by decide +kernel)]; exact ⟨rfl, rfl⟩))
    (fun os started H enc _ => lifted os started H enc)

/-- ████ THE STATEMENT ████ -/
theorem proved : Rows.FnFitsLayoutFieldModelSaid :=
  over
#print axioms proved
end Go.Proofs.Qxb6602883a.fnFitsLayoutFieldModel

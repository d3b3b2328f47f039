import Derived.Test.Qxb6602883aRows
import Derived.WalkKit
import Derived.ProofKit
import Derived.OpenShut
import Derived.ShutString
import Derived.Test.Qxb6602883aWalks
import Derived.Test.Qxb6602883aTrip
namespace Go.Proofs.Qxb6602883a.fnFitsLayoutNumberRoundTrip
open Go.ChangeShapes Go.WideShapes Go.ChangeAt Go.RowKit
open Go.ChangeMaps (open_string shut_string)
set_option linter.unusedVariables false      -- a walk need not use every 'w<i>' (that an integer argument fits its kind)

theorem own : ownKnob Try.prog.godebug = none := by kernel_rfl


theorem size_ext (s : ByteArray) (a b : Nat) (h : b ≤ s.size) : (s.extract a b).size = b - a := by
  rw [ByteArray.size_extract]; omega
theorem byteAt_ext (s : ByteArray) (a b k : Nat) (h : b ≤ s.size) (hk : a + k < b) : byteAt (s.extract a b) k = byteAt s (a + k) := by
  rw [byteAt_eq (by rw [size_ext s a b h]; omega), byteAt_eq (by omega), ByteArray.getElem_extract]
theorem digits_of {s : ByteArray} (f : fitTo s 10 = true) : ∀ j, j < 10 → j ≠ 4 → j ≠ 7 → 48 ≤ byteAt s j ∧ byteAt s j ≤ 57 := by
  intro j a b c
  have := (fitTo_iff s 10).1 f j a
  unfold fit at this
  rw [if_neg (by omega)] at this
  exact of_decide_eq_true this
theorem dash_of {s : ByteArray} (f : fitTo s 10 = true) : byteAt s 4 = 45 ∧ byteAt s 7 = 45 := by
  have f4 := (fitTo_iff s 10).1 f 4 (by omega)
  have f7 := (fitTo_iff s 10).1 f 7 (by omega)
  exact ⟨by simpa [fit] using f4, by simpa [fit] using f7⟩

theorem num4 (s : ByteArray) (w : World) (h : s.size = 10) (f : fitTo s 10 = true) :
    Calls Try.prog 11 #[.string (s.extract 0 4)] w fun e w' => ∃ n : Int, e = .returned (.int .i64 n) ∧ 0 ≤ n ∧ n ≤ 9999 ∧ Hid (n = (((byteAt s 0 : Int) * 10 + byteAt s 1) * 10 + byteAt s 2) * 10 + byteAt s 3 - 53328) ∧ w' = w := by
  have hz := size_ext s 0 4 (by omega)
  have hd : ∀ j, j < (s.extract 0 4).size → 48 ≤ byteAt (s.extract 0 4) j ∧ byteAt (s.extract 0 4) j ≤ 57 := by
    intro j hj
    rw [hz] at hj
    rw [byteAt_ext s 0 4 j (by omega) (by omega)]
    exact digits_of f _ (by omega) (by omega) (by omega)
  refine (zznumber_any _ w (by omega) hd).mono ?_
  rintro e w' ⟨rfl, rfl⟩
  have hb := val_bd (s.extract 0 4) (s.extract 0 4).size (by omega) hd
  have d0 := digits_of f 0 (by omega) (by omega) (by omega)
  have d1 := digits_of f 1 (by omega) (by omega) (by omega)
  have d2 := digits_of f 2 (by omega) (by omega) (by omega)
  have d3 := digits_of f 3 (by omega) (by omega) (by omega)
  refine ⟨_, rfl, by omega, by omega, ?_, rfl⟩
  show (_ : Int) = _
  rw [hz]
  simp only [val, byteAt_ext s 0 4 0 (by omega) (by omega), byteAt_ext s 0 4 1 (by omega) (by omega), byteAt_ext s 0 4 2 (by omega) (by omega), byteAt_ext s 0 4 3 (by omega) (by omega), Nat.zero_add]
  omega
theorem num2 (s : ByteArray) (a : Nat) (w : World) (h : s.size = 10) (f : fitTo s 10 = true) (ha : a = 5 ∨ a = 8) :
    Calls Try.prog 11 #[.string (s.extract a (a + 2))] w fun e w' => ∃ n : Int, e = .returned (.int .i64 n) ∧ 0 ≤ n ∧ n ≤ 99 ∧ Hid (n = (byteAt s a : Int) * 10 + byteAt s (a + 1) - 528) ∧ w' = w := by
  have hz := size_ext s a (a + 2) (by omega)
  have hd : ∀ j, j < (s.extract a (a + 2)).size → 48 ≤ byteAt (s.extract a (a + 2)) j ∧ byteAt (s.extract a (a + 2)) j ≤ 57 := by
    intro j hj
    rw [hz] at hj
    rw [byteAt_ext s a (a + 2) j (by omega) (by omega)]
    exact digits_of f _ (by omega) (by omega) (by omega)
  refine (zznumber_any _ w (by omega) hd).mono ?_
  rintro e w' ⟨rfl, rfl⟩
  have d0 := digits_of f a (by omega) (by omega) (by omega)
  have d1 := digits_of f (a + 1) (by omega) (by omega) (by omega)
  have ev : ((val (s.extract a (a + 2)) (s.extract a (a + 2)).size : Nat) : Int) = (byteAt s a : Int) * 10 + byteAt s (a + 1) - 528 := by
    rw [hz, show a + 2 - a = 2 from by omega]
    simp only [val, byteAt_ext s a (a + 2) 0 (by omega) (by omega), byteAt_ext s a (a + 2) 1 (by omega) (by omega), Nat.add_zero]
    omega
  exact ⟨_, rfl, by omega, by omega, ev, rfl⟩

/-- the ten numbers that are written -/
def ten (y m d : Int) : List Int := [48 + y / 10 / 10 / 10 % 10, 48 + y / 10 / 10 % 10, 48 + y / 10 % 10, 48 + y % 10, 45, 48 + m / 10 % 10, 48 + m % 10, 45, 48 + d / 10 % 10, 48 + d % 10]
theorem conv (W : World) (y m d : Int) :
    (convert 24 9 (.slice (some ⟨W.heap.size, 0, none⟩) 10 10)).run Try.prog (W.alloc (.cells #[.int .u8 (48 + y / 10 / 10 / 10 % 10), .int .u8 (48 + y / 10 / 10 % 10), .int .u8 (48 + y / 10 % 10), .int .u8 (48 + y % 10), .int .u8 45, .int .u8 (48 + m / 10 % 10), .int .u8 (48 + m % 10), .int .u8 45, .int .u8 (48 + d / 10 % 10), .int .u8 (48 + d % 10)] 5)) = .ok (.string (strOfNums (ten y m d))) (W.alloc (.cells #[.int .u8 (48 + y / 10 / 10 / 10 % 10), .int .u8 (48 + y / 10 / 10 % 10), .int .u8 (48 + y / 10 % 10), .int .u8 (48 + y % 10), .int .u8 45, .int .u8 (48 + m / 10 % 10), .int .u8 (48 + m % 10), .int .u8 45, .int .u8 (48 + d / 10 % 10), .int .u8 (48 + d % 10)] 5)) := by
  refine run_convert_bytes_arg (P := Try.prog) _ 24 5 Try.underlying24 Try.underlying5 W.heap.size 0 10 10 (ten y m d) rfl ?_ 9 Try.underlying9
  intro i hi
  have hcs : i = 0 ∨ i = 1 ∨ i = 2 ∨ i = 3 ∨ i = 4 ∨ i = 5 ∨ i = 6 ∨ i = 7 ∨ i = 8 ∨ i = 9 := by omega
  rcases hcs with rfl | rfl | rfl | rfl | rfl | rfl | rfl | rfl | rfl | rfl <;> simp [go_sem, ten]
theorem back (s : ByteArray) (h : s.size = 10) (f : fitTo s 10 = true) (y m d : Int)
    (hy : y = (((byteAt s 0 : Int) * 10 + byteAt s 1) * 10 + byteAt s 2) * 10 + byteAt s 3 - 53328)
    (hm : m = (byteAt s 5 : Int) * 10 + byteAt s 6 - 528) (hd : d = (byteAt s 8 : Int) * 10 + byteAt s 9 - 528) : strOfNums (ten y m d) = s := by
  have d0 := digits_of f 0 (by omega) (by omega) (by omega)
  have d1 := digits_of f 1 (by omega) (by omega) (by omega)
  have d2 := digits_of f 2 (by omega) (by omega) (by omega)
  have d3 := digits_of f 3 (by omega) (by omega) (by omega)
  have d5 := digits_of f 5 (by omega) (by omega) (by omega)
  have d6 := digits_of f 6 (by omega) (by omega) (by omega)
  have d8 := digits_of f 8 (by omega) (by omega) (by omega)
  have d9 := digits_of f 9 (by omega) (by omega) (by omega)
  obtain ⟨d4, d7⟩ := dash_of f
  have hz : (strOfNums (ten y m d)).size = 10 := by rw [strOfNums_size]; rfl
  have e : ten y m d = (List.range 10).map fun k => (byteAt s k : Int) := by
    simp only [ten, List.range, List.range.loop, List.map]
    refine List.cons_eq_cons.2 ⟨by omega, List.cons_eq_cons.2 ⟨by omega, List.cons_eq_cons.2 ⟨by omega, List.cons_eq_cons.2 ⟨by omega, List.cons_eq_cons.2 ⟨by omega, List.cons_eq_cons.2 ⟨by omega, List.cons_eq_cons.2 ⟨by omega, List.cons_eq_cons.2 ⟨by omega, List.cons_eq_cons.2 ⟨by omega, List.cons_eq_cons.2 ⟨by omega, rfl⟩⟩⟩⟩⟩⟩⟩⟩⟩⟩
  apply ByteArray.ext
  apply Array.ext
  · exact hz.trans h.symm
  · intro i h1 h2
    have hi : i < s.size := h2
    have e2 : (strOfNums (ten y m d)).data[i]? = some s[i] := by
      rw [← Array.getElem?_toList, strOfNums_data, e, List.map_map, List.getElem?_map, List.getElem?_range (by omega)]
      show some (UInt8.ofNat ((byteAt s i : Int)).toNat) = some s[i]
      rw [Int.toNat_natCast, byteAt_eq hi, UInt8.ofNat_toNat]
    rw [Array.getElem?_eq_getElem h1] at e2
    exact Option.some.inj e2

theorem grown_drewN (w : World) (n : Nat) : Grown w (w.drewN n) := by
  induction n with
  | zero => exact Grown.refl _
  | succ n ih => exact ih.drew

/-! ### STEP 1: THE WALK -/
set_option maxHeartbeats 1000000 in
theorem walk (a0 : ByteArray) (w0 : a0.size ≤ maxLen) (w : World) :
    Calls Try.prog 4 #[.string a0] w fun e w' => e = .returned (.bool true) ∧ Grown w w' := by
  have w0' := w0
  unfold maxLen at w0'
  by_cases big : a0.size ≤ 1048576
  · by_cases h10 : a0.size = 10
    · cases hf : fitTo a0 10
      · go_enter Try.func4, Try.ntmps4
        go_wp2_with (first | (go_at_call 10; refine (bytes10 a0 _ big).mono ?_; rintro e w' ⟨rfl, rfl⟩) | (go_at_call 9; refine (zzfits_ten a0 _ h10).mono ?_; rintro e w' ⟨rfl, n, rfl⟩; rw [hf]))
        go_ret
        exact ⟨rfl, grown_drewN _ _⟩
      · have F : Hid (fitTo a0 10 = true) := hf
        clear hf
        have hmk : ∀ w, (Instr.makeSlice 24 (.int .i64 10) (.int .i64 10)).run Try.prog w = .ok (.slice (some ⟨w.heap.size, 0, none⟩) 10 10) (w.alloc (.cells #[.int .u8 0, .int .u8 0, .int .u8 0, .int .u8 0, .int .u8 0, .int .u8 0, .int .u8 0, .int .u8 0, .int .u8 0, .int .u8 0] 5)) := fun _ => by kernel_rfl
        go_enter Try.func4, Try.ntmps4
        go_wp2_with (first | (go_at_call 10; refine (bytes10 a0 _ big).mono ?_; rintro e w' ⟨rfl, rfl⟩) | (go_at_call 9; refine (zzfits_ten a0 _ h10).mono ?_; rintro e wz ⟨rfl, hz⟩; rw [F.out]; have HZ : Hid (∃ n, wz = w'.drewN n) := hz; clear hz))
        refine (num4 a0 _ h10 F.out).mono ?_
        rintro e wq ⟨y, rfl, hy0, hy1, HY, hq⟩
        subst wq
        go_wp2_with fail
        refine (num2 a0 5 _ h10 F.out (.inl rfl)).mono ?_
        rintro e wq ⟨m, rfl, hm0, hm1, HM, hq⟩
        subst wq
        go_wp2_with fail
        refine (num2 a0 8 _ h10 F.out (.inr rfl)).mono ?_
        rintro e wq ⟨d, rfl, hd0, hd1, HD, hq⟩
        subst wq
        go_wp2_with fail
        refine (put4 wz _ _ _ _ _ _ _ _ _ _ y hy0 hy1).mono ?_
        rintro e wp ⟨rfl, rfl⟩
        go_wp2_with fail
        refine (put5 wz _ _ _ _ _ _ _ _ _ _ m hm0 hm1).mono ?_
        rintro e wp ⟨rfl, rfl⟩
        go_wp2_with fail
        refine (put8 wz _ _ _ _ _ _ _ _ _ _ d hd0 hd1).mono ?_
        rintro e wp ⟨rfl, rfl⟩
        have hcv := conv wz y m d
        rw [back a0 h10 F.out y m d HY.out HM.out HD.out] at hcv
        go_wp2
        go_ret
        obtain ⟨n, rfl⟩ := HZ.out
        exact ⟨rfl, (grown_drewN _ _).alloc _ _⟩
    · go_enter Try.func4, Try.ntmps4
      go_wp2_with (first | (go_at_call 10; refine (bytes10 a0 _ big).mono ?_; rintro e w' ⟨rfl, rfl⟩) | (go_at_call 9; refine (zzfits_short a0 _ w0 h10).mono ?_; rintro e w' ⟨rfl, rfl⟩))
      go_ret
      exact ⟨rfl, by repeat (first | exact Grown.refl _ | apply Grown.drew | apply Grown.alloc)⟩
  · go_enter Try.func4, Try.ntmps4
    go_wp2
    go_ret
    exact ⟨rfl, by repeat (first | exact Grown.refl _ | apply Grown.drew | apply Grown.alloc)⟩

/-! ### THE ROW's STEP: WRITTEN OUT: LEAVE IT -/
set_option maxRecDepth 100000 in
theorem lifted (os : Os) (started : os.Started) (H : Type) (enc : TypeId × Value → H) :
    ReturnsInHanded {} Try.checked os 4 .any (Rows.fnFitsLayoutNumberRoundTripSpec.pre6 enc Try.prog Try.f4 Rows.fnFitsLayoutNumberRoundTripRow.domain false) (Rows.fnFitsLayoutNumberRoundTripSpec.post enc Try.prog Try.f4 false true false false) := by
  refine returnsInHanded_of_change (C := Try.checked) own started (by kernel_rfl) Try.func4
    (ChangeSpec.witness6 (enc := enc) (C := Try.checked) false ⟨#[], #[.string ByteArray.empty], []⟩ 8 (by kernel_rfl) (by kernel_rfl) (by kernel_rfl) (by kernel_rfl)) ?_
  intro W base args ds gs before hval0 hW hcnd _
  have hval : ∀ (j : Nat) t v, Try.f4.params[j]? = some t → args[j]? = some v → Value.okWide Try.prog W .any base t v := hval0
  have hW' := hW
  obtain ⟨p, q, hA0, hV, rfl, hfz, hnd⟩ := hW
  have hA : DataW.TrodAll enc Try.prog W 0 (fun _ => true) true Try.f4.params.toList args.toList ds p := hA0
  rw [Try.params4] at hA hval
  obtain ⟨v0, vs0, d0, ds0, p0, q0, hargs, rfl, rfl, h0, r0⟩ := trodAll_cons hA
  obtain ⟨rfl, rfl, rfl⟩ := trodAll_nil r0
  obtain rfl : args = #[v0] := by cases args; simp_all
  obtain ⟨rfl, rfl⟩ := trodVars_none hV
  obtain ⟨a0, rfl, rfl, rfl, w0⟩ := open_string Try.underlying9 (hval 0 9 v0 rfl rfl) h0
  clear hA0 hval0
  simp only [List.append_nil] at hW'
  refine (walk a0 w0 W).mono fun e W' ⟨he, hg⟩ => ?_
  subst he
  exact ⟨_, rfl, post_of_same (pa := []) (pv := []) hW' (fun _ _ _ => (trodAll_cons_mk (shut_bool Try.underlying4 _) trodAll_mk0)) (fun sp _ => (trodAll_cons_mk (shut_string Try.underlying9 w0) trodAll_mk0)) (fun _ _ => rfl) rfl
    (hg.frame _) hg.2.1 (ok_one (by kernel_rfl) rfl (okWide_bool_mk Try.underlying4 _))⟩

theorem over : Rows.fnFitsLayoutNumberRoundTripRow.holds Try.pinned (OpenSpec.ofChange Rows.fnFitsLayoutNumberRoundTripSpec) :=
  OpenClaim.holds_of_wide 4 Try.f4 rfl rfl rfl rfl rfl rfl rfl ⟨rfl, rfl, rfl, rfl, rfl⟩ rfl rfl rfl rfl rfl (by kernel_rfl) Try.func4 (by kernel_rfl)
    (of_decide_eq_true (by kernel_rfl)) (by unfold Func.isWrapper; first | (rw [if_pos (by decide +kernel)]; kernel_rfl) | (rw [if_neg (by decide +kernel)]; exact ⟨rfl, rfl⟩))
    (fun os started H enc _ => lifted os started H enc)

/-- ████ THE STATEMENT ████ -/
theorem proved : Rows.FnFitsLayoutNumberRoundTripSaid :=
  over
#print axioms proved
end Go.Proofs.Qxb6602883a.fnFitsLayoutNumberRoundTrip

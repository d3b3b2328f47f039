import Derived.Test.Qxb6603276aRSmall
namespace Go.Proofs.Qxb6603276aR
open Go.ChangeShapes Go.WideShapes Go.ChangeAt Go.RowKit
set_option linter.unusedVariables false

/-- the law comes back with a yes, nothing that was there has turned -/
def Good3 (w : World) (e : Ending) (w' : World) : Prop := e = .returned (.bool true) ∧ Below w.heap.size w w'
theorem good3 {w w' : World} (h : Below w.heap.size w w') : Good3 w (.returned (.bool true)) w' := ⟨rfl, h⟩

theorem mask_home (cx bt : Nat) (hcx : cx < 4294967296) (h16 : bt ≤ 16) : bits .and .u32 (cx : Int) ((2 ^ bt - 1) % 4294967296) = ((cx % 2 ^ bt : Nat) : Int) := by
  have p := pow_le bt h16
  have p1 : 0 < 2 ^ bt := Nat.pow_pos (by omega)
  have e : ((2 : Int) ^ bt - 1) % 4294967296 = ((2 ^ bt - 1 : Nat) : Int) := by
    rw [← pow_cast]
    generalize 2 ^ bt = q at p p1 ⊢
    omega
  rw [e, u32_and_nat _ _ hcx (by omega), Nat.and_two_pow_sub_one_eq_mod]
theorem zzfind_at (w : World) (b N bt cx : Nat) (R : Nat → Int) (r0 r1 r2 : Nat) (ck : Int) (h0 : r0 = home cx bt) (h1 : r1 = home cx bt ^^^ 16) (h2 : r2 = home cx bt ^^^ 32) (hk : ck = (cx : Int) / 2 ^ bt % 256) (hN : N = 16 * 2 ^ bt) (hb2 : 2 ≤ bt) (hb16 : bt ≤ 16) (hcx : cx < 4294967296) (r : Row w b N (fun i => .int .u8 (R i))) :
    Calls Try.prog 10 #[.slice (some ⟨b, 0, none⟩) N N, .int .i64 bt, .int .u32 cx] w fun e w' => FOut w b N R r0 r1 r2 ck e w' := by
  subst h0 h1 h2 hk
  exact zzfind_any w b N bt cx R hN hb2 hb16 hcx r
theorem after_find {w w2 w4 : World} {o : Obj} (h : Below w.heap.size w w2) (k : Keep (fun x => x = w.heap.size) (w2.alloc o) w4) : Below w.heap.size w w4 := by
  have a := h.alloc h.size o
  exact a.trans (k.below a.size (fun k hk e => by omega))
theorem after_find2 {w w2 w4 : World} {o o2 : Obj} {n : Nat} (h : Below w.heap.size w w2) (k : Keep (fun x => x = w.heap.size) (((w2.alloc o).alloc o2).drewN n) w4) : Below w.heap.size w w4 := by
  have a := h.alloc h.size o
  have b := below_drewN (a.alloc a.size o2) n
  exact b.trans (k.below b.size (fun k hk e => by omega))
theorem taken_out {R : Nat → Int} {r i : Nat} {ck : Int} (h : i < r ∨ r + 16 ≤ i) : taken R r ck i = R i := by unfold taken; rw [if_neg (by omega), if_neg (by omega)]
theorem taken_at (R : Nat → Int) (r : Nat) (ck : Int) : taken R r ck r = ck := by unfold taken; rw [if_pos rfl]
theorem taken_in {R : Nat → Int} {r i : Nat} {ck : Int} (h1 : r < i) (h2 : i < r + 16) : taken R r ck i = 0 := by unfold taken; rw [if_neg (by omega), if_pos (by omega)]

set_option maxHeartbeats 8000000 in
set_option maxRecDepth 100000 in
theorem main3 (w : World) (b o c N bt cx : Nat) (R0 : Nat → Int) (hN : N = 16 * 2 ^ bt) (hb2 : 2 ≤ bt) (hb16 : bt ≤ 16) (hcx : cx < 4294967296) (H : Src w b o N .u8 R0) :
    Calls Try.prog 3 #[.slice (some ⟨b, o, none⟩) N c, .int .i64 bt, .int .u32 cx] w fun e w' => Good3 w e w' := by
  have p := pow_le bt hb16
  have hNl : N ≤ 1048576 := by omega
  have ML : Hid (N ≤ maxLen) := by show N ≤ maxLen; unfold maxLen; omega
  have hw : wrap64 (16 * 2 ^ bt) = (N : Int) := by rw [hN]; exact wrap_len bt hb16
  have HN : Hid (N = 16 * 2 ^ bt) := hN
  have CD := cand cx bt hb2
  rw [← hN] at CD
  have CD' : Hid (Cand N (home cx bt) (home cx bt ^^^ 16) (home cx bt ^^^ 32)) := CD
  clear hN CD p
  go_enter Try.func3, Try.ntmps3
  go_wp2_with fail
  refine (bytes8 _ _ _ _ _ _ ML.out).mono ?_
  rintro e w1 ⟨r, rfl, e1⟩
  subst w1
  cases r
  · go_wp2
    go_ret
    exact good3 (Below.refl _ _)
  go_wp2_with fail
  refine (clone_any w b o N c R0 hNl H).mono ?_
  rintro e w1 ⟨rfl, R1, B1, z1⟩
  go_wp2_with fail
  refine (clone_any w1 w.heap.size 0 N N R0 hNl R1.srcOf).mono ?_
  rintro e w2 ⟨rfl, R2, B2, z2⟩
  rw [z1] at R2
  rw [z1]
  have R1' := R1.keep B2
  have Z2 : Hid (w2.heap.size = w.heap.size + 2) := by rw [z1] at z2; exact z2
  have X2 : Below w.heap.size w w2 := B1.trans (B2.mono B1.size)
  clear R1 B1 B2 z1 z2
  obtain ⟨q, hq⟩ : ∃ q, q = cx % 2 ^ bt := ⟨_, rfl⟩
  obtain ⟨r0, hr0⟩ : ∃ r, r = home cx bt := ⟨_, rfl⟩
  obtain ⟨r1, hr1⟩ : ∃ r, r = home cx bt ^^^ 16 := ⟨_, rfl⟩
  obtain ⟨r2, hr2⟩ : ∃ r, r = home cx bt ^^^ 32 := ⟨_, rfl⟩
  obtain ⟨ck, hck⟩ : ∃ k, k = (cx : Int) / 2 ^ bt % 256 := ⟨_, rfl⟩
  have CD := CD'.out
  rw [← hr1, ← hr2, ← hr0] at CD
  have le0 := CD.le0
  have le1 := CD.le1
  have le2 := CD.le2
  have em := mask_home cx bt hcx hb16
  rw [← hq] at em
  have ql : q ≤ 65535 := by
    have a := Nat.mod_lt cx (show 0 < 2 ^ bt from Nat.pow_pos (by omega))
    have b := pow_le bt hb16
    omega
  have e0 : (q : Int) * 16 = (r0 : Int) := by rw [hr0, hq]; unfold home; omega
  have e1 : bits .xor .i64 (r0 : Int) 16 = (r1 : Int) := by rw [hr1, ← hr0]; exact xor_find r0 16 (by omega) (by omega)
  have e2 : bits .xor .i64 (r0 : Int) 32 = (r2 : Int) := by rw [hr2, ← hr0]; exact xor_find r0 32 (by omega) (by omega)
  have ec : (cx : Int) / 2 ^ bt % 256 = ck := hck.symm
  have Q0 : Hid (r0 = home cx bt) := hr0
  have Q1 : Hid (r1 = home cx bt ^^^ 16) := hr1
  have Q2 : Hid (r2 = home cx bt ^^^ 32) := hr2
  have QK : Hid (ck = (cx : Int) / 2 ^ bt % 256) := hck
  clear hr0 hr1 hr2 hck hq CD CD'
  have lt1 := R1'.lt
  have lt2 := R2.lt
  have g0 := R2.cell r0 (by omega)
  have g1 := R2.cell r1 (by omega)
  have g2 := R2.cell r2 (by omega)
  have k0 := R2.cell (r0 + 1) (by omega)
  have k1 := R2.cell (r1 + 1) (by omega)
  have k2 := R2.cell (r2 + 1) (by omega)
  by_cases t0 : R0 r0 = ck
  · have t0' : (R0 r0 == ck) = true := by simpa using t0
    have T0 : Hid (R0 r0 = ck) := t0
    clear t0
    go_wp2
    refine wp_loop_rounds 4 ?_
    rw [rounds_succ]
    go_wp2_with fail
    rw [rounds_succ]
    go_wp2_with fail
    rw [rounds_succ]
    go_wp2_with fail
    rw [rounds_succ]
    go_wp2_with fail
    refine (zzfind_at _ w.heap.size N bt cx R0 r0 r1 r2 ck Q0.out Q1.out Q2.out QK.out HN.out hb2 hb16 hcx (R1'.alloc _)).mono ?_
    rintro e w4 ⟨rfl, R4, K4, z4⟩
    rw [(res0 (r1 := r1) (r2 := r2) T0.out).2] at R4
    rw [(res0 (r1 := r1) (r2 := r2) T0.out).1]
    have R5 := K4.row (R2.alloc _) (by omega)
    have X4 : Below w.heap.size w w4 := after_find X2 K4
    clear R1' R2 K4 z4 X2
    go_wp2
    go_loop [18] (fun i => ∃ k : Nat, k ≤ N ∧ i = .int .i64 k) (fun i => N - (intOf i).toNat)
    case atStart => exact ⟨0, by omega, rfl⟩
    case round =>
      obtain ⟨k, hk, rfl⟩ := hrel
      by_cases hlt : k < N
      · have g4 := R4.cell k hlt
        have g5 := R5.cell k hlt
        go_wp2
        go_round
        case rel => exact ⟨k + 1, by omega, by go_num⟩
        case measure => simp [intOf]; omega
      · go_wp2
        go_ret
        exact good3 X4
  have t0' : (R0 r0 == ck) = false := by simpa using t0
  have T0 : Hid (R0 r0 ≠ ck) := t0
  clear t0
  by_cases t1 : R0 r1 = ck
  · have t1' : (R0 r1 == ck) = true := by simpa using t1
    have T1 : Hid (R0 r1 = ck) := t1
    clear t1
    go_wp2
    refine wp_loop_rounds 4 ?_
    rw [rounds_succ]
    go_wp2_with fail
    rw [rounds_succ]
    go_wp2_with fail
    rw [rounds_succ]
    go_wp2_with fail
    rw [rounds_succ]
    go_wp2_with fail
    refine (zzfind_at _ w.heap.size N bt cx R0 r0 r1 r2 ck Q0.out Q1.out Q2.out QK.out HN.out hb2 hb16 hcx (R1'.alloc _)).mono ?_
    rintro e w4 ⟨rfl, R4, K4, z4⟩
    rw [(res1 (r2 := r2) T0.out T1.out).2] at R4
    rw [(res1 (r2 := r2) T0.out T1.out).1]
    have R5 := K4.row (R2.alloc _) (by omega)
    have X4 : Below w.heap.size w w4 := after_find X2 K4
    clear R1' R2 K4 z4 X2
    go_wp2
    go_loop [18] (fun i => ∃ k : Nat, k ≤ N ∧ i = .int .i64 k) (fun i => N - (intOf i).toNat)
    case atStart => exact ⟨0, by omega, rfl⟩
    case round =>
      obtain ⟨k, hk, rfl⟩ := hrel
      by_cases hlt : k < N
      · have g4 := R4.cell k hlt
        have g5 := R5.cell k hlt
        go_wp2
        go_round
        case rel => exact ⟨k + 1, by omega, by go_num⟩
        case measure => simp [intOf]; omega
      · go_wp2
        go_ret
        exact good3 X4
  have t1' : (R0 r1 == ck) = false := by simpa using t1
  have T1 : Hid (R0 r1 ≠ ck) := t1
  clear t1
  by_cases t2 : R0 r2 = ck
  · have t2' : (R0 r2 == ck) = true := by simpa using t2
    have T2 : Hid (R0 r2 = ck) := t2
    clear t2
    go_wp2
    refine wp_loop_rounds 4 ?_
    rw [rounds_succ]
    go_wp2_with fail
    rw [rounds_succ]
    go_wp2_with fail
    rw [rounds_succ]
    go_wp2_with fail
    rw [rounds_succ]
    go_wp2_with fail
    refine (zzfind_at _ w.heap.size N bt cx R0 r0 r1 r2 ck Q0.out Q1.out Q2.out QK.out HN.out hb2 hb16 hcx (R1'.alloc _)).mono ?_
    rintro e w4 ⟨rfl, R4, K4, z4⟩
    rw [(res2 T0.out T1.out T2.out).2] at R4
    rw [(res2 T0.out T1.out T2.out).1]
    have R5 := K4.row (R2.alloc _) (by omega)
    have X4 : Below w.heap.size w w4 := after_find X2 K4
    clear R1' R2 K4 z4 X2
    go_wp2
    go_loop [18] (fun i => ∃ k : Nat, k ≤ N ∧ i = .int .i64 k) (fun i => N - (intOf i).toNat)
    case atStart => exact ⟨0, by omega, rfl⟩
    case round =>
      obtain ⟨k, hk, rfl⟩ := hrel
      by_cases hlt : k < N
      · have g4 := R4.cell k hlt
        have g5 := R5.cell k hlt
        go_wp2
        go_round
        case rel => exact ⟨k + 1, by omega, by go_num⟩
        case measure => simp [intOf]; omega
      · go_wp2
        go_ret
        exact good3 X4
  have t2' : (R0 r2 == ck) = false := by simpa using t2
  have T2 : Hid (R0 r2 ≠ ck) := t2
  clear t2
  by_cases ca : R0 (r2 + 1) < R0 (r0 + 1)
  · by_cases bc : R0 (r1 + 1) < R0 (r2 + 1)
    · have MS : Hid (missAt R0 r0 r1 r2 = r1) := by show missAt R0 r0 r1 r2 = r1; unfold missAt; rw [if_neg (fun q => by omega), if_pos bc]
      go_wp2
      refine wp_loop_rounds 4 ?_
      rw [rounds_succ]
      go_wp2_with fail
      rw [rounds_succ]
      go_wp2_with fail
      rw [rounds_succ]
      go_wp2_with fail
      rw [rounds_succ]
      go_wp2_with fail
      refine wp_loop_rounds 3 ?_
      rw [rounds_succ]
      go_wp2_with fail
      go_quiet (fail)
      go_wp2_with fail
      rw [rounds_succ]
      go_wp2_with fail
      go_quiet (fail)
      go_wp2_with fail
      rw [rounds_succ]
      go_wp2_with fail
      refine (zzfind_at _ w.heap.size N bt cx R0 r0 r1 r2 ck Q0.out Q1.out Q2.out QK.out HN.out hb2 hb16 hcx (((R1'.alloc _).alloc _).drewN _)).mono ?_
      rintro e w4 ⟨rfl, R4, K4, z4⟩
      rw [(resm T0.out T1.out T2.out).2, MS.out] at R4
      rw [(resm T0.out T1.out T2.out).1, MS.out]
      have R5 := K4.row (((R2.alloc _).alloc _).drewN _) (by omega)
      have X4 : Below w.heap.size w w4 := after_find2 X2 K4
      clear R1' R2 K4 z4 X2
      go_wp2
      go_loop [18, 19] (fun i v => ∃ k : Nat, k ≤ N ∧ i = .int .i64 k) (fun i _ => N - (intOf i).toNat)
      case atStart => exact ⟨0, by omega, rfl⟩
      case round =>
        obtain ⟨k, hk, rfl⟩ := hrel
        by_cases hlt : k < N
        · have g4 := R4.cell k hlt
          have g5 := R5.cell k hlt
          by_cases s1 : k < r1
          · rw [taken_out (.inl s1)] at g4
            go_wp2
            go_round
            case rel => exact ⟨k + 1, by omega, by go_num⟩
            case measure => simp [intOf]; omega
          · by_cases s2 : r1 + 16 ≤ k
            · rw [taken_out (.inr s2)] at g4
              go_wp2
              go_round
              case rel => exact ⟨k + 1, by omega, by go_num⟩
              case measure => simp [intOf]; omega
            · by_cases s3 : k = r1
              · subst s3
                rw [taken_at] at g4
                go_wp2
                go_round
                case rel => exact ⟨k + 1, by omega, by go_num⟩
                case measure => simp [intOf]; omega
              · rw [taken_in (by omega) (by omega)] at g4
                have s3' : ((k : Int) == (r1 : Int)) = false := by simp; omega
                go_wp2
                go_round
                case rel => exact ⟨k + 1, by omega, by go_num⟩
                case measure => simp [intOf]; omega
        · go_wp2
          go_ret
          exact good3 X4
    · have MS : Hid (missAt R0 r0 r1 r2 = r2) := by show missAt R0 r0 r1 r2 = r2; unfold missAt; rw [if_neg (fun q => by omega), if_neg bc]
      go_wp2
      refine wp_loop_rounds 4 ?_
      rw [rounds_succ]
      go_wp2_with fail
      rw [rounds_succ]
      go_wp2_with fail
      rw [rounds_succ]
      go_wp2_with fail
      rw [rounds_succ]
      go_wp2_with fail
      refine wp_loop_rounds 3 ?_
      rw [rounds_succ]
      go_wp2_with fail
      go_quiet (fail)
      go_wp2_with fail
      rw [rounds_succ]
      go_wp2_with fail
      go_quiet (fail)
      go_wp2_with fail
      rw [rounds_succ]
      go_wp2_with fail
      refine (zzfind_at _ w.heap.size N bt cx R0 r0 r1 r2 ck Q0.out Q1.out Q2.out QK.out HN.out hb2 hb16 hcx (((R1'.alloc _).alloc _).drewN _)).mono ?_
      rintro e w4 ⟨rfl, R4, K4, z4⟩
      rw [(resm T0.out T1.out T2.out).2, MS.out] at R4
      rw [(resm T0.out T1.out T2.out).1, MS.out]
      have R5 := K4.row (((R2.alloc _).alloc _).drewN _) (by omega)
      have X4 : Below w.heap.size w w4 := after_find2 X2 K4
      clear R1' R2 K4 z4 X2
      go_wp2
      go_loop [18, 19] (fun i v => ∃ k : Nat, k ≤ N ∧ i = .int .i64 k) (fun i _ => N - (intOf i).toNat)
      case atStart => exact ⟨0, by omega, rfl⟩
      case round =>
        obtain ⟨k, hk, rfl⟩ := hrel
        by_cases hlt : k < N
        · have g4 := R4.cell k hlt
          have g5 := R5.cell k hlt
          by_cases s1 : k < r2
          · rw [taken_out (.inl s1)] at g4
            go_wp2
            go_round
            case rel => exact ⟨k + 1, by omega, by go_num⟩
            case measure => simp [intOf]; omega
          · by_cases s2 : r2 + 16 ≤ k
            · rw [taken_out (.inr s2)] at g4
              go_wp2
              go_round
              case rel => exact ⟨k + 1, by omega, by go_num⟩
              case measure => simp [intOf]; omega
            · by_cases s3 : k = r2
              · subst s3
                rw [taken_at] at g4
                go_wp2
                go_round
                case rel => exact ⟨k + 1, by omega, by go_num⟩
                case measure => simp [intOf]; omega
              · rw [taken_in (by omega) (by omega)] at g4
                have s3' : ((k : Int) == (r2 : Int)) = false := by simp; omega
                go_wp2
                go_round
                case rel => exact ⟨k + 1, by omega, by go_num⟩
                case measure => simp [intOf]; omega
        · go_wp2
          go_ret
          exact good3 X4
  · by_cases ba : R0 (r1 + 1) < R0 (r0 + 1)
    · have MS : Hid (missAt R0 r0 r1 r2 = r1) := by show missAt R0 r0 r1 r2 = r1; unfold missAt; rw [if_neg (fun q => by omega), if_pos (by omega)]
      go_wp2
      refine wp_loop_rounds 4 ?_
      rw [rounds_succ]
      go_wp2_with fail
      rw [rounds_succ]
      go_wp2_with fail
      rw [rounds_succ]
      go_wp2_with fail
      rw [rounds_succ]
      go_wp2_with fail
      refine wp_loop_rounds 3 ?_
      rw [rounds_succ]
      go_wp2_with fail
      go_quiet (fail)
      go_wp2_with fail
      rw [rounds_succ]
      go_wp2_with fail
      go_quiet (fail)
      go_wp2_with fail
      rw [rounds_succ]
      go_wp2_with fail
      refine (zzfind_at _ w.heap.size N bt cx R0 r0 r1 r2 ck Q0.out Q1.out Q2.out QK.out HN.out hb2 hb16 hcx (((R1'.alloc _).alloc _).drewN _)).mono ?_
      rintro e w4 ⟨rfl, R4, K4, z4⟩
      rw [(resm T0.out T1.out T2.out).2, MS.out] at R4
      rw [(resm T0.out T1.out T2.out).1, MS.out]
      have R5 := K4.row (((R2.alloc _).alloc _).drewN _) (by omega)
      have X4 : Below w.heap.size w w4 := after_find2 X2 K4
      clear R1' R2 K4 z4 X2
      go_wp2
      go_loop [18, 19] (fun i v => ∃ k : Nat, k ≤ N ∧ i = .int .i64 k) (fun i _ => N - (intOf i).toNat)
      case atStart => exact ⟨0, by omega, rfl⟩
      case round =>
        obtain ⟨k, hk, rfl⟩ := hrel
        by_cases hlt : k < N
        · have g4 := R4.cell k hlt
          have g5 := R5.cell k hlt
          by_cases s1 : k < r1
          · rw [taken_out (.inl s1)] at g4
            go_wp2
            go_round
            case rel => exact ⟨k + 1, by omega, by go_num⟩
            case measure => simp [intOf]; omega
          · by_cases s2 : r1 + 16 ≤ k
            · rw [taken_out (.inr s2)] at g4
              go_wp2
              go_round
              case rel => exact ⟨k + 1, by omega, by go_num⟩
              case measure => simp [intOf]; omega
            · by_cases s3 : k = r1
              · subst s3
                rw [taken_at] at g4
                go_wp2
                go_round
                case rel => exact ⟨k + 1, by omega, by go_num⟩
                case measure => simp [intOf]; omega
              · rw [taken_in (by omega) (by omega)] at g4
                have s3' : ((k : Int) == (r1 : Int)) = false := by simp; omega
                go_wp2
                go_round
                case rel => exact ⟨k + 1, by omega, by go_num⟩
                case measure => simp [intOf]; omega
        · go_wp2
          go_ret
          exact good3 X4
    · have MS : Hid (missAt R0 r0 r1 r2 = r0) := by show missAt R0 r0 r1 r2 = r0; unfold missAt; rw [if_pos ⟨by omega, by omega⟩]
      go_wp2
      refine wp_loop_rounds 4 ?_
      rw [rounds_succ]
      go_wp2_with fail
      rw [rounds_succ]
      go_wp2_with fail
      rw [rounds_succ]
      go_wp2_with fail
      rw [rounds_succ]
      go_wp2_with fail
      refine wp_loop_rounds 3 ?_
      rw [rounds_succ]
      go_wp2_with fail
      go_quiet (fail)
      go_wp2_with fail
      rw [rounds_succ]
      go_wp2_with fail
      go_quiet (fail)
      go_wp2_with fail
      rw [rounds_succ]
      go_wp2_with fail
      refine (zzfind_at _ w.heap.size N bt cx R0 r0 r1 r2 ck Q0.out Q1.out Q2.out QK.out HN.out hb2 hb16 hcx (((R1'.alloc _).alloc _).drewN _)).mono ?_
      rintro e w4 ⟨rfl, R4, K4, z4⟩
      rw [(resm T0.out T1.out T2.out).2, MS.out] at R4
      rw [(resm T0.out T1.out T2.out).1, MS.out]
      have R5 := K4.row (((R2.alloc _).alloc _).drewN _) (by omega)
      have X4 : Below w.heap.size w w4 := after_find2 X2 K4
      clear R1' R2 K4 z4 X2
      go_wp2
      go_loop [18, 19] (fun i v => ∃ k : Nat, k ≤ N ∧ i = .int .i64 k) (fun i _ => N - (intOf i).toNat)
      case atStart => exact ⟨0, by omega, rfl⟩
      case round =>
        obtain ⟨k, hk, rfl⟩ := hrel
        by_cases hlt : k < N
        · have g4 := R4.cell k hlt
          have g5 := R5.cell k hlt
          by_cases s1 : k < r0
          · rw [taken_out (.inl s1)] at g4
            go_wp2
            go_round
            case rel => exact ⟨k + 1, by omega, by go_num⟩
            case measure => simp [intOf]; omega
          · by_cases s2 : r0 + 16 ≤ k
            · rw [taken_out (.inr s2)] at g4
              go_wp2
              go_round
              case rel => exact ⟨k + 1, by omega, by go_num⟩
              case measure => simp [intOf]; omega
            · by_cases s3 : k = r0
              · subst s3
                rw [taken_at] at g4
                go_wp2
                go_round
                case rel => exact ⟨k + 1, by omega, by go_num⟩
                case measure => simp [intOf]; omega
              · rw [taken_in (by omega) (by omega)] at g4
                have s3' : ((k : Int) == (r0 : Int)) = false := by simp; omega
                go_wp2
                go_round
                case rel => exact ⟨k + 1, by omega, by go_num⟩
                case measure => simp [intOf]; omega
        · go_wp2
          go_ret
          exact good3 X4
end Go.Proofs.Qxb6603276aR

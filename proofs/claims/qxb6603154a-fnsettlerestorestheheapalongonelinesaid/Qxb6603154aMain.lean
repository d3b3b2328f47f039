import Derived.Test.Qxb6603154aZZ
import Derived.Test.Qxb6603154aEarly
namespace Go.Proofs.Qxb6603154a
open Go.ChangeShapes Go.WideShapes Go.ChangeAt Go.RowKit
set_option linter.unusedVariables false

/-- the law comes back with a yes, nothing that was there has turned -/
def Good (w : World) (e : Ending) (w' : World) : Prop := e = .returned (.bool true) ∧ Below w.heap.size w w'
theorem good {w w' : World} (h : Below w.heap.size w w') : Good w (.returned (.bool true)) w' := ⟨rfl, h⟩

theorem idx_of {n m : Nat} {P L : Nat → Int} (h : IdxTo n m P L) : Idx0 n m P L := ⟨fun i hi => (h i hi).1, fun i hi => (h i hi).2.1, fun i hi => (h i hi).2.2⟩
theorem but_of {n s : Nat} {S : Nat → Int} (h : ButTo n s S) : HeapBut n s S := ⟨fun i h1 h2 h3 h4 => (h i h1 h2 h3).1 h4, fun i h1 h2 h3 h4 h5 => (h i h1 h2 h3).2 h4 h5⟩

theorem Row.keep {w w' : World} {b n : Nat} {v : Nat → Value} (h : Row w b n v) (k : Below w.heap.size w w') : Row w' b n v := h.of_block (k.block _ h.lt)
theorem cloneU_at (w : World) (B b off n c : Nat) (f : Nat → Int) (hB : w.heap.size = B) (hn : n ≤ 65536) (H : Src w b off n .u64 f) :
    Calls Try.prog 8 #[.slice (some ⟨b, off, none⟩) n c] w fun e w' => e = .returned (.slice (some ⟨B, 0, none⟩) n n) ∧ Row w' B n (fun i => .int .u64 (f i)) ∧ Below w.heap.size w w' ∧ w'.heap.size = B + 1 := by
  subst hB
  exact cloneU w b off n c f hn H
theorem cloneI_at (w : World) (B b off n c : Nat) (f : Nat → Int) (hB : w.heap.size = B) (hn : n ≤ 65536) (H : Src w b off n .i32 f) :
    Calls Try.prog 9 #[.slice (some ⟨b, off, none⟩) n c] w fun e w' => e = .returned (.slice (some ⟨B, 0, none⟩) n n) ∧ Row w' B n (fun i => .int .i32 (f i)) ∧ Below w.heap.size w w' ∧ w'.heap.size = B + 1 := by
  subst hB
  exact cloneI w b off n c f hn H
theorem Try.info3 : (Try.prog.info? 3).map (fun i => (i.zero, i.size, i.bytes)) = some (some (.int .i64 0), 1, 8) := by kernel_rfl
theorem far (w : World) {a : Addr} {b : Nat} (x : Value) (h : b ≠ a.block) (i : Nat) : (w.setCell a x).cell? ⟨b, i, none⟩ = w.cell? ⟨b, i, none⟩ := World.cell?_of_block (w := w) (Below.heap_setCell _ _ _ _ h)
theorem chg_same {k : Nat} {P P0 : Nat → Int} {cb : Nat → Bool} (h : ∀ i, cb i = (decide (i < k) && decide (P i ≠ P0 i))) (e : P k = P0 k) : ∀ i, cb i = (decide (i < k + 1) && decide (P i ≠ P0 i)) := by
  intro i
  rw [h i]
  by_cases q : i = k
  · subst q; simp [e]
  · have : (i < k + 1) = (i < k) := by simp; omega
    rw [Bool.eq_iff_iff]; simp; omega
theorem chg_new {k : Nat} {P P0 : Nat → Int} {cb : Nat → Bool} (h : ∀ i, cb i = (decide (i < k) && decide (P i ≠ P0 i))) (e : P k ≠ P0 k) : ∀ i, (if i = k then true else cb i) = (decide (i < k + 1) && decide (P i ≠ P0 i)) := by
  intro i
  by_cases q : i = k
  · subst q; simp [e]
  · rw [if_neg q, h i, Bool.eq_iff_iff]; simp; omega
theorem down_of {f s : Nat} (h : Anc f s ∨ Anc s f) (l : s ≤ f) : Anc s f := by
  rcases h with q | q
  · have := q.le
    have e : f = s := by omega
    rw [e]
    exact Anc.refl _
  · exact q
theorem after8 {w a b0 b1 b2 b3 b4 b5 b6 b7 : World} (h : Below w.heap.size w a) (h0 : Below a.heap.size a b0) (h1 : Below b0.heap.size b0 b1) (h2 : Below b1.heap.size b1 b2) (h3 : Below b2.heap.size b2 b3) (h4 : Below b3.heap.size b3 b4) (h5 : Below b4.heap.size b4 b5) (h6 : Below b5.heap.size b5 b6) (h7 : Below b6.heap.size b6 b7) : Below w.heap.size w b7 := by
  have a0 := h.trans (h0.mono h.size)
  have a1 := a0.trans (h1.mono a0.size)
  have a2 := a1.trans (h2.mono a1.size)
  have a3 := a2.trans (h3.mono a2.size)
  have a4 := a3.trans (h4.mono a3.size)
  have a5 := a4.trans (h5.mono a4.size)
  have a6 := a5.trans (h6.mono a5.size)
  exact a6.trans (h7.mono a6.size)
theorem Src.keep {w w' : World} {b off n : Nat} {k : IntKind} {f : Nat → Int} (h : Src w b off n k f) (hb : Below w.heap.size w w') : Src w' b off n k f := h.below hb h.1

set_option maxHeartbeats 8000000 in
set_option maxRecDepth 100000 in
theorem main (w : World) (b0 o0 c0 b1 o1 c1 b2 o2 c2 b3 o3 c3 n m s : Nat) (S0 P0 L0 N0 : Nat → Int) (hs : s < n) (hn : n ≤ 65536) (hm : m ≤ 65536) (hsum : 8 * n + 4 * n + 4 * m + 4 * m ≤ 1048576)
    (H0 : Src w b0 o0 n .u64 S0) (H1 : Src w b1 o1 n .i32 P0) (H2 : Src w b2 o2 m .i32 L0) (H3 : Src w b3 o3 m .i32 N0) (hP : ∀ i, i < n → -2147483648 ≤ P0 i ∧ P0 i ≤ 2147483647) :
    Calls Try.prog 3 #[.slice (some ⟨b0, o0, none⟩) n c0, .slice (some ⟨b1, o1, none⟩) n c1, .slice (some ⟨b2, o2, none⟩) m c2, .slice (some ⟨b3, o3, none⟩) m c3, .int .i64 s] w fun e w' => Good w e w' := by
  have HP : Hid (∀ i, i < n → -2147483648 ≤ P0 i ∧ P0 i ≤ 2147483647) := hP
  have M1 : Hid (n ≤ maxLen) := by show n ≤ maxLen; unfold maxLen; omega
  have M2 : Hid (m ≤ maxLen) := by show m ≤ maxLen; unfold maxLen; omega
  clear hP
  go_enter Try.func3, Try.ntmps3
  go_wp2_with fail
  refine (bytes_any _ _ _ _ _ _ _ _ _ _ _ _ _ _ M1.out M1.out M2.out M2.out).mono ?_
  rintro e w1 ⟨r, rfl, e1⟩
  subst w1
  cases r
  · go_wp2
    go_ret
    exact good (Below.refl _ _)
  go_wp2_with fail
  refine (indexed_some w b1 o1 n c1 b2 o2 m c2 P0 L0 hn hm H1 H2 HP.out).mono ?_
  rintro e w1 ⟨r, rfl, hr, B1⟩
  cases r
  · go_wp2
    go_ret
    exact good B1
  have IX : Hid (Idx0 n m P0 L0) := idx_of (hr rfl)
  clear hr
  go_wp2_with fail
  refine (heapBut_any w1 b0 o0 n c0 s S0 (by omega) hn hs (H0.below B1 H0.1)).mono ?_
  rintro e w2 ⟨r, rfl, hr, B2⟩
  have B2' : Below w.heap.size w w2 := B1.trans (B2.mono B1.size)
  cases r
  · go_wp2
    go_ret
    exact good B2'
  have HB : Hid (HeapBut n s S0) := but_of (hr rfl)
  clear hr B1 B2
  have G0 := H0.below B2' H0.1
  have G1 := H1.below B2' H1.1
  have G2 := H2.below B2' H2.1
  have G3 := H3.below B2' H3.1
  clear H0 H1 H2 H3 M1 M2 HP
  obtain ⟨c, z0⟩ : ∃ c, w2.heap.size = c := ⟨_, rfl⟩
  have Z0 : Hid (w2.heap.size = c) := z0
  clear z0
  go_wp2_with fail
  refine (cloneU_at w2 c b0 o0 n c0 S0 Z0.out hn G0).mono ?_
  rintro e v0 ⟨rfl, R0, D0, z1⟩
  have Z1 : Hid (v0.heap.size = c + 1) := z1
  clear z1
  go_wp2_with fail
  refine (cloneI_at v0 (c + 1) b1 o1 n c1 P0 Z1.out hn (G1.keep D0)).mono ?_
  rintro e v1 ⟨rfl, R1, D1, z2⟩
  have Z2 : Hid (v1.heap.size = c + 2) := z2
  clear z2
  go_wp2_with fail
  refine (cloneI_at v1 (c + 2) b2 o2 m c2 L0 Z2.out hm ((G2.keep D0).keep D1)).mono ?_
  rintro e v2 ⟨rfl, R2, D2, z3⟩
  have Z3 : Hid (v2.heap.size = c + 3) := z3
  clear z3
  go_wp2_with fail
  refine (cloneI_at v2 (c + 3) b3 o3 m c3 N0 Z3.out hm (((G3.keep D0).keep D1).keep D2)).mono ?_
  rintro e v3 ⟨rfl, R3, D3, z4⟩
  have Z4 : Hid (v3.heap.size = c + 4) := z4
  clear z4
  go_wp2_with fail
  refine (cloneU_at v3 (c + 4) c 0 n n S0 Z4.out hn (((R0.keep D1).keep D2).keep D3).srcOf).mono ?_
  rintro e v4 ⟨rfl, R4, D4, z5⟩
  have Z5 : Hid (v4.heap.size = c + 5) := z5
  clear z5
  go_wp2_with fail
  refine (cloneI_at v4 (c + 5) (c + 1) 0 n n P0 Z5.out hn (((R1.keep D2).keep D3).keep D4).srcOf).mono ?_
  rintro e v5 ⟨rfl, R5, D5, z6⟩
  have Z6 : Hid (v5.heap.size = c + 6) := z6
  clear z6
  go_wp2_with fail
  refine (cloneI_at v5 (c + 6) (c + 2) 0 m m L0 Z6.out hm (((R2.keep D3).keep D4).keep D5).srcOf).mono ?_
  rintro e v6 ⟨rfl, R6, D6, z7⟩
  have Z7 : Hid (v6.heap.size = c + 7) := z7
  clear z7
  go_wp2_with fail
  refine (cloneI_at v6 (c + 7) (c + 3) 0 m m N0 Z7.out hm (((R3.keep D4).keep D5).keep D6).srcOf).mono ?_
  rintro e v7 ⟨rfl, R7, D7, z8⟩
  have Z8 : Hid (v7.heap.size = c + 8) := z8
  clear z8
  have F0 : Four v7 c (c + 1) (c + 2) (c + 3) n m S0 P0 L0 N0 := ⟨((((((R0.keep D1).keep D2).keep D3).keep D4).keep D5).keep D6).keep D7, (((((R1.keep D2).keep D3).keep D4).keep D5).keep D6).keep D7, ((((R2.keep D3).keep D4).keep D5).keep D6).keep D7, (((R3.keep D4).keep D5).keep D6).keep D7⟩
  have F1 : Four v7 (c + 4) (c + 5) (c + 6) (c + 7) n m S0 P0 L0 N0 := ⟨((R4.keep D5).keep D6).keep D7, (R5.keep D6).keep D7, R6.keep D7, R7⟩
  have X0 : Below w.heap.size w v7 := after8 B2' D0 D1 D2 D3 D4 D5 D6 D7
  clear G0 G1 G2 G3 R0 R1 R2 R3 R4 R5 R6 R7 D0 D1 D2 D3 D4 D5 D6 D7 Z1 Z2 Z3 Z4 Z5 Z6 Z7
  go_wp2_with fail
  refine (zz_any v7 (c + 4) (c + 5) (c + 6) (c + 7) n m s S0 P0 L0 N0 hn hm hs IX.out HB.out F1 (by omega) (by omega) (by omega) (by omega) (by omega) (by omega)).mono ?_
  rintro e wz ⟨rfl, f, S, P, L, σ, FN, F2, KZ⟩
  have E0 : Four wz c (c + 1) (c + 2) (c + 3) n m S0 P0 L0 N0 := ⟨KZ.row F0.r1 (by omega), KZ.row F0.r2 (by omega), KZ.row F0.r3 (by omega), KZ.row F0.r4 (by omega)⟩
  have X1 : Below w.heap.size w wz := X0.trans (KZ.below X0.size (fun k hk => by have := Z0.out; have := B2'.size; omega))
  have FIN : Hid _ := FN
  clear F0 F1 FN KZ X0 B2' HB Z0
  have mo := run_make_row' (P := Try.prog) 30 3 (.int .i64 0) 8 Try.underlying30 Try.info3 rfl .i64 .i64 m (by omega) (by omega)
  have ms := run_make_row' (P := Try.prog) 31 4 (.bool false) 1 Try.underlying31 Try.info4 rfl .i64 .i64 m (by omega) (by omega)
  have mc := run_make_row' (P := Try.prog) 31 4 (.bool false) 1 Try.underlying31 Try.info4 rfl .i64 .i64 n (by omega) (by omega)
  go_wp2
  go_loopw [18] (fun i wr => ∃ k : Nat, k ≤ m ∧ i = .int .i64 k ∧ (∃ o : Nat → Int, Pre k o (fun _ => -1) ∧ Row wr wz.heap.size m (fun i => .int .i64 (o i))) ∧ Below wz.heap.size wz wr ∧ wr.heap.size = wz.heap.size + 1) (fun i _ => m - (intOf i).toNat)
  case atStart => exact ⟨0, by omega, rfl, ⟨fun _ => 0, Pre.zero _ _, row_made wz _ m 3⟩, (Below.refl _ _).alloc (Nat.le_refl _) _, by simp⟩
  case round =>
    obtain ⟨k, hk, rfl, ⟨o, po, R⟩, B, z⟩ := hrel
    have Z : Hid _ := z
    clear z
    by_cases hlt : k < m
    · have c1 := R.cell k hlt
      have f1 := R.free k
      go_wp2
      go_roundw
      case rel => exact ⟨k + 1, by omega, by go_num, ⟨_, po.succ rfl, row_upd R _⟩, B.setCell (Nat.le_refl _) _, by simpa using Z.out⟩
      case measure => simp [intOf]; omega
    · have O0 : OwnTo 0 m P0 o := OwnTo.zero fun p hp => po p (by omega)
      clear po
      go_wp2
      go_loopw [19] (fun i wr => ∃ k : Nat, k ≤ n ∧ i = .int .i64 k ∧ (∃ o : Nat → Int, OwnTo k m P0 o ∧ Row wr wz.heap.size m (fun i => .int .i64 (o i))) ∧ Below wz.heap.size wz wr ∧ wr.heap.size = wz.heap.size + 1) (fun i _ => n - (intOf i).toNat)
      case atStart => exact ⟨0, by omega, rfl, ⟨o, O0, R⟩, B, Z.out⟩
      case round =>
        clear O0 R B Z
        obtain ⟨k2, hk2, rfl, ⟨o, O, R⟩, B, z⟩ := hrel
        have Z : Hid _ := z
        have O' : Hid _ := O
        clear z O
        by_cases hlt2 : k2 < n
        · obtain ⟨q, hq⟩ := Int.eq_ofNat_of_zero_le (IX.out.lo k2 hlt2)
          have hqm := IX.out.hi k2 hlt2
          have g1 := (B.cell (p := ⟨c + 1, k2, none⟩) E0.r2.lt).trans (E0.r2.cell k2 hlt2)
          rw [hq] at g1 hqm
          have HQ : Hid (P0 k2 = (q : Int)) := hq
          clear hq
          have c1 := R.cell q (by omega)
          have f1 := R.free q
          have O2 : Hid (OwnTo (k2 + 1) m P0 (upd o q k2)) := by
            have := OwnTo.succ IX.out hlt2 O'.out
            rwa [HQ.out, Int.toNat_natCast] at this
          go_wp2
          go_roundw
          case rel => exact ⟨k2 + 1, by omega, by go_num, ⟨_, O2.out, row_upd R _⟩, B.setCell (Nat.le_refl _) _, by simpa using Z.out⟩
          case measure => simp [intOf]; omega
        · have O3 : Hid (OwnTo n m P0 o) := by
            have : k2 = n := by omega
            subst this
            exact O'.out
          clear O'
          go_wp2
          go_loopw [20] (fun i wr => ∃ k : Nat, k ≤ m ∧ i = .int .i64 k ∧ Row wr wz.heap.size m (fun i => .int .i64 (o i)) ∧ Below wz.heap.size wz wr ∧ wr.heap.size = wz.heap.size + 1) (fun i _ => m - (intOf i).toNat)
          case atStart => exact ⟨0, by omega, rfl, R, B, Z.out⟩
          case round =>
            clear R B Z
            obtain ⟨k3, hk3, rfl, R, B, z⟩ := hrel
            have Z : Hid _ := z
            clear z
            by_cases hlt3 : k3 < m
            · have g1 := (B.cell (p := ⟨c + 7, k3, none⟩) F2.r4.lt).trans (F2.r4.cell k3 hlt3)
              have g2 := (B.cell (p := ⟨c + 3, k3, none⟩) E0.r4.lt).trans (E0.r4.cell k3 hlt3)
              have g3 := R.cell k3 hlt3
              by_cases neg : o k3 < 0
              · have hL : L k3 = L0 k3 := FIN.out.out k3 hlt3 (OwnTo.neg IX.out.lo O3.out neg)
                have g4 := (B.cell (p := ⟨c + 6, k3, none⟩) F2.r3.lt).trans (F2.r3.cell k3 hlt3)
                have g5 := (B.cell (p := ⟨c + 2, k3, none⟩) E0.r3.lt).trans (E0.r3.cell k3 hlt3)
                rw [hL] at g4
                clear hL
                have gd : decide (o k3 < 0) = true := decide_eq_true neg
                go_wp2
                go_quiet (fail)
                go_wp2
                go_quiet (fail)
                go_wp2
                go_roundw
                case rel => exact ⟨k3 + 1, by omega, by go_num, R.drewN _, below_drewN B _, Z.out⟩
                case measure => simp [intOf]; omega
              · have gd : decide (o k3 < 0) = false := decide_eq_false neg
                go_wp2
                go_quiet (fail)
                go_wp2
                go_quiet (fail)
                go_wp2
                go_roundw
                case rel => exact ⟨k3 + 1, by omega, by go_num, R.drewN _, below_drewN B _, Z.out⟩
                case measure => simp [intOf]; omega
            · have RS : Row (wr.alloc (.cells (madeCells #[.bool false] m) 4)) (wz.heap.size + 1) m (fun _ => .bool false) := by
                have := row_made wr (.bool false) m 4
                rwa [Z.out] at this
              have zz := Z.out
              go_wp2
              go_loopw [22] (fun i wr => ∃ k : Nat, k ≤ n ∧ i = .int .i64 k ∧ (∃ sb : Nat → Bool, (∀ p : Nat, sb p = true → ∃ j, j < k ∧ P j = p) ∧ Row wr (wz.heap.size + 1) m (fun i => .bool (sb i))) ∧ Row wr wz.heap.size m (fun i => .int .i64 (o i)) ∧ Below wz.heap.size wz wr ∧ wr.heap.size = wz.heap.size + 2) (fun i _ => n - (intOf i).toNat)
              case atStart => exact ⟨0, by omega, rfl, ⟨fun _ => false, (fun p hp => by cases hp), RS⟩, R.alloc _, B.alloc (by omega) _, by simp [zz]⟩
              case round =>
                clear R B Z zz RS
                obtain ⟨k4, hk4, rfl, ⟨sb, hsb, RS⟩, R, B, z⟩ := hrel
                have Z : Hid _ := z
                have HS : Hid _ := hsb
                clear z hsb
                by_cases hlt4 : k4 < n
                · obtain ⟨p0, p1⟩ := FIN.out.lo IX.out k4 hlt4
                  obtain ⟨q, hq⟩ := Int.eq_ofNat_of_zero_le p0
                  have ho := FIN.out.own O3.out k4 hlt4
                  obtain ⟨ts, tS, tP⟩ := FIN.out.src k4 hlt4
                  have hl := FIN.out.idx k4 hlt4
                  have g1 := (B.cell (p := ⟨c + 5, k4, none⟩) F2.r2.lt).trans (F2.r2.cell k4 hlt4)
                  have g2 := (B.cell (p := ⟨c + 4, k4, none⟩) F2.r1.lt).trans (F2.r1.cell k4 hlt4)
                  have g3 := (B.cell (p := ⟨c, σ k4, none⟩) E0.r1.lt).trans (E0.r1.cell (σ k4) ts)
                  rw [hq] at g1 ho hl p1
                  rw [Int.toNat_natCast] at ho hl
                  have g4 := (B.cell (p := ⟨c + 6, q, none⟩) F2.r3.lt).trans (F2.r3.cell q (by omega))
                  have g5 := R.cell q (by omega)
                  have g6 := RS.cell q (by omega)
                  have g7 := RS.free q
                  have hs0 : sb q = false := by
                    cases e : sb q
                    · rfl
                    · obtain ⟨j, hj, ej⟩ := HS.out q e
                      have := FIN.out.idx j (by omega)
                      rw [ej, Int.toNat_natCast, hl] at this
                      omega
                  rw [hs0] at g6
                  rw [ho] at g5
                  rw [hl] at g4
                  rw [tS] at g2
                  have HQ : Hid (P k4 = (q : Int)) := hq
                  clear hq ho tS tP hl hs0 p0
                  have lc := F2.r3.lt
                  have s2 := (far wr (a := ⟨wz.heap.size + 1, q, none⟩) (.bool true) (show c + 4 ≠ wz.heap.size + 1 by omega) k4).trans g2
                  have s3 := (far wr (a := ⟨wz.heap.size + 1, q, none⟩) (.bool true) (show c ≠ wz.heap.size + 1 by omega) (σ k4)).trans g3
                  have s4 := (far wr (a := ⟨wz.heap.size + 1, q, none⟩) (.bool true) (show c + 6 ≠ wz.heap.size + 1 by omega) q).trans g4
                  have s5 := (far wr (a := ⟨wz.heap.size + 1, q, none⟩) (.bool true) (show wz.heap.size ≠ wz.heap.size + 1 by omega) q).trans g5
                  go_wp2
                  go_quiet (fail)
                  go_wp2
                  go_roundw
                  case rel =>
                    refine ⟨k4 + 1, by omega, by go_num, ⟨fun i => if i = q then true else sb i, ?_, ((RS.set q _).congr (fun i _ => by by_cases e : i = q <;> simp [e])).drewN _⟩, (R.other (by simp) _).drewN _, below_drewN (B.setCell (by simp) _) _, by simpa using Z.out⟩
                    intro p hp
                    by_cases e : p = q
                    · exact ⟨k4, by omega, by rw [HQ.out, e]⟩
                    · simp only [if_neg e] at hp
                      obtain ⟨j, hj, ej⟩ := HS.out p hp
                      exact ⟨j, by omega, ej⟩
                  case measure => simp [intOf]; omega
                · clear RS HS
                  go_wp2
                  go_loopw [24] (fun i wr => ∃ k : Nat, 1 ≤ k ∧ k ≤ n ∧ i = .int .i64 k ∧ Below wz.heap.size wz wr ∧ wr.heap.size = wz.heap.size + 2) (fun i _ => n - (intOf i).toNat)
                  case atStart => exact ⟨1, by omega, by omega, rfl, B, Z.out⟩
                  case round =>
                    clear R B Z
                    obtain ⟨k5, hk5, hk5', rfl, B, z⟩ := hrel
                    have Z : Hid _ := z
                    clear z
                    by_cases hlt5 : k5 < n
                    · have pe : ((k5 : Int) - 1) / 2 = ((par k5 : Nat) : Int) := by unfold par; omega
                      have pl := par_lt (i := k5) (by omega)
                      have g1 := (B.cell (p := ⟨c + 4, k5, none⟩) F2.r1.lt).trans (F2.r1.cell k5 hlt5)
                      have g2 := (B.cell (p := ⟨c + 4, par k5, none⟩) F2.r1.lt).trans (F2.r1.cell (par k5) (by omega))
                      have od := FIN.out.ord k5 hk5 hlt5
                      go_wp2
                      go_quiet (fail)
                      go_wp2
                      go_roundw
                      case rel => exact ⟨k5 + 1, by omega, by omega, by go_num, below_drewN B _, Z.out⟩
                      case measure => simp [intOf]; omega
                    · have RC : Row (wr.alloc (.cells (madeCells #[.bool false] n) 4)) (wz.heap.size + 2) n (fun _ => .bool false) := by
                        have := row_made wr (.bool false) n 4
                        rwa [Z.out] at this
                      have zz := Z.out
                      go_wp2
                      go_loopw [26, 27] (fun t i wr => ∃ (k : Nat) (top : Int), k ≤ n ∧ i = .int .i64 k ∧ t = .int .i64 top ∧ TopTo k P P0 top ∧ (∃ cb : Nat → Bool, (∀ i, cb i = (decide (i < k) && decide (P i ≠ P0 i))) ∧ Row wr (wz.heap.size + 2) n (fun i => .bool (cb i))) ∧ Below wz.heap.size wz wr ∧ wr.heap.size = wz.heap.size + 3) (fun _ i _ => n - (intOf i).toNat)
                      case atStart => exact ⟨0, -1, by omega, rfl, rfl, TopTo.zero _ _, ⟨fun _ => false, (fun i => by simp), RC⟩, B.alloc (by omega) _, by simp [zz]⟩
                      case round =>
                        clear RC B Z zz
                        obtain ⟨k6, top, hk6, rfl, rfl, TT, ⟨cb, hcb, RC⟩, B, z⟩ := hrel
                        have Z : Hid _ := z
                        have HC : Hid _ := hcb
                        have HT : Hid (TopTo k6 P P0 top) := TT
                        obtain ⟨tl, th⟩ := TT.lo
                        clear z hcb TT
                        by_cases hlt6 : k6 < n
                        · have g1 := (B.cell (p := ⟨c + 5, k6, none⟩) F2.r2.lt).trans (F2.r2.cell k6 hlt6)
                          have g2 := (B.cell (p := ⟨c + 1, k6, none⟩) E0.r2.lt).trans (E0.r2.cell k6 hlt6)
                          have g3 := RC.cell k6 hlt6
                          have g4 := RC.free k6
                          by_cases same : P k6 = P0 k6
                          · have nb : (P k6 != P0 k6) = false := by simpa using same
                            have SM : Hid (P k6 = P0 k6) := same
                            clear same
                            go_wp2
                            go_quiet (fail)
                            go_wp2
                            go_roundw
                            case rel => exact ⟨k6 + 1, top, by omega, by go_num, rfl, TopTo.same HT.out SM.out, ⟨cb, chg_same HC.out SM.out, RC.drewN _⟩, below_drewN B _, Z.out⟩
                            case measure => simp [intOf]; omega
                          · have nb : (P k6 != P0 k6) = true := by simpa using same
                            have SM : Hid (P k6 ≠ P0 k6) := same
                            have LN : Hid (Anc k6 s ∨ Anc s k6) := FIN.out.line IX.out k6 hlt6 same
                            clear same
                            have RC2 : Row (wr.setCell ⟨wz.heap.size + 2, k6, none⟩ (.bool true)) (wz.heap.size + 2) n (fun i => .bool (if i = k6 then true else cb i)) := (RC.set k6 _).congr (fun i _ => by by_cases e : i = k6 <;> simp [e])
                            by_cases neg : top < 0
                            · rcases LN.out with an | an
                              · go_wp2
                                go_quiet (fail)
                                go_wp2_with (go_at_call 11; refine (onLine_up k6 s _ (by omega) an).mono ?_; rintro e w' ⟨rfl, e1⟩; subst w')
                                go_roundw
                                case rel => exact ⟨k6 + 1, (k6 : Int), by omega, by go_num, rfl, TopTo.first HT.out neg SM.out, ⟨_, chg_new HC.out SM.out, RC2.drewN _⟩, below_drewN (B.setCell (by simp) _) _, by simpa using Z.out⟩
                                case measure => simp [intOf]; omega
                              · go_wp2
                                go_quiet (fail)
                                go_wp2_with (go_at_call 11; refine (onLine_down s k6 _ (by omega) an).mono ?_; rintro e w' ⟨rfl, e1⟩; subst w')
                                go_roundw
                                case rel => exact ⟨k6 + 1, (k6 : Int), by omega, by go_num, rfl, TopTo.first HT.out neg SM.out, ⟨_, chg_new HC.out SM.out, RC2.drewN _⟩, below_drewN (B.setCell (by simp) _) _, by simpa using Z.out⟩
                                case measure => simp [intOf]; omega
                            · rcases LN.out with an | an
                              · go_wp2
                                go_quiet (fail)
                                go_wp2_with (go_at_call 11; refine (onLine_up k6 s _ (by omega) an).mono ?_; rintro e w' ⟨rfl, e1⟩; subst w')
                                go_roundw
                                case rel => exact ⟨k6 + 1, top, by omega, by go_num, rfl, TopTo.stay HT.out (by omega), ⟨_, chg_new HC.out SM.out, RC2.drewN _⟩, below_drewN (B.setCell (by simp) _) _, by simpa using Z.out⟩
                                case measure => simp [intOf]; omega
                              · go_wp2
                                go_quiet (fail)
                                go_wp2_with (go_at_call 11; refine (onLine_down s k6 _ (by omega) an).mono ?_; rintro e w' ⟨rfl, e1⟩; subst w')
                                go_roundw
                                case rel => exact ⟨k6 + 1, top, by omega, by go_num, rfl, TopTo.stay HT.out (by omega), ⟨_, chg_new HC.out SM.out, RC2.drewN _⟩, below_drewN (B.setCell (by simp) _) _, by simpa using Z.out⟩
                                case measure => simp [intOf]; omega
                        · have ek : k6 = n := by omega
                          have HT2 : Hid (TopTo n P P0 top) := by rw [← ek]; exact HT.out
                          have HC2 : Hid (∀ i, i < n → cb i = decide (P i ≠ P0 i)) := fun i hi => by rw [HC.out i, ek]; simp [hi]
                          clear HT HC ek
                          go_wp2
                          go_loopw [28] (fun i wr => ∃ k : Nat, 1 ≤ k ∧ k ≤ n ∧ i = .int .i64 k ∧ Row wr (wz.heap.size + 2) n (fun i => .bool (cb i)) ∧ Below wz.heap.size wz wr) (fun i _ => n - (intOf i).toNat)
                          case atStart => exact ⟨1, by omega, by omega, rfl, RC, B⟩
                          case round =>
                            clear RC B Z
                            obtain ⟨k7, hk7, hk7', rfl, RC, B⟩ := hrel
                            by_cases hlt7 : k7 < n
                            · have pe : ((k7 : Int) - 1) / 2 = ((par k7 : Nat) : Int) := by unfold par; omega
                              have pl := par_lt (i := k7) (by omega)
                              have g1 := RC.cell k7 hlt7
                              by_cases ch : P k7 = P0 k7
                              · rw [HC2.out k7 hlt7, decide_eq_false (fun q => q ch)] at g1
                                clear ch
                                go_wp2
                                go_roundw
                                case rel => exact ⟨k7 + 1, by omega, by omega, by go_num, RC, B⟩
                                case measure => simp [intOf]; omega
                              · rw [HC2.out k7 hlt7, decide_eq_true ch] at g1
                                have CH : Hid (P k7 ≠ P0 k7) := ch
                                clear ch
                                by_cases et : (k7 : Int) = top
                                · have eb : ((k7 : Int) != top) = false := by simpa using et
                                  have ET : Hid ((k7 : Int) = top) := et
                                  clear et
                                  by_cases odd : k7 % 2 = 1
                                  · have od : ((k7 : Int) % 2 == 1) = true := by simp; omega
                                    by_cases more : k7 + 1 < n
                                    · have g9 := RC.cell (k7 + 1) more
                                      rw [HC2.out (k7 + 1) more, decide_eq_false (fun q => q (FIN.out.sibs IX.out k7 more odd CH.out))] at g9
                                      go_wp2
                                      go_roundw
                                      case rel => exact ⟨k7 + 1, by omega, by omega, by go_num, RC, B⟩
                                      case measure => simp [intOf]; omega
                                    · go_wp2
                                      go_roundw
                                      case rel => exact ⟨k7 + 1, by omega, by omega, by go_num, RC, B⟩
                                      case measure => simp [intOf]; omega
                                  · have od : ((k7 : Int) % 2 == 1) = false := by simp; omega
                                    go_wp2
                                    go_roundw
                                    case rel => exact ⟨k7 + 1, by omega, by omega, by go_num, RC, B⟩
                                    case measure => simp [intOf]; omega
                                · have eb : ((k7 : Int) != top) = true := by simpa using et
                                  have g8 := RC.cell (par k7) (by omega)
                                  rw [HC2.out (par k7) (by omega), decide_eq_true (FIN.out.chain' IX.out HT2.out k7 hlt7 hk7 CH.out et)] at g8
                                  clear et
                                  by_cases odd : k7 % 2 = 1
                                  · have od : ((k7 : Int) % 2 == 1) = true := by simp; omega
                                    by_cases more : k7 + 1 < n
                                    · have g9 := RC.cell (k7 + 1) more
                                      rw [HC2.out (k7 + 1) more, decide_eq_false (fun q => q (FIN.out.sibs IX.out k7 more odd CH.out))] at g9
                                      go_wp2
                                      go_roundw
                                      case rel => exact ⟨k7 + 1, by omega, by omega, by go_num, RC, B⟩
                                      case measure => simp [intOf]; omega
                                    · go_wp2
                                      go_roundw
                                      case rel => exact ⟨k7 + 1, by omega, by omega, by go_num, RC, B⟩
                                      case measure => simp [intOf]; omega
                                  · have od : ((k7 : Int) % 2 == 1) = false := by simp; omega
                                    go_wp2
                                    go_roundw
                                    case rel => exact ⟨k7 + 1, by omega, by omega, by go_num, RC, B⟩
                                    case measure => simp [intOf]; omega
                            · obtain ⟨q, hq⟩ := Int.eq_ofNat_of_zero_le (IX.out.lo s hs)
                              have hqm := IX.out.hi s hs
                              have fl := FIN.out.fl
                              have fs := FIN.out.at_s
                              have g1 := (B.cell (p := ⟨c + 1, s, none⟩) E0.r2.lt).trans (E0.r2.cell s hs)
                              rw [hq] at g1 hqm fs
                              rw [Int.toNat_natCast] at fs
                              have g2 := (B.cell (p := ⟨c + 6, q, none⟩) F2.r3.lt).trans (F2.r3.cell q (by omega))
                              rw [fs] at g2
                              have g3 := (B.cell (p := ⟨c, s, none⟩) E0.r1.lt).trans (E0.r1.cell s hs)
                              have X2 : Below w.heap.size w wr := X1.trans (B.mono X1.size)
                              clear hq fs
                              by_cases s0 : 0 < s
                              · have pe : ((s : Int) - 1) / 2 = ((par s : Nat) : Int) := by unfold par; omega
                                have pl := par_lt s0
                                have g4 := (B.cell (p := ⟨c, par s, none⟩) E0.r1.lt).trans (E0.r1.cell (par s) (by omega))
                                have gd : decide ((0 : Int) < (s : Int)) = true := decide_eq_true (by omega)
                                by_cases gt : S0 s < S0 (par s)
                                · have fu := FIN.out.dirU s0 gt
                                  have an : Anc f s := by
                                    rcases FIN.out.onl with q | q
                                    · exact q
                                    · have := q.le; omega
                                  have AN : Hid (Anc f s) := an
                                  clear an
                                  go_wp2
                                  go_quiet (fail)
                                  go_wp2_with (go_at_call 11; refine (onLine_up f s _ (by omega) AN.out).mono ?_; rintro e w' ⟨rfl, e1⟩; subst w')
                                  go_ret
                                  exact good (below_drewN X2 _)
                                · have fu := FIN.out.dirD (fun q => gt q.2)
                                  have AN : Hid (Anc s f) := down_of FIN.out.onl fu
                                  go_wp2
                                  go_quiet (fail)
                                  go_wp2_with (go_at_call 11; refine (onLine_down s f _ (by omega) AN.out).mono ?_; rintro e w' ⟨rfl, e1⟩; subst w')
                                  go_ret
                                  exact good (below_drewN X2 _)
                              · have gd : decide ((0 : Int) < (s : Int)) = false := decide_eq_false (by omega)
                                have fu := FIN.out.dirD (fun q => s0 q.1)
                                have AN : Hid (Anc s f) := down_of FIN.out.onl fu
                                go_wp2
                                go_quiet (fail)
                                go_wp2_with (go_at_call 11; refine (onLine_down s f _ (by omega) AN.out).mono ?_; rintro e w' ⟨rfl, e1⟩; subst w')
                                go_ret
                                exact good (below_drewN X2 _)

set_option maxHeartbeats 2000000 in
set_option maxRecDepth 100000 in
theorem main0 (w : World) (a0 a2 a3 : Option Addr) (c0 b1 o1 c1 c2 c3 n s : Nat) (P0 : Nat → Int) (hs : s < n) (hn : n ≤ 65536) (hsum : 8 * n + 4 * n ≤ 1048576)
    (H1 : Src w b1 o1 n .i32 P0) (hP : ∀ i, i < n → -2147483648 ≤ P0 i ∧ P0 i ≤ 2147483647) :
    Calls Try.prog 3 #[.slice a0 n c0, .slice (some ⟨b1, o1, none⟩) n c1, .slice a2 0 c2, .slice a3 0 c3, .int .i64 s] w fun e w' => Good w e w' := by
  have HP : Hid (∀ i, i < n → -2147483648 ≤ P0 i ∧ P0 i ≤ 2147483647) := hP
  have M1 : Hid (n ≤ maxLen) := by show n ≤ maxLen; unfold maxLen; omega
  have M2 : Hid (0 ≤ maxLen) := by show 0 ≤ maxLen; unfold maxLen; omega
  clear hP
  go_enter Try.func3, Try.ntmps3
  go_wp2_with fail
  refine (bytes_any _ _ _ _ _ _ _ _ _ _ _ _ _ _ M1.out M1.out M2.out M2.out).mono ?_
  rintro e w1 ⟨r, rfl, e1⟩
  subst w1
  cases r
  · go_wp2
    go_ret
    exact good (Below.refl _ _)
  go_wp2_with fail
  refine (indexed_none w b1 o1 n c1 c2 a2 P0 P0 (by omega) hn H1 HP.out).mono ?_
  rintro e w1 ⟨r, rfl, hr, B1⟩
  cases r
  · go_wp2
    go_ret
    exact good B1
  · exact absurd (hr rfl) (fun h => h)
end Go.Proofs.Qxb6603154a

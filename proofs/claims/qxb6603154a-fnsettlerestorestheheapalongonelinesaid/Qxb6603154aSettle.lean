import Derived.Test.Qxb6603154aPut
namespace Go.Proofs.Qxb6603154a
open Go.ChangeShapes Go.WideShapes Go.ChangeAt Go.RowKit
set_option linter.unusedVariables false

/-- the box that holds the holder which is being settled -/
structure Ebox (w : World) (be bh bp : Nat) (x y : Int) : Prop where
  c0 : w.cell? ⟨be, 0, none⟩ = some (.int .u64 x)
  c1 : w.cell? ⟨be, 1, none⟩ = some (.int .i32 y)
  lt : be < w.heap.size
  d1 : be ≠ bh
  d2 : be ≠ bp
theorem Ebox.keep {w w' : World} {be bh bp : Nat} {x y : Int} (h : Ebox w be bh bp x y) (k : Keep (fun b => b = bh ∨ b = bp) w w') : Ebox w' be bh bp x y := by
  have hb := k.block be h.lt (fun e => by rcases e with e | e; exact h.d1 e; exact h.d2 e)
  exact ⟨(World.cell?_of_block (w := w) hb).trans h.c0, (World.cell?_of_block (w := w) hb).trans h.c1, Nat.lt_of_lt_of_le h.lt k.size, h.d1, h.d2⟩

theorem Ebox.drewN {w : World} {be bh bp : Nat} {x y : Int} (h : Ebox w be bh bp x y) (k : Nat) : Ebox (w.drewN k) be bh bp x y := ⟨h.c0, h.c1, h.lt, h.d1, h.d2⟩
theorem kids_of {i g : Nat} (h : 1 ≤ i) (e : par i = g) : i = 2 * g + 1 ∨ i = 2 * g + 2 := by unfold par at e; omega
theorem par_int {h : Nat} (h0 : 0 < h) : ((h : Int) - 1) / 2 = ((par h : Nat) : Int) := by unfold par; omega

set_option maxHeartbeats 4000000 in
theorem settle_any (w : World) (bx bh bp n m s : Nat) (S0 P0 L0 N : Nat → Int) (hn : n ≤ 65536) (hm : m ≤ 65536) (hs : s < n)
    (ix : Idx0 n m P0 L0) (hb : HeapBut n s S0) (H : St w bx bh bp n m S0 P0 L0 N) :
    Calls Try.prog 13 #[.pointer (some ⟨bx, 0, none⟩), .slice (some ⟨bh, 0, none⟩) n n, .int .i64 s] w fun e w' =>
      e = .returned (.tuple #[]) ∧ ∃ (f : Nat) (S P L : Nat → Int) (σ : Nat → Nat), Fin n m s f S0 P0 L0 S P L σ ∧ St w' bx bh bp n m S P L N ∧ Keep (fun b => b = bh ∨ b = bp) w w' := by
  have IX : Hid (Idx0 n m P0 L0) := ix
  have HB : Hid (HeapBut n s S0) := hb
  clear ix hb
  have hbh := H.rh.lt
  have c0 := H.rh.cell (s * 2) (by omega)
  have c1 := H.rh.cell (s * 2 + 1) (by omega)
  rw [hv0] at c0
  rw [hv1] at c1
  go_enter Try.func13, Try.ntmps13
  go_wp2
  go_loopw [2] (fun i wr => ∃ (h : Nat) (S P L : Nat → Int) (σ : Nat → Nat), i = .int .i64 h ∧ UpI n m h s S0 P0 L0 S P L σ ∧ St wr bx bh bp n m S P L N ∧ Ebox wr w.heap.size bh bp (S0 s) (P0 s) ∧ Keep (fun b => b = bh ∨ b = bp) w wr) (fun i _ => (intOf i).toNat)
  case atStart =>
    have lp := H.rp.lt
    exact ⟨s, S0, P0, L0, fun i => i, rfl, up_start hs IX.out HB.out, H.keep ((Below.refl _ _).alloc (Nat.le_refl _) _), ⟨by simp [go_sem], by simp [go_sem], by simp, by omega, by omega⟩, (Keep.refl _ _).alloc _⟩
  case round =>
    obtain ⟨h, S, P, L, σ, rfl, U, T, E, K⟩ := hrel
    have hhn := U.hn
    have hbh' := T.rh.lt
    have eb0 := E.c0
    have eb1 := E.c1
    by_cases h0 : 0 < h
    · have hpl := par_lt h0
      have pe := par_int h0
      have p0 := T.rh.cell (par h * 2) (by omega)
      have p1 := T.rh.cell (par h * 2 + 1) (by omega)
      rw [hv0] at p0
      rw [hv1] at p1
      have hpp := (U.src (par h) (by omega)).2.2
      by_cases gt : S0 s < S (par h)
      · have gd : decide ((0 : Int) < (h : Int)) = true := by simpa using h0
        have hlo : 0 ≤ P (par h) := by rw [hpp]; exact IX.out.lo _ (U.src (par h) (by omega)).1
        have hhi : P (par h) < m := by rw [hpp]; exact IX.out.hi _ (U.src (par h) (by omega)).1
        clear hpp
        go_wp2
        go_quiet (fail)
        go_wp2_with (go_at_call 14; refine (put_int _ bx bh bp n m h S P L N (S (par h)) (P (par h)) hn hm hhn hlo hhi (T.drewN _)).mono ?_; rintro e w2 ⟨rfl, T2, K2⟩)
        go_roundw
        case rel => exact ⟨par h, _, _, _, _, by rw [pe], up_step IX.out U h0 gt, T2, E.drewN _ |>.keep K2, (K.drewN _).trans K2⟩
        case measure => simp [intOf]; omega
      · have D : DnI n m h s S0 P0 L0 S P L σ := up_end U (fun _ => by omega)
        have gd : decide ((0 : Int) < (h : Int)) = true := by simpa using h0
        clear hpp
        go_wp2
        go_quiet (fail)
        go_wp2
        clear pe p0 p1 gt gd hpl h0
        go_loopw [2] (fun i wr => ∃ (h : Nat) (S P L : Nat → Int) (σ : Nat → Nat), i = .int .i64 h ∧ DnI n m h s S0 P0 L0 S P L σ ∧ St wr bx bh bp n m S P L N ∧ Ebox wr w.heap.size bh bp (S0 s) (P0 s) ∧ Keep (fun b => b = bh ∨ b = bp) w wr) (fun i _ => n - (intOf i).toNat)
        case atStart => exact ⟨h, S, P, L, σ, rfl, D, T.drewN _, E.drewN _, K.drewN _⟩
        case round =>
          clear D T E K U hhn hbh' eb0 eb1
          obtain ⟨g, A, B, C, τ, rfl, D, T, E, K⟩ := hrel
          have hgn := D.hn
          have hbh' := T.rh.lt
          have eb0 := E.c0
          have eb1 := E.c1
          obtain ⟨x1, hx1⟩ : ∃ c, c = 2 * g + 1 := ⟨_, rfl⟩
          obtain ⟨x2, hx2⟩ : ∃ c, c = 2 * g + 2 := ⟨_, rfl⟩
          have i1 : 2 * (g : Int) + 1 = (x1 : Int) := by omega
          have i2 : (x1 : Int) + 1 = (x2 : Int) := by omega
          have X1 : Hid (x1 = 2 * g + 1) := hx1
          have X2 : Hid (x2 = 2 * g + 2) := hx2
          have b1 : x1 ≤ 131073 := by omega
          have b2 : x2 ≤ 131074 := by omega
          clear hx1 hx2
          have FIN : (∀ i, 1 ≤ i → i < n → par i = g → S0 s ≤ A i) → Hid (Fin n m s g S0 P0 L0 (upd A g (S0 s)) (upd B g (P0 s)) (upd C (P0 s).toNat g) (fun i => if i = g then s else τ i)) := fun q => dn_end hs IX.out D q
          have KID : ∀ i, 1 ≤ i → par i = g → i = x1 ∨ i = x2 := fun i q r => by have := kids_of q r; have := X1.out; have := X2.out; omega
          have PA1 : par x1 = g := by rw [X1.out]; unfold par; omega
          have PA2 : par x2 = g := by rw [X2.out]; unfold par; omega
          have q0 : 0 ≤ P0 s := IX.out.lo s hs
          have q1 : P0 s < m := IX.out.hi s hs
          have HK : Hid (∀ i, 1 ≤ i → par i = g → i = x1 ∨ i = x2) := KID
          have HP1 : Hid (par x1 = g) := PA1
          have HP2 : Hid (par x2 = g) := PA2
          have HF : Hid _ := FIN
          clear KID PA1 PA2 FIN
          by_cases l1 : x1 < n
          · have a0 := T.rh.cell (x1 * 2) (by omega)
            have a1 := T.rh.cell (x1 * 2 + 1) (by omega)
            rw [hv0] at a0
            rw [hv1] at a1
            have y0 : 0 ≤ B x1 := by rw [(D.src x1 l1).2.2]; exact IX.out.lo _ (D.src x1 l1).1
            have y1 : B x1 < m := by rw [(D.src x1 l1).2.2]; exact IX.out.hi _ (D.src x1 l1).1
            have k1 : decide ((n : Int) ≤ (x1 : Int)) = false := decide_eq_false (by omega)
            by_cases l2 : x2 < n
            · have a2 := T.rh.cell (x2 * 2) (by omega)
              have a3 := T.rh.cell (x2 * 2 + 1) (by omega)
              rw [hv0] at a2
              rw [hv1] at a3
              have y2 : 0 ≤ B x2 := by rw [(D.src x2 l2).2.2]; exact IX.out.lo _ (D.src x2 l2).1
              have y3 : B x2 < m := by rw [(D.src x2 l2).2.2]; exact IX.out.hi _ (D.src x2 l2).1
              have k2 : decide ((x2 : Int) < (n : Int)) = true := decide_eq_true (by omega)
              have k3 : decide ((n : Int) ≤ (x2 : Int)) = false := decide_eq_false (by omega)
              by_cases lt : A x2 < A x1
              · by_cases mv : A x2 < S0 s
                · go_wp2
                  go_quiet (fail)
                  go_wp2
                  go_quiet (fail)
                  go_wp2_with (go_at_call 14; refine (put_int _ bx bh bp n m g A B C N (A x2) (B x2) hn hm hgn y2 y3 (T.drewN _)).mono ?_; rintro e w2 ⟨rfl, T2, K2⟩)
                  go_roundw
                  case rel => exact ⟨x2, _, _, _, _, rfl, dn_step IX.out D l2 (by have := X1.out; have := X2.out; omega) HP2.out (fun i q r t => by rcases HK.out i q t with e | e <;> (rw [e]; omega)) mv, T2, (E.drewN _).keep K2, (K.drewN _).trans K2⟩
                  case measure => simp [intOf]; have := X1.out; have := X2.out; omega
                · go_wp2
                  go_quiet (fail)
                  go_wp2
                  go_quiet (fail)
                  go_wp2_with (go_at_call 14; refine (put_int _ bx bh bp n m g A B C N (S0 s) (P0 s) hn hm hgn q0 q1 (T.drewN _)).mono ?_; rintro e w2 ⟨rfl, T2, K2⟩)
                  go_end0
                  exact ⟨rfl, g, _, _, _, _, HF.out (fun i q r t => by rcases HK.out i q t with e | e <;> (rw [e] at r ⊢; omega)), T2, (K.drewN _).trans K2⟩
              · by_cases mv : A x1 < S0 s
                · go_wp2
                  go_quiet (fail)
                  go_wp2
                  go_quiet (fail)
                  go_wp2_with (go_at_call 14; refine (put_int _ bx bh bp n m g A B C N (A x1) (B x1) hn hm hgn y0 y1 (T.drewN _)).mono ?_; rintro e w2 ⟨rfl, T2, K2⟩)
                  go_roundw
                  case rel => exact ⟨x1, _, _, _, _, rfl, dn_step IX.out D l1 (by have := X1.out; have := X2.out; omega) HP1.out (fun i q r t => by rcases HK.out i q t with e | e <;> (rw [e]; omega)) mv, T2, (E.drewN _).keep K2, (K.drewN _).trans K2⟩
                  case measure => simp [intOf]; have := X1.out; have := X2.out; omega
                · go_wp2
                  go_quiet (fail)
                  go_wp2
                  go_quiet (fail)
                  go_wp2_with (go_at_call 14; refine (put_int _ bx bh bp n m g A B C N (S0 s) (P0 s) hn hm hgn q0 q1 (T.drewN _)).mono ?_; rintro e w2 ⟨rfl, T2, K2⟩)
                  go_end0
                  exact ⟨rfl, g, _, _, _, _, HF.out (fun i q r t => by rcases HK.out i q t with e | e <;> (rw [e] at r ⊢; omega)), T2, (K.drewN _).trans K2⟩
            · have k2 : decide ((x2 : Int) < (n : Int)) = false := decide_eq_false (by omega)
              by_cases mv : A x1 < S0 s
              · go_wp2
                go_quiet (fail)
                go_wp2
                go_quiet (fail)
                go_wp2_with (go_at_call 14; refine (put_int _ bx bh bp n m g A B C N (A x1) (B x1) hn hm hgn y0 y1 (T.drewN _)).mono ?_; rintro e w2 ⟨rfl, T2, K2⟩)
                go_roundw
                case rel => exact ⟨x1, _, _, _, _, rfl, dn_step IX.out D l1 (by have := X1.out; have := X2.out; omega) HP1.out (fun i q r t => by rcases HK.out i q t with e | e <;> (rw [e] at r ⊢; omega)) mv, T2, (E.drewN _).keep K2, (K.drewN _).trans K2⟩
                case measure => simp [intOf]; have := X1.out; have := X2.out; omega
              · go_wp2
                go_quiet (fail)
                go_wp2
                go_quiet (fail)
                go_wp2_with (go_at_call 14; refine (put_int _ bx bh bp n m g A B C N (S0 s) (P0 s) hn hm hgn q0 q1 (T.drewN _)).mono ?_; rintro e w2 ⟨rfl, T2, K2⟩)
                go_end0
                exact ⟨rfl, g, _, _, _, _, HF.out (fun i q r t => by rcases HK.out i q t with e | e <;> (rw [e] at r ⊢; omega)), T2, (K.drewN _).trans K2⟩
          · have k1 : decide ((n : Int) ≤ (x1 : Int)) = true := decide_eq_true (by omega)
            have wz : IntKind.i64.wrap (x2 : Int) = (x2 : Int) := IntWalk.i64_in _ (by omega)
            have k3 : decide (x2 < n) = false := decide_eq_false (by have := X1.out; have := X2.out; omega)
            have k4 : decide (n ≤ x1) = true := decide_eq_true (by omega)
            have k2 : decide ((x2 : Int) < (n : Int)) = false := decide_eq_false (by have := X1.out; have := X2.out; omega)
            go_wp2
            go_quiet (fail)
            go_wp2
            go_quiet (fail)
            go_wp2_with (go_at_call 14; refine (put_int _ bx bh bp n m g A B C N (S0 s) (P0 s) hn hm hgn q0 q1 (T.drewN _)).mono ?_; rintro e w2 ⟨rfl, T2, K2⟩)
            go_end0
            exact ⟨rfl, g, _, _, _, _, HF.out (fun i q r t => by rcases HK.out i q t with e | e <;> (have := X1.out; have := X2.out; omega)), T2, (K.drewN _).trans K2⟩
    · have D : DnI n m h s S0 P0 L0 S P L σ := up_end U (fun q => absurd q h0)
      have hd : decide ((0 : Int) < (h : Int)) = false := by simpa using h0
      go_wp2
      go_quiet (fail)
      go_wp2
      clear h0 hd
      go_loopw [2] (fun i wr => ∃ (h : Nat) (S P L : Nat → Int) (σ : Nat → Nat), i = .int .i64 h ∧ DnI n m h s S0 P0 L0 S P L σ ∧ St wr bx bh bp n m S P L N ∧ Ebox wr w.heap.size bh bp (S0 s) (P0 s) ∧ Keep (fun b => b = bh ∨ b = bp) w wr) (fun i _ => n - (intOf i).toNat)
      case atStart => exact ⟨h, S, P, L, σ, rfl, D, T.drewN _, E.drewN _, K.drewN _⟩
      case round =>
        clear D T E K U hhn hbh' eb0 eb1
        obtain ⟨g, A, B, C, τ, rfl, D, T, E, K⟩ := hrel
        have hgn := D.hn
        have hbh' := T.rh.lt
        have eb0 := E.c0
        have eb1 := E.c1
        obtain ⟨x1, hx1⟩ : ∃ c, c = 2 * g + 1 := ⟨_, rfl⟩
        obtain ⟨x2, hx2⟩ : ∃ c, c = 2 * g + 2 := ⟨_, rfl⟩
        have i1 : 2 * (g : Int) + 1 = (x1 : Int) := by omega
        have i2 : (x1 : Int) + 1 = (x2 : Int) := by omega
        have X1 : Hid (x1 = 2 * g + 1) := hx1
        have X2 : Hid (x2 = 2 * g + 2) := hx2
        have b1 : x1 ≤ 131073 := by omega
        have b2 : x2 ≤ 131074 := by omega
        clear hx1 hx2
        have FIN : (∀ i, 1 ≤ i → i < n → par i = g → S0 s ≤ A i) → Hid (Fin n m s g S0 P0 L0 (upd A g (S0 s)) (upd B g (P0 s)) (upd C (P0 s).toNat g) (fun i => if i = g then s else τ i)) := fun q => dn_end hs IX.out D q
        have KID : ∀ i, 1 ≤ i → par i = g → i = x1 ∨ i = x2 := fun i q r => by have := kids_of q r; have := X1.out; have := X2.out; omega
        have PA1 : par x1 = g := by rw [X1.out]; unfold par; omega
        have PA2 : par x2 = g := by rw [X2.out]; unfold par; omega
        have q0 : 0 ≤ P0 s := IX.out.lo s hs
        have q1 : P0 s < m := IX.out.hi s hs
        have HK : Hid (∀ i, 1 ≤ i → par i = g → i = x1 ∨ i = x2) := KID
        have HP1 : Hid (par x1 = g) := PA1
        have HP2 : Hid (par x2 = g) := PA2
        have HF : Hid _ := FIN
        clear KID PA1 PA2 FIN
        by_cases l1 : x1 < n
        · have a0 := T.rh.cell (x1 * 2) (by omega)
          have a1 := T.rh.cell (x1 * 2 + 1) (by omega)
          rw [hv0] at a0
          rw [hv1] at a1
          have y0 : 0 ≤ B x1 := by rw [(D.src x1 l1).2.2]; exact IX.out.lo _ (D.src x1 l1).1
          have y1 : B x1 < m := by rw [(D.src x1 l1).2.2]; exact IX.out.hi _ (D.src x1 l1).1
          have k1 : decide ((n : Int) ≤ (x1 : Int)) = false := decide_eq_false (by omega)
          by_cases l2 : x2 < n
          · have a2 := T.rh.cell (x2 * 2) (by omega)
            have a3 := T.rh.cell (x2 * 2 + 1) (by omega)
            rw [hv0] at a2
            rw [hv1] at a3
            have y2 : 0 ≤ B x2 := by rw [(D.src x2 l2).2.2]; exact IX.out.lo _ (D.src x2 l2).1
            have y3 : B x2 < m := by rw [(D.src x2 l2).2.2]; exact IX.out.hi _ (D.src x2 l2).1
            have k2 : decide ((x2 : Int) < (n : Int)) = true := decide_eq_true (by omega)
            have k3 : decide ((n : Int) ≤ (x2 : Int)) = false := decide_eq_false (by omega)
            by_cases lt : A x2 < A x1
            · by_cases mv : A x2 < S0 s
              · go_wp2
                go_quiet (fail)
                go_wp2
                go_quiet (fail)
                go_wp2_with (go_at_call 14; refine (put_int _ bx bh bp n m g A B C N (A x2) (B x2) hn hm hgn y2 y3 (T.drewN _)).mono ?_; rintro e w2 ⟨rfl, T2, K2⟩)
                go_roundw
                case rel => exact ⟨x2, _, _, _, _, rfl, dn_step IX.out D l2 (by have := X1.out; have := X2.out; omega) HP2.out (fun i q r t => by rcases HK.out i q t with e | e <;> (rw [e]; omega)) mv, T2, (E.drewN _).keep K2, (K.drewN _).trans K2⟩
                case measure => simp [intOf]; have := X1.out; have := X2.out; omega
              · go_wp2
                go_quiet (fail)
                go_wp2
                go_quiet (fail)
                go_wp2_with (go_at_call 14; refine (put_int _ bx bh bp n m g A B C N (S0 s) (P0 s) hn hm hgn q0 q1 (T.drewN _)).mono ?_; rintro e w2 ⟨rfl, T2, K2⟩)
                go_end0
                exact ⟨rfl, g, _, _, _, _, HF.out (fun i q r t => by rcases HK.out i q t with e | e <;> (rw [e] at r ⊢; omega)), T2, (K.drewN _).trans K2⟩
            · by_cases mv : A x1 < S0 s
              · go_wp2
                go_quiet (fail)
                go_wp2
                go_quiet (fail)
                go_wp2_with (go_at_call 14; refine (put_int _ bx bh bp n m g A B C N (A x1) (B x1) hn hm hgn y0 y1 (T.drewN _)).mono ?_; rintro e w2 ⟨rfl, T2, K2⟩)
                go_roundw
                case rel => exact ⟨x1, _, _, _, _, rfl, dn_step IX.out D l1 (by have := X1.out; have := X2.out; omega) HP1.out (fun i q r t => by rcases HK.out i q t with e | e <;> (rw [e]; omega)) mv, T2, (E.drewN _).keep K2, (K.drewN _).trans K2⟩
                case measure => simp [intOf]; have := X1.out; have := X2.out; omega
              · go_wp2
                go_quiet (fail)
                go_wp2
                go_quiet (fail)
                go_wp2_with (go_at_call 14; refine (put_int _ bx bh bp n m g A B C N (S0 s) (P0 s) hn hm hgn q0 q1 (T.drewN _)).mono ?_; rintro e w2 ⟨rfl, T2, K2⟩)
                go_end0
                exact ⟨rfl, g, _, _, _, _, HF.out (fun i q r t => by rcases HK.out i q t with e | e <;> (rw [e] at r ⊢; omega)), T2, (K.drewN _).trans K2⟩
          · have k2 : decide ((x2 : Int) < (n : Int)) = false := decide_eq_false (by omega)
            by_cases mv : A x1 < S0 s
            · go_wp2
              go_quiet (fail)
              go_wp2
              go_quiet (fail)
              go_wp2_with (go_at_call 14; refine (put_int _ bx bh bp n m g A B C N (A x1) (B x1) hn hm hgn y0 y1 (T.drewN _)).mono ?_; rintro e w2 ⟨rfl, T2, K2⟩)
              go_roundw
              case rel => exact ⟨x1, _, _, _, _, rfl, dn_step IX.out D l1 (by have := X1.out; have := X2.out; omega) HP1.out (fun i q r t => by rcases HK.out i q t with e | e <;> (rw [e] at r ⊢; omega)) mv, T2, (E.drewN _).keep K2, (K.drewN _).trans K2⟩
              case measure => simp [intOf]; have := X1.out; have := X2.out; omega
            · go_wp2
              go_quiet (fail)
              go_wp2
              go_quiet (fail)
              go_wp2_with (go_at_call 14; refine (put_int _ bx bh bp n m g A B C N (S0 s) (P0 s) hn hm hgn q0 q1 (T.drewN _)).mono ?_; rintro e w2 ⟨rfl, T2, K2⟩)
              go_end0
              exact ⟨rfl, g, _, _, _, _, HF.out (fun i q r t => by rcases HK.out i q t with e | e <;> (rw [e] at r ⊢; omega)), T2, (K.drewN _).trans K2⟩
        · have k1 : decide ((n : Int) ≤ (x1 : Int)) = true := decide_eq_true (by omega)
          have wz : IntKind.i64.wrap (x2 : Int) = (x2 : Int) := IntWalk.i64_in _ (by omega)
          have k3 : decide (x2 < n) = false := decide_eq_false (by have := X1.out; have := X2.out; omega)
          have k4 : decide (n ≤ x1) = true := decide_eq_true (by omega)
          have k2 : decide ((x2 : Int) < (n : Int)) = false := decide_eq_false (by have := X1.out; have := X2.out; omega)
          go_wp2
          go_quiet (fail)
          go_wp2
          go_quiet (fail)
          go_wp2_with (go_at_call 14; refine (put_int _ bx bh bp n m g A B C N (S0 s) (P0 s) hn hm hgn q0 q1 (T.drewN _)).mono ?_; rintro e w2 ⟨rfl, T2, K2⟩)
          go_end0
          exact ⟨rfl, g, _, _, _, _, HF.out (fun i q r t => by rcases HK.out i q t with e | e <;> (have := X1.out; have := X2.out; omega)), T2, (K.drewN _).trans K2⟩
end Go.Proofs.Qxb6603154a

import Derived.Test.Qxb6603154aSettle
import Derived.Test.Qxb6603154aTests
namespace Go.Proofs.Qxb6603154a
open Go.ChangeShapes Go.WideShapes Go.ChangeAt Go.RowKit
set_option linter.unusedVariables false

/-- the first k of f are those of g -/
def Pre (k : Nat) (f g : Nat → Int) : Prop := ∀ j, j < k → f j = g j
theorem Pre.zero (f g : Nat → Int) : Pre 0 f g := fun j hj => by omega
theorem Pre.succ {k : Nat} {f g : Nat → Int} (h : Pre k f g) {x : Int} (hx : x = g k) : Pre (k + 1) (upd f k x) g := by
  intro j hj
  by_cases e : j = k
  · subst e; rw [upd_same]; exact hx
  · rw [upd_ne _ _ _ _ e]; exact h j (by omega)
theorem hv_pre {n : Nat} {S P S' P' : Nat → Int} (a : Pre n S' S) (b : Pre n P' P) (c : Nat) (hc : c < n * 2) : hv S' P' c = hv S P c := by
  unfold hv
  rw [a (c / 2) (by omega), b (c / 2) (by omega)]
theorem pv_pre {n : Nat} {S P S' P' : Nat → Int} (a : Pre n S' S) (b : Pre n P' P) (c : Nat) (hc : c < n * 2) : pv S' P' c = pv S P c := by
  unfold pv
  rw [a (c / 2) (by omega), b (c / 2) (by omega)]
theorem row_upd {w : World} {b n k : Nat} {kd : IntKind} {f : Nat → Int} (h : Row w b n (fun i => .int kd (f i))) (x : Int) : Row (w.setCell ⟨b, k, none⟩ (.int kd x)) b n (fun i => .int kd (upd f k x i)) :=
  (h.set k _).congr fun i _ => by by_cases e : i = k <;> simp [e, upd]
theorem hrow_upd {w : World} {b n k : Nat} {S P : Nat → Int} (h : Row w b n (hv S P)) (x y : Int) : Row ((w.setCell ⟨b, k * 2, none⟩ (.int .u64 x)).setCell ⟨b, k * 2 + 1, none⟩ (.int .i32 y)) b n (hv (upd S k x) (upd P k y)) :=
  ((h.set (k * 2) _).set (k * 2 + 1) _).congr fun i _ => hv_upd S P k x y i
theorem pv_upd2 (L N : Nat → Int) (s : Nat) (x y : Int) (c : Nat) : (if c = s * 2 + 1 then Value.int .i32 y else if c = s * 2 then .int .i32 x else pv L N c) = pv (upd L s x) (upd N s y) c := by
  unfold pv upd
  by_cases a : c = s * 2 + 1
  · rw [if_pos a, if_neg (by omega), if_pos (by omega)]
  · rw [if_neg a]
    by_cases b : c = s * 2
    · rw [if_pos b, if_pos (by omega), if_pos (by omega)]
    · rw [if_neg b]
      by_cases d : c % 2 = 0
      · rw [if_pos d, if_pos d, if_neg (by omega)]
      · rw [if_neg d, if_neg d, if_neg (by omega)]
theorem prow_upd {w : World} {b n k : Nat} {S P : Nat → Int} (h : Row w b n (pv S P)) (x y : Int) : Row ((w.setCell ⟨b, k * 2, none⟩ (.int .i32 x)).setCell ⟨b, k * 2 + 1, none⟩ (.int .i32 y)) b n (pv (upd S k x) (upd P k y)) :=
  ((h.set (k * 2) _).set (k * 2 + 1) _).congr fun i _ => pv_upd2 S P k x y i

theorem made2 (x y : Value) (n i : Nat) (h : i < n) : (madeCells #[x, y] n)[i]? = some (if i % 2 = 0 then x else y) := by
  have : i % 2 = 0 ∨ i % 2 = 1 := by omega
  rcases this with e | e <;> simp [madeCells, h, e]
theorem make_pairs (t e : TypeId) (x y : Value) (bytes : Nat) (ht : Try.prog.underlying t = some (.slice e)) (hinfo : (Try.prog.info? e).map (fun i => (i.zero, i.size, i.bytes)) = some (some (.agg #[x, y]), 2, bytes)) (hx : (Value.agg #[x, y]).cells = #[x, y])
    (n : Nat) (hb : bytes * n ≤ 281474976710656) (h63 : n ≤ 9223372036854775807) (w : World) :
    (Instr.makeSlice t (.int .i64 (n : Int)) (.int .i64 (n : Int))).run Try.prog w = .ok (.slice (some ⟨w.heap.size, 0, none⟩) n n) (w.alloc (.cells (madeCells #[x, y] (n * 2)) e)) := by
  obtain ⟨i, hi, hzz⟩ := Option.map_eq_some_iff.1 hinfo
  simp only [Prod.mk.injEq] at hzz
  obtain ⟨hz, hs, hbb⟩ := hzz
  have hb' : (i.bytes : Int) * (n : Int) ≤ 281474976710656 := by
    have h : ((i.bytes * n : Nat) : Int) ≤ 281474976710656 := by rw [hbb]; omega
    rwa [Int.natCast_mul] at h
  have hr := run_make (P := Try.prog) w t e i (.agg #[x, y]) ht hi hz .i64 .i64 n n (by omega) (Int.le_refl _) hb' (by omega)
  simp only [Int.toNat_natCast, hs, hx] at hr
  exact hr
theorem Try.info36 : (Try.prog.info? 36).map (fun i => (i.zero, i.size, i.bytes)) = some (some (.agg #[.int .u64 0, .int .i32 0]), 2, 16) := by kernel_rfl
theorem Try.info39 : (Try.prog.info? 39).map (fun i => (i.zero, i.size, i.bytes)) = some (some (.agg #[.int .i32 0, .int .i32 0]), 2, 8) := by kernel_rfl

theorem hrow_made (w : World) (n : Nat) (e : TypeId) : Row (w.alloc (.cells (madeCells #[.int .u64 0, .int .i32 0] (n * 2)) e)) w.heap.size (n * 2) (hv (fun _ => 0) (fun _ => 0)) :=
  Row.new w _ e _ (size_madeCells _ _) _ fun i hi => by rw [made2 _ _ _ _ hi]; rfl
theorem prow_made (w : World) (n : Nat) (e : TypeId) : Row (w.alloc (.cells (madeCells #[.int .i32 0, .int .i32 0] (n * 2)) e)) w.heap.size (n * 2) (pv (fun _ => 0) (fun _ => 0)) :=
  Row.new w _ e _ (size_madeCells _ _) _ fun i hi => by rw [made2 _ _ _ _ hi]; rfl

/-- the four rows that come in -/
structure Four (w : World) (b1 b2 b3 b4 n m : Nat) (S P L N : Nat → Int) : Prop where
  r1 : Row w b1 n (fun i => .int .u64 (S i))
  r2 : Row w b2 n (fun i => .int .i32 (P i))
  r3 : Row w b3 m (fun i => .int .i32 (L i))
  r4 : Row w b4 m (fun i => .int .i32 (N i))
theorem Four.below {w w' : World} {b1 b2 b3 b4 n m : Nat} {S P L N : Nat → Int} (h : Four w b1 b2 b3 b4 n m S P L N) (k : Below w.heap.size w w') : Four w' b1 b2 b3 b4 n m S P L N :=
  ⟨h.r1.of_block (k.block _ h.r1.lt), h.r2.of_block (k.block _ h.r2.lt), h.r3.of_block (k.block _ h.r3.lt), h.r4.of_block (k.block _ h.r4.lt)⟩
theorem Four.pre {w : World} {b1 b2 b3 b4 n m : Nat} {S P L N S' P' L' N' : Nat → Int} (h : Four w b1 b2 b3 b4 n m S P L N) (a : Pre n S S') (b : Pre n P P') (c : Pre m L L') (d : Pre m N N') : Four w b1 b2 b3 b4 n m S' P' L' N' :=
  ⟨h.r1.congr fun i hi => by rw [a i hi], h.r2.congr fun i hi => by rw [b i hi], h.r3.congr fun i hi => by rw [c i hi], h.r4.congr fun i hi => by rw [d i hi]⟩
def ZOut (w : World) (b1 b2 b3 b4 n m s : Nat) (S0 P0 L0 N : Nat → Int) (w' : World) : Prop :=
  ∃ (f : Nat) (S P L : Nat → Int) (σ : Nat → Nat), Fin n m s f S0 P0 L0 S P L σ ∧ Four w' b1 b2 b3 b4 n m S P L N ∧ Keep (fun b => b = b1 ∨ b = b2 ∨ b = b3 ∨ b = b4) w w'

theorem st_start {w wr : World} {n m : Nat} {S P L N : Nat → Int} (hz : wr.heap.size = w.heap.size + 2) (R1 : Row wr w.heap.size (n * 2) (hv S P)) (R3 : Row wr (w.heap.size + 1) (m * 2) (pv L N)) :
    St (wr.alloc (.cells #[.slice none 0 0, .slice none 0 0, .map none, .slice (some ⟨w.heap.size + 1, 0, none⟩) m m] 44)) (w.heap.size + 2) w.heap.size (w.heap.size + 1) n m S P L N := by
  refine ⟨?_, by simp; omega, R1.alloc _, R3.alloc _, by omega, by omega, by omega⟩
  rw [World.cell?_alloc_at _ _ _ _ hz.symm]
  rfl

set_option maxHeartbeats 4000000 in
theorem zz_any (w : World) (b1 b2 b3 b4 n m s : Nat) (S0 P0 L0 N : Nat → Int) (hn : n ≤ 65536) (hm : m ≤ 65536) (hs : s < n)
    (ix : Idx0 n m P0 L0) (hb : HeapBut n s S0) (F : Four w b1 b2 b3 b4 n m S0 P0 L0 N) (d12 : b1 ≠ b2) (d13 : b1 ≠ b3) (d14 : b1 ≠ b4) (d23 : b2 ≠ b3) (d24 : b2 ≠ b4) (d34 : b3 ≠ b4) :
    Calls Try.prog 10 #[.slice (some ⟨b1, 0, none⟩) n n, .slice (some ⟨b2, 0, none⟩) n n, .slice (some ⟨b3, 0, none⟩) m m, .slice (some ⟨b4, 0, none⟩) m m, .int .i64 s] w fun e w' =>
      e = .returned (.tuple #[]) ∧ ZOut w b1 b2 b3 b4 n m s S0 P0 L0 N w' := by
  have IX : Hid (Idx0 n m P0 L0) := ix
  have HB : Hid (HeapBut n s S0) := hb
  clear ix hb
  have mk1 := make_pairs 34 36 _ _ 16 Try.underlying34 Try.info36 rfl n (by omega) (by omega)
  have mk2 := make_pairs 37 39 _ _ 8 Try.underlying37 Try.info39 rfl m (by omega) (by omega)
  have l1 := F.r1.lt
  have l2 := F.r2.lt
  have l3 := F.r3.lt
  have l4 := F.r4.lt
  go_enter Try.func10, Try.ntmps10
  go_wp2
  go_loopw [22] (fun i wr => ∃ k : Nat, k ≤ n ∧ i = .int .i64 k ∧ (∃ S P : Nat → Int, Pre k S S0 ∧ Pre k P P0 ∧ Row wr w.heap.size (n * 2) (hv S P)) ∧ Below w.heap.size w wr ∧ wr.heap.size = w.heap.size + 1) (fun i _ => n - (intOf i).toNat)
  case atStart => exact ⟨0, by omega, rfl, ⟨_, _, Pre.zero _ _, Pre.zero _ _, hrow_made w n 36⟩, (Below.refl _ _).alloc (Nat.le_refl _) _, by simp⟩
  case round =>
    obtain ⟨k, hk, rfl, ⟨S, P, pS, pP, R⟩, B, hz⟩ := hrel
    by_cases hlt : k < n
    · have g1 := (B.cell (p := ⟨b1, k, none⟩) l1).trans (F.r1.cell k hlt)
      have g2 := (B.cell (p := ⟨b2, k, none⟩) l2).trans (F.r2.cell k hlt)
      have c0 := R.cell (k * 2) (by omega)
      have c1 := R.cell (k * 2 + 1) (by omega)
      have f0 := R.free (k * 2)
      have f1 := R.free (k * 2 + 1)
      rw [hv0] at c0
      rw [hv1] at c1
      clear mk1 mk2
      have HZ : Hid (wr.heap.size = w.heap.size + 1) := hz
      clear hz
      go_wp2
      go_region
      all_goals go_wp2
      go_roundw
      case rel => exact ⟨k + 1, by omega, by go_num, ⟨_, _, pS.succ rfl, pP.succ rfl, hrow_upd R _ _⟩, ((B.setCell (Nat.le_refl _) _).setCell (Nat.le_refl _) _).drew, by simpa using HZ.out⟩
      case measure => simp [intOf]; omega
    · have R1 : Row wr w.heap.size (n * 2) (hv S0 P0) := R.congr fun c hc => hv_pre (fun j hj => pS j (by omega)) (fun j hj => pP j (by omega)) c hc
      have R2 : Row (wr.alloc (.cells (madeCells #[.int .i32 0, .int .i32 0] (m * 2)) 39)) (w.heap.size + 1) (m * 2) (pv (fun _ => 0) (fun _ => 0)) := by
        have := prow_made wr m 39
        rwa [hz] at this
      clear pS pP R
      go_wp2
      go_loopw [43] (fun i wr => ∃ k : Nat, k ≤ m ∧ i = .int .i64 k ∧ (∃ L M : Nat → Int, Pre k L L0 ∧ Pre k M N ∧ Row wr (w.heap.size + 1) (m * 2) (pv L M)) ∧ Row wr w.heap.size (n * 2) (hv S0 P0) ∧ Below w.heap.size w wr ∧ wr.heap.size = w.heap.size + 2) (fun i _ => m - (intOf i).toNat)
      case atStart => exact ⟨0, by omega, rfl, ⟨_, _, Pre.zero _ _, Pre.zero _ _, R2⟩, R1.alloc _, B.alloc (by omega) _, by simp [hz]⟩
      case round =>
        clear R1 R2 B hz
        obtain ⟨j, hj, rfl, ⟨L, M, pL, pM, R2⟩, R1, B, hz⟩ := hrel
        by_cases hlt2 : j < m
        · have g1 := (B.cell (p := ⟨b3, j, none⟩) l3).trans (F.r3.cell j hlt2)
          have g2 := (B.cell (p := ⟨b4, j, none⟩) l4).trans (F.r4.cell j hlt2)
          have c0 := R2.cell (j * 2) (by omega)
          have c1 := R2.cell (j * 2 + 1) (by omega)
          have f0 := R2.free (j * 2)
          have f1 := R2.free (j * 2 + 1)
          rw [pv0] at c0
          rw [pv1] at c1
          clear mk1 mk2
          have HZ : Hid (wr.heap.size = w.heap.size + 2) := hz
          clear hz
          go_wp2
          go_region
          all_goals go_wp2
          go_roundw
          case rel => exact ⟨j + 1, by omega, by go_num, ⟨_, _, pL.succ rfl, pM.succ rfl, prow_upd R2 _ _⟩, ((R1.other (by simp) _).other (by simp) _).drew, ((B.setCell (by simp) _).setCell (by simp) _).drew, by simpa using HZ.out⟩
          case measure => simp [intOf]; omega
        · have R3 : Row wr (w.heap.size + 1) (m * 2) (pv L0 N) := R2.congr fun c hc => pv_pre (fun q hq => pL q (by omega)) (fun q hq => pM q (by omega)) c hc
          clear pL pM R2
          have T := st_start hz R1 R3
          have B2 : Below w.heap.size w (wr.alloc (.cells #[.slice none 0 0, .slice none 0 0, .map none, .slice (some ⟨w.heap.size + 1, 0, none⟩) m m] 44)) := B.alloc (by omega) _
          go_wp2_with fail
          refine (settle_any _ (w.heap.size + 2) w.heap.size (w.heap.size + 1) n m s S0 P0 L0 N hn hm hs IX.out HB.out T).mono ?_
          rintro e w4 ⟨rfl, f, S1, P1, L1, σ, FN, T4, K4⟩
          have B4 : Below w.heap.size w w4 := B2.trans (K4.below (by have := B2.size; omega) (fun q hq e => by rcases e with e | e <;> omega))
          have F4 := F.below B4
          have K5 : Keep (fun b => b = b1 ∨ b = b2 ∨ b = b3 ∨ b = b4) w w4 := Keep.of_below B4
          have H4 := T4.rh
          have G4 := T4.rp
          have FN' : Hid _ := FN
          clear FN T4 K4 B4 B2 T B R1 R3 hz mk1 mk2 F
          go_wp2
          go_loopw [68] (fun i wr => ∃ k : Nat, k ≤ n ∧ i = .int .i64 k ∧ (∃ S P : Nat → Int, Pre k S S1 ∧ Pre k P P1 ∧ Four wr b1 b2 b3 b4 n m S P L0 N) ∧ Row wr w.heap.size (n * 2) (hv S1 P1) ∧ Row wr (w.heap.size + 1) (m * 2) (pv L1 N) ∧ Keep (fun b => b = b1 ∨ b = b2 ∨ b = b3 ∨ b = b4) w wr) (fun i _ => n - (intOf i).toNat)
          case atStart => exact ⟨0, by omega, rfl, ⟨_, _, Pre.zero _ _, Pre.zero _ _, F4⟩, H4, G4, K5⟩
          case round =>
            clear F4 H4 G4 K5
            obtain ⟨i, hi, rfl, ⟨S, P, pS, pP, F4⟩, H4, G4, K5⟩ := hrel
            by_cases hlt3 : i < n
            · have c0 := H4.cell (i * 2) (by omega)
              have c1 := H4.cell (i * 2 + 1) (by omega)
              rw [hv0] at c0
              rw [hv1] at c1
              have g1 := F4.r1.cell i hlt3
              have g2 := F4.r2.cell i hlt3
              have f1 := F4.r1.free i
              have f2 := F4.r2.free i
              go_wp2
              go_roundw
              case rel =>
                exact ⟨i + 1, by omega, by go_num, ⟨_, _, pS.succ rfl, pP.succ rfl, ⟨(row_upd F4.r1 _).other d12 _, row_upd (F4.r2.other (Ne.symm d12) _) _, (F4.r3.other (Ne.symm d13) _).other (Ne.symm d23) _, (F4.r4.other (Ne.symm d14) _).other (Ne.symm d24) _⟩⟩,
                  (H4.other (by simp; omega) _).other (by simp; omega) _, (G4.other (by simp; omega) _).other (by simp; omega) _, (K5.setCell (fun _ => .inl rfl) _).setCell (fun _ => .inr (.inl rfl)) _⟩
              case measure => simp [intOf]; omega
            · have eS : Pre n S S1 := fun q hq => pS q (by omega)
              have eP : Pre n P P1 := fun q hq => pP q (by omega)
              have F5 : Four wr b1 b2 b3 b4 n m S1 P1 L0 N := F4.pre eS eP (fun _ _ => rfl) (fun _ _ => rfl)
              clear F4 eS eP pS pP H4
              go_wp2
              go_loopw [90] (fun i wr => ∃ k : Nat, k ≤ m ∧ i = .int .i64 k ∧ (∃ L M : Nat → Int, Pre k L L1 ∧ Pre k M N ∧ Four wr b1 b2 b3 b4 n m S1 P1 L M) ∧ Row wr (w.heap.size + 1) (m * 2) (pv L1 N) ∧ Keep (fun b => b = b1 ∨ b = b2 ∨ b = b3 ∨ b = b4) w wr) (fun i _ => m - (intOf i).toNat)
              case atStart => exact ⟨0, by omega, rfl, ⟨_, _, Pre.zero _ _, Pre.zero _ _, F5⟩, G4, K5⟩
              case round =>
                clear F5 G4 K5
                obtain ⟨p, hp, rfl, ⟨L, M, pL, pM, F5⟩, G4, K5⟩ := hrel
                by_cases hlt4 : p < m
                · have c0 := G4.cell (p * 2) (by omega)
                  have c1 := G4.cell (p * 2 + 1) (by omega)
                  rw [pv0] at c0
                  rw [pv1] at c1
                  have g1 := F5.r3.cell p hlt4
                  have g2 := F5.r4.cell p hlt4
                  have f1 := F5.r3.free p
                  have f2 := F5.r4.free p
                  go_wp2
                  go_roundw
                  case rel =>
                    exact ⟨p + 1, by omega, by go_num, ⟨_, _, pL.succ rfl, pM.succ rfl, ⟨(F5.r1.other d13 _).other d14 _, (F5.r2.other d23 _).other d24 _, (row_upd F5.r3 _).other d34 _, row_upd (F5.r4.other (Ne.symm d34) _) _⟩⟩,
                      (G4.other (by simp; omega) _).other (by simp; omega) _, (K5.setCell (fun _ => .inr (.inr (.inl rfl))) _).setCell (fun _ => .inr (.inr (.inr rfl))) _⟩
                  case measure => simp [intOf]; omega
                · have F6 : Four wr b1 b2 b3 b4 n m S1 P1 L1 N := F5.pre (fun _ _ => rfl) (fun _ _ => rfl) (fun q hq => pL q (by omega)) (fun q hq => pM q (by omega))
                  go_wp2
                  go_end0
                  exact ⟨rfl, f, S1, P1, L1, σ, FN'.out, F6, K5⟩
end Go.Proofs.Qxb6603154a

import Derived.Test.Qxb6603154aSmall
namespace Go.Proofs.Qxb6603154a
open Go.ChangeShapes Go.WideShapes Go.ChangeAt Go.RowKit
set_option linter.unusedVariables false

theorem Try.info4 : (Try.prog.info? 4).map (fun i => (i.zero, i.size, i.bytes)) = some (some (.bool false), 1, 1) := by kernel_rfl
theorem made_get (z : Value) (n i : Nat) (h : i < n) : (madeCells #[z] n)[i]? = some z := by simp [madeCells, h, Nat.mod_one]
theorem row_made (w : World) (z : Value) (n : Nat) (e : TypeId) : Row (w.alloc (.cells (madeCells #[z] n) e)) w.heap.size n (fun _ => z) :=
  Row.new w _ e n (size_madeCells _ _) _ (fun i hi => made_get z n i hi)

/-- the places so far -/
def IdxTo (k m : Nat) (P L : Nat → Int) : Prop := ∀ j, j < k → 0 ≤ P j ∧ P j < m ∧ L (P j).toNat = j
theorem IdxTo.succ {k m : Nat} {P L : Nat → Int} (h : IdxTo k m P L) (q : Nat) (hq : P k = (q : Int)) (hm : q < m) (hL : L q = k) : IdxTo (k + 1) m P L := by
  intro j hj
  by_cases e : j = k
  · subst e
    rw [hq]
    exact ⟨by omega, by omega, by simpa using hL⟩
  · exact h j (by omega)

/-- a yes means p; nothing that was there has turned -/
def Says (p : Prop) (w : World) (e : Ending) (w' : World) : Prop := ∃ r : Bool, e = .returned (.bool r) ∧ (r = true → p) ∧ Below w.heap.size w w'
theorem says_no {p : Prop} {w w' : World} (h : Below w.heap.size w w') : Says p w (.returned (.bool false)) w' := ⟨false, rfl, (fun h => by cases h), h⟩
theorem says_yes {p : Prop} {w w' : World} (hp : p) (h : Below w.heap.size w w') : Says p w (.returned (.bool true)) w' := ⟨true, rfl, fun _ => hp, h⟩

set_option maxHeartbeats 2000000 in
theorem indexed_some (w : World) (b1 o1 n c1 b2 o2 m c2 : Nat) (P L : Nat → Int) (hn : n ≤ 65536) (hm : m ≤ 65536)
    (H1 : Src w b1 o1 n .i32 P) (H2 : Src w b2 o2 m .i32 L) (hP : ∀ i, i < n → -2147483648 ≤ P i ∧ P i ≤ 2147483647) :
    Calls Try.prog 6 #[.slice (some ⟨b1, o1, none⟩) n c1, .slice (some ⟨b2, o2, none⟩) m c2] w fun e w' => Says (IdxTo n m P L) w e w' := by
  have hmk := run_make_row' (P := Try.prog) 31 4 (.bool false) 1 Try.underlying31 Try.info4 rfl .i64 .i64 m (by omega) (by omega)
  have HP : Hid (∀ i, i < n → -2147483648 ≤ P i ∧ P i ≤ 2147483647) := hP
  clear hP
  have lb1 := H1.1
  have lb2 := H2.1
  go_enter Try.func6, Try.ntmps6
  go_wp2
  go_loopw [6] (fun i wr => ∃ k : Nat, k ≤ n ∧ i = .int .i64 k ∧ IdxTo k m P L ∧ (∃ sb : Nat → Bool, Row wr w.heap.size m (fun i => .bool (sb i))) ∧ Below w.heap.size w wr) (fun i _ => n - (intOf i).toNat)
  case atStart => exact ⟨0, by omega, rfl, (fun j hj => by omega), ⟨fun _ => false, row_made w _ m 4⟩, (Below.refl _ _).alloc (Nat.le_refl _) _⟩
  case round =>
    obtain ⟨k, hk, rfl, hid, ⟨sb, R⟩, B⟩ := hrel
    have HI : Hid (IdxTo k m P L) := hid
    clear hid
    by_cases hlt : k < n
    · have g1 := (B.cell (p := ⟨b1, o1 + k, none⟩) lb1).trans (H1.2 k hlt)
      obtain ⟨r1, r2⟩ := HP.out k hlt
      by_cases n0 : P k < 0
      · go_wp2
        go_ret
        exact says_no B
      · obtain ⟨q, hq⟩ := Int.eq_ofNat_of_zero_le (show 0 ≤ P k by omega)
        have HQ : Hid (P k = (q : Int)) := hq
        rw [hq] at g1 n0 r1 r2
        clear hq
        by_cases ge : m ≤ q
        · go_wp2
          go_ret
          exact says_no B
        · have c3 := R.cell q (by omega)
          have f3 := R.free q
          have g2 := (B.cell (p := ⟨b2, o2 + q, none⟩) lb2).trans (H2.2 q (by omega))
          cases hs : sb q
          · rw [hs] at c3
            by_cases hL : L q = k
            · rw [hL] at g2
              go_wp2
              go_roundw
              case rel => exact ⟨k + 1, by omega, by go_num, HI.out.succ q HQ.out (by omega) hL, ⟨fun i => if i = q then true else sb i, (R.set q _).congr (fun i _ => by by_cases e : i = q <;> simp [e])⟩, B.setCell (Nat.le_refl _) _⟩
              case measure => simp [intOf]; omega
            · have hb : (L q != (k : Int)) = true := by simpa using hL
              go_wp2
              go_ret
              exact says_no (B.setCell (Nat.le_refl _) _)
          · rw [hs] at c3
            go_wp2
            go_ret
            exact says_no B
    · go_wp2
      go_ret
      exact says_yes (fun j hj => HI.out j (by omega)) B

set_option maxHeartbeats 1000000 in
theorem indexed_none (w : World) (b1 o1 n c1 c2 : Nat) (a2 : Option Addr) (P L : Nat → Int) (h0 : 0 < n) (hn : n ≤ 65536)
    (H1 : Src w b1 o1 n .i32 P) (hP : ∀ i, i < n → -2147483648 ≤ P i ∧ P i ≤ 2147483647) :
    Calls Try.prog 6 #[.slice (some ⟨b1, o1, none⟩) n c1, .slice a2 0 c2] w fun e w' => Says False w e w' := by
  have hmk : ∀ w, (Instr.makeSlice 31 (.int .i64 0) (.int .i64 0)).run Try.prog w = .ok (.slice (some ⟨w.heap.size, 0, none⟩) 0 0) (w.alloc (.cells (madeCells #[.bool false] 0) 4)) := run_make_row' (P := Try.prog) 31 4 (.bool false) 1 Try.underlying31 Try.info4 rfl .i64 .i64 0 (by omega) (by omega)
  have lb1 := H1.1
  have g1 := H1.2 0 h0
  rw [Nat.add_zero] at g1
  obtain ⟨r1, r2⟩ := hP 0 h0
  clear hP
  by_cases n0 : P 0 < 0
  · go_enter Try.func6, Try.ntmps6
    go_wp2
    refine wp_loop_rounds 1 ?_
    rw [rounds_succ]
    go_wp2
    go_ret
    exact says_no ((Below.refl _ _).alloc (Nat.le_refl _) _)
  · go_enter Try.func6, Try.ntmps6
    go_wp2
    refine wp_loop_rounds 1 ?_
    rw [rounds_succ]
    go_wp2
    go_ret
    exact says_no ((Below.refl _ _).alloc (Nat.le_refl _) _)

/-- the pairs in order so far -/
def ButTo (k s : Nat) (S : Nat → Int) : Prop := ∀ i, 1 ≤ i → i < k → i ≠ s → (par i ≠ s → S (par i) ≤ S i) ∧ (par i = s → 1 ≤ s → S (par s) ≤ S i)
theorem ButTo.succ {k s : Nat} {S : Nat → Int} (h : ButTo k s S) (a : k ≠ s → (par k ≠ s → S (par k) ≤ S k) ∧ (par k = s → 1 ≤ s → S (par s) ≤ S k)) : ButTo (k + 1) s S := by
  intro i h1 h2 h3
  by_cases e : i = k
  · subst e
    exact a h3
  · exact h i h1 (by omega) h3

set_option maxHeartbeats 2000000 in
theorem heapBut_any (w : World) (b o n c s : Nat) (S : Nat → Int) (h0 : 0 < n) (hn : n ≤ 65536) (hs : s < n) (H : Src w b o n .u64 S) :
    Calls Try.prog 7 #[.slice (some ⟨b, o, none⟩) n c, .int .i64 s] w fun e w' => Says (ButTo n s S) w e w' := by
  have lb := H.1
  go_enter Try.func7, Try.ntmps7
  go_wp2
  go_loopw [5] (fun i wr => ∃ k : Nat, 1 ≤ k ∧ k ≤ n ∧ i = .int .i64 k ∧ ButTo k s S ∧ Below w.heap.size w wr) (fun i _ => n - (intOf i).toNat)
  case atStart => exact ⟨1, by omega, by omega, rfl, (fun i h1 h2 => by omega), Below.refl _ _⟩
  case round =>
    obtain ⟨k, hk1, hk, rfl, hbt, B⟩ := hrel
    have HI : Hid (ButTo k s S) := hbt
    clear hbt
    by_cases hlt : k < n
    · have g1 := (B.cell (p := ⟨b, o + k, none⟩) lb).trans (H.2 k hlt)
      have pe : ((k : Int) - 1) / 2 = ((par k : Nat) : Int) := by unfold par; omega
      have pl := par_lt (i := k) (by omega)
      by_cases es : k = s
      · subst es
        go_wp2
        go_roundw
        case rel => exact ⟨k + 1, by omega, by omega, by go_num, HI.out.succ (fun q => absurd rfl q), B⟩
        case measure => simp [intOf]; omega
      · have es' : ((k : Int) == (s : Int)) = false := by simp; omega
        by_cases ep : par k = s
        · by_cases z : s = 0
          · have ep' : (((par k : Nat) : Int) == (s : Int)) = true := by simp; omega
            have z' : ((s : Int) == 0) = true := by simp; omega
            go_wp2
            go_roundw
            case rel => exact ⟨k + 1, by omega, by omega, by go_num, HI.out.succ (fun _ => ⟨fun q => absurd ep q, fun _ q => by omega⟩), B⟩
            case measure => simp [intOf]; omega
          · have ep' : (((par k : Nat) : Int) == (s : Int)) = true := by simp; omega
            have z' : ((s : Int) == 0) = false := by simp; omega
            have se : ((s : Int) - 1) / 2 = ((par s : Nat) : Int) := by unfold par; omega
            have pls := par_lt (i := s) (by omega)
            have g2 := (B.cell (p := ⟨b, o + par s, none⟩) lb).trans (H.2 (par s) (by omega))
            by_cases gt : S k < S (par s)
            · go_wp2
              go_quiet (fail)
              go_wp2
              go_ret
              exact says_no (below_drewN B _)
            · go_wp2
              go_quiet (fail)
              go_wp2
              go_roundw
              case rel => exact ⟨k + 1, by omega, by omega, by go_num, HI.out.succ (fun _ => ⟨fun q => absurd ep q, fun _ _ => by omega⟩), below_drewN B _⟩
              case measure => simp [intOf]; omega
        · have ep' : (((par k : Nat) : Int) == (s : Int)) = false := by simp; omega
          have g2 := (B.cell (p := ⟨b, o + par k, none⟩) lb).trans (H.2 (par k) (by omega))
          by_cases gt : S k < S (par k)
          · go_wp2
            go_quiet (fail)
            go_wp2
            go_ret
            exact says_no (below_drewN B _)
          · go_wp2
            go_quiet (fail)
            go_wp2
            go_roundw
            case rel => exact ⟨k + 1, by omega, by omega, by go_num, HI.out.succ (fun _ => ⟨fun _ => by omega, fun q => absurd q ep⟩), below_drewN B _⟩
            case measure => simp [intOf]; omega
    · go_wp2
      go_ret
      have e : k = n := by omega
      subst e
      exact says_yes HI.out B
end Go.Proofs.Qxb6603154a

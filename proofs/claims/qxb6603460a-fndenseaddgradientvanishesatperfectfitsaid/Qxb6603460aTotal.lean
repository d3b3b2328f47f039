import Derived.Test.Qxb6603460aGrad
namespace Go.Proofs.Qxb6603460a
open Go.ChangeShapes Go.WideShapes Go.ChangeAt Go.RowKit
set_option linter.unusedVariables false

def natW (f : Nat → Int) : Nat → Nat := fun i => (f i).toNat
/-- what 'b1DenseTotal' answers -/
def TOut (w : World) (n lim : Nat) (f : Nat → Int) (e : Ending) (w' : World) : Prop :=
  ∃ (t : Nat) (ok : Bool), e = .returned (.tuple #[.int .i64 t, .bool ok]) ∧ w' = w ∧ (ok = true → 1 ≤ n ∧ n ≤ 4096 ∧ (∀ i, i < n → 0 ≤ f i ∧ f i ≤ 1048576) ∧ t = offN (natW f) n ∧ t ≤ lim)
theorem le_of_quo {o a d q : Nat} (e : d / o = q) (h : a + 1 ≤ q) : o * (a + 1) ≤ d := by
  subst e
  exact Nat.le_trans (Nat.mul_le_mul_left o h) (Nat.mul_div_le d o)

set_option maxHeartbeats 4000000 in
theorem total_any (w : World) (b off n c lim : Nat) (f : Nat → Int) (hn : n ≤ 131072) (hlim : lim ≤ 131072) (H : Src w b off n (iv f)) :
    Calls Try.prog 9 #[.slice (some ⟨b, off, none⟩) n c, .int .i64 lim] w fun e w' => TOut w n lim f e w' := by
  by_cases h1 : n < 1
  · go_enter Try.func9, Try.ntmps9
    go_wp2
    go_ret2
    exact ⟨0, false, rfl, rfl, by simp⟩
  by_cases h2 : 4096 < n
  · go_enter Try.func9, Try.ntmps9
    go_wp2
    go_ret2
    exact ⟨0, false, rfl, rfl, by simp⟩
  go_enter Try.func9, Try.ntmps9
  go_wp2
  go_loopw [22] (fun i wr => ∃ k : Nat, k ≤ n ∧ i = .int .i64 k ∧ Hid (∀ j, j < k → 0 ≤ f j ∧ f j ≤ 1048576) ∧ wr = w) (fun i _ => n - (intOf i).toNat)
  case atStart => exact ⟨0, by omega, rfl, fun j hj => by omega, rfl⟩
  case round =>
    obtain ⟨k, hk, rfl, hf, rfl⟩ := hrel
    by_cases hlt : k < n
    · have g := H.2 k hlt
      unfold iv at g
      obtain ⟨x, hx⟩ : ∃ x, f k = x := ⟨_, rfl⟩
      rw [hx] at g
      by_cases x1 : x < 0
      · go_wp2
        go_ret2
        exact ⟨0, false, rfl, rfl, by simp⟩
      · by_cases x2 : 1048576 < x
        · go_wp2
          go_ret2
          exact ⟨0, false, rfl, rfl, by simp⟩
        · have hf2 : Hid (∀ j, j < k + 1 → 0 ≤ f j ∧ f j ≤ 1048576) := by
            intro j hj
            by_cases e : j = k
            · subst e; omega
            · exact hf.out j (by omega)
          clear hx
          go_wp2
          go_roundw
          case rel => exact ⟨k + 1, by omega, by go_num, hf2, trivial⟩
          case measure => simp [intOf]; omega
    · have HF : Hid (∀ j, j < n → 0 ≤ f j ∧ f j ≤ 1048576) := fun j hj => hf.out j (by omega)
      clear hf
      go_wp2
      go_loopw [8, 9] (fun tv lv wx => ∃ (t l : Nat), 1 ≤ l ∧ l ≤ n ∧ lv = .int .i64 l ∧ tv = .int .i64 t ∧ Hid (t = offN (natW f) l) ∧ t ≤ lim ∧ wx = wr) (fun _ lv _ => n - (intOf lv).toNat)
      case atStart => exact ⟨0, 1, by omega, by omega, rfl, rfl, rfl, by omega, rfl⟩
      case round =>
        obtain ⟨t, l, hl1, hl, rfl, rfl, ht, htl, rfl⟩ := hrel
        by_cases hlt : l < n
        · obtain ⟨q, hq⟩ : ∃ q, q + 1 = l := ⟨l - 1, by omega⟩
          have g1 := H.2 l hlt
          have g2 := H.2 q (by omega)
          obtain ⟨a, ha⟩ : ∃ a, natW f q = a := ⟨_, rfl⟩
          obtain ⟨o, ho⟩ : ∃ o, natW f l = o := ⟨_, rfl⟩
          obtain ⟨f1, f2⟩ := HF.out l hlt
          obtain ⟨f3, f4⟩ := HF.out q (by omega)
          unfold natW at ha ho
          unfold iv at g1 g2
          rw [show f l = (o : Int) from by omega] at g1
          rw [show f q = (a : Int) from by omega] at g2
          have hab : a ≤ 1048576 := by omega
          have hob : o ≤ 1048576 := by omega
          have SC : Hid (offN (natW f) (l + 1) = offN (natW f) l + o * (a + 1)) := by
            have := offN_succ (natW f) l hl1
            rw [show l - 1 = q from by omega] at this
            unfold natW at this ⊢
            rw [ho, ha] at this
            exact this
          have lq : (l : Int) - 1 = (q : Int) := by omega
          have qn : q < n := by omega
          clear ha ho f1 f2 f3 f4 hq
          by_cases o0 : o = 0
          · subst o0
            have TT : Hid (t = offN (natW f) (l + 1)) := by
              show t = _
              rw [SC.out, ← ht.out]
              simp
            go_wp2
            go_roundw
            case rel => exact ⟨t, l + 1, by omega, by omega, by go_num, by go_num, TT, by omega, trivial⟩
            case measure => simp [intOf]; omega
          · obtain ⟨d, hd⟩ : ∃ d, t + d = lim := ⟨lim - t, by omega⟩
            obtain ⟨qq, hqq⟩ : ∃ qq, d / o = qq := ⟨_, rfl⟩
            have e1 : (lim : Int) - (t : Int) = (d : Int) := by omega
            have e2 : Int.tdiv (d : Int) (o : Int) = (qq : Int) := by rw [← hqq]; rfl
            have qb : qq ≤ 131072 := by
              have := Nat.div_le_self d o
              omega
            have db : d ≤ 131072 := by omega
            by_cases big : qq < a + 1
            · clear hqq hd
              go_wp2
              go_ret2
              exact ⟨0, false, rfl, rfl, by simp⟩
            · have le := le_of_quo hqq (show a + 1 ≤ qq by omega)
              obtain ⟨pr, hpr⟩ : ∃ pr, o * (a + 1) = pr := ⟨_, rfl⟩
              have e3 : (o : Int) * ((a : Int) + 1) = (pr : Int) := by rw [← hpr]; simp
              rw [hpr] at le
              have TT : Hid (t + pr = offN (natW f) (l + 1)) := by
                show t + pr = _
                rw [SC.out, ← ht.out, hpr]
              clear hqq hpr
              go_wp2
              go_roundw
              case rel => exact ⟨t + pr, l + 1, by omega, by omega, by go_num, by go_num, TT, by omega, trivial⟩
              case measure => simp [intOf]; omega
        · go_wp2
          go_ret2
          refine ⟨t, true, rfl, rfl, fun _ => ⟨by omega, by omega, HF.out, ?_, htl⟩⟩
          rw [ht.out]
          congr 1
          omega
end Go.Proofs.Qxb6603460a

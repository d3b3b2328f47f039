import Derived.Test.Qxb6603154aRows
import Derived.Test.Qxb6603154aMem
import Derived.Test.Qxb6603154aPlain
import Derived.WalkKit
import Derived.ProofKit
import Derived.Outline
import Derived.LoopTactic
import Derived.WalkLawsBesides
import Derived.Deep.QuietTactic
import Derived.BigQuiet
import Derived.Deep.Light
import Derived.Handy
import Derived.RegionTactic
namespace Go.Proofs.Qxb6603154a
open Go.ChangeShapes Go.WideShapes Go.ChangeAt Go.RowKit
set_option linter.unusedVariables false

/-- the cells of a row of holders -/
def hv (S P : Nat → Int) (c : Nat) : Value := if c % 2 = 0 then .int .u64 (S (c / 2)) else .int .i32 (P (c / 2))
/-- the cells of a row of places -/
def pv (L N : Nat → Int) (c : Nat) : Value := if c % 2 = 0 then .int .i32 (L (c / 2)) else .int .i32 (N (c / 2))
theorem hv0 (S P : Nat → Int) (i : Nat) : hv S P (i * 2) = .int .u64 (S i) := by simp [hv]
theorem hv1 (S P : Nat → Int) (i : Nat) : hv S P (i * 2 + 1) = .int .i32 (P i) := by
  have a : (i * 2 + 1) % 2 = 1 := by omega
  have b : (i * 2 + 1) / 2 = i := by omega
  simp [hv, a, b]


theorem pv0 (L N : Nat → Int) (i : Nat) : pv L N (i * 2) = .int .i32 (L i) := by simp [pv]
theorem pv1 (L N : Nat → Int) (i : Nat) : pv L N (i * 2 + 1) = .int .i32 (N i) := by
  have a : (i * 2 + 1) % 2 = 1 := by omega
  have b : (i * 2 + 1) / 2 = i := by omega
  simp [pv, a, b]


theorem hv_upd (S P : Nat → Int) (s : Nat) (x y : Int) (c : Nat) : (if c = s * 2 + 1 then Value.int .i32 y else if c = s * 2 then .int .u64 x else hv S P c) = hv (upd S s x) (upd P s y) c := by
  unfold hv upd
  by_cases a : c = s * 2 + 1
  · rw [if_pos a, if_neg (by omega), if_pos (by omega)]
  · rw [if_neg a]
    by_cases b : c = s * 2
    · rw [if_pos b, if_pos (by omega), if_pos (by omega)]
    · rw [if_neg b]
      by_cases d : c % 2 = 0
      · rw [if_pos d, if_pos d, if_neg (by omega)]
      · rw [if_neg d, if_neg d, if_neg (by omega)]
theorem pv_upd (L N : Nat → Int) (s : Nat) (x : Int) (c : Nat) : (if c = s * 2 then Value.int .i32 x else pv L N c) = pv (upd L s x) N c := by
  unfold pv upd
  by_cases b : c = s * 2
  · rw [if_pos b, if_pos (by omega), if_pos (by omega)]
  · rw [if_neg b]
    by_cases d : c % 2 = 0
    · rw [if_pos d, if_pos d, if_neg (by omega)]
    · rw [if_neg d, if_neg d]

/-- the heap of holders, the row of places, the index that leads to it -/
structure St (w : World) (bx bh bp n m : Nat) (S P L N : Nat → Int) : Prop where
  cx : w.cell? ⟨bx, 3, none⟩ = some (.slice (some ⟨bp, 0, none⟩) m m)
  lx : bx < w.heap.size
  rh : Row w bh (n * 2) (hv S P)
  rp : Row w bp (m * 2) (pv L N)
  d1 : bh ≠ bp
  d2 : bh ≠ bx
  d3 : bp ≠ bx
theorem St.keep {w w' : World} {bx bh bp n m : Nat} {S P L N : Nat → Int} (h : St w bx bh bp n m S P L N) (k : Below w.heap.size w w') : St w' bx bh bp n m S P L N :=
  ⟨(k.cell (p := ⟨bx, 3, none⟩) h.lx).trans h.cx, Nat.lt_of_lt_of_le h.lx k.size, h.rh.of_block (k.block _ h.rh.lt), h.rp.of_block (k.block _ h.rp.lt), h.d1, h.d2, h.d3⟩

/-- what 'put' leaves -/
theorem put_leaves {w : World} {bx bh bp n m : Nat} {S P L N : Nat → Int} (h : St w bx bh bp n m S P L N) (s p : Nat) (x y z : Int) (o : Obj) :
    St ((((w.setCell ⟨bh, s * 2, none⟩ (.int .u64 x)).setCell ⟨bh, s * 2 + 1, none⟩ (.int .i32 y)).setCell ⟨bp, p * 2, none⟩ (.int .i32 z)).alloc o).drew bx bh bp n m (upd S s x) (upd P s y) (upd L p z) N ∧
    Keep (fun b => b = bh ∨ b = bp) w ((((w.setCell ⟨bh, s * 2, none⟩ (.int .u64 x)).setCell ⟨bh, s * 2 + 1, none⟩ (.int .i32 y)).setCell ⟨bp, p * 2, none⟩ (.int .i32 z)).alloc o).drew := by
  have k : Keep (fun b => b = bh ∨ b = bp) w ((((w.setCell ⟨bh, s * 2, none⟩ (.int .u64 x)).setCell ⟨bh, s * 2 + 1, none⟩ (.int .i32 y)).setCell ⟨bp, p * 2, none⟩ (.int .i32 z)).alloc o).drew :=
    (((((Keep.refl _ w).setCell (fun _ => .inl rfl) _).setCell (fun _ => .inl rfl) _).setCell (fun _ => .inr rfl) _).alloc o).drew
  refine ⟨⟨?_, Nat.lt_of_lt_of_le h.lx k.size, ?_, ?_, h.d1, h.d2, h.d3⟩, k⟩
  · rw [World.cell?_of_block (w := w) (k.block bx h.lx (fun e => by rcases e with e | e; exact h.d2 e.symm; exact h.d3 e.symm))]
    exact h.cx
  · refine Row.drew (Row.alloc (Row.other (Row.congr ((h.rh.set (s * 2) _).set (s * 2 + 1) _) (fun i _ => hv_upd S P s x y i)) h.d1 _) o)
  · refine Row.drew (Row.alloc (Row.congr (Row.set (Row.other (Row.other h.rp (fun e => h.d1 e.symm) _) (fun e => h.d1 e.symm) _) (p * 2) _) (fun i _ => pv_upd L N p z i)) o)

set_option maxHeartbeats 1000000 in
theorem put_any (w : World) (bx bh bp n m s p : Nat) (S P L N : Nat → Int) (x : Int) (hn : n ≤ 65536) (hm : m ≤ 65536) (hs : s < n) (hp : p < m)
    (H : St w bx bh bp n m S P L N) :
    Calls Try.prog 14 #[.pointer (some ⟨bx, 0, none⟩), .slice (some ⟨bh, 0, none⟩) n n, .int .i64 s, .agg #[.int .u64 x, .int .i32 p]] w fun e w' =>
      e = .returned (.tuple #[]) ∧ St w' bx bh bp n m (upd S s x) (upd P s p) (upd L p s) N ∧ Keep (fun b => b = bh ∨ b = bp) w w' := by
  have HL : Hid _ := put_leaves H s p x p s (Obj.cells #[Value.int IntKind.u64 x, Value.int IntKind.i32 ↑p] 36)
  obtain ⟨rx, hbx, rh, rp, d1, d2, d3⟩ := H
  have hbh := rh.lt
  have hbp := rp.lt
  have c0 := rh.cell (s * 2) (by omega)
  have c1 := rh.cell (s * 2 + 1) (by omega)
  have f0 := rh.free (s * 2)
  have f1 := rh.free (s * 2 + 1)
  have c2 := rp.cell (p * 2) (by omega)
  have f2 := rp.free (p * 2)
  rw [hv0] at c0
  rw [hv1] at c1
  rw [pv0] at c2
  go_enter Try.func14, Try.ntmps14
  go_wp2
  go_region
  go_end0
  exact ⟨rfl, HL.out.1, HL.out.2⟩

theorem put_int (w : World) (bx bh bp n m s : Nat) (S P L N : Nat → Int) (x y : Int) (hn : n ≤ 65536) (hm : m ≤ 65536) (hs : s < n) (hy0 : 0 ≤ y) (hy1 : y < m)
    (H : St w bx bh bp n m S P L N) :
    Calls Try.prog 14 #[.pointer (some ⟨bx, 0, none⟩), .slice (some ⟨bh, 0, none⟩) n n, .int .i64 s, .agg #[.int .u64 x, .int .i32 y]] w fun e w' =>
      e = .returned (.tuple #[]) ∧ St w' bx bh bp n m (upd S s x) (upd P s y) (upd L y.toNat s) N ∧ Keep (fun b => b = bh ∨ b = bp) w w' := by
  obtain ⟨p, rfl⟩ := Int.eq_ofNat_of_zero_le hy0
  exact put_any w bx bh bp n m s p S P L N x hn hm hs (by omega) H
theorem St.drewN {w : World} {bx bh bp n m : Nat} {S P L N : Nat → Int} (h : St w bx bh bp n m S P L N) (k : Nat) : St (w.drewN k) bx bh bp n m S P L N :=
  ⟨h.cx, h.lx, h.rh, h.rp, h.d1, h.d2, h.d3⟩
end Go.Proofs.Qxb6603154a

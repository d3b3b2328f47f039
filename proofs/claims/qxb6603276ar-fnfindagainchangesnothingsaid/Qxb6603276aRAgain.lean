import Derived.Test.Qxb6603276aRSmall
namespace Go.Proofs.Qxb6603276aR
open Go.ChangeShapes Go.WideShapes Go.ChangeAt Go.RowKit
set_option linter.unusedVariables false

/-- the law comes back with a yes, nothing that was there has turned -/
def Good (w : World) (e : Ending) (w' : World) : Prop := e = .returned (.bool true) ∧ Below w.heap.size w w'
theorem good {w w' : World} (h : Below w.heap.size w w') : Good w (.returned (.bool true)) w' := ⟨rfl, h⟩

set_option maxHeartbeats 4000000 in
set_option maxRecDepth 100000 in
theorem main4 (w : World) (b o c N bt cx : Nat) (R0 : Nat → Int) (hN : N = 16 * 2 ^ bt) (hb2 : 2 ≤ bt) (hb16 : bt ≤ 16) (hcx : cx < 4294967296) (H : Src w b o N .u8 R0) :
    Calls Try.prog 4 #[.slice (some ⟨b, o, none⟩) N c, .int .i64 bt, .int .u32 cx] w fun e w' => Good w e w' := by
  have p := pow_le bt hb16
  have hNl : N ≤ 1048576 := by omega
  have ML : Hid (N ≤ maxLen) := by show N ≤ maxLen; unfold maxLen; omega
  have hw : wrap64 (16 * 2 ^ bt) = (N : Int) := by rw [hN]; exact wrap_len bt hb16
  have HN : Hid (N = 16 * 2 ^ bt) := hN
  have CD := cand cx bt hb2
  rw [← hN] at CD
  have CD' : Hid (Cand N (home cx bt) (home cx bt ^^^ 16) (home cx bt ^^^ 32)) := CD
  clear hN CD p
  go_enter Try.func4, Try.ntmps4
  go_wp2_with fail
  refine (bytes11 _ _ _ _ _ _ ML.out).mono ?_
  rintro e w1 ⟨r, rfl, e1⟩
  subst w1
  cases r
  · go_wp2
    go_ret
    exact good (Below.refl _ _)
  go_wp2_with fail
  refine (clone_any w b o N c R0 hNl H).mono ?_
  rintro e w1 ⟨rfl, R1, B1, z1⟩
  go_wp2_with fail
  refine (zzfind_any w1 w.heap.size N bt cx R0 HN.out hb2 hb16 hcx R1).mono ?_
  rintro e w2 ⟨rfl, R2, K2, z2⟩
  obtain ⟨ag1, ag2, ag3⟩ := again CD'.out R0 ((cx : Int) / 2 ^ bt % 256)
  obtain ⟨F, hF⟩ : ∃ F, fRes R0 (home cx bt) (home cx bt ^^^ 16) (home cx bt ^^^ 32) ((cx : Int) / 2 ^ bt % 256) = F := ⟨_, rfl⟩
  obtain ⟨G, hG⟩ : ∃ G, fRow R0 (home cx bt) (home cx bt ^^^ 16) (home cx bt ^^^ 32) ((cx : Int) / 2 ^ bt % 256) = G := ⟨_, rfl⟩
  have hFN : F + 16 ≤ N := by
    have a := CD'.out.le0
    have b := CD'.out.le1
    have c := CD'.out.le2
    rcases fRes_cases R0 (home cx bt) (home cx bt ^^^ 16) (home cx bt ^^^ 32) ((cx : Int) / 2 ^ bt % 256) with q | q | q <;> (rw [hF] at q; omega)
  rw [hF, hG] at ag1 ag2
  rw [hG] at ag3 R2
  rw [hF]
  have AG2 : Hid _ := ag2
  have AG3 : Hid _ := ag3
  clear hF hG ag2 ag3
  have g1 := R2.cell F (by omega)
  rw [ag1] at g1
  clear ag1
  have Z2 : Hid (w2.heap.size = w.heap.size + 1) := z2.trans z1
  clear z1 z2
  go_wp2_with fail
  refine (clone_any w2 w.heap.size 0 N N G hNl R2.srcOf).mono ?_
  rintro e w3 ⟨rfl, R3, B3, z3⟩
  have R2' := R2.keep B3
  go_wp2_with fail
  refine (zzfind_any w3 w.heap.size N bt cx G HN.out hb2 hb16 hcx R2').mono ?_
  rintro e w4 ⟨rfl, R4, K4, z4⟩
  rw [AG3.out] at R4
  rw [AG2.out]
  have R5 := K4.row R3 (by have := Z2.out; omega)
  have X : Below w.heap.size w w4 := by
    have a1 := B1.trans (K2.below B1.size (fun k hk e => by omega))
    have a2 := a1.trans (B3.mono a1.size)
    exact a2.trans (K4.below a2.size (fun k hk e => by omega))
  clear AG2 AG3 K2 K4 B1 B3 R1 R2 R2' R3 g1 z3 z4
  go_wp2_with fail
  refine (equal_any w4 w.heap.size w2.heap.size N G hNl R4 R5).mono ?_
  rintro e w5 ⟨rfl, k, rfl⟩
  go_wp2
  go_ret
  exact good (below_drewN X _)
end Go.Proofs.Qxb6603276aR

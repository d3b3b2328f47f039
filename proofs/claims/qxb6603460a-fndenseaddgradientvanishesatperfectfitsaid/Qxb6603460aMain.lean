import Derived.Test.Qxb6603460aEarly
namespace Go.Proofs.Qxb6603460a
open Go.ChangeShapes Go.WideShapes Go.ChangeAt Go.RowKit
set_option linter.unusedVariables false

theorem num_upto {f : Nat → Nat} {k : Nat} (h : ∀ j, j < k → IsNum (f j)) (hk : IsNum (f k)) : ∀ j, j < k + 1 → IsNum (f j) := by
  intro j hj
  by_cases e : j = k
  · rw [e]; exact hk
  · exact h j (by omega)
theorem src_nat {w : World} {b off n : Nat} {f : Nat → Int} (S : Src w b off n (iv f)) (h : ∀ i, i < n → 0 ≤ f i ∧ f i ≤ 1048576) : Src w b off n (wv (natW f)) := by
  refine ⟨S.1, fun j hj => ?_⟩
  rw [S.2 j hj]
  unfold wv iv natW
  have := (h j hj).1
  show some (Value.int .i64 (f j)) = some (.int .i64 ((f j).toNat : Int))
  rw [Int.toNat_of_nonneg this]
theorem below_next {a b c : World} (h : Below a.heap.size a b) (k : Below b.heap.size b c) : Below a.heap.size a c := h.trans (k.mono h.size)

/-- the call's own copies -/
structure Cl (w v : World) (bw n np ng nx : Nat) (po go_ xo : Option Addr) (W P0 G0 X0 : Nat → Nat) : Prop where
  rw_ : Row v bw n (wv W)
  fp : Fl v po np P0
  fg : Fl v go_ ng G0
  fx : Fl v xo nx X0
  bel : Below w.heap.size w v
  lp : ∀ b, po = some ⟨b, 0, none⟩ → b < v.heap.size
  lx : ∀ b, xo = some ⟨b, 0, none⟩ → b < v.heap.size
theorem Cl.keep {w v v' : World} {bw n np ng nx : Nat} {po go_ xo : Option Addr} {W P0 G0 X0 : Nat → Nat} (h : Cl w v bw n np ng nx po go_ xo W P0 G0 X0) (k : Below v.heap.size v v') : Cl w v' bw n np ng nx po go_ xo W P0 G0 X0 :=
  ⟨h.rw_.keep k, h.fp.keep k, h.fg.keep k, h.fx.keep k, below_next h.bel k, fun b e => Nat.lt_of_lt_of_le (h.lp b e) k.size, fun b e => Nat.lt_of_lt_of_le (h.lx b e) k.size⟩
theorem fl_of {w v : World} {co : Option Addr} {n : Nat} {f : Nat → Nat} (h : 0 < n → co = some ⟨w.heap.size, 0, none⟩ ∧ Row v w.heap.size n (fv f)) : Fl v co n f := fun q => ⟨_, (h q).1, (h q).2⟩
theorem gst_start {w v : World} {co : Option Addr} {n ba m : Nat} {f : Nat → Nat} (h : 0 < n → co = some ⟨w.heap.size, 0, none⟩ ∧ Row v w.heap.size n (fv f)) (h1 : m ≤ ba) (h2 : ba < v.heap.size) (h3 : m ≤ w.heap.size) :
    ∃ bg, m ≤ bg ∧ bg < v.heap.size ∧ GSt v co bg n f := by
  by_cases z : n = 0
  · exact ⟨ba, h1, h2, fun q => by omega⟩
  · obtain ⟨e, r⟩ := h (by omega)
    exact ⟨w.heap.size, h3, r.lt, fun _ => ⟨e, f, r, fun i _ => EqFl.refl _⟩⟩
theorem num_levels {v : Nat → Nat → Nat} {W : Nat → Nat} {l : Nat} (h : ∀ k, 1 ≤ k → k < l → ∀ i, i < W k → IsNum (v k i)) (hl : ∀ i, i < W l → IsNum (v l i)) : ∀ k, 1 ≤ k → k < l + 1 → ∀ i, i < W k → IsNum (v k i) := by
  intro k h1 h2
  by_cases e : k = l
  · rw [e]; exact hl
  · exact h k h1 (by omega)

set_option maxHeartbeats 8000000 in
set_option maxRecDepth 100000 in
theorem main (w : World) (b0 o0 c0 n c1 np c2 ng c3 nx : Nat) (a1 a2 a3 : Option Addr) (f : Nat → Int) (P0 G0 X0 : Nat → Nat) (hn1 : 1 ≤ n) (hn : n ≤ 131072) (hnp : np ≤ 131072) (hng : ng ≤ 131072) (hnx : nx ≤ 131072) (hsum : 8 * (n + np + ng + nx) ≤ 1048576)
    (H0 : Src w b0 o0 n (iv f)) (H1 : FSrc w a1 np P0) (H2 : FSrc w a2 ng G0) (H3 : FSrc w a3 nx X0) :
    Calls Try.prog 7 #[.slice (some ⟨b0, o0, none⟩) n c0, .slice a1 np c1, .slice a2 ng c2, .slice a3 nx c3] w fun e w' => Good w e w' := by
  have M0 : Hid (n ≤ maxLen) := by show n ≤ maxLen; unfold maxLen; omega
  have M1 : Hid (np ≤ maxLen) := by show np ≤ maxLen; unfold maxLen; omega
  have M2 : Hid (ng ≤ maxLen) := by show ng ≤ maxLen; unfold maxLen; omega
  have M3 : Hid (nx ≤ maxLen) := by show nx ≤ maxLen; unfold maxLen; omega
  go_enter Try.func7, Try.ntmps7
  go_wp2_with fail
  refine (bytes_any _ _ _ _ _ _ _ _ _ _ _ _ _ M0.out M1.out M2.out M3.out).mono ?_
  rintro e w1 ⟨r, rfl, e1⟩
  subst w1
  cases r
  · go_wp2
    go_ret
    exact good (Below.refl _ _)
  go_wp2_with fail
  refine (total_any w b0 o0 n c0 np f hn hnp H0).mono ?_
  rintro e w1 ⟨t, ok, rfl, e1, hok⟩
  subst w1
  have HOK : Hid _ := hok
  clear hok
  cases ok
  · go_wp2
    go_ret
    exact good (Below.refl _ _)
  obtain ⟨_, n4096, hf, ht, htl⟩ := HOK.out rfl
  clear HOK M0 M1 M2 M3
  have S0 := src_nat H0 hf
  have HW : Hid (∀ i, i < n → natW f i ≤ 1048576) := fun i hi => by have := hf i hi; unfold natW; omega
  clear hf H0
  obtain ⟨W, hWf⟩ : ∃ W, natW f = W := ⟨_, rfl⟩
  rw [hWf] at S0 HW ht
  clear hWf f
  have HT : Hid (t = offN W n) := ht
  clear ht
  have g0 := S0.2 0 (by omega)
  unfold wv iv at g0
  rw [Nat.add_zero] at g0
  have tb : t ≤ 131072 := by omega
  have w0b := HW.out 0 (by omega)
  by_cases tg : ng < t
  · go_wp2
    go_ret
    exact good (Below.refl _ _)
  by_cases xw : nx = W 0
  case neg =>
    have xw' : ((nx : Int) != ((W 0 : Nat) : Int)) = true := by simp; omega
    go_wp2
    go_ret
    exact good (Below.refl _ _)
  subst xw
  go_wp2
  go_loopw [11] (fun i wx => ∃ k : Nat, k ≤ t ∧ i = .int .i64 k ∧ Hid (∀ j, j < k → IsNum (P0 j)) ∧ Hid (Below w.heap.size w wx)) (fun i _ => t - (intOf i).toNat)
  case atStart => exact ⟨0, by omega, rfl, fun j hj => by omega, Below.refl _ _⟩
  case round =>
    obtain ⟨k, hk, rfl, HN, HB⟩ := hrel
    by_cases hlt : k < t
    · obtain ⟨b1, o1, e1, S1⟩ := H1 (by omega)
      have S1' := S1.below HB.out S1.1
      have g1 := S1'.2 k (by omega)
      unfold fv at g1
      clear S1 S1'
      subst e1
      go_wp2_with fail
      refine (finite_any (P0 k) wr).mono ?_
      rintro e w2 ⟨r, d, rfl, hr, e2⟩
      have B2 : Hid (Below w.heap.size w w2) := by rw [e2]; exact below_drewN HB.out d
      clear e2
      have HR : Hid _ := hr
      clear hr
      cases r
      · go_wp2
        go_ret
        exact good B2.out
      · go_wp2
        go_roundw
        case rel => exact ⟨k + 1, by omega, by go_num, num_upto HN.out (HR.out trivial), B2⟩
        case measure => simp [intOf]; omega
    · have PN : Hid (∀ j, j < t → IsNum (P0 j)) := fun j hj => HN.out j (by omega)
      clear HN g0
      go_wp2
      go_loopw [86] (fun i wx => ∃ k : Nat, k ≤ W 0 ∧ i = .int .i64 k ∧ Hid (∀ j, j < k → IsNum (X0 j)) ∧ Hid (Below w.heap.size w wx)) (fun i _ => W 0 - (intOf i).toNat)
      case atStart => exact ⟨0, by omega, rfl, fun j hj => by omega, HB⟩
      case round =>
        clear HB
        obtain ⟨k, hk, rfl, HN, HB⟩ := hrel
        by_cases hlt : k < W 0
        · obtain ⟨b3, o3, e3, S3⟩ := H3 (by omega)
          have S3' := S3.below HB.out S3.1
          have g1 := S3'.2 k (by omega)
          unfold fv at g1
          clear S3 S3'
          subst e3
          go_wp2_with fail
          refine (finite_any (X0 k) wr).mono ?_
          rintro e w2 ⟨r, d, rfl, hr, e2⟩
          have B2 : Hid (Below w.heap.size w w2) := by rw [e2]; exact below_drewN HB.out d
          clear e2
          have HR : Hid _ := hr
          clear hr
          cases r
          · go_wp2
            go_ret
            exact good B2.out
          · go_wp2
            go_roundw
            case rel => exact ⟨k + 1, by omega, by go_num, num_upto HN.out (HR.out trivial), B2⟩
            case measure => simp [intOf]; omega
        · have XN : Hid (∀ j, j < W 0 → IsNum (X0 j)) := fun j hj => HN.out j (by omega)
          clear HN
          go_wp2_with fail
          have A := HB.out
          refine (cloneI wr b0 o0 n c0 (fun i => (W i : Int)) (by omega) (S0.below A S0.1)).mono ?_
          rintro e v0 ⟨rfl, R0, B0, z0⟩
          have A0 := below_next A B0
          generalize wr.heap.size = bw at R0 ⊢
          go_wp2_with fail
          refine (cloneF_any v0 a1 np c1 P0 (by omega) (H1.keep A0)).mono ?_
          rintro e v1 ⟨po, rfl, RP, B1, lp⟩
          have A1 := below_next A0 B1
          have LP : Hid _ := lp
          clear lp
          go_wp2_with fail
          refine (cloneF_any v1 a2 ng c2 G0 (by omega) (H2.keep A1)).mono ?_
          rintro e v2 ⟨go_, rfl, RG, B2, _⟩
          have A2 := below_next A1 B2
          go_wp2_with fail
          refine (cloneF_any v2 a3 (W 0) c3 X0 (by omega) (H3.keep A2)).mono ?_
          rintro e v3 ⟨xo, rfl, RX, B3, lx⟩
          have C : Cl w v3 bw n np ng (W 0) po go_ xo W P0 G0 X0 := ⟨((R0.keep B1).keep B2).keep B3, ((fl_of RP).keep B2).keep B3, (fl_of RG).keep B3, fl_of RX, below_next A2 B3, fun b e => by
            have := LP.out b e
            have := B2.size
            have := B3.size
            omega, lx⟩
          clear LP lx RP RG RX R0 B0 z0 A A0 A1 A2 B1 B2 B3 HB H1 H2 H3 S0
          obtain ⟨la, hla⟩ : ∃ la, la + 1 = n := ⟨n - 1, by omega⟩
          have LA : Hid (la + 1 = n) := hla
          have nl : (n : Int) - 1 = (la : Int) := by omega
          have laln : la < n := by omega
          clear hla
          go_wp2_with fail
          refine (levels_w v3 bw n np (W 0) la po xo W P0 X0 C.rw_ LA.out n4096 HW.out hnp (by rw [← HT.out]; exact htl) C.fp C.fx).mono ?_
          rintro e v4 ⟨ba, av, v, rfl, RA, lba, LV, B4⟩
          have C4 := C.keep B4
          have LBA : Hid (v3.heap.size ≤ ba) := lba
          have LV' : Hid (∀ l, l < n → Lvl v4 ba (Lies v3 xo) (W l) (lev la W P0 X0 l) (av l) (v l)) := LV
          have HB4 : Hid (Below v3.heap.size v3 v4) := B4
          have HC : Hid _ := C
          clear lba LV B4 C
          go_wp2
          go_loopw [15] (fun lv wx => ∃ l : Nat, 1 ≤ l ∧ l ≤ n ∧ lv = .int .i64 l ∧ Hid (∀ k, 1 ≤ k → k < l → ∀ i, i < W k → IsNum (v k i)) ∧ Hid (Below v4.heap.size v4 wx)) (fun lv _ => n - (intOf lv).toNat)
          case atStart => exact ⟨1, by omega, by omega, rfl, fun k h1 h2 => by omega, Below.refl _ _⟩
          case round =>
            obtain ⟨l, hl1, hl, rfl, HN, HB⟩ := hrel
            by_cases hlt : l < n
            · obtain ⟨ao, ca, eav, hao, hres⟩ := LV'.out l hlt
              have HAO : Hid _ := hao
              have g1 := (HB.out.cell (p := ⟨ba, l, none⟩) RA.lt).trans (RA.cell l hlt)
              rw [eav] at g1
              have g2 := (HB.out.cell (p := ⟨bw, l, none⟩) C4.rw_.lt).trans (C4.rw_.cell l hlt)
              unfold wv iv at g2
              have wl := HW.out l hlt
              clear hao hres eav
              go_wp2
              go_quiet (fail)
              go_wp2
              go_loopw [132] (fun iv_ wx => ∃ i : Nat, i ≤ W l ∧ iv_ = .int .i64 i ∧ Hid (∀ j, j < i → IsNum (v l j)) ∧ Hid (Below v4.heap.size v4 wx)) (fun iv_ _ => W l - (intOf iv_).toNat)
              case atStart => exact ⟨0, by omega, rfl, fun j hj => by omega, below_drewN HB.out _⟩
              case round =>
                clear HB g1 g2
                obtain ⟨i, hi, rfl, HN2, HB⟩ := hrel
                by_cases hlt2 : i < W l
                · obtain ⟨bl, el, _, RL⟩ := HAO.out (by omega)
                  have g3 := (HB.out.cell (p := ⟨bl, i, none⟩) RL.lt).trans (RL.cell i hlt2)
                  unfold fv at g3
                  subst el
                  go_wp2_with fail
                  refine (finite_any (v l i) wr).mono ?_
                  rintro e w2 ⟨r, d, rfl, hr, e2⟩
                  have B2 : Hid (Below v4.heap.size v4 w2) := by rw [e2]; exact below_drewN HB.out d
                  clear e2
                  have HR : Hid _ := hr
                  clear hr
                  cases r
                  · go_wp2
                    go_ret
                    exact good (below_next C4.bel B2.out)
                  · go_wp2
                    go_roundw
                    case rel => exact ⟨i + 1, by omega, by go_num, num_upto HN2.out (HR.out trivial), B2⟩
                    case measure => simp [intOf]; omega
                · go_wp2
                  go_roundw
                  case rel => exact ⟨l + 1, by omega, by omega, by go_num, num_levels HN.out (fun i hi => HN2.out i (by omega)), HB⟩
                  case measure => simp [intOf]; omega
            · have NUM : Hid (∀ k, 1 ≤ k → k < n → ∀ i, i < W k → IsNum (v k i)) := fun k h1 h2 => HN.out k h1 (by omega)
              clear HN
              obtain ⟨ao, ca, eav, hao, hres⟩ := LV'.out la laln
              have HAO : Hid _ := hao
              have g1 := (HB.out.cell (p := ⟨ba, la, none⟩) RA.lt).trans (RA.cell la laln)
              rw [eav] at g1
              have wl := HW.out la laln
              clear hao hres eav
              go_wp2_with fail
              have FA : Fl wr ao (W la) (v la) := fun q => by
                obtain ⟨b, e, _, r⟩ := HAO.out q
                exact ⟨b, e, r.of_block (HB.out.block _ r.lt)⟩
              refine (cloneF_any wr ao (W la) ca (v la) wl FA.src).mono ?_
              rintro e v5 ⟨to_, rfl, RT, B5, _⟩
              have C5 := (C4.keep HB.out).keep B5
              go_wp2_with fail
              refine (cloneF_any v5 go_ ng ng G0 (by omega) C5.fg.src).mono ?_
              rintro e v6 ⟨gg, rfl, RGG, B6, _⟩
              have C6 := C5.keep B6
              have z1 := HB4.out.size
              have z2 := HB.out.size
              have z3 := B5.size
              have z4 := B6.size
              have z5 := RA.lt
              obtain ⟨bg, lg1, lg2, SG⟩ := gst_start RGG LBA.out (by omega) (show v3.heap.size ≤ v5.heap.size by omega)
              have CW := HC.out.rw_.lt
              have D2 : ∀ b, po = some ⟨b, 0, none⟩ → b ≠ bg := fun b e => by have := HC.out.lp b e; omega
              have D3 : ∀ b, xo = some ⟨b, 0, none⟩ → b ≠ bg := fun b e => by have := HC.out.lx b e; omega
              have HU : ∀ l, l < n → ∀ i, i < W l → Res (lev la W P0 X0 l i) (v l i) ∧ IsNum (v l i) := by
                intro l hl i hi
                obtain ⟨_, _, _, _, hres⟩ := LV'.out l hl
                refine ⟨hres i hi, ?_⟩
                by_cases l0 : l = 0
                · subst l0
                  have e : v 0 i = X0 i := hres i hi
                  rw [e]
                  exact XN.out i hi
                · exact NUM.out l (by omega) hl i hi
              have HU' : Hid _ := HU
              have DD : Hid _ := And.intro D2 D3
              have KB : Hid (∀ v7, Keep (fun b => b = bg) v6 v7 → Below w.heap.size w v7) := fun v7 k => by
                have s3 := HC.out.bel.size
                exact C6.bel.trans (k.below C6.bel.size (fun i hi e => by omega))
              have KG : Hid (∀ v7, Keep (fun b => b = bg) v6 v7 → Fl v7 go_ ng G0) := fun v7 k q => by
                obtain ⟨b, e, r⟩ := C6.fg q
                obtain ⟨b', e', r'⟩ := HC.out.fg q
                have eb : b = b' := by rw [e] at e'; simpa using e'
                have := r'.lt
                exact ⟨b, e, k.row r (by omega)⟩
              clear HU D2 D3 z1 z2 z3 z4 z5
              go_wp2_with fail
              refine (grad_w v6 bw n np ng (W 0) (W la) la bg po xo gg to_ W P0 X0 (v la) G0 v C6.rw_ LA.out n4096 HW.out hnp hng (by rw [← HT.out]; exact htl) (by rw [← HT.out]; omega) C6.fp C6.fx ((fl_of RT).keep B6) SG lg2 HU'.out (fun _ _ => rfl) (fun i hi => PN.out i (by rw [HT.out]; exact hi)) (by omega) DD.out.1 DD.out.2).mono ?_
              rintro e v7 ⟨rfl, SG7, K7⟩
              have BW := KB.out v7 K7
              have FG7 := KG.out v7 K7
              clear KB KG SG DD HU' C6 C5 C4 RT RGG B5 B6 HB4 HC LV' NUM XN PN HAO FA g1 HB K7 RA
              go_wp2
              go_loopw [20] (fun kv wx => ∃ k : Nat, k ≤ ng ∧ kv = .int .i64 k ∧ Hid (Below v7.heap.size v7 wx)) (fun kv _ => ng - (intOf kv).toNat)
              case atStart => exact ⟨0, by omega, rfl, Below.refl _ _⟩
              case round =>
                obtain ⟨k, hk, rfl, HB⟩ := hrel
                by_cases hlt : k < ng
                · obtain ⟨eg, G, RG, hG⟩ := SG7 (by omega)
                  obtain ⟨bo, eo, RO⟩ := FG7 (by omega)
                  have g1 := (HB.out.cell (p := ⟨bg, k, none⟩) RG.lt).trans (RG.cell k hlt)
                  have g2 := (HB.out.cell (p := ⟨bo, k, none⟩) RO.lt).trans (RO.cell k hlt)
                  unfold fv at g1 g2
                  have hgk := hG k hlt
                  have HGK : Hid _ := hgk
                  clear hgk hG
                  subst eg
                  subst eo
                  go_wp2
                  go_quiet ((go_at_call 19; exact Calls.quiet_of_same (eqF_any (G k) (G0 k) _ HGK.out)))
                  go_wp2
                  go_roundw
                  case rel => exact ⟨k + 1, by omega, by go_num, below_drewN HB.out _⟩
                  case measure => simp [intOf]; omega
                · go_wp2
                  go_ret
                  exact good (below_next BW HB.out)
end Go.Proofs.Qxb6603460a

import Derived.Test.Qxb6603460aLevels
namespace Go.Proofs.Qxb6603460a
open Go.ChangeShapes Go.WideShapes Go.ChangeAt Go.RowKit
set_option linter.unusedVariables false
attribute [local go_sem] run_store_float

def zeros : Nat → Value := fun _ => .float .f64 0
theorem zeros_set {w : World} {b n t : Nat} (h : Row w b n zeros) : Row (w.setCell ⟨b, t, none⟩ (.float .f64 0)) b n zeros :=
  (h.set t _).congr fun i _ => by unfold zeros; by_cases e : i = t <;> simp [e]
theorem run_sub_self (x : Nat) (h : IsNum x) (w : World) : (binOp .sub 32 (.float .f64 x) (.float .f64 x)).run Try.prog w = .ok (.float .f64 0) w :=
  run_float_arith (P := Try.prog) w .sub 32 .f64 x x 0 (sub_self h)
theorem run_mul_l (x : Nat) (h : IsNum x) : ∃ z, IsZero z ∧ ∀ w, (binOp .mul 32 (.float .f64 0) (.float .f64 x)).run Try.prog w = .ok (.float .f64 z) w := by
  obtain ⟨z, e, hz⟩ := mul_zero_l h
  exact ⟨z, hz, fun w => run_float_arith (P := Try.prog) w .mul 32 .f64 0 x z e⟩
theorem run_mul_r (x : Nat) (h : IsNum x) : ∃ z, IsZero z ∧ ∀ w, (binOp .mul 32 (.float .f64 x) (.float .f64 0)).run Try.prog w = .ok (.float .f64 z) w := by
  obtain ⟨z, e, hz⟩ := mul_zero_r h
  exact ⟨z, hz, fun w => run_float_arith (P := Try.prog) w .mul 32 .f64 x 0 z e⟩
theorem run_add_z (z : Nat) (h : IsZero z) (w : World) : (binOp .add 32 (.float .f64 0) (.float .f64 z)).run Try.prog w = .ok (.float .f64 0) w :=
  run_float_arith (P := Try.prog) w .add 32 .f64 0 z 0 (add_zero_zero h)

/-- the gradient's row: every slot is equal as a number to what it was -/
def GSt (w : World) (go_ : Option Addr) (bg ng : Nat) (G0 : Nat → Nat) : Prop :=
  0 < ng → go_ = some ⟨bg, 0, none⟩ ∧ ∃ G, Row w bg ng (fv G) ∧ ∀ i, i < ng → EqFl (G i) (G0 i)
/-- what 'addGradient' leaves -/
def AOut (w : World) (go_ : Option Addr) (bg ng : Nat) (G0 : Nat → Nat) (e : Ending) (w' : World) : Prop :=
  e = .returned (.tuple #[]) ∧ GSt w' go_ bg ng G0 ∧ Keep (fun b => b = bg) w w'

/-- what stands while the layers are gone through: nothing of it lies in the gradient's block -/
structure Env (w : World) (bw be ba n np : Nat) (po : Option Addr) (W Pm : Nat → Nat) (U : Nat → Nat → Nat) (av : Nat → Value) (bg : Nat) : Prop where
  rw_ : Row w bw n (wv W)
  box : w.cell? ⟨be, 0, none⟩ = some (.slice (some ⟨bw, 0, none⟩) n n)
  bel : be < w.heap.size
  ra : Row w ba n av
  rp : 0 < np → ∃ b, po = some ⟨b, 0, none⟩ ∧ b ≠ bg ∧ Row w b np (fv Pm)
  lv : ∀ l, l < n → ∃ ao c, av l = .slice ao (W l) c ∧ (0 < W l → ∃ b, ao = some ⟨b, 0, none⟩ ∧ b ≠ bg ∧ Row w b (W l) (fv (U l)))
  d1 : bw ≠ bg
  d2 : be ≠ bg
  d3 : ba ≠ bg
theorem Env.keep {w w' : World} {bw be ba n np : Nat} {po : Option Addr} {W Pm : Nat → Nat} {U : Nat → Nat → Nat} {av : Nat → Value} {bg : Nat} (h : Env w bw be ba n np po W Pm U av bg) (k : Keep (fun b => b = bg) w w') : Env w' bw be ba n np po W Pm U av bg := by
  refine ⟨k.row h.rw_ h.d1, ?_, Nat.lt_of_lt_of_le h.bel k.size, k.row h.ra h.d3, ?_, ?_, h.d1, h.d2, h.d3⟩
  · rw [World.cell?_of_block (w := w) (k.block be h.bel h.d2)]; exact h.box
  · intro q
    obtain ⟨b, e, ne, r⟩ := h.rp q
    exact ⟨b, e, ne, k.row r ne⟩
  · intro l hl
    obtain ⟨ao, c, e, f⟩ := h.lv l hl
    refine ⟨ao, c, e, fun q => ?_⟩
    obtain ⟨b, e2, ne, r⟩ := f q
    exact ⟨b, e2, ne, k.row r ne⟩

theorem env_start {w w1 : World} {bw ba n np la bg : Nat} {po xo : Option Addr} {W Pm X : Nat → Nat} {U v : Nat → Nat → Nat} {av : Nat → Value} (R : Row w bw n (wv W)) (FP : Fl w po np Pm) (lg : bg < w.heap.size)
    (hU : ∀ l, l < n → ∀ i, i < W l → Res (lev la W Pm X l i) (U l i) ∧ IsNum (U l i)) (d1 : bw ≠ bg) (d2 : ∀ b, po = some ⟨b, 0, none⟩ → b ≠ bg) (d3 : ∀ b, xo = some ⟨b, 0, none⟩ → b ≠ bg)
    (RA : Row w1 ba n av) (lba : (w.alloc (.cells #[.slice (some ⟨bw, 0, none⟩) n n] 42)).heap.size ≤ ba)
    (LV : ∀ l, l < n → Lvl w1 ba (Lies (w.alloc (.cells #[.slice (some ⟨bw, 0, none⟩) n n] 42)) xo) (W l) (lev la W Pm X l) (av l) (v l))
    (B1 : Below (w.alloc (.cells #[.slice (some ⟨bw, 0, none⟩) n n] 42)).heap.size (w.alloc (.cells #[.slice (some ⟨bw, 0, none⟩) n n] 42)) w1) :
    Env w1 bw w.heap.size ba n np po W Pm U av bg ∧ Below w.heap.size w w1 := by
  have sz : (w.alloc (.cells #[.slice (some ⟨bw, 0, none⟩) n n] 42)).heap.size = w.heap.size + 1 := by simp
  have B0 : Below w.heap.size w (w.alloc (.cells #[.slice (some ⟨bw, 0, none⟩) n n] 42)) := (Below.refl _ _).alloc (Nat.le_refl _) _
  have B2 : Below w.heap.size w w1 := B0.trans (B1.mono (by rw [sz]; omega))
  have s1 := B1.size
  rw [sz] at lba s1
  refine ⟨⟨R.of_block (B2.block _ R.lt), ?_, by omega, RA, ?_, ?_, d1, by omega, by omega⟩, B2⟩
  · rw [B1.cell (p := ⟨w.heap.size, 0, none⟩) (by simp)]
    simp [go_sem]
  · intro q
    obtain ⟨b, e, r⟩ := FP q
    exact ⟨b, e, d2 b e, r.of_block (B2.block _ r.lt)⟩
  · intro l hl
    obtain ⟨ao, c, e, f, res⟩ := LV l hl
    refine ⟨ao, c, e, fun q => ?_⟩
    obtain ⟨b, e2, ⟨_, D⟩, r⟩ := f q
    refine ⟨b, e2, ?_, r.congr fun i hi => ?_⟩
    · rcases D with D | D
      · rw [sz] at D; omega
      · exact d3 b D
    · unfold fv
      rw [Res.num (hU l hl i hi).1 (hU l hl i hi).2 (res i hi)]
theorem GSt.below {w w' : World} {go_ : Option Addr} {bg ng : Nat} {G0 : Nat → Nat} (h : GSt w go_ bg ng G0) (k : Below w.heap.size w w') : GSt w' go_ bg ng G0 := by
  intro q
  obtain ⟨e, G, r, f⟩ := h q
  exact ⟨e, G, r.of_block (k.block _ r.lt), f⟩

/-- a slice of m zeros, not in the gradient's block -/
def Dz (w : World) (dso : Option Addr) (m bg : Nat) : Prop := 0 < m → ∃ bd, dso = some ⟨bd, 0, none⟩ ∧ bd ≠ bg ∧ Row w bd m zeros
/-- all that stands while a layer is worked -/
structure BS (w0 w : World) (bw be ba n np : Nat) (po : Option Addr) (W Pm : Nat → Nat) (U : Nat → Nat → Nat) (av : Nat → Value) (bg : Nat) (go_ : Option Addr) (ng : Nat) (G0 : Nat → Nat) (dso : Option Addr) (m : Nat) : Prop where
  env : Env w bw be ba n np po W Pm U av bg
  gst : GSt w go_ bg ng G0
  dz : Dz w dso m bg
  kp : Keep (fun b => b = bg) w0 w
theorem Dz.keep {w w' : World} {dso : Option Addr} {m bg : Nat} (h : Dz w dso m bg) (k : Keep (fun b => b = bg) w w') : Dz w' dso m bg := by
  intro q
  obtain ⟨bd, e, ne, r⟩ := h q
  exact ⟨bd, e, ne, k.row r ne⟩
section
variable {w0 w w' : World} {bw be ba n np : Nat} {po : Option Addr} {W Pm : Nat → Nat} {U : Nat → Nat → Nat} {av : Nat → Value} {bg : Nat} {go_ : Option Addr} {ng : Nat} {G0 : Nat → Nat} {dso : Option Addr} {m : Nat}
theorem BS.below (h : BS w0 w bw be ba n np po W Pm U av bg go_ ng G0 dso m) (B : Below w.heap.size w w') : BS w0 w' bw be ba n np po W Pm U av bg go_ ng G0 dso m :=
  ⟨h.env.keep (Keep.of_below B), h.gst.below B, h.dz.keep (Keep.of_below B), h.kp.trans (Keep.of_below B)⟩
theorem BS.store (h : BS w0 w bw be ba n np po W Pm U av bg go_ ng G0 dso m) {G : Nat → Nat} (R : Row w bg ng (fv G)) (hG : ∀ i, i < ng → EqFl (G i) (G0 i)) (e : go_ = some ⟨bg, 0, none⟩) (i r k : Nat) (hr : EqFl r (G0 i)) :
    BS w0 ((w.drewN k).setCell ⟨bg, i, none⟩ (.float .f64 r)) bw be ba n np po W Pm U av bg go_ ng G0 dso m := by
  have K : Keep (fun b => b = bg) w ((w.drewN k).setCell ⟨bg, i, none⟩ (.float .f64 r)) := Keep.setCell (M := fun b => b = bg) (p := ⟨bg, i, none⟩) ((Keep.refl _ w).drewN k) (fun _ => rfl) _
  refine ⟨h.env.keep K, fun _ => ⟨e, updn G i r, frow_upd (R.drewN k) r, fun j hj => ?_⟩, h.dz.keep K, h.kp.trans K⟩
  unfold updn
  by_cases q : j = i
  · rw [if_pos q, q]; exact hr
  · rw [if_neg q]; exact hG j hj
theorem BS.delta (h : BS w0 w bw be ba n np po W Pm U av bg go_ ng G0 dso m) {dso' : Option Addr} {m' : Nat} (d : Dz w dso' m' bg) : BS w0 w bw be ba n np po W Pm U av bg go_ ng G0 dso' m' := ⟨h.env, h.gst, d, h.kp⟩
end

set_option maxHeartbeats 8000000 in
set_option maxRecDepth 100000 in
theorem grad_any (w : World) (bw n np ng cx ct la bg : Nat) (po xo go_ to : Option Addr) (W Pm X T G0 : Nat → Nat) (U : Nat → Nat → Nat) (R : Row w bw n (wv W)) (hla : la + 1 = n) (hn : n ≤ 4096) (hW : ∀ i, i < n → W i ≤ 1048576) (hnp : np ≤ 131072) (hng : ng ≤ 131072) (hoff : offN W n ≤ np) (hoffg : offN W n ≤ ng)
    (FP : Fl w po np Pm) (FX : Fl w xo (W 0) X) (FT : Fl w to (W la) T) (SG : GSt w go_ bg ng G0) (lg : bg < w.heap.size)
    (hU : ∀ l, l < n → ∀ i, i < W l → Res (lev la W Pm X l i) (U l i) ∧ IsNum (U l i)) (hT : ∀ i, i < W la → T i = U la i) (hP : ∀ i, i < offN W n → IsNum (Pm i))
    (d1 : bw ≠ bg) (d2 : ∀ b, po = some ⟨b, 0, none⟩ → b ≠ bg) (d3 : ∀ b, xo = some ⟨b, 0, none⟩ → b ≠ bg) :
    Calls Try.prog 25 #[.agg #[.slice (some ⟨bw, 0, none⟩) n n], .slice po np np, .slice go_ ng ng, .slice xo (W 0) cx, .slice to (W la) ct] w fun e w' => AOut w go_ bg ng G0 e w' := by
  have lb := R.lt
  have HU : Hid (∀ l, l < n → ∀ i, i < W l → Res (lev la W Pm X l i) (U l i) ∧ IsNum (U l i)) := hU
  have HT : Hid (∀ i, i < W la → T i = U la i) := hT
  have HPN : Hid (∀ i, i < offN W n → IsNum (Pm i)) := hP
  have HW : Hid (∀ i, i < n → W i ≤ 1048576) := hW
  have LA : Hid (la + 1 = n) := hla
  have HO : Hid (offN W n ≤ np) := hoff
  have HOG : Hid (offN W n ≤ ng) := hoffg
  have laln : la < n := by omega
  have nl : (n : Int) - 1 = (la : Int) := by omega
  have lan : la ≤ 4096 := by omega
  have wla := hW la laln
  have B0 : Below w.heap.size w (w.alloc (.cells #[.slice (some ⟨bw, 0, none⟩) n n] 42)) := (Below.refl _ _).alloc (Nat.le_refl _) _
  have mk := run_make_row' (P := Try.prog) 23 32 (.float .f64 0) 8 Try.underlying23 Try.info32 rfl .i64 .i64 (W la) (by omega) (by omega)
  clear hU hT hP hW hla hoff hoffg
  go_enter Try.func25, Try.ntmps25
  go_wp2_with fail
  refine (levels_any (w.alloc (.cells #[.slice (some ⟨bw, 0, none⟩) n n] 42)) bw n np cx la po xo W Pm X (R.keep B0) LA.out hn HW.out hnp HO.out (FP.keep B0) (FX.keep B0)).mono ?_
  rintro e w1 ⟨ba, av, v, rfl, RA, lba, LV, B1⟩
  obtain ⟨E1, B2⟩ := env_start R FP lg HU.out d1 d2 d3 RA lba LV B1
  have SG1 := SG.below B2
  have FT1 := FT.keep B2
  have K1 : Keep (fun b => b = bg) w w1 := Keep.of_below B2
  have lg1 : bg < w1.heap.size := by have := B2.size; omega
  clear R FP FX FT SG LV B1 RA lba B0 d1 d2 d3 lb B2
  have c1 := E1.box
  have c2 := E1.rw_.cell la laln
  unfold wv iv at c2
  obtain ⟨ao, ca, eav, hao⟩ := E1.lv la laln
  have c3 := E1.ra.cell la laln
  rw [eav] at c3
  have l1 := E1.rw_.lt
  have l2 := E1.ra.lt
  have l3 := E1.bel
  have HAO : Hid _ := hao
  clear eav hao
  go_wp2_with fail
  go_loopw [48] (fun i wr => ∃ t : Nat, t ≤ W la ∧ i = .int .i64 t ∧ Row wr w1.heap.size (W la) zeros ∧ Below w1.heap.size w1 wr ∧ wr.heap.size = w1.heap.size + 1) (fun i _ => W la - (intOf i).toNat)
  case atStart => exact ⟨0, by omega, rfl, row_made w1 _ (W la) 32, (Below.refl _ _).alloc (Nat.le_refl _) _, by simp⟩
  case round =>
    obtain ⟨t, ht, rfl, RD, BD, z⟩ := hrel
    have Z : Hid (wr.heap.size = w1.heap.size + 1) := z
    clear z mk
    by_cases hlt : t < W la
    · obtain ⟨bl, el, _, RL⟩ := HAO.out (by omega)
      obtain ⟨bt, et, RT⟩ := FT1 (by omega)
      have a1 := (BD.cell (p := ⟨bl, t, none⟩) RL.lt).trans (RL.cell t hlt)
      have a2 := (BD.cell (p := ⟨bt, t, none⟩) RT.lt).trans (RT.cell t hlt)
      unfold fv at a1 a2
      rw [HT.out t hlt] at a2
      have hs := run_sub_self (U la t) (HU.out la laln t hlt).2
      have a3 := RD.cell t hlt
      have a4 := RD.free t
      unfold zeros at a3
      subst el et
      go_wp2
      go_roundw
      case rel => exact ⟨t + 1, by omega, by go_num, zeros_set RD, BD.setCell (Nat.le_refl _) _, by simpa using Z.out⟩
      case measure => simp [intOf]; omega
    · have E2 := E1.keep (Keep.of_below BD)
      have SG2 := SG1.below BD
      have K2 : Keep (fun b => b = bg) w wr := K1.trans (Keep.of_below BD)
      clear E1 SG1 K1 FT1 HAO HT c1 c2 c3 l1 l2 l3
      have DZ : Dz wr (some ⟨w1.heap.size, 0, none⟩) (W la) bg := fun _ => ⟨_, rfl, by omega, RD⟩
      have S0 : BS w wr bw w.heap.size ba n np po W Pm U av bg go_ ng G0 (some ⟨w1.heap.size, 0, none⟩) (W la) := ⟨E2, SG2, DZ, K2⟩
      clear E2 SG2 DZ K2 RD BD
      go_wp2
      go_loopw [12, 15] (fun dv lv wx => ∃ (l : Nat) (dso : Option Addr) (cd : Nat), l ≤ la ∧ lv = .int .i64 l ∧ dv = .slice dso (W l) cd ∧ BS w wx bw w.heap.size ba n np po W Pm U av bg go_ ng G0 dso (W l)) (fun _ lv _ => (intOf lv).toNat)
      case atStart => exact ⟨la, _, _, Nat.le_refl _, rfl, rfl, S0⟩
      case round =>
        clear S0 Z
        obtain ⟨l, dso, cd, hl, rfl, rfl, S⟩ := hrel
        by_cases hl1 : 1 ≤ l
        · obtain ⟨q, hq⟩ : ∃ q, q + 1 = l := ⟨l - 1, by omega⟩
          have lq : (l : Int) - 1 = (q : Int) := by omega
          have ln : l < n := by omega
          have qn : q < n := by omega
          have KQ : Hid (q + 1 = l) := hq
          obtain ⟨p, hp⟩ : ∃ p, W l * W q = p := ⟨_, rfl⟩
          obtain ⟨off, hf⟩ : ∃ o, offN W l = o := ⟨_, rfl⟩
          have HP : Hid (W l * W q = p) := hp
          have HF : Hid (offN W l = off) := hf
          have tot0 : off + p + W l ≤ offN W n := by
            have a := offN_mono W (l + 1) n (by omega) (by omega)
            have b := offN_succ W l hl1
            rw [show l - 1 = q from by omega, Nat.mul_add, hp, hf, Nat.mul_one] at b
            omega
          have totp : off + p + W l ≤ np := by have := HO.out; omega
          have totg : off + p + W l ≤ ng := by have := HOG.out; omega
          have TOT : Hid (off + p + W l ≤ offN W n) := tot0
          clear hp hf hq tot0
          have wl := HW.out l ln
          have wq := HW.out q qn
          have c1 := S.env.box
          go_wp2_with fail
          refine (layer_at wr bw n np l q p off po W KQ.out HP.out HF.out S.env.rw_ hn ln HW.out hnp HO.out).mono ?_
          rintro e w3 ⟨wo, bo, e1, e2, rfl, L, B3, z3⟩
          have S3 := S.below B3
          have c2 := S3.env.box
          go_wp2_with fail
          refine (layer_at w3 bw n ng l q p off go_ W KQ.out HP.out HF.out S3.env.rw_ hn ln HW.out hng HOG.out).mono ?_
          rintro e w4 ⟨gwo, gbo, e3, e4, rfl, LG, B4, z4⟩
          have S4 := S3.below B4
          have c3 := S4.env.box
          have c4 := S4.env.rw_.cell q qn
          unfold wv iv at c4
          have S4' : Hid (BS w w4 bw w.heap.size ba n np po W Pm U av bg go_ ng G0 dso (W l)) := S4
          clear S S3 S4 B3 B4 z3 z4 c1 c2
          go_wp2_with fail
          go_loopw [90] (fun i wx => ∃ t : Nat, t ≤ W l ∧ i = .int .i64 t ∧ BS w wx bw w.heap.size ba n np po W Pm U av bg go_ ng G0 dso (W l)) (fun i _ => W l - (intOf i).toNat)
          case atStart => exact ⟨0, by omega, rfl, S4'.out⟩
          case round =>
            clear S4' c3 c4
            obtain ⟨t, ht, rfl, S⟩ := hrel
            by_cases hlt3 : t < W l
            · obtain ⟨bd, ed, nbd, RD⟩ := S.dz (by omega)
              obtain ⟨eg, G, RG, hG⟩ := S.gst (by omega)
              have HG : Hid (∀ i, i < ng → EqFl (G i) (G0 i)) := hG
              have EG : Hid (go_ = some ⟨bg, 0, none⟩) := eg
              have eb := LG.bat bg eg (by omega)
              have ew := LG.wat bg eg
              obtain ⟨m1, hm1⟩ : ∃ m, t * W q = m := ⟨_, rfl⟩
              obtain ⟨m2, hm2⟩ : ∃ m, m1 + W q = m := ⟨_, rfl⟩
              have m2p : m2 ≤ p := by
                rw [← hm2, ← hm1, ← HP.out, ← Nat.succ_mul]
                exact Nat.mul_le_mul_right _ hlt3
              have i1 : (t : Int) * ((W q : Nat) : Int) = (m1 : Int) := by rw [← hm1]; simp
              have i2 : ((t : Int) + 1) * ((W q : Nat) : Int) = (m2 : Int) := by rw [← hm2, ← hm1]; simp [Int.add_mul]
              have wcap := LG.wcap
              have wcc := LG.wc
              have m2b : m2 ≤ 131072 := by omega
              have m1b : m1 ≤ 131072 := by omega
              obtain ⟨ro, c3, hsl, hc3, hro⟩ := slice_at Try.prog Try.u23 Try.sz32 gwo p e3 m1 m2 (W q) hm2 (by omega)
              have RO : Hid _ := hro
              have EW : Hid (0 < p → gwo = some ⟨bg, off, none⟩) := ew
              have HM2 : Hid (m1 + W q = m2) := hm2
              have bcap := LG.bcap
              have g1 := RD.cell t hlt3
              unfold zeros at g1
              have g2 := RG.cell (off + p + t) (by omega)
              have g3 := RG.free (off + p + t)
              unfold fv at g2
              obtain ⟨r1, k1, hr1, re1⟩ := run_fadd Try.prog 32 (G (off + p + t)) 0 wr
              have S5 : Hid (BS w ((wr.drewN k1).setCell ⟨bg, off + p + t, none⟩ (.float .f64 r1)) bw w.heap.size ba n np po W Pm U av bg go_ ng G0 dso (W l)) := S.store RG hG eg _ r1 k1 (EqFl.add_zero (hG _ (by omega)) (.inl rfl) re1)
              have a1 := S5.out.env.ra.cell q qn
              obtain ⟨ao, ca, eav, hao⟩ := S5.out.env.lv q qn
              rw [eav] at a1
              have EAV : Hid (av q = .slice ao (W q) ca) := eav
              clear hro ew hm1 hm2 hG re1 hao eav eg S
              subst eb
              subst ed
              go_wp2_with fail
              go_loopw [117] (fun i wx => ∃ j : Nat, j ≤ W q ∧ i = .int .i64 j ∧ BS w wx bw w.heap.size ba n np po W Pm U av bg go_ ng G0 (some ⟨bd, 0, none⟩) (W l)) (fun i _ => W q - (intOf i).toNat)
              case atStart => exact ⟨0, by omega, rfl, S5.out⟩
              case round =>
                clear S5 a1 HG g1 g2 g3 RD RG hr1
                obtain ⟨j, hj, rfl, S⟩ := hrel
                by_cases hlt4 : j < W q
                · obtain ⟨eg, G, RG, hG⟩ := S.gst (by omega)
                  obtain ⟨ao2, ca2, eav2, hao2⟩ := S.env.lv q qn
                  rw [EAV.out] at eav2
                  obtain ⟨rfl, _, rfl⟩ := Value.slice.inj eav2
                  obtain ⟨bq, eao, _, Rq⟩ := hao2 (by omega)
                  have ppos : 0 < p := by rw [← HP.out]; exact Nat.mul_pos (by omega) (by omega)
                  have er := RO.out bg off (EW.out ppos) (by omega)
                  have ga := Rq.cell j hlt4
                  have ix : off + m1 + j < ng := by have := HM2.out; omega
                  have gp := RG.cell (off + m1 + j) ix
                  have gf := RG.free (off + m1 + j)
                  unfold fv at ga gp
                  have a1 := S.env.ra.cell q qn
                  rw [EAV.out] at a1
                  obtain ⟨z, hz, hm⟩ := run_mul_l (U q j) (HU.out q qn j hlt4).2
                  obtain ⟨r2, k2, hr2, re2⟩ := run_fadd Try.prog 32 (G (off + m1 + j)) z wr
                  have S6 : Hid (BS w ((wr.drewN k2).setCell ⟨bg, off + m1 + j, none⟩ (.float .f64 r2)) bw w.heap.size ba n np po W Pm U av bg go_ ng G0 (some ⟨bd, 0, none⟩) (W l)) := S.store RG hG eg _ r2 k2 (EqFl.add_zero (hG _ ix) hz re2)
                  have RD := S.dz (by omega)
                  obtain ⟨bd', ebd, _, RD⟩ := RD
                  have g1 := RD.cell t hlt3
                  have ebd' : bd' = bd := by simpa using ebd.symm
                  rw [ebd'] at g1
                  unfold zeros at g1
                  clear hao2 eav2 hG re2 eg S ebd ebd' RD
                  subst er
                  subst eao
                  go_wp2
                  go_roundw
                  case rel => exact ⟨j + 1, by omega, by go_num, S6.out⟩
                  case measure => simp [intOf]; omega
                · have S' : Hid _ := S
                  clear S
                  go_wp2
                  go_roundw
                  case rel => exact ⟨t + 1, by omega, by go_num, S'.out⟩
                  case measure => simp [intOf]; omega
            · by_cases l1 : l = 1
              · have S' : Hid (BS w wr bw w.heap.size ba n np po W Pm U av bg go_ ng G0 dso (W l)) := S
                clear S
                have l1' : ((l : Int) == 1) = true := by simp; omega
                clear l1
                go_wp2
                go_end0
                exact ⟨rfl, S'.out.gst, S'.out.kp⟩
              · have l1' : ((l : Int) == 1) = false := by simp; omega
                have mkq := run_make_row' (P := Try.prog) 23 32 (.float .f64 0) 8 Try.underlying23 Try.info32 rfl .i64 .i64 (W q) (by omega) (by omega)
                have c1 := S.env.box
                have c4 := S.env.rw_.cell q qn
                unfold wv iv at c4
                have la1 := S.env.ra.cell q qn
                obtain ⟨ao, ca, eav, hao⟩ := S.env.lv q qn
                rw [eav] at la1
                have EAV : Hid (av q = .slice ao (W q) ca) := eav
                have S' : Hid (BS w wr bw w.heap.size ba n np po W Pm U av bg go_ ng G0 dso (W l)) := S
                have lk1 := S.env.rw_.lt
                have lk2 := S.env.ra.lt
                have lk3 := S.env.bel
                clear S eav hao l1
                obtain ⟨bk, hbk⟩ : ∃ b, wr.heap.size = b := ⟨_, rfl⟩
                have bkw : w.heap.size < bk := by omega
                have bkg : bk ≠ bg := by omega
                have R0 : Hid (Row (wr.alloc (.cells (madeCells #[.float .f64 0] (W q)) 32)) bk (W q) zeros) := by
                  have := row_made wr (.float .f64 0) (W q) 32
                  rw [hbk] at this
                  exact this
                have B0 : Hid (Below bk wr (wr.alloc (.cells (madeCells #[.float .f64 0] (W q)) 32))) := by
                  have := (Below.refl wr.heap.size wr).alloc (Nat.le_refl _) (.cells (madeCells #[.float .f64 0] (W q)) 32)
                  rw [hbk] at this
                  exact this
                have SB : Hid (∀ wx, Below bk wr wx → BS w wx bw w.heap.size ba n np po W Pm U av bg go_ ng G0 dso (W l)) := fun wx B => S'.out.below (by rw [hbk]; exact B)
                clear lk1 lk2 lk3 S'
                go_wp2_with fail
                clear hbk
                go_loopw [139] (fun i wx => ∃ j : Nat, j ≤ W q ∧ i = .int .i64 j ∧ Row wx bk (W q) zeros ∧ Hid (Below bk wr wx)) (fun i _ => W q - (intOf i).toNat)
                case atStart => exact ⟨0, by omega, rfl, R0.out, B0.out⟩
                case round =>
                  clear R0 B0 mkq c1 c4 la1
                  obtain ⟨j, hj, rfl, RK, BK⟩ := hrel
                  by_cases hlt5 : j < W q
                  · have S2 := SB.out _ BK.out
                    have la1 := S2.env.ra.cell q qn
                    obtain ⟨ao2, ca2, eav2, hao2⟩ := S2.env.lv q qn
                    rw [EAV.out] at la1 eav2
                    obtain ⟨rfl, _, rfl⟩ := Value.slice.inj eav2
                    obtain ⟨bq, eao, _, Rq⟩ := hao2 (by omega)
                    have ga := Rq.cell j hlt5
                    unfold fv at ga
                    have ND := (HU.out q qn j hlt5).2
                    clear hao2 eav2 S2
                    subst eao
                    cases hc : (FloatKind.f64.format.order (U q j) 0 == some .lt || FloatKind.f64.format.order (U q j) 0 == some .eq)
                    · clear ND
                      go_wp2_with fail
                      go_loopw [153] (fun i wx => ∃ t : Nat, t ≤ W l ∧ i = .int .i64 t ∧ Row wx bk (W q) zeros ∧ Hid (Below bk _ wx)) (fun i _ => W l - (intOf i).toNat)
                      case atStart => exact ⟨0, by omega, rfl, RK, BK⟩
                      case round =>
                        clear RK BK ga la1 Rq hc
                        obtain ⟨i, hi, rfl, RK, BK⟩ := hrel
                        by_cases hlt6 : i < W l
                        · have S2 := SB.out _ BK.out
                          obtain ⟨bd, ed, nbd, RD⟩ := S2.dz (by omega)
                          obtain ⟨bp, ep, _, RP⟩ := S2.env.rp (by omega)
                          have ppos : 0 < p := by rw [← HP.out]; exact Nat.mul_pos (by omega) (by omega)
                          have ew := L.wat bp ep ppos
                          obtain ⟨m1, hm1⟩ : ∃ m, i * W q = m := ⟨_, rfl⟩
                          obtain ⟨m3, hm3⟩ : ∃ m, m1 + j = m := ⟨_, rfl⟩
                          have m3p : m3 < p := by
                            have : m1 + W q ≤ p := by
                              rw [← hm1, ← HP.out, ← Nat.succ_mul]
                              exact Nat.mul_le_mul_right _ hlt6
                            omega
                          have i1 : (i : Int) * ((W q : Nat) : Int) = (m1 : Int) := by rw [← hm1]; simp
                          have i3 : (m1 : Int) + (j : Int) = (m3 : Int) := by rw [← hm3]; simp
                          have m1b : m1 ≤ 131072 := by omega
                          have m3b : m3 ≤ 131072 := by omega
                          have gp := RP.cell (off + m3) (by omega)
                          have gd := RD.cell i hlt6
                          have gk := RK.cell j hlt5
                          have gf := RK.free j
                          unfold fv at gp
                          unfold zeros at gd gk
                          obtain ⟨z, hz, hm⟩ := run_mul_r (Pm (off + m3)) (HPN.out _ (by have := TOT.out; omega))
                          have ha := run_add_z z hz
                          clear hm1 hm3 hz ep S2
                          subst ew
                          subst ed
                          go_wp2_with fail
                          go_region
                          all_goals go_wp2
                          go_roundw
                          case rel => exact ⟨i + 1, by omega, by go_num, (zeros_set RK).drewN 1, (BK.out.setCell (Nat.le_refl _) _).drew⟩
                          case measure => simp [intOf]; omega
                        · go_wp2
                          go_roundw
                          case rel => exact ⟨j + 1, by omega, by go_num, RK, BK⟩
                          case measure => simp [intOf]; omega
                    · go_wp2
                      go_roundw
                      case rel => exact ⟨j + 1, by omega, by go_num, RK, BK⟩
                      case measure => simp [intOf]; omega
                  · have S2 : Hid _ := (SB.out _ BK.out).delta (dso' := some ⟨bk, 0, none⟩) (m' := W q) (fun _ => ⟨bk, rfl, bkg, RK⟩)
                    go_wp2
                    go_roundw
                    case rel => exact ⟨q, some ⟨bk, 0, none⟩, _, by omega, by go_num, rfl, S2.out⟩
                    case measure => simp [intOf]; omega
        · have S' : Hid (BS w wr bw w.heap.size ba n np po W Pm U av bg go_ ng G0 dso (W l)) := S
          clear S
          go_wp2
          go_end0
          exact ⟨rfl, S'.out.gst, S'.out.kp⟩
end Go.Proofs.Qxb6603460a

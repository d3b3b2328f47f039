import Derived.Test.Qxb6603460aSmall
namespace Go.Proofs.Qxb6603460a
open Go.ChangeShapes Go.WideShapes Go.ChangeAt Go.RowKit
set_option linter.unusedVariables false

theorem run_store_float (P : Program) (w : World) (a : Addr) (m : Mode) (k : FloatKind) (b : Nat) : (store a (.float k b) m).run P w = stored P w a (.float k b) m := run_store P w a _ m rfl
attribute [local go_sem] run_store_float
theorem Try.info23 : (Try.prog.info? 23).map (fun i => (i.zero, i.size, i.bytes)) = some (some (.slice none 0 0), 1, 24) := by kernel_rfl

/-- the slice 'val' holds the values v of a level of m units, which are as o says; its block is not ba, and one of D -/
def Lvl (w : World) (ba : Nat) (D : Nat → Prop) (m : Nat) (o : Nat → Option Nat) (val : Value) (v : Nat → Nat) : Prop :=
  ∃ ao c, val = .slice ao m c ∧ (0 < m → ∃ b, ao = some ⟨b, 0, none⟩ ∧ (b ≠ ba ∧ D b) ∧ Row w b m (fv v)) ∧ ∀ i, i < m → Res (o i) (v i)
theorem Lvl.keep {w w' : World} {ba m : Nat} {D : Nat → Prop} {o : Nat → Option Nat} {val : Value} {v : Nat → Nat} (h : Lvl w ba D m o val v) (k : Keep (fun b => b = ba) w w') : Lvl w' ba D m o val v := by
  obtain ⟨ao, c, h1, h2, h3⟩ := h
  refine ⟨ao, c, h1, fun q => ?_, h3⟩
  obtain ⟨b, e, ne, r⟩ := h2 q
  exact ⟨b, e, ne, k.row r ne.1⟩
/-- the first k levels stand; the box of the network's widths too -/
structure LMem (w0 w : World) (D : Nat → Prop) (bw n k : Nat) (W : Nat → Nat) (O : Nat → Nat → Option Nat) (av : Nat → Value) (v : Nat → Nat → Nat) : Prop where
  row : Row w (w0.heap.size + 1) n av
  lv : ∀ l, l < k → Lvl w (w0.heap.size + 1) D (W l) (O l) (av l) (v l)
  box : w.cell? ⟨w0.heap.size, 0, none⟩ = some (.slice (some ⟨bw, 0, none⟩) n n)
  below : Below w0.heap.size w0 w
theorem made_set (z x : Value) (n i : Nat) (h : i < n) : ((madeCells #[z] n).setIfInBounds 0 x)[i]? = some (if i = 0 then x else z) := by
  rw [Array.getElem?_setIfInBounds]
  by_cases e : 0 = i
  · subst e
    simp [size_madeCells, h]
  · rw [if_neg e, if_neg (fun q => e q.symm)]
    exact made_get z n i h
theorem updv_same {α : Type} (f : Nat → α) (k : Nat) (x : α) : (fun l => if l = k then x else f l) k = x := by simp
theorem updv_ne {α : Type} (f : Nat → α) (k l : Nat) (x : α) (h : l ≠ k) : (fun l => if l = k then x else f l) l = f l := by simp [h]

/-- a slice of floats, if there is anything in it, lies at the head of a row -/
def Fl (w : World) (po : Option Addr) (n : Nat) (f : Nat → Nat) : Prop := 0 < n → ∃ b, po = some ⟨b, 0, none⟩ ∧ Row w b n (fv f)
theorem Fl.keep {w w' : World} {po : Option Addr} {n : Nat} {f : Nat → Nat} (h : Fl w po n f) (k : Below w.heap.size w w') : Fl w' po n f := by
  intro q
  obtain ⟨b, e, r⟩ := h q
  exact ⟨b, e, r.of_block (k.block _ r.lt)⟩

/-- the weights and the bias of a layer, as slices -/
structure LS (po : Option Addr) (np off p no : Nat) (wo bo : Option Addr) (c1 c2 : Nat) : Prop where
  wat : ∀ b, po = some ⟨b, 0, none⟩ → 0 < p → wo = some ⟨b, off, none⟩
  bat : ∀ b, po = some ⟨b, 0, none⟩ → 0 < no → bo = some ⟨b, off + p, none⟩
  wcap : p ≤ c1
  wc : c1 ≤ np
  bcap : no ≤ c2
  bc : c2 ≤ np
theorem layer_at (w : World) (bw n np l q p off : Nat) (po : Option Addr) (W : Nat → Nat) (hq : q + 1 = l) (hp : W l * W q = p) (ho : offN W l = off) (R : Row w bw n (wv W)) (hn : n ≤ 4096) (hln : l < n) (hW : ∀ i, i < n → W i ≤ 1048576) (hnp : np ≤ 131072) (hoff : offN W n ≤ np) :
    Calls Try.prog 26 #[.agg #[.slice (some ⟨bw, 0, none⟩) n n], .slice po np np, .int .i64 l] w fun e w' =>
      ∃ wo bo c1 c2, e = .returned (.tuple #[.slice wo p c1, .slice bo (W l) c2]) ∧ LS po np off p (W l) wo bo c1 c2 ∧ Below w.heap.size w w' ∧ w'.heap.size = w.heap.size + 1 := by
  refine (layer_any w bw n np l po W R hn (by omega) hln hW hnp hoff).mono ?_
  rintro e w1 ⟨wo, bo, c1, c2, rfl, L, B, z⟩
  have q1 : l - 1 = q := by omega
  obtain ⟨a1, a2, a3, a4, a5, a6⟩ := L
  rw [q1, hp] at a1 a2 a3
  rw [ho] at a1 a2
  refine ⟨wo, bo, c1, c2, by rw [q1, hp], ⟨a1, a2, a3, a4, a5, a6⟩, B, z⟩

/-- inside a level: the row that is being filled, and what is kept -/
structure L2 (w w1 w2 : World) (ba n k m : Nat) (av : Nat → Value) (g : Nat → Nat) : Prop where
  new : Row w2 w1.heap.size m (fv g)
  top : Row w2 ba n (fun l => if l = k then .slice (some ⟨w1.heap.size, 0, none⟩) m m else av l)
  kp : Keep (fun b => b = ba) w1 w2
  bl : Below w.heap.size w w2
theorem l2start {w w1 : World} {n k m : Nat} {av : Nat → Value} {g : Nat → Nat} (R : Row w1 (w.heap.size + 1) n av) (B : Below w.heap.size w w1) :
    L2 w w1 ((w1.setCell ⟨w.heap.size + 1, k, none⟩ (.slice (some ⟨w1.heap.size, 0, none⟩) m m)).alloc (.cells (madeCells #[.float .f64 0] m) 32)) (w.heap.size + 1) n k m av (fun _ => 0) := by
  have sz : (w1.setCell ⟨w.heap.size + 1, k, none⟩ (.slice (some ⟨w1.heap.size, 0, none⟩) m m)).heap.size = w1.heap.size := by simp [World.setCell]
  refine ⟨?_, (R.set k _).alloc _, (Keep.setCell (M := fun b => b = w.heap.size + 1) (p := ⟨w.heap.size + 1, k, none⟩) (Keep.refl _ w1) (fun _ => rfl) _).alloc _, (B.setCell (by simp) _).alloc (by rw [sz]; exact B.size) _⟩
  have := row_made (w1.setCell ⟨w.heap.size + 1, k, none⟩ (.slice (some ⟨w1.heap.size, 0, none⟩) m m)) (.float .f64 0) m 32
  rw [sz] at this
  exact this

theorem lmem_succ {w wr w1 w2 : World} {D : Nat → Prop} {bw n k : Nat} {W : Nat → Nat} {O : Nat → Nat → Option Nat} {av : Nat → Value} {v : Nat → Nat → Nat} {g : Nat → Nat} (hD : ∀ b, w.heap.size ≤ b → D b) (M : LMem w wr D bw n k W O av v) (B1 : Below wr.heap.size wr w1) (S : L2 w w1 w2 (w.heap.size + 1) n k (W k) av g) (hg : ∀ j, j < W k → Res (O k j) (g j)) :
    LMem w w2 D bw n (k + 1) W O (fun l => if l = k then .slice (some ⟨w1.heap.size, 0, none⟩) (W k) (W k) else av l) (fun l => if l = k then g else v l) := by
  have s1 := M.row.lt
  have s2 := B1.size
  refine ⟨S.top, ?_, ?_, S.bl⟩
  · intro l hl
    by_cases e : l = k
    · subst e
      simp only [if_true]
      exact ⟨_, _, rfl, fun _ => ⟨_, rfl, ⟨by omega, hD _ (by omega)⟩, S.new⟩, hg⟩
    · simp only [if_neg e]
      exact (M.lv l (by omega)).keep ((Keep.of_below B1).trans S.kp)
  · have a := (B1.cell (p := ⟨w.heap.size, 0, none⟩) (by simp; omega)).trans M.box
    rw [World.cell?_of_block (w := w1) (S.kp.block w.heap.size (by omega) (by omega))]
    exact a
def updn (g : Nat → Nat) (t x : Nat) : Nat → Nat := fun i => if i = t then x else g i
theorem res_upd {O : Nat → Option Nat} {g : Nat → Nat} {t x : Nat} (h : ∀ j, j < t → Res (O j) (g j)) (hx : Res (O t) x) : ∀ j, j < t + 1 → Res (O j) (updn g t x j) := by
  intro j hj
  unfold updn
  by_cases e : j = t
  · rw [if_pos e, e]; exact hx
  · rw [if_neg e]; exact h j (by omega)
theorem frow_upd {w : World} {b n t : Nat} {g : Nat → Nat} (h : Row w b n (fv g)) (x : Nat) : Row (w.setCell ⟨b, t, none⟩ (.float .f64 x)) b n (fv (updn g t x)) :=
  (h.set t _).congr fun i _ => by unfold fv updn; by_cases e : i = t <;> simp [e]
theorem l2_upd {w w1 w2 : World} {ba n k m : Nat} {av : Nat → Value} {g : Nat → Nat} (S : L2 w w1 w2 ba n k m av g) (t x d : Nat) (hb : w1.heap.size ≠ ba) (hw : w.heap.size ≤ w1.heap.size) :
    L2 w w1 ((w2.setCell ⟨w1.heap.size, t, none⟩ (.float .f64 x)).drewN d) ba n k m av (updn g t x) := by
  refine ⟨frow_upd S.new x, (S.top.other (fun e => hb e.symm) _).drewN d, (S.kp.setCell (fun q => absurd q (Nat.lt_irrefl _)) _).drewN d, below_drewN (S.bl.setCell hw _) d⟩
theorem slice_at (P : Program) (hP : P.underlying 23 = some (.slice (P.elem 23))) (hs : ∀ w, (sizeOf (P.elem 23)).run P w = .ok 1 w) (wo : Option Addr) (p c1 m1 m2 ni : Nat) (h1 : m1 + ni = m2) (h2 : m2 ≤ c1) :
    ∃ ro c3, (∀ w, (Instr.slice 23 (.slice wo p c1) (some (.int .i64 m1)) (some (.int .i64 m2)) none).run P w = .ok (.slice ro ni c3) w) ∧ ni ≤ c3 ∧ ∀ b off, wo = some ⟨b, off, none⟩ → 0 < ni → ro = some ⟨b, off + m1, none⟩ := by
  refine ⟨if c1 = m1 then wo else wo.map (·.add (m1 * 1)), c1 - m1, ?_, by omega, ?_⟩
  · intro w
    rw [run_slice_lh w 23 wo p c1 hP .i64 .i64 m1 m2 (by omega) (by omega) (by omega), hs w]
    simp only [Result.andThen_ok, sliced, Int.toNat_natCast]
    rw [show m2 - m1 = ni from by omega]
  · intro b off e hn
    subst e
    rw [if_neg (by omega)]
    show some ((⟨b, off, none⟩ : Addr).add (m1 * 1)) = _
    rw [add_plain, Nat.mul_one]
theorem Try.elem23 : Try.prog.elem 23 = 32 := by kernel_rfl
theorem Try.sz32 : ∀ w, (sizeOf (Try.prog.elem 23)).run Try.prog w = .ok 1 w := fun _ => by kernel_rfl
theorem Try.u23 : Try.prog.underlying 23 = some (.slice (Try.prog.elem 23)) := by rw [Try.elem23]; exact Try.underlying23
theorem lev_at {la k q off p m1 i : Nat} {W Pm X : Nat → Nat} (hq : q + 1 = k) (ho : offN W k = off) (hp : W k * W q = p) (hm : i * W q = m1) :
    lev la W Pm X k i = fin_ la k (sumTo (fun j => Pm (off + m1 + j)) (lev la W Pm X q) (Pm (off + p + i)) (W q)) := by
  subst hq
  rw [← ho, ← hp, ← hm]
  rfl

/-- the blocks that levels may lie in: new ones, and that of x -/
def Lies (w : World) (xo : Option Addr) (b : Nat) : Prop := w.heap.size ≤ b ∨ xo = some ⟨b, 0, none⟩
/-- what 'levels' leaves -/
def VOut (w : World) (xo : Option Addr) (n : Nat) (W : Nat → Nat) (O : Nat → Nat → Option Nat) (e : Ending) (w' : World) : Prop :=
  ∃ (ba : Nat) (av : Nat → Value) (v : Nat → Nat → Nat), e = .returned (.slice (some ⟨ba, 0, none⟩) n n) ∧ Row w' ba n av ∧ w.heap.size ≤ ba ∧ (∀ l, l < n → Lvl w' ba (Lies w xo) (W l) (O l) (av l) (v l)) ∧ Below w.heap.size w w'

set_option maxHeartbeats 8000000 in
set_option maxRecDepth 100000 in
theorem levels_any (w : World) (bw n np cx la : Nat) (po xo : Option Addr) (W Pm X : Nat → Nat) (R : Row w bw n (wv W)) (hla : la + 1 = n) (hn : n ≤ 4096) (hW : ∀ i, i < n → W i ≤ 1048576) (hnp : np ≤ 131072) (hoff : offN W n ≤ np)
    (FP : Fl w po np Pm) (FX : Fl w xo (W 0) X) :
    Calls Try.prog 24 #[.agg #[.slice (some ⟨bw, 0, none⟩) n n], .slice po np np, .slice xo (W 0) cx] w fun e w' => VOut w xo n W (lev la W Pm X) e w' := by
  have lb := R.lt
  have mk := run_make_row' (P := Try.prog) 29 23 (.slice none 0 0) 24 Try.underlying29 Try.info23 rfl .i64 .i64 n (by omega) (by omega)
  have m0 := made_get (.slice none 0 0) n 0 (by omega)
  have nl : (n : Int) - 1 = (la : Int) := by omega
  have lan : la ≤ 4096 := by omega
  have LA : Hid (la + 1 = n) := hla
  have HW : Hid (∀ i, i < n → W i ≤ 1048576) := hW
  have HO : Hid (offN W n ≤ np) := hoff
  have start : Hid (LMem w ((w.alloc (.cells #[.slice (some ⟨bw, 0, none⟩) n n] 42)).alloc (.cells ((madeCells #[.slice none 0 0] n).setIfInBounds 0 (.slice xo (W 0) cx)) 23)) (Lies w xo) bw n 1 W (lev la W Pm X) (fun i => if i = 0 then .slice xo (W 0) cx else .slice none 0 0) (fun _ => X)) := by
    have bl : Below w.heap.size w ((w.alloc (.cells #[.slice (some ⟨bw, 0, none⟩) n n] 42)).alloc (.cells ((madeCells #[.slice none 0 0] n).setIfInBounds 0 (.slice xo (W 0) cx)) 23)) := ((Below.refl _ _).alloc (Nat.le_refl _) _).alloc (by simp) _
    refine ⟨?_, ?_, by simp [go_sem], bl⟩
    · have := Row.new (w.alloc (.cells #[.slice (some ⟨bw, 0, none⟩) n n] 42)) ((madeCells #[.slice none 0 0] n).setIfInBounds 0 (.slice xo (W 0) cx)) 23 n (by simp [size_madeCells]) _ (made_set (.slice none 0 0) (.slice xo (W 0) cx) n)
      simpa using this
    · intro l hl
      obtain rfl : l = 0 := by omega
      refine ⟨xo, cx, by simp, fun q => ?_, fun i _ => rfl⟩
      obtain ⟨b, e, r⟩ := FX q
      exact ⟨b, e, ⟨by have := r.lt; omega, .inr e⟩, r.of_block (bl.block _ r.lt)⟩
  clear hla hW hoff
  go_enter Try.func24, Try.ntmps24
  go_wp2
  go_loopw [9] (fun i wr => ∃ k : Nat, 1 ≤ k ∧ k ≤ n ∧ i = .int .i64 k ∧ ∃ av v, LMem w wr (Lies w xo) bw n k W (lev la W Pm X) av v) (fun i _ => n - (intOf i).toNat)
  case atStart => exact ⟨1, by omega, by have := LA.out; omega, rfl, _, _, start.out⟩
  case round =>
    obtain ⟨k, hk1, hk, rfl, av, v, M⟩ := hrel
    have mb := M.box
    have B := M.below
    clear start mk m0
    by_cases hlt : k < n
    · have kla : k ≤ la := by have := LA.out; omega
      obtain ⟨q, hq⟩ : ∃ q, q + 1 = k := ⟨k - 1, by omega⟩
      have kq : (k : Int) - 1 = (q : Int) := by omega
      have qn : q < n := by omega
      have q1 : k - 1 = q := by omega
      have KQ : Hid (q + 1 = k) := hq
      have Q1 : Hid (k - 1 = q) := q1
      clear hq q1
      obtain ⟨p, hp⟩ : ∃ p, W k * W q = p := ⟨_, rfl⟩
      obtain ⟨off, hf⟩ : ∃ o, offN W k = o := ⟨_, rfl⟩
      have HP : Hid (W k * W q = p) := hp
      have HF : Hid (offN W k = off) := hf
      have tot : off + p + W k ≤ np := by
        have a := offN_mono W (k + 1) n (by omega) (by omega)
        have b := offN_succ W k hk1
        have c := HO.out
        rw [Q1.out, Nat.mul_add, hp, hf, Nat.mul_one] at b
        omega
      clear hp hf
      have mk2 := run_make_row' (P := Try.prog) 23 32 (.float .f64 0) 8 Try.underlying23 Try.info32 rfl .i64 .i64 (W k) (by have := HW.out k hlt; omega) (by have := HW.out k hlt; omega)
      have Rw : Row wr bw n (wv W) := R.of_block (B.block _ lb)
      have g1 := Rw.cell k hlt
      have g2 := Rw.cell q qn
      unfold wv iv at g1 g2
      have hWk := HW.out k hlt
      have hWq := HW.out q qn
      go_wp2_with fail
      refine (layer_at wr bw n np k q p off po W KQ.out HP.out HF.out Rw hn hlt HW.out hnp HO.out).mono ?_
      rintro e w1 ⟨wo, bo, c1, c2, rfl, L, B1, z1⟩
      have h1 := (B1.cell (p := ⟨bw, k, none⟩) Rw.lt).trans g1
      have h2 := (B1.cell (p := ⟨bw, q, none⟩) Rw.lt).trans g2
      have hb := (B1.cell (p := ⟨w.heap.size, 0, none⟩) (by have := M.row.lt; simp; omega)).trans mb
      have R1 := M.row.keep B1
      have h3 := R1.cell k hlt
      have h4 := R1.free k
      have Z1 : Hid (w1.heap.size = wr.heap.size + 1) := z1
      clear z1
      have r1lt := R1.lt
      have KA : Keep (fun b => b = w.heap.size + 1) wr w1 := Keep.of_below B1
      have BA : Below w.heap.size w w1 := B.trans (B1.mono B.size)
      have S2 := l2start (g := fun _ => 0) R1 BA (k := k) (m := W k)
      have S2' : Hid _ := S2
      clear S2
      go_wp2_with fail
      go_loopw [61] (fun i w2 => ∃ t : Nat, t ≤ W k ∧ i = .int .i64 t ∧ (∃ g : Nat → Nat, (∀ j, j < t → Res (lev la W Pm X k j) (g j)) ∧ L2 w w1 w2 (w.heap.size + 1) n k (W k) av g)) (fun i _ => W k - (intOf i).toNat)
      case atStart => exact ⟨0, by omega, rfl, _, (fun j hj => by omega), S2'.out⟩
      case round =>
        clear S2'
        obtain ⟨t, ht, rfl, g, hg, S⟩ := hrel
        have HG : Hid (∀ j, j < t → Res (lev la W Pm X k j) (g j)) := hg
        clear hg
        by_cases hlt2 : t < W k
        · obtain ⟨bp, ep, RP⟩ := FP (by omega)
          have eb := L.bat bp ep (by omega)
          have ew := L.wat bp ep
          obtain ⟨m1, hm1⟩ : ∃ m, t * W q = m := ⟨_, rfl⟩
          obtain ⟨m2, hm2⟩ : ∃ m, m1 + W q = m := ⟨_, rfl⟩
          have m2p : m2 ≤ p := by
            rw [← hm2, ← hm1, ← HP.out, ← Nat.succ_mul]
            exact Nat.mul_le_mul_right _ hlt2
          have e1 : (t : Int) * ((W q : Nat) : Int) = (m1 : Int) := by rw [← hm1]; simp
          have e2 : ((t : Int) + 1) * ((W q : Nat) : Int) = (m2 : Int) := by rw [← hm2, ← hm1]; simp [Int.add_mul]
          have wcap := L.wcap
          have wcc := L.wc
          have m2b : m2 ≤ 131072 := by omega
          have m1b : m1 ≤ 131072 := by omega
          obtain ⟨ro, c3, hsl, hc3, hro⟩ := slice_at Try.prog Try.u23 Try.sz32 wo p c1 m1 m2 (W q) hm2 (by omega)
          have RPk : Row wr bp np (fv Pm) := RP.of_block (S.bl.block _ RP.lt)
          have gb := RPk.cell (off + p + t) (by omega)
          unfold fv at gb
          have LV := lev_at (la := la) (Pm := Pm) (X := X) (i := t) KQ.out HF.out HP.out hm1
          have LV' : Hid _ := LV
          have RO : Hid _ := hro
          have EW : Hid (0 < p → wo = some ⟨bp, off, none⟩) := ew
          have HM2 : Hid (m1 + W q = m2) := hm2
          clear LV hro ew hm1 hm2 ep
          subst eb
          have tb := S.top.cell k hlt
          have tf := S.new.cell t hlt2
          have tg := S.new.free t
          have bc := L.bcap
          have qk : q ≠ k := by have := KQ.out; omega
          have tq := S.top.cell q qn
          rw [if_neg qk] at tq
          rw [if_pos rfl] at tb
          obtain ⟨ao, ca, eav, hao, hres⟩ := (M.lv q (by have := KQ.out; omega)).keep (KA.trans S.kp)
          rw [eav] at tq
          have HAO : Hid _ := hao
          have HRS : Hid (∀ i, i < W q → Res (lev la W Pm X q i) (v q i)) := hres
          clear eav hao hres
          have FM := fun d x y => run_fmul Try.prog 32 x y (wr.drewN d)
          have FA := fun d x y => run_fadd Try.prog 32 x y (wr.drewN d)
          have FX2 := fun d x => run_fmax Try.prog #[32, 32] 32 x (wr.drewN d)
          have HFM : Hid _ := FM
          have HFA : Hid _ := FA
          have HFX : Hid _ := FX2
          clear FM FA FX2
          go_wp2_with fail
          go_loopw [15, 79] (fun sv jv wx => ∃ (j s d : Nat), j ≤ W q ∧ jv = .int .i64 j ∧ sv = .float .f64 s ∧ Res (sumTo (fun j => Pm (off + m1 + j)) (lev la W Pm X q) (Pm (off + p + t)) j) s ∧ wx = wr.drewN d) (fun _ jv _ => W q - (intOf jv).toNat)
          case atStart => exact ⟨0, _, 0, by omega, rfl, rfl, rfl, rfl⟩
          case round =>
            obtain ⟨j, s, d, hj, rfl, rfl, hs, rfl⟩ := hrel
            have HS : Hid _ := hs
            clear hs
            by_cases hlt3 : j < W q
            · obtain ⟨bq, eao, _, Rq⟩ := HAO.out (by omega)
              have ppos : 0 < p := by rw [← HP.out]; exact Nat.mul_pos (by omega) (by omega)
              have er := RO.out bp off (EW.out ppos) (by omega)
              have ga := Rq.cell j hlt3
              have gp := RPk.cell (off + m1 + j) (by have := HM2.out; omega)
              unfold fv at ga gp
              obtain ⟨r1, k1, hr1, re1⟩ := HFM.out d (Pm (off + m1 + j)) (v q j)
              obtain ⟨r2, k2, hr2, re2⟩ := HFA.out (d + k1) s r1
              have RE : Hid (Res (sumTo (fun j => Pm (off + m1 + j)) (lev la W Pm X q) (Pm (off + p + t)) (j + 1)) r2) := Res.add HS.out (Res.mul (o1 := some (Pm (off + m1 + j))) rfl (HRS.out j hlt3) re1) re2
              clear re1 re2
              subst eao er
              go_wp2
              go_roundw
              case rel => exact ⟨j + 1, r2, _, by omega, by go_num, rfl, RE.out, rfl⟩
              case measure => simp [intOf]; omega
            · have HS2 : Hid (Res (sumTo (fun j => Pm (off + m1 + j)) (lev la W Pm X q) (Pm (off + p + t)) (W q)) s) := by
                have : j = W q := by omega
                subst this
                exact HS.out
              by_cases kl : k < la
              · obtain ⟨r3, k3, hr3, re3⟩ := HFX.out d s
                have RE : Hid (Res (lev la W Pm X k t) r3) := by
                  rw [LV'.out]
                  unfold fin_
                  rw [if_pos kl]
                  exact Res.max HS2.out re3
                clear re3
                go_wp2
                go_roundw
                case rel => exact ⟨t + 1, by omega, by go_num, _, res_upd HG.out RE.out, l2_upd S t r3 _ (by omega) BA.size⟩
                case measure => simp [intOf]; omega
              · have RE : Hid (Res (lev la W Pm X k t) s) := by
                  rw [LV'.out]
                  unfold fin_
                  rw [if_neg kl]
                  exact HS2.out
                go_wp2
                go_roundw
                case rel => exact ⟨t + 1, by omega, by go_num, _, res_upd HG.out RE.out, l2_upd S t s _ (by omega) BA.size⟩
                case measure => simp [intOf]; omega
        · have N := lmem_succ (fun b hb => .inl hb) M B1 S (fun j hj => HG.out j (by omega))
          have N' : Hid _ := N
          clear N
          go_wp2
          go_roundw
          case rel => exact ⟨k + 1, by omega, by omega, by go_num, _, _, N'.out⟩
          case measure => simp [intOf]; omega
    · go_wp2
      go_ret
      have e : k = n := by omega
      rw [e] at M
      exact ⟨_, av, v, rfl, M.row, by omega, M.lv, B⟩
end Go.Proofs.Qxb6603460a

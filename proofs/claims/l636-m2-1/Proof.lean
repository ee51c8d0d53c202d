import JvmDerived
import JvmDerived.Pilot.@@N@@Statement
import JvmDerived.Pilot.@@N@@Code
set_option linter.unusedVariables false
set_option linter.unusedSimpArgs false
namespace Jvm.FP.Core
theorem own_w {a : Int32} (h : 0 ≤ a.toInt) : ∃ c q, val64 (i2d a) = .fin false c q ∧ c * 2 ^ q.toNat = a.toInt.toNat * 2 ^ (-q).toNat := by
  have w := i2d_int a
  unfold DInt at w
  cases hv : val64 (i2d a) with
  | nan => rw [hv] at w; exact w.elim
  | inf s => rw [hv] at w; exact w.elim
  | fin s c q =>
    rw [hv] at w
    by_cases h0 : a.toInt = 0
    · have e : a = 0 := Int32.toInt_inj.mp (by rw [h0]; rfl)
      subst e
      have e2 : val64 (i2d 0) = .fin false 0 b64.qmin := by decide +kernel
      rw [e2] at hv
      cases hv
      exact ⟨_, _, rfl, by simp⟩
    · have hs := whole_sign w h0
      have hs' : s = false := by rw [hs]; exact decide_eq_false (by omega)
      subst hs'
      refine ⟨c, q, rfl, ?_⟩
      have w' : ((c * 2 ^ q.toNat : Nat) : Int) = a.toInt * ((2 ^ (-q).toNat : Nat) : Int) := w
      have e3 : a.toInt = (a.toInt.toNat : Int) := by omega
      rw [e3] at w'
      have w2 : ((c * 2 ^ q.toNat : Nat) : Int) = ((a.toInt.toNat * 2 ^ (-q).toNat : Nat) : Int) := by rw [w', Int.natCast_mul]
      exact Int.ofNat.inj w2
def own_R (a b : Nat) : Datum := roundRatio b64 false a b 0
theorem own_cong {c d a b : Nat} {q r : Int} (h1 : c * 2 ^ q.toNat = a * 2 ^ (-q).toNat) (h2 : d * 2 ^ r.toNat = b * 2 ^ (-r).toNat) : c * b * 2 ^ ((q - r) - 0).toNat = a * d * 2 ^ (0 - (q - r)).toNat := by
  have h3 : c * b * 2 ^ (q.toNat + (-r).toNat) = a * d * 2 ^ ((-q).toNat + r.toNat) := by
    rw [Nat.pow_add, Nat.pow_add]
    calc c * b * (2 ^ q.toNat * 2 ^ (-r).toNat) = (c * 2 ^ q.toNat) * (b * 2 ^ (-r).toNat) := by ac_rfl
      _ = (a * 2 ^ (-q).toNat) * (d * 2 ^ r.toNat) := by rw [h1, h2]
      _ = a * d * (2 ^ (-q).toNat * 2 ^ r.toNat) := by ac_rfl
  obtain ⟨t, e1, e2⟩ : ∃ t, q.toNat + (-r).toNat = ((q - r) - 0).toNat + t ∧ (-q).toNat + r.toNat = (0 - (q - r)).toNat + t := ⟨q.toNat + (-r).toNat - ((q - r) - 0).toNat, by omega, by omega⟩
  rw [e1, e2, Nat.pow_add, Nat.pow_add, ← Nat.mul_assoc, ← Nat.mul_assoc] at h3
  exact Nat.eq_of_mul_eq_mul_right (Nat.two_pow_pos t) h3
theorem own_div {a b : Int32} (ha : 0 ≤ a.toInt) (hb : 0 < b.toInt) : val64 (ddiv (i2d a) (i2d b)) = own_R a.toInt.toNat b.toInt.toNat := by
  obtain ⟨c, q, e1, w1⟩ := own_w ha
  obtain ⟨d, r, e2, w2⟩ := own_w (a := b) (by omega)
  have hd : d ≠ 0 := fun z => by
    subst z
    rw [Nat.zero_mul] at w2
    have := Nat.two_pow_pos (-r).toNat
    rcases Nat.mul_eq_zero.mp w2.symm with z | z <;> omega
  rw [val64_ddiv, e1, e2]
  show (if d = 0 then _ else roundRatio b64 (false != false) c d (q - r)) = _
  rw [if_neg hd]
  exact roundRatio_congr (Nat.pos_of_ne_zero hd) (by omega) (own_cong w1 w2)
theorem own_k : (0 - b64.qmin).toNat = 1074 := by decide +kernel
theorem own_k0 : (b64.qmin - b64.qmin).toNat = 0 := by decide +kernel
def own_Z (a b : Nat) : Nat := zmag b64 (own_R a b)
theorem own_one : zmag b64 (.fin false (2 ^ 52) (-52)) = 2 ^ 1074 := by decide +kernel
theorem own_le1 {a b : Nat} (hb : 0 < b) (h : a ≤ b) : own_Z a b ≤ 2 ^ 1074 := by
  unfold own_Z own_R
  rw [← own_one]
  refine zmag_roundRatio_le good_b64 hb (e0 := b64.qmin) (by unfold fits; decide +kernel) Datum.noConfusion (Int.le_refl _) (by decide +kernel) ?_
  rw [own_one, own_k0]
  unfold inUnits
  rw [own_k, Nat.pow_zero, Nat.mul_one, Nat.mul_comm]
  exact Nat.mul_le_mul_left _ h
theorem own_isfin {a b : Nat} (hb : 0 < b) (h : a ≤ b) : ∃ c q, own_R a b = .fin false c q := by
  rcases roundRatio_cases b64 false a b 0 with z | z
  · exact z
  · have := own_le1 hb h
    unfold own_Z own_R at this
    rw [z] at this
    exact absurd this (by decide +kernel)
/-- no number of the format is nearer -/
theorem own_near {a b : Nat} (hb : 0 < b) (h : a ≤ b) {c' : Nat} {q' : Int} (hc : c' < 2 ^ 53) (hq : b64.qmin ≤ q') :
    (((a * 2 ^ 1074 : Nat) : Int) - (own_Z a b : Int) * (b : Int)).natAbs ≤ (((a * 2 ^ 1074 : Nat) : Int) - ((inUnits c' q' b64.qmin : Nat) : Int) * (b : Int)).natAbs := by
  obtain ⟨c, q, e⟩ := own_isfin hb h
  have n := roundRatio_nearest good_b64 (e0 := b64.qmin) hb e (c' := c') (q' := q') hc hq (Int.le_refl _) (by decide +kernel)
  unfold distance at n
  have e1 : inUnits a 0 b64.qmin = a * 2 ^ 1074 := by unfold inUnits; rw [own_k]
  rw [e1] at n
  have e2 : own_Z a b = inUnits c q b64.qmin := by unfold own_Z; rw [e]; rfl
  rw [e2]
  exact n
theorem own_rep {a b : Nat} (hb : 0 < b) (h : a ≤ b) : ∃ c q, own_Z a b = inUnits c q b64.qmin ∧ c < 2 ^ 53 ∧ b64.qmin ≤ q := by
  obtain ⟨c, q, e⟩ := own_isfin hb h
  have f := roundRatio_fits good_b64 false a hb 0
  have f' : fits b64 (own_R a b) := f
  rw [e] at f'
  exact ⟨c, q, by unfold own_Z; rw [e]; rfl, f'.1, f'.2.1⟩
theorem own_g : ((-52 : Int) - b64.qmin).toNat = 1022 := by decide +kernel
theorem own_err {a b : Nat} (hb : 0 < b) (h : a ≤ b) : (((a * 2 ^ 1074 : Nat) : Int) - (own_Z a b : Int) * (b : Int)).natAbs < 2 ^ 1022 * b := by
  have hk : a * 2 ^ 52 / b < 2 ^ 53 := by
    apply (Nat.div_lt_iff_lt_mul hb).mpr
    have : a * 2 ^ 52 ≤ b * 2 ^ 52 := Nat.mul_le_mul_right _ h
    omega
  have n := own_near hb h (c' := a * 2 ^ 52 / b) (q' := -52) hk (by decide +kernel)
  refine Nat.lt_of_le_of_lt n ?_
  unfold inUnits
  rw [own_g]
  have m := Nat.div_add_mod (a * 2 ^ 52) b
  have ml := Nat.mod_lt (a * 2 ^ 52) hb
  generalize a * 2 ^ 52 / b = k at *
  generalize a * 2 ^ 52 % b = x at *
  have e : a * 2 ^ 1074 = (a * 2 ^ 52) * 2 ^ 1022 := by rw [Nat.mul_assoc, ← Nat.pow_add]
  rw [e, ← m]
  have hG := Nat.two_pow_pos 1022
  generalize (2 ^ 1022 : Nat) = G at *
  have e2 : (((b * k + x) * G : Nat) : Int) - ((k * G : Nat) : Int) * (b : Int) = ((x * G : Nat) : Int) := by
    rw [Nat.add_mul]
    simp only [Int.natCast_add, Int.natCast_mul]
    have : (b : Int) * k * G = k * G * b := by ac_rfl
    omega
  rw [e2, Int.natAbs_natCast]
  rw [Nat.mul_comm]
  exact Nat.mul_lt_mul_of_pos_left ml hG
theorem own_PG : (2 ^ 1074 : Nat) = 2 ^ 52 * 2 ^ 1022 := by rw [← Nat.pow_add]
theorem own_strict {a c b : Nat} (h : a < c) (hc : c ≤ b) (hb : b < 2 ^ 31) : own_Z a b < own_Z c b := by
  have b0 : 0 < b := by omega
  have e1 := own_err b0 (show a ≤ b by omega)
  have e2 := own_err b0 hc
  refine Nat.lt_of_not_le fun q => ?_
  rw [own_PG] at e1 e2
  have hG := Nat.two_pow_pos 1022
  generalize (2 ^ 1022 : Nat) = G at *
  have q2 : own_Z c b * b ≤ own_Z a b * b := Nat.mul_le_mul_right _ q
  have hA : ((own_Z a b : Nat) : Int) * (b : Int) = ((own_Z a b * b : Nat) : Int) := by rw [Int.natCast_mul]
  have hC : ((own_Z c b : Nat) : Int) * (b : Int) = ((own_Z c b * b : Nat) : Int) := by rw [Int.natCast_mul]
  rw [hA] at e1
  rw [hC] at e2
  have m1 : (a + 1) * (2 ^ 52 * G) ≤ c * (2 ^ 52 * G) := Nat.mul_le_mul_right _ h
  rw [Nat.add_mul, Nat.one_mul] at m1
  have m2 : G * b < G * 2 ^ 31 := Nat.mul_lt_mul_of_pos_left hb hG
  generalize own_Z c b * b = C at *
  generalize own_Z a b * b = A' at *
  generalize a * (2 ^ 52 * G) = x at *
  generalize c * (2 ^ 52 * G) = y at *
  generalize G * b = g at *
  have p1 : (2 : Nat) ^ 52 = 4503599627370496 := by decide
  have p2 : (2 : Nat) ^ 31 = 2147483648 := by decide
  rw [p1] at m1
  rw [p2] at m2
  omega
theorem own_eq1 {b : Nat} (hb : 0 < b) : own_Z b b = 2 ^ 1074 := by
  unfold own_Z own_R
  rw [roundRatio_exact good_b64 hb (c := 2 ^ 52) (q := -52) (by unfold fits; decide +kernel) (by simp [Nat.mul_comm]), own_one]
theorem own_eq0 {b : Nat} (hb : 0 < b) : own_Z 0 b = 0 := by
  unfold own_Z own_R
  rw [roundRatio_exact good_b64 hb (c := 0) (q := b64.qmin) (by unfold fits; decide +kernel) (by simp)]
  decide +kernel
theorem own_mono {a b c d : Nat} (hb : 0 < b) (hd : 0 < d) (h1 : a ≤ b) (h2 : c ≤ d) (h : a * d < c * b) : own_Z a b ≤ own_Z c d := by
  refine Nat.le_of_not_lt fun q => ?_
  obtain ⟨c1, q1, r1, r2, r3⟩ := own_rep hb h1
  obtain ⟨c2, q2, r4, r5, r6⟩ := own_rep hd h2
  have n1 := own_near hb h1 r5 r6
  have n2 := own_near hd h2 r2 r3
  rw [← r4] at n1
  rw [← r1] at n2
  have hP := Nat.two_pow_pos 1074
  generalize (2 ^ 1074 : Nat) = P at *
  generalize own_Z a b = u at *
  generalize own_Z c d = v at *
  -- u > v: 2 a P ≥ (u + v) b and 2 c P ≤ (u + v) d
  have k1 : (u + v) * b ≤ 2 * (a * P) := by
    have q' : v * b < u * b := Nat.mul_lt_mul_of_pos_right q hb
    have x1 : ((u : Nat) : Int) * (b : Int) = ((u * b : Nat) : Int) := by rw [Int.natCast_mul]
    have x2 : ((v : Nat) : Int) * (b : Int) = ((v * b : Nat) : Int) := by rw [Int.natCast_mul]
    rw [x1, x2] at n1
    rw [Nat.add_mul]
    generalize u * b = U at *
    generalize v * b = V at *
    generalize a * P = x at *
    omega
  have k2 : 2 * (c * P) ≤ (u + v) * d := by
    have q' : v * d < u * d := Nat.mul_lt_mul_of_pos_right q hd
    have x1 : ((u : Nat) : Int) * (d : Int) = ((u * d : Nat) : Int) := by rw [Int.natCast_mul]
    have x2 : ((v : Nat) : Int) * (d : Int) = ((v * d : Nat) : Int) := by rw [Int.natCast_mul]
    rw [x1, x2] at n2
    rw [Nat.add_mul]
    generalize u * d = U at *
    generalize v * d = V at *
    generalize c * P = x at *
    omega
  have k3 : (2 * (c * P)) * b ≤ (2 * (a * P)) * d := by
    calc (2 * (c * P)) * b ≤ ((u + v) * d) * b := Nat.mul_le_mul_right _ k2
      _ = ((u + v) * b) * d := by ac_rfl
      _ ≤ (2 * (a * P)) * d := Nat.mul_le_mul_right _ k1
  have k4 : (2 * P) * (c * b) ≤ (2 * P) * (a * d) := by
    calc (2 * P) * (c * b) = (2 * (c * P)) * b := by ac_rfl
      _ ≤ (2 * (a * P)) * d := k3
      _ = (2 * P) * (a * d) := by ac_rfl
  have := Nat.le_of_mul_le_mul_left k4 (by omega)
  omega
theorem own_same {a b c d : Nat} (hb : 0 < b) (hd : 0 < d) (h : a * d = c * b) : own_R a b = own_R c d := roundRatio_congr hb hd (by simpa using h)
/-- the precision as the code has it -/
def own_pr (b a : Int32) : UInt64 := if b = (0 : Int32) then FP.dconst0 else FP.ddiv (FP.i2d a) (FP.i2d b)
def own_ok (b a : Int32) : Prop := 0 ≤ a.toInt ∧ a.toInt ≤ b.toInt
def own_zp (b a : Int32) : Nat := if b = (0 : Int32) then 0 else own_Z a.toInt.toNat b.toInt.toNat
theorem own_b0 {b a : Int32} (h : own_ok b a) (hb : ¬ b = (0 : Int32)) : 0 < b.toInt := by
  have h1 := h.1
  have h2 := h.2
  have h3 : b.toInt ≠ 0 := fun z => hb (Int32.toInt_inj.mp (by rw [z]; rfl))
  omega
theorem own_val {b a : Int32} (h : own_ok b a) : ∃ d, val64 (own_pr b a) = d ∧ fits b64 d ∧ d ≠ .nan ∧ zval b64 d = (own_zp b a : Int) := by
  unfold own_pr own_zp
  by_cases hb : b = (0 : Int32)
  · rw [if_pos hb, if_pos hb]
    exact ⟨_, rfl, val64_fits _, by decide +kernel, by decide +kernel⟩
  · rw [if_neg hb, if_neg hb]
    have hp := own_b0 h hb
    refine ⟨_, rfl, val64_fits _, ?_, ?_⟩
    · show val64 (ddiv (i2d a) (i2d b)) ≠ .nan
      rw [own_div h.1 hp]; exact roundRatio_ne_nan _ _ _ _ _
    · show zval b64 (val64 (ddiv (i2d a) (i2d b))) = _
      rw [own_div h.1 hp]
      unfold zval own_Z own_R
      rw [sgn_roundRatio]
      rfl
theorem own_cmpZ {x y : UInt64} {zx zy : Int} (hx : ∃ d, val64 x = d ∧ fits b64 d ∧ d ≠ .nan ∧ zval b64 d = zx) (hy : ∃ d, val64 y = d ∧ fits b64 d ∧ d ≠ .nan ∧ zval b64 d = zy) : FP.dcmp x y = some (compare zx zy) := by
  obtain ⟨d, e1, f1, n1, rfl⟩ := hx
  obtain ⟨d', e2, f2, n2, rfl⟩ := hy
  subst e1
  subst e2
  exact order_zval good_b64 f1 f2 n1 n2
theorem own_v0 : ∃ d, val64 FP.dconst0 = d ∧ fits b64 d ∧ d ≠ .nan ∧ zval b64 d = 0 := ⟨_, rfl, val64_fits _, by decide +kernel, by decide +kernel⟩
theorem own_v1 : ∃ d, val64 FP.dconst1 = d ∧ fits b64 d ∧ d ≠ .nan ∧ zval b64 d = ((2 ^ 1074 : Nat) : Int) := ⟨_, rfl, val64_fits _, by decide +kernel, by decide +kernel⟩
theorem own_zle {b a : Int32} (h : own_ok b a) : own_zp b a ≤ 2 ^ 1074 := by
  unfold own_zp
  split
  · exact Nat.zero_le _
  · rename_i hb
    have hp := own_b0 h hb
    have h1 := h.1
    have h2 := h.2
    exact own_le1 (by omega) (by omega)
theorem own_z1 {b a : Int32} (h : own_ok b a) (hb : ¬ b = (0 : Int32)) : own_zp b a = 2 ^ 1074 ↔ a = b := by
  unfold own_zp
  rw [if_neg hb]
  have hp := own_b0 h hb
  have h1 := h.1
  have h2 := h.2
  have h3 := b.toInt_lt
  constructor
  · intro e
    refine Classical.byContradiction fun q => ?_
    have : a.toInt ≠ b.toInt := fun z => q (Int32.toInt_inj.mp z)
    have s := own_strict (a := a.toInt.toNat) (c := b.toInt.toNat) (b := b.toInt.toNat) (by omega) (Nat.le_refl _) (by omega)
    rw [own_eq1 (by omega), e] at s
    exact Nat.lt_irrefl _ s
  · rintro rfl
    exact own_eq1 (by omega)
theorem own_z0 {b a : Int32} (h : own_ok b a) (hb : ¬ b = (0 : Int32)) : own_zp b a = 0 ↔ a = (0 : Int32) := by
  unfold own_zp
  rw [if_neg hb]
  have hp := own_b0 h hb
  have h1 := h.1
  have h2 := h.2
  have h3 := b.toInt_lt
  constructor
  · intro e
    refine Classical.byContradiction fun q => ?_
    have : a.toInt ≠ 0 := fun z => q (Int32.toInt_inj.mp (by rw [z]; rfl))
    have s := own_strict (a := 0) (c := a.toInt.toNat) (b := b.toInt.toNat) (by omega) (by omega) (by omega)
    rw [e] at s
    exact Nat.not_lt_zero _ s
  · rintro rfl
    have e : (0 : Int32).toInt.toNat = 0 := by decide
    rw [e]
    exact own_eq0 (by omega)
theorem own_zs {b a c : Int32} (h : own_ok b a) (h' : own_ok b c) (hb : ¬ b = (0 : Int32)) (hl : a < c) : own_zp b a < own_zp b c := by
  unfold own_zp
  rw [if_neg hb, if_neg hb]
  rw [Int32.lt_iff_toInt_lt] at hl
  have hp := own_b0 h hb
  have h1 := h.1
  have h2 := h'.2
  have h3 := b.toInt_lt
  exact own_strict (by omega) (by omega) (by omega)
theorem own_cross {b a d c : Int32} (h : own_ok b a) (h' : own_ok d c) (hb : ¬ b = (0 : Int32)) (hd : ¬ d = (0 : Int32)) : (a.toInt * d.toInt < c.toInt * b.toInt → own_zp b a ≤ own_zp d c) ∧ (a.toInt * d.toInt = c.toInt * b.toInt → own_zp b a = own_zp d c) := by
  unfold own_zp
  rw [if_neg hb, if_neg hd]
  have hp := own_b0 h hb
  have hq := own_b0 h' hd
  have h1 := h.1
  have h2 := h.2
  have h3 := h'.1
  have h4 := h'.2
  have ea : a.toInt = (a.toInt.toNat : Int) := by omega
  have eb : b.toInt = (b.toInt.toNat : Int) := by omega
  have ec : c.toInt = (c.toInt.toNat : Int) := by omega
  have ed : d.toInt = (d.toInt.toNat : Int) := by omega
  constructor
  · intro z
    rw [ea, eb, ec, ed, ← Int.natCast_mul, ← Int.natCast_mul] at z
    exact own_mono (by omega) (by omega) (by omega) (by omega) (Int.ofNat_lt.mp z)
  · intro z
    rw [ea, eb, ec, ed, ← Int.natCast_mul, ← Int.natCast_mul] at z
    unfold own_Z
    rw [own_same (by omega) (by omega) (Int.ofNat.inj z)]
theorem own_norm {a : Int32} (ha : 0 < a.toInt) {c : Nat} {q : Int} (hv : val64 (i2d a) = .fin false c q) (w : c * 2 ^ q.toNat = a.toInt.toNat * 2 ^ (-q).toNat) : c < 2 ^ 53 ∧ b64.tails ≤ c ∧ -52 ≤ q ∧ q ≤ b64.qmax := by
  have f := val64_fits (i2d a)
  rw [hv] at f
  obtain ⟨f1, f2, f3, f4⟩ := f
  have f1' : c < 2 ^ 53 := f1
  have hq : -52 ≤ q := by
    refine Int.not_lt.mp fun z => ?_
    have e1 : q.toNat = 0 := by omega
    rw [e1, Nat.pow_zero, Nat.mul_one] at w
    have e2 : 2 ^ 53 ≤ 2 ^ (-q).toNat := Nat.pow_le_pow_right (by decide) (by omega)
    have e3 : 1 * 2 ^ (-q).toNat ≤ a.toInt.toNat * 2 ^ (-q).toNat := Nat.mul_le_mul_right _ (by omega)
    omega
  refine ⟨f1', ?_, hq, f3⟩
  rcases f4 with z | z
  · have : b64.qmin = -1074 := by decide +kernel
    omega
  · exact z
theorem own_pow2 {a : Int32} (ha : 0 < a.toInt) {e : Nat} (he : e ≤ 30) {c : Nat} {q : Int} (hv : val64 (i2d a) = .fin false c q) (w : c * 2 ^ q.toNat = a.toInt.toNat * 2 ^ (-q).toNat) : own_R a.toInt.toNat (2 ^ e) = .fin false c (q - e) := by
  obtain ⟨f1, f2, f3, f4⟩ := own_norm ha hv w
  have e1 : b64.qmin = -1074 := by decide +kernel
  unfold own_R
  refine roundRatio_exact good_b64 (Nat.two_pow_pos e) ⟨f1, by omega, by omega, Or.inr f2⟩ ?_
  have k := own_cong (c := c) (d := 1) (a := a.toInt.toNat) (b := 2 ^ e) (q := q) (r := (e : Int)) w (by simp)
  rw [Nat.mul_one] at k
  have x1 : (0 - (q - (e : Int))).toNat = (0 - (q - (e : Int))).toNat := rfl
  rw [show (q - (e : Int) - 0) = ((q - (e : Int)) - 0) from rfl] at k
  exact k.symm
theorem own_back {a b : Int32} {e : Nat} (he : e ≤ 30) (h : own_ok b a) (hb : b.toInt = ((2 ^ e : Nat) : Int)) : DInt a.toInt (dmul (own_pr b a) (i2d b)) := by
  have p0 := Nat.two_pow_pos e
  have hb0 : ¬ b = (0 : Int32) := fun z => by
    subst z
    have : (0 : Int32).toInt = 0 := by decide
    omega
  have hbn : b.toInt.toNat = 2 ^ e := by omega
  have h1 := h.1
  have h2 := h.2
  have h3 := a.toInt_lt
  unfold DInt
  rw [val64_dmul]
  refine whole_round good_b64 wide_b64 (show _ ≤ 2 ^ 53 by omega) ?_
  have ev : val64 (own_pr b a) = own_R a.toInt.toNat (2 ^ e) := by
    unfold own_pr
    rw [if_neg hb0]
    show val64 (ddiv (i2d a) (i2d b)) = _
    rw [own_div h1 (by omega), hbn]
  obtain ⟨d, r, v2, w2⟩ := own_w (a := b) (by omega)
  rw [hbn] at w2
  rw [ev, v2]
  by_cases hz : a.toInt = 0
  · rw [hz, show (0 : Int).toNat = 0 from rfl]
    unfold own_R
    rw [roundRatio_exact good_b64 p0 (c := 0) (q := b64.qmin) (by unfold fits; decide +kernel) (by simp)]
    show signed (false != false) (0 * d * 2 ^ _) = 0 * _
    simp [signed]
  · have ha : 0 < a.toInt := by omega
    obtain ⟨c, q, v1, w1⟩ := own_w h1
    rw [own_pow2 ha he v1 w1]
    show signed (false != false) ((c * d) * 2 ^ (q - e + r).toNat) = a.toInt * ((2 ^ (-(q - e + r)).toNat : Nat) : Int)
    have k : (c * d) * 2 ^ (q - e + r).toNat = a.toInt.toNat * 2 ^ (-(q - (e : Int) + r)).toNat := by
      have h4 : (c * d) * 2 ^ (q.toNat + r.toNat) = a.toInt.toNat * 2 ^ ((-q).toNat + e + (-r).toNat) := by
        rw [Nat.pow_add, Nat.pow_add, Nat.pow_add]
        calc (c * d) * (2 ^ q.toNat * 2 ^ r.toNat) = (c * 2 ^ q.toNat) * (d * 2 ^ r.toNat) := by ac_rfl
          _ = (a.toInt.toNat * 2 ^ (-q).toNat) * (2 ^ e * 2 ^ (-r).toNat) := by rw [w1, w2]
          _ = a.toInt.toNat * (2 ^ (-q).toNat * 2 ^ e * 2 ^ (-r).toNat) := by ac_rfl
      obtain ⟨t, e1, e2⟩ : ∃ t, q.toNat + r.toNat = (q - (e : Int) + r).toNat + t ∧ (-q).toNat + e + (-r).toNat = (-(q - (e : Int) + r)).toNat + t := ⟨q.toNat + r.toNat - (q - (e : Int) + r).toNat, by omega, by omega⟩
      rw [e1, e2, Nat.pow_add, Nat.pow_add, ← Nat.mul_assoc, ← Nat.mul_assoc] at h4
      exact Nat.eq_of_mul_eq_mul_right (Nat.two_pow_pos t) h4
    show (((c * d) * 2 ^ (q - e + r).toNat : Nat) : Int) = _
    rw [k, Int.natCast_mul]
    rw [show ((a.toInt.toNat : Nat) : Int) = a.toInt by omega]
end Jvm.FP.Core
namespace Jvm.RoadKit
open Sem ClassFile Op Lib Jvm.Stand Jvm.Free Jvm.LawKit
section New
variable {p : Program} {l : Launch} {e : Env} {R : Room} {s : State} {m : MethodId} {args : Array Value} {below : List Frame} {meth : Method} {c : Code} {T : State} {locs : List Loc} {cells slots : Nat}
theorem retI (X : Stand p l e R s m args below meth c T locs cells slots) (hx : p.tables.exec = Jvm.exec) {pc : Nat} {Ls : Array Slot} {z : Int32} {rest : List Value} (hret : meth.sig.returnType = some .int) (hd : decode c.code pc = .ok (.ireturn, 1)) {fs : List Frame}
    (hl : ∀ (f : JFrame) (acts : List Action), f.method = m → f.locked = none → f.entered = [] → (doReturn e (T.setTop f) acts (some (.int z))).1 = T.setFrames fs) : Steps p.tables e below (T.setTop (mkF m pc Ls (.int z :: rest))) (T.setFrames fs) := by
  have hm' : T.vm.method? m = some meth := X.method'
  have hn : narrow .int (.int z) = .int z := rfl
  show Steps p.tables e below (T.setTop { method := m, pc := pc, locals := Ls, stack := _ :: rest, locked := none }) _
  jvm_step X.here [X.here.top, hx, hd, hm', hret, hn]
  first | (intro acts; rw [hl _ acts rfl rfl rfl]) | rw [hl _ _ rfl rfl rfl]
  exact Steps.refl _
end New
end Jvm.RoadKit
namespace Jvm.Pilot.@@N@@
open Jvm Jvm.ClassFile Sem Op Lib Jvm.Free Jvm.Stand Jvm.LawKit Jvm.RoadKit Bundle Jvm.Pilot.@@N@@.Jvm.D
theorem own_staK {Z : State} {h h' : Heap} {C n d : String} {v : Value} {ws : List Addr} (F : Sta Z h C n d v) (K : Keep h h' ws) (q : ∀ x ∈ ws, ∃ C', Exa Z h x C') : Sta Z h' C n d v := by
  obtain ⟨cf, i, k, f, st, cell, h1, h2, h3, h4, h5, h6, r⟩ := F
  refine ⟨cf, i, k, f, st, cell, h1, h2, h3, h4, K.2.1 _ _ h5 (fun hm => ?_), h6, r⟩
  obtain ⟨C', cell', k', e1, -, -, e4, -⟩ := q _ hm
  cases h5.symm.trans e1
  rw [h6] at e4; cases e4
theorem own_eqI {args : Array Value} {first s : State} {o : Option Outcome} {idx : List Nat} {a : Term} {n : Int32} (h : (Jvm.Cond.eq a (Term.int n)).value args first o s idx = some true) : a.eval args first o idx s = some (.int n) := by
  obtain ⟨x, y, h1, h2, -, -⟩ := cmp_v (Or.inl h)
  cases h2.symm.trans (Term.int_eval n)
  cases x <;> simp [Cond.value, h1, h2] at h
  rw [h1, h]
theorem own_eqR {args : Array Value} {first s : State} {o : Option Outcome} {idx : List Nat} {a b : Term} {x : Addr} (h : (Jvm.Cond.eq a b).value args first o s idx = some true) (hb : b.eval args first o idx s = some (.ref x)) : a.eval args first o idx s = some (.ref x) := by
  obtain ⟨u, y, h1, h2, -, -⟩ := cmp_v (Or.inl h)
  cases h2.symm.trans hb
  cases u <;> simp [Cond.value, h1, h2] at h
  rw [h1, h]
theorem own_eqL {args : Array Value} {first s : State} {o : Option Outcome} {idx : List Nat} {a : Term} {n : Int64} (h : (Jvm.Cond.eq a (Term.long n)).value args first o s idx = some true) : a.eval args first o idx s = some (.long n) := by
  obtain ⟨x, y, h1, h2, -, -⟩ := cmp_v (Or.inl h)
  cases h2.symm.trans (long_at n)
  cases x <;> simp [Cond.value, h1, h2] at h
  rw [h1, h]
theorem own_and (x : Int32) : 0 ≤ (x &&& (2147483647 : Int32)).toInt := (c_and x (2147483647 : Int32) (by decide)).1
theorem own_one : (1 : Int64).toInt = 1 := by decide
theorem own_plus (a : Int32) (h : 0 ≤ a.toInt) : ((a.toInt64) + (1 : Int64)).toInt = a.toInt + 1 := by
  have h1 := c_ladd a.toInt64 1
  have h2 := c_i2l a
  have h3 := rng32 a
  have h4 := rng64 (a.toInt64 + 1)
  have h5 := own_one
  omega
theorem own_nz (a : Int32) (h : 0 ≤ a.toInt) : ((a.toInt64) + (1 : Int64)) ≠ 0 := fun e => by
  have h1 := own_plus a h
  rw [e] at h1
  have h2 : (0 : Int64).toInt = 0 := by decide
  omega
theorem own_r (y : Int64) (a : Int32) (h : 0 ≤ a.toInt) : 0 ≤ (((y &&& (2147483647 : Int64)) - (y &&& (2147483647 : Int64)) / ((a.toInt64) + (1 : Int64)) * ((a.toInt64) + (1 : Int64))).toInt32).toInt := by
  have h1 : (y &&& (2147483647 : Int64)).toInt = y.toInt % 2147483648 := c_maskL y 2147483647 31 (by decide) (by decide)
  have h2 := (c_lrem (y &&& (2147483647 : Int64)) ((a.toInt64) + (1 : Int64)) (a.toInt + 1) (own_plus a h)).1 (by omega)
  have h3 := c_l2i ((y &&& (2147483647 : Int64)) - (y &&& (2147483647 : Int64)) / ((a.toInt64) + (1 : Int64)) * ((a.toInt64) + (1 : Int64)))
  have h4 := rng32 (((y &&& (2147483647 : Int64)) - (y &&& (2147483647 : Int64)) / ((a.toInt64) + (1 : Int64)) * ((a.toInt64) + (1 : Int64))).toInt32)
  rw [h2] at h3
  have h5 := Int.emod_nonneg (y &&& (2147483647 : Int64)).toInt (show a.toInt + 1 ≠ 0 by omega)
  have h6 := Int.emod_lt_of_pos (y &&& (2147483647 : Int64)).toInt (show 0 < a.toInt + 1 by omega)
  have h7 := rng32 a
  omega
theorem own_mul (r a : Int32) (hr : 0 ≤ r.toInt) (ha : 0 ≤ a.toInt) : ((r.toInt64) * (a.toInt64)).toInt = r.toInt * a.toInt := by
  have h1 := c_lmul r.toInt64 a.toInt64
  rw [c_i2l, c_i2l] at h1
  have h2 := rng64 (r.toInt64 * a.toInt64)
  have h3 := rng32 r
  have h4 := rng32 a
  have h5 : 0 ≤ r.toInt * a.toInt := Int.mul_nonneg hr ha
  have h6 : r.toInt * a.toInt ≤ 2147483647 * 2147483647 := Int.mul_le_mul (by omega) (by omega) ha (by omega)
  omega
theorem own_cl {x y : Int} (h : x < y) (o : CmpOp) : cmpValue (some (compare x y)) o = (-1 : Int32) := by
  have e : compare x y = .lt := by simp [compare, compareOfLessAndEq, h]
  rw [e]; cases o <;> rfl
theorem own_ce {x y : Int} (h : x = y) (o : CmpOp) : cmpValue (some (compare x y)) o = (0 : Int32) := by
  have e : compare x y = .eq := by simp [compare, compareOfLessAndEq, h]
  rw [e]; cases o <;> rfl
theorem own_cgt {x y : Int} (h : y < x) (o : CmpOp) : cmpValue (some (compare x y)) o = (1 : Int32) := by
  have e : compare x y = .gt := by
    have h1 : ¬ x < y := by omega
    have h2 : ¬ x = y := by omega
    simp [compare, compareOfLessAndEq, h1, h2]
  rw [e]; cases o <;> rfl
theorem own_dnn (a : Int32) {b : Int32} (h : ¬ (b = (0 : Int32))) : Jvm.Free.Fl.NoNaN64 (FP.ddiv (FP.i2d a) (FP.i2d b)) := Jvm.Free.Fl.ddiv_out (Jvm.Free.Fl.i2d_fin a).noNaN (Jvm.Free.Fl.i2d_fin b) (Jvm.Free.Fl.i2d_nz h)
def own_S (b a : Int32) (p : UInt64) : Prop := FP.Core.own_ok b a ∧ p = FP.Core.own_pr b a
theorem own_c0 {b a : Int32} {p : UInt64} (h : own_S b a p) (o : CmpOp) : cmpValue (FP.dcmp p FP.dconst0) o = cmpValue (some (compare (FP.Core.own_zp b a : Int) 0)) o := by
  obtain ⟨h1, rfl⟩ := h
  rw [FP.Core.own_cmpZ (FP.Core.own_val h1) FP.Core.own_v0]
theorem own_c1 {b a : Int32} {p : UInt64} (h : own_S b a p) (o : CmpOp) : cmpValue (FP.dcmp p FP.dconst1) o = cmpValue (some (compare (FP.Core.own_zp b a : Int) ((2 ^ 1074 : Nat) : Int))) o := by
  obtain ⟨h1, rfl⟩ := h
  rw [FP.Core.own_cmpZ (FP.Core.own_val h1) FP.Core.own_v1]
theorem own_s1 {b a : Int32} {p : UInt64} (h : own_S b a p) (hb : b = (0 : Int32)) : (cmpValue (FP.dcmp p FP.dconst0) .l) = (0 : Int32) := by
  rw [own_c0 h]
  refine own_ce ?_ _
  unfold FP.Core.own_zp
  rw [if_pos hb]; rfl
theorem own_s2 {b a : Int32} {p : UInt64} (h : own_S b a p) : ¬ ((cmpValue (FP.dcmp p FP.dconst0) .l) < (0 : Int32)) := by
  rw [own_c0 h]
  rcases Int.lt_or_eq_of_le (Int.natCast_nonneg (FP.Core.own_zp b a)) with q | q
  · rw [own_cgt q]; decide
  · rw [own_ce q.symm]; decide
theorem own_s3 {b a : Int32} {p : UInt64} (h : own_S b a p) : ¬ ((0 : Int32) < (cmpValue (FP.dcmp p FP.dconst1) .g)) := by
  rw [own_c1 h]
  have q := FP.Core.own_zle h.1
  rcases Nat.lt_or_eq_of_le q with z | z
  · rw [own_cl (Int.ofNat_lt.mpr z)]; decide
  · rw [own_ce (congrArg Nat.cast z)]; decide
theorem own_s4 {b a : Int32} {p : UInt64} (h : own_S b a p) (hb : ¬ (b = (0 : Int32))) (e : a = b) : (cmpValue (FP.dcmp p FP.dconst1) .l) = (0 : Int32) := by
  rw [own_c1 h]
  exact own_ce (congrArg Nat.cast ((FP.Core.own_z1 h.1 hb).mpr e)) _
theorem own_s4n {b a : Int32} {p : UInt64} (h : own_S b a p) (hb : ¬ (b = (0 : Int32))) (e : ¬ (a = b)) : ¬ ((cmpValue (FP.dcmp p FP.dconst1) .l) = (0 : Int32)) := by
  rw [own_c1 h]
  have q := FP.Core.own_zle h.1
  rcases Nat.lt_or_eq_of_le q with z | z
  · rw [own_cl (Int.ofNat_lt.mpr z)]; decide
  · exact absurd ((FP.Core.own_z1 h.1 hb).mp z) e
theorem own_s5 {b a : Int32} {p : UInt64} (h : own_S b a p) (hb : ¬ (b = (0 : Int32))) (e : a = (0 : Int32)) : (cmpValue (FP.dcmp p FP.dconst0) .l) = (0 : Int32) := by
  rw [own_c0 h]
  exact own_ce (congrArg Nat.cast ((FP.Core.own_z0 h.1 hb).mpr e)) _
theorem own_s5n {b a : Int32} {p : UInt64} (h : own_S b a p) (hb : ¬ (b = (0 : Int32))) (e : ¬ (a = (0 : Int32))) : ¬ ((cmpValue (FP.dcmp p FP.dconst0) .l) = (0 : Int32)) := by
  rw [own_c0 h]
  rcases Int.lt_or_eq_of_le (Int.natCast_nonneg (FP.Core.own_zp b a)) with q | q
  · rw [own_cgt q]; decide
  · exact absurd ((FP.Core.own_z0 h.1 hb).mp (Int.ofNat.inj q.symm)) e
theorem own_pp {b a d c : Int32} (h : FP.Core.own_ok b a) (h' : FP.Core.own_ok d c) (o : CmpOp) : cmpValue (FP.dcmp (FP.Core.own_pr b a) (FP.Core.own_pr d c)) o = cmpValue (some (compare (FP.Core.own_zp b a : Int) (FP.Core.own_zp d c : Int))) o := by
  rw [FP.Core.own_cmpZ (FP.Core.own_val h) (FP.Core.own_val h')]
theorem own_ne0 {b : Int32} (h : (0 : Int32) < b) : ¬ (b = (0 : Int32)) := fun e => by rw [e] at h; exact absurd h (by decide)
theorem own_l2 {b a c : Int32} (h : FP.Core.own_ok b a) (h' : FP.Core.own_ok b c) (hb : (0 : Int32) < b) (hl : a < c) : (cmpValue (FP.dcmp (FP.Core.own_pr b a) (FP.Core.own_pr b c)) .g) < (0 : Int32) := by
  rw [own_pp h h', own_cl (Int.ofNat_lt.mpr (FP.Core.own_zs h h' (own_ne0 hb) hl))]; decide
theorem own_l3 {b a c : Int32} (h : FP.Core.own_ok b a) (h' : FP.Core.own_ok b c) (e : a = c) : (cmpValue (FP.dcmp (FP.Core.own_pr b a) (FP.Core.own_pr b c)) .l) = (0 : Int32) := by
  subst e
  rw [own_pp h h', own_ce rfl]
theorem own_l4 {b a c : Int32} (h : FP.Core.own_ok b a) (h' : FP.Core.own_ok b c) (hb : (0 : Int32) < b) (hl : c < a) : (0 : Int32) < (cmpValue (FP.dcmp (FP.Core.own_pr b a) (FP.Core.own_pr b c)) .l) := by
  rw [own_pp h h', own_cgt (Int.ofNat_lt.mpr (FP.Core.own_zs h' h (own_ne0 hb) hl))]; decide
theorem own_nonneg {b a : Int32} (h : FP.Core.own_ok b a) : 0 ≤ b.toInt := Int.le_trans h.1 h.2
theorem own_l5 {b a d c : Int32} (h : FP.Core.own_ok b a) (h' : FP.Core.own_ok d c) (hb : (0 : Int32) < b) (hd : (0 : Int32) < d) (hl : (lcmpW ((a.toInt64) * (d.toInt64)) ((c.toInt64) * (b.toInt64))) < (0 : Int32)) : ¬ ((0 : Int32) < (cmpValue (FP.dcmp (FP.Core.own_pr b a) (FP.Core.own_pr d c)) .g)) := by
  rw [lw_lt, Int64.lt_iff_toInt_lt, own_mul _ _ h.1 (own_nonneg h'), own_mul _ _ h'.1 (own_nonneg h)] at hl
  rw [own_pp h h']
  rcases Nat.lt_or_eq_of_le ((FP.Core.own_cross h h' (own_ne0 hb) (own_ne0 hd)).1 hl) with z | z
  · rw [own_cl (Int.ofNat_lt.mpr z)]; decide
  · rw [own_ce (congrArg Nat.cast z)]; decide
theorem own_l6 {b a d c : Int32} (h : FP.Core.own_ok b a) (h' : FP.Core.own_ok d c) (hb : (0 : Int32) < b) (hd : (0 : Int32) < d) (hl : (lcmpW ((a.toInt64) * (d.toInt64)) ((c.toInt64) * (b.toInt64))) = (0 : Int32)) : (cmpValue (FP.dcmp (FP.Core.own_pr b a) (FP.Core.own_pr d c)) .l) = (0 : Int32) := by
  rw [lw_eq, ← Int64.toInt_inj, own_mul _ _ h.1 (own_nonneg h'), own_mul _ _ h'.1 (own_nonneg h)] at hl
  rw [own_pp h h', own_ce (congrArg Nat.cast ((FP.Core.own_cross h h' (own_ne0 hb) (own_ne0 hd)).2 hl))]
theorem own_l7 {b a d c : Int32} (h : FP.Core.own_ok b a) (h' : FP.Core.own_ok d c) (hb : (0 : Int32) < b) (hd : (0 : Int32) < d) (hl : (0 : Int32) < (lcmpW ((a.toInt64) * (d.toInt64)) ((c.toInt64) * (b.toInt64)))) : ¬ ((cmpValue (FP.dcmp (FP.Core.own_pr b a) (FP.Core.own_pr d c)) .l) < (0 : Int32)) := by
  rw [lw_gt, Int64.lt_iff_toInt_lt, own_mul _ _ h.1 (own_nonneg h'), own_mul _ _ h'.1 (own_nonneg h)] at hl
  rw [own_pp h h']
  rcases Nat.lt_or_eq_of_le ((FP.Core.own_cross h' h (own_ne0 hd) (own_ne0 hb)).1 hl) with z | z
  · rw [own_cgt (Int.ofNat_lt.mpr z)]; decide
  · rw [own_ce (congrArg Nat.cast z.symm)]; decide
def own_two (b : Int32) : Prop := ∃ e : Nat, e ≤ 30 ∧ b.toInt = ((2 ^ e : Nat) : Int)
theorem own_l1 {b a : Int32} (h : FP.Core.own_ok b a) (h2 : own_two b) : (cmpValue (FP.dcmp (FP.dmul (FP.Core.own_pr b a) (FP.i2d b)) (FP.i2d a)) .l) = (0 : Int32) := by
  obtain ⟨e, h3, h4⟩ := h2
  have q : FP.dcmp (FP.dmul (FP.Core.own_pr b a) (FP.i2d b)) (FP.i2d a) = some (compare a.toInt a.toInt) := FP.Core.dcmp_int (FP.Core.own_back h3 h h4) (FP.Core.i2d_int a)
  rw [q]; exact own_ce rfl _
theorem own_mnn {b a : Int32} (h : FP.Core.own_ok b a) (h2 : own_two b) : Jvm.Free.Fl.NoNaN64 (FP.dmul (FP.Core.own_pr b a) (FP.i2d b)) := by
  obtain ⟨e, h3, h4⟩ := h2
  have q : FP.Core.DInt a.toInt (FP.dmul (FP.Core.own_pr b a) (FP.i2d b)) := FP.Core.own_back h3 h h4
  refine Jvm.Free.Fl.val64_no.mpr fun z => ?_
  unfold FP.Core.DInt at q
  rw [z] at q
  exact q
theorem own_two0 {b : Int32} (h : own_two b) : 0 ≤ b.toInt := by obtain ⟨e, h1, h2⟩ := h; rw [h2]; exact Int.natCast_nonneg _
theorem own_r2 (y : Int64) (a : Int32) (h : 0 ≤ a.toInt) : FP.Core.own_ok a (((y &&& (2147483647 : Int64)) - (y &&& (2147483647 : Int64)) / ((a.toInt64) + (1 : Int64)) * ((a.toInt64) + (1 : Int64))).toInt32) := by
  refine ⟨own_r y a h, ?_⟩
  have h1 : (y &&& (2147483647 : Int64)).toInt = y.toInt % 2147483648 := c_maskL y 2147483647 31 (by decide) (by decide)
  have h2 := (c_lrem (y &&& (2147483647 : Int64)) ((a.toInt64) + (1 : Int64)) (a.toInt + 1) (own_plus a h)).1 (by omega)
  have h3 := c_l2i ((y &&& (2147483647 : Int64)) - (y &&& (2147483647 : Int64)) / ((a.toInt64) + (1 : Int64)) * ((a.toInt64) + (1 : Int64)))
  have h4 := rng32 (((y &&& (2147483647 : Int64)) - (y &&& (2147483647 : Int64)) / ((a.toInt64) + (1 : Int64)) * ((a.toInt64) + (1 : Int64))).toInt32)
  rw [h2] at h3
  have h5 := Int.emod_nonneg (y &&& (2147483647 : Int64)).toInt (show a.toInt + 1 ≠ 0 by omega)
  have h6 := Int.emod_lt_of_pos (y &&& (2147483647 : Int64)).toInt (show 0 < a.toInt + 1 by omega)
  have h7 := rng32 a
  omega
theorem own_e31 (x : Int32) : (((x.toUInt32 >>> ((1 : Int32) &&& 31).toUInt32).toInt32) % (31 : Int32)) = (0 : Int32) ∨ (((x.toUInt32 >>> ((1 : Int32) &&& 31).toUInt32).toInt32) % (31 : Int32)) = (1 : Int32) ∨ (((x.toUInt32 >>> ((1 : Int32) &&& 31).toUInt32).toInt32) % (31 : Int32)) = (2 : Int32) ∨ (((x.toUInt32 >>> ((1 : Int32) &&& 31).toUInt32).toInt32) % (31 : Int32)) = (3 : Int32) ∨ (((x.toUInt32 >>> ((1 : Int32) &&& 31).toUInt32).toInt32) % (31 : Int32)) = (4 : Int32) ∨ (((x.toUInt32 >>> ((1 : Int32) &&& 31).toUInt32).toInt32) % (31 : Int32)) = (5 : Int32) ∨ (((x.toUInt32 >>> ((1 : Int32) &&& 31).toUInt32).toInt32) % (31 : Int32)) = (6 : Int32) ∨ (((x.toUInt32 >>> ((1 : Int32) &&& 31).toUInt32).toInt32) % (31 : Int32)) = (7 : Int32) ∨ (((x.toUInt32 >>> ((1 : Int32) &&& 31).toUInt32).toInt32) % (31 : Int32)) = (8 : Int32) ∨ (((x.toUInt32 >>> ((1 : Int32) &&& 31).toUInt32).toInt32) % (31 : Int32)) = (9 : Int32) ∨ (((x.toUInt32 >>> ((1 : Int32) &&& 31).toUInt32).toInt32) % (31 : Int32)) = (10 : Int32) ∨ (((x.toUInt32 >>> ((1 : Int32) &&& 31).toUInt32).toInt32) % (31 : Int32)) = (11 : Int32) ∨ (((x.toUInt32 >>> ((1 : Int32) &&& 31).toUInt32).toInt32) % (31 : Int32)) = (12 : Int32) ∨ (((x.toUInt32 >>> ((1 : Int32) &&& 31).toUInt32).toInt32) % (31 : Int32)) = (13 : Int32) ∨ (((x.toUInt32 >>> ((1 : Int32) &&& 31).toUInt32).toInt32) % (31 : Int32)) = (14 : Int32) ∨ (((x.toUInt32 >>> ((1 : Int32) &&& 31).toUInt32).toInt32) % (31 : Int32)) = (15 : Int32) ∨ (((x.toUInt32 >>> ((1 : Int32) &&& 31).toUInt32).toInt32) % (31 : Int32)) = (16 : Int32) ∨ (((x.toUInt32 >>> ((1 : Int32) &&& 31).toUInt32).toInt32) % (31 : Int32)) = (17 : Int32) ∨ (((x.toUInt32 >>> ((1 : Int32) &&& 31).toUInt32).toInt32) % (31 : Int32)) = (18 : Int32) ∨ (((x.toUInt32 >>> ((1 : Int32) &&& 31).toUInt32).toInt32) % (31 : Int32)) = (19 : Int32) ∨ (((x.toUInt32 >>> ((1 : Int32) &&& 31).toUInt32).toInt32) % (31 : Int32)) = (20 : Int32) ∨ (((x.toUInt32 >>> ((1 : Int32) &&& 31).toUInt32).toInt32) % (31 : Int32)) = (21 : Int32) ∨ (((x.toUInt32 >>> ((1 : Int32) &&& 31).toUInt32).toInt32) % (31 : Int32)) = (22 : Int32) ∨ (((x.toUInt32 >>> ((1 : Int32) &&& 31).toUInt32).toInt32) % (31 : Int32)) = (23 : Int32) ∨ (((x.toUInt32 >>> ((1 : Int32) &&& 31).toUInt32).toInt32) % (31 : Int32)) = (24 : Int32) ∨ (((x.toUInt32 >>> ((1 : Int32) &&& 31).toUInt32).toInt32) % (31 : Int32)) = (25 : Int32) ∨ (((x.toUInt32 >>> ((1 : Int32) &&& 31).toUInt32).toInt32) % (31 : Int32)) = (26 : Int32) ∨ (((x.toUInt32 >>> ((1 : Int32) &&& 31).toUInt32).toInt32) % (31 : Int32)) = (27 : Int32) ∨ (((x.toUInt32 >>> ((1 : Int32) &&& 31).toUInt32).toInt32) % (31 : Int32)) = (28 : Int32) ∨ (((x.toUInt32 >>> ((1 : Int32) &&& 31).toUInt32).toInt32) % (31 : Int32)) = (29 : Int32) ∨ (((x.toUInt32 >>> ((1 : Int32) &&& 31).toUInt32).toInt32) % (31 : Int32)) = (30 : Int32) := by
  have h1 := c_iushr x (1 : Int32) 1 (by decide) (by decide)
  have h2 := rng32 x
  have h3 := (c_irem ((x.toUInt32 >>> ((1 : Int32) &&& 31).toUInt32).toInt32) (31 : Int32) 31 (by decide)).1 (by rw [h1]; omega)
  have h9 : ((((x.toUInt32 >>> ((1 : Int32) &&& 31).toUInt32).toInt32) % (31 : Int32))).toInt = 0 ∨ ((((x.toUInt32 >>> ((1 : Int32) &&& 31).toUInt32).toInt32) % (31 : Int32))).toInt = 1 ∨ ((((x.toUInt32 >>> ((1 : Int32) &&& 31).toUInt32).toInt32) % (31 : Int32))).toInt = 2 ∨ ((((x.toUInt32 >>> ((1 : Int32) &&& 31).toUInt32).toInt32) % (31 : Int32))).toInt = 3 ∨ ((((x.toUInt32 >>> ((1 : Int32) &&& 31).toUInt32).toInt32) % (31 : Int32))).toInt = 4 ∨ ((((x.toUInt32 >>> ((1 : Int32) &&& 31).toUInt32).toInt32) % (31 : Int32))).toInt = 5 ∨ ((((x.toUInt32 >>> ((1 : Int32) &&& 31).toUInt32).toInt32) % (31 : Int32))).toInt = 6 ∨ ((((x.toUInt32 >>> ((1 : Int32) &&& 31).toUInt32).toInt32) % (31 : Int32))).toInt = 7 ∨ ((((x.toUInt32 >>> ((1 : Int32) &&& 31).toUInt32).toInt32) % (31 : Int32))).toInt = 8 ∨ ((((x.toUInt32 >>> ((1 : Int32) &&& 31).toUInt32).toInt32) % (31 : Int32))).toInt = 9 ∨ ((((x.toUInt32 >>> ((1 : Int32) &&& 31).toUInt32).toInt32) % (31 : Int32))).toInt = 10 ∨ ((((x.toUInt32 >>> ((1 : Int32) &&& 31).toUInt32).toInt32) % (31 : Int32))).toInt = 11 ∨ ((((x.toUInt32 >>> ((1 : Int32) &&& 31).toUInt32).toInt32) % (31 : Int32))).toInt = 12 ∨ ((((x.toUInt32 >>> ((1 : Int32) &&& 31).toUInt32).toInt32) % (31 : Int32))).toInt = 13 ∨ ((((x.toUInt32 >>> ((1 : Int32) &&& 31).toUInt32).toInt32) % (31 : Int32))).toInt = 14 ∨ ((((x.toUInt32 >>> ((1 : Int32) &&& 31).toUInt32).toInt32) % (31 : Int32))).toInt = 15 ∨ ((((x.toUInt32 >>> ((1 : Int32) &&& 31).toUInt32).toInt32) % (31 : Int32))).toInt = 16 ∨ ((((x.toUInt32 >>> ((1 : Int32) &&& 31).toUInt32).toInt32) % (31 : Int32))).toInt = 17 ∨ ((((x.toUInt32 >>> ((1 : Int32) &&& 31).toUInt32).toInt32) % (31 : Int32))).toInt = 18 ∨ ((((x.toUInt32 >>> ((1 : Int32) &&& 31).toUInt32).toInt32) % (31 : Int32))).toInt = 19 ∨ ((((x.toUInt32 >>> ((1 : Int32) &&& 31).toUInt32).toInt32) % (31 : Int32))).toInt = 20 ∨ ((((x.toUInt32 >>> ((1 : Int32) &&& 31).toUInt32).toInt32) % (31 : Int32))).toInt = 21 ∨ ((((x.toUInt32 >>> ((1 : Int32) &&& 31).toUInt32).toInt32) % (31 : Int32))).toInt = 22 ∨ ((((x.toUInt32 >>> ((1 : Int32) &&& 31).toUInt32).toInt32) % (31 : Int32))).toInt = 23 ∨ ((((x.toUInt32 >>> ((1 : Int32) &&& 31).toUInt32).toInt32) % (31 : Int32))).toInt = 24 ∨ ((((x.toUInt32 >>> ((1 : Int32) &&& 31).toUInt32).toInt32) % (31 : Int32))).toInt = 25 ∨ ((((x.toUInt32 >>> ((1 : Int32) &&& 31).toUInt32).toInt32) % (31 : Int32))).toInt = 26 ∨ ((((x.toUInt32 >>> ((1 : Int32) &&& 31).toUInt32).toInt32) % (31 : Int32))).toInt = 27 ∨ ((((x.toUInt32 >>> ((1 : Int32) &&& 31).toUInt32).toInt32) % (31 : Int32))).toInt = 28 ∨ ((((x.toUInt32 >>> ((1 : Int32) &&& 31).toUInt32).toInt32) % (31 : Int32))).toInt = 29 ∨ ((((x.toUInt32 >>> ((1 : Int32) &&& 31).toUInt32).toInt32) % (31 : Int32))).toInt = 30 := by omega
  rcases h9 with q | q | q | q | q | q | q | q | q | q | q | q | q | q | q | q | q | q | q | q | q | q | q | q | q | q | q | q | q | q | q
  · exact Or.inl (Int32.toInt_inj.mp (q.trans (by decide)))
  · exact Or.inr (Or.inl (Int32.toInt_inj.mp (q.trans (by decide))))
  · exact Or.inr (Or.inr (Or.inl (Int32.toInt_inj.mp (q.trans (by decide)))))
  · exact Or.inr (Or.inr (Or.inr (Or.inl (Int32.toInt_inj.mp (q.trans (by decide))))))
  · exact Or.inr (Or.inr (Or.inr (Or.inr (Or.inl (Int32.toInt_inj.mp (q.trans (by decide)))))))
  · exact Or.inr (Or.inr (Or.inr (Or.inr (Or.inr (Or.inl (Int32.toInt_inj.mp (q.trans (by decide))))))))
  · exact Or.inr (Or.inr (Or.inr (Or.inr (Or.inr (Or.inr (Or.inl (Int32.toInt_inj.mp (q.trans (by decide)))))))))
  · exact Or.inr (Or.inr (Or.inr (Or.inr (Or.inr (Or.inr (Or.inr (Or.inl (Int32.toInt_inj.mp (q.trans (by decide))))))))))
  · exact Or.inr (Or.inr (Or.inr (Or.inr (Or.inr (Or.inr (Or.inr (Or.inr (Or.inl (Int32.toInt_inj.mp (q.trans (by decide)))))))))))
  · exact Or.inr (Or.inr (Or.inr (Or.inr (Or.inr (Or.inr (Or.inr (Or.inr (Or.inr (Or.inl (Int32.toInt_inj.mp (q.trans (by decide))))))))))))
  · exact Or.inr (Or.inr (Or.inr (Or.inr (Or.inr (Or.inr (Or.inr (Or.inr (Or.inr (Or.inr (Or.inl (Int32.toInt_inj.mp (q.trans (by decide)))))))))))))
  · exact Or.inr (Or.inr (Or.inr (Or.inr (Or.inr (Or.inr (Or.inr (Or.inr (Or.inr (Or.inr (Or.inr (Or.inl (Int32.toInt_inj.mp (q.trans (by decide))))))))))))))
  · exact Or.inr (Or.inr (Or.inr (Or.inr (Or.inr (Or.inr (Or.inr (Or.inr (Or.inr (Or.inr (Or.inr (Or.inr (Or.inl (Int32.toInt_inj.mp (q.trans (by decide)))))))))))))))
  · exact Or.inr (Or.inr (Or.inr (Or.inr (Or.inr (Or.inr (Or.inr (Or.inr (Or.inr (Or.inr (Or.inr (Or.inr (Or.inr (Or.inl (Int32.toInt_inj.mp (q.trans (by decide))))))))))))))))
  · exact Or.inr (Or.inr (Or.inr (Or.inr (Or.inr (Or.inr (Or.inr (Or.inr (Or.inr (Or.inr (Or.inr (Or.inr (Or.inr (Or.inr (Or.inl (Int32.toInt_inj.mp (q.trans (by decide)))))))))))))))))
  · exact Or.inr (Or.inr (Or.inr (Or.inr (Or.inr (Or.inr (Or.inr (Or.inr (Or.inr (Or.inr (Or.inr (Or.inr (Or.inr (Or.inr (Or.inr (Or.inl (Int32.toInt_inj.mp (q.trans (by decide))))))))))))))))))
  · exact Or.inr (Or.inr (Or.inr (Or.inr (Or.inr (Or.inr (Or.inr (Or.inr (Or.inr (Or.inr (Or.inr (Or.inr (Or.inr (Or.inr (Or.inr (Or.inr (Or.inl (Int32.toInt_inj.mp (q.trans (by decide)))))))))))))))))))
  · exact Or.inr (Or.inr (Or.inr (Or.inr (Or.inr (Or.inr (Or.inr (Or.inr (Or.inr (Or.inr (Or.inr (Or.inr (Or.inr (Or.inr (Or.inr (Or.inr (Or.inr (Or.inl (Int32.toInt_inj.mp (q.trans (by decide))))))))))))))))))))
  · exact Or.inr (Or.inr (Or.inr (Or.inr (Or.inr (Or.inr (Or.inr (Or.inr (Or.inr (Or.inr (Or.inr (Or.inr (Or.inr (Or.inr (Or.inr (Or.inr (Or.inr (Or.inr (Or.inl (Int32.toInt_inj.mp (q.trans (by decide)))))))))))))))))))))
  · exact Or.inr (Or.inr (Or.inr (Or.inr (Or.inr (Or.inr (Or.inr (Or.inr (Or.inr (Or.inr (Or.inr (Or.inr (Or.inr (Or.inr (Or.inr (Or.inr (Or.inr (Or.inr (Or.inr (Or.inl (Int32.toInt_inj.mp (q.trans (by decide))))))))))))))))))))))
  · exact Or.inr (Or.inr (Or.inr (Or.inr (Or.inr (Or.inr (Or.inr (Or.inr (Or.inr (Or.inr (Or.inr (Or.inr (Or.inr (Or.inr (Or.inr (Or.inr (Or.inr (Or.inr (Or.inr (Or.inr (Or.inl (Int32.toInt_inj.mp (q.trans (by decide)))))))))))))))))))))))
  · exact Or.inr (Or.inr (Or.inr (Or.inr (Or.inr (Or.inr (Or.inr (Or.inr (Or.inr (Or.inr (Or.inr (Or.inr (Or.inr (Or.inr (Or.inr (Or.inr (Or.inr (Or.inr (Or.inr (Or.inr (Or.inr (Or.inl (Int32.toInt_inj.mp (q.trans (by decide))))))))))))))))))))))))
  · exact Or.inr (Or.inr (Or.inr (Or.inr (Or.inr (Or.inr (Or.inr (Or.inr (Or.inr (Or.inr (Or.inr (Or.inr (Or.inr (Or.inr (Or.inr (Or.inr (Or.inr (Or.inr (Or.inr (Or.inr (Or.inr (Or.inr (Or.inl (Int32.toInt_inj.mp (q.trans (by decide)))))))))))))))))))))))))
  · exact Or.inr (Or.inr (Or.inr (Or.inr (Or.inr (Or.inr (Or.inr (Or.inr (Or.inr (Or.inr (Or.inr (Or.inr (Or.inr (Or.inr (Or.inr (Or.inr (Or.inr (Or.inr (Or.inr (Or.inr (Or.inr (Or.inr (Or.inr (Or.inl (Int32.toInt_inj.mp (q.trans (by decide))))))))))))))))))))))))))
  · exact Or.inr (Or.inr (Or.inr (Or.inr (Or.inr (Or.inr (Or.inr (Or.inr (Or.inr (Or.inr (Or.inr (Or.inr (Or.inr (Or.inr (Or.inr (Or.inr (Or.inr (Or.inr (Or.inr (Or.inr (Or.inr (Or.inr (Or.inr (Or.inr (Or.inl (Int32.toInt_inj.mp (q.trans (by decide)))))))))))))))))))))))))))
  · exact Or.inr (Or.inr (Or.inr (Or.inr (Or.inr (Or.inr (Or.inr (Or.inr (Or.inr (Or.inr (Or.inr (Or.inr (Or.inr (Or.inr (Or.inr (Or.inr (Or.inr (Or.inr (Or.inr (Or.inr (Or.inr (Or.inr (Or.inr (Or.inr (Or.inr (Or.inl (Int32.toInt_inj.mp (q.trans (by decide))))))))))))))))))))))))))))
  · exact Or.inr (Or.inr (Or.inr (Or.inr (Or.inr (Or.inr (Or.inr (Or.inr (Or.inr (Or.inr (Or.inr (Or.inr (Or.inr (Or.inr (Or.inr (Or.inr (Or.inr (Or.inr (Or.inr (Or.inr (Or.inr (Or.inr (Or.inr (Or.inr (Or.inr (Or.inr (Or.inl (Int32.toInt_inj.mp (q.trans (by decide)))))))))))))))))))))))))))))
  · exact Or.inr (Or.inr (Or.inr (Or.inr (Or.inr (Or.inr (Or.inr (Or.inr (Or.inr (Or.inr (Or.inr (Or.inr (Or.inr (Or.inr (Or.inr (Or.inr (Or.inr (Or.inr (Or.inr (Or.inr (Or.inr (Or.inr (Or.inr (Or.inr (Or.inr (Or.inr (Or.inr (Or.inl (Int32.toInt_inj.mp (q.trans (by decide))))))))))))))))))))))))))))))
  · exact Or.inr (Or.inr (Or.inr (Or.inr (Or.inr (Or.inr (Or.inr (Or.inr (Or.inr (Or.inr (Or.inr (Or.inr (Or.inr (Or.inr (Or.inr (Or.inr (Or.inr (Or.inr (Or.inr (Or.inr (Or.inr (Or.inr (Or.inr (Or.inr (Or.inr (Or.inr (Or.inr (Or.inr (Or.inl (Int32.toInt_inj.mp (q.trans (by decide)))))))))))))))))))))))))))))))
  · exact Or.inr (Or.inr (Or.inr (Or.inr (Or.inr (Or.inr (Or.inr (Or.inr (Or.inr (Or.inr (Or.inr (Or.inr (Or.inr (Or.inr (Or.inr (Or.inr (Or.inr (Or.inr (Or.inr (Or.inr (Or.inr (Or.inr (Or.inr (Or.inr (Or.inr (Or.inr (Or.inr (Or.inr (Or.inr (Or.inl (Int32.toInt_inj.mp (q.trans (by decide))))))))))))))))))))))))))))))))
  · exact Or.inr (Or.inr (Or.inr (Or.inr (Or.inr (Or.inr (Or.inr (Or.inr (Or.inr (Or.inr (Or.inr (Or.inr (Or.inr (Or.inr (Or.inr (Or.inr (Or.inr (Or.inr (Or.inr (Or.inr (Or.inr (Or.inr (Or.inr (Or.inr (Or.inr (Or.inr (Or.inr (Or.inr (Or.inr (Or.inr (Int32.toInt_inj.mp (q.trans (by decide))))))))))))))))))))))))))))))))
theorem own_tw (x : Int32) : own_two ((1 : Int32) <<< ((((x.toUInt32 >>> ((1 : Int32) &&& 31).toUInt32).toInt32) % (31 : Int32)) &&& 31)) := by
  rcases own_e31 x with q | q | q | q | q | q | q | q | q | q | q | q | q | q | q | q | q | q | q | q | q | q | q | q | q | q | q | q | q | q | q
  · rw [q]; exact ⟨0, by decide, by decide⟩
  · rw [q]; exact ⟨1, by decide, by decide⟩
  · rw [q]; exact ⟨2, by decide, by decide⟩
  · rw [q]; exact ⟨3, by decide, by decide⟩
  · rw [q]; exact ⟨4, by decide, by decide⟩
  · rw [q]; exact ⟨5, by decide, by decide⟩
  · rw [q]; exact ⟨6, by decide, by decide⟩
  · rw [q]; exact ⟨7, by decide, by decide⟩
  · rw [q]; exact ⟨8, by decide, by decide⟩
  · rw [q]; exact ⟨9, by decide, by decide⟩
  · rw [q]; exact ⟨10, by decide, by decide⟩
  · rw [q]; exact ⟨11, by decide, by decide⟩
  · rw [q]; exact ⟨12, by decide, by decide⟩
  · rw [q]; exact ⟨13, by decide, by decide⟩
  · rw [q]; exact ⟨14, by decide, by decide⟩
  · rw [q]; exact ⟨15, by decide, by decide⟩
  · rw [q]; exact ⟨16, by decide, by decide⟩
  · rw [q]; exact ⟨17, by decide, by decide⟩
  · rw [q]; exact ⟨18, by decide, by decide⟩
  · rw [q]; exact ⟨19, by decide, by decide⟩
  · rw [q]; exact ⟨20, by decide, by decide⟩
  · rw [q]; exact ⟨21, by decide, by decide⟩
  · rw [q]; exact ⟨22, by decide, by decide⟩
  · rw [q]; exact ⟨23, by decide, by decide⟩
  · rw [q]; exact ⟨24, by decide, by decide⟩
  · rw [q]; exact ⟨25, by decide, by decide⟩
  · rw [q]; exact ⟨26, by decide, by decide⟩
  · rw [q]; exact ⟨27, by decide, by decide⟩
  · rw [q]; exact ⟨28, by decide, by decide⟩
  · rw [q]; exact ⟨29, by decide, by decide⟩
  · rw [q]; exact ⟨30, by decide, by decide⟩
theorem d1_0 : decode method_2_code 0 = .ok (.new 7, 3) := by decide +kernel
theorem d1_3 : decode method_2_code 3 = .ok (.dup, 1) := by decide +kernel
theorem d1_4 : decode method_2_code 4 = .ok (.iconst 1, 1) := by decide +kernel
theorem d1_5 : decode method_2_code 5 = .ok (.aload_n 2, 1) := by decide +kernel
theorem d1_6 : decode method_2_code 6 = .ok (.iload_n 0, 1) := by decide +kernel
theorem d1_7 : decode method_2_code 7 = .ok (.iload_n 1, 1) := by decide +kernel
theorem d1_8 : decode method_2_code 8 = .ok (.invokespecial 9, 3) := by decide +kernel
theorem d2_0 : decode prog_58_method_1_code 0 = .ok (.aload_n 0, 1) := by decide +kernel
theorem d2_1 : decode prog_58_method_1_code 1 = .ok (.invokespecial 1, 3) := by decide +kernel
theorem d2_4 : decode prog_58_method_1_code 4 = .ok (.aload_n 0, 1) := by decide +kernel
theorem d2_5 : decode prog_58_method_1_code 5 = .ok (.iload_n 1, 1) := by decide +kernel
theorem d2_6 : decode prog_58_method_1_code 6 = .ok (.putfield 7, 3) := by decide +kernel
theorem d2_9 : decode prog_58_method_1_code 9 = .ok (.aload_n 0, 1) := by decide +kernel
theorem d2_10 : decode prog_58_method_1_code 10 = .ok (.aload_n 2, 1) := by decide +kernel
theorem d2_11 : decode prog_58_method_1_code 11 = .ok (.putfield 13, 3) := by decide +kernel
theorem d2_14 : decode prog_58_method_1_code 14 = .ok (.aload_n 0, 1) := by decide +kernel
theorem d2_15 : decode prog_58_method_1_code 15 = .ok (.iload_n 3, 1) := by decide +kernel
theorem d2_16 : decode prog_58_method_1_code 16 = .ok (.putfield 17, 3) := by decide +kernel
theorem d2_19 : decode prog_58_method_1_code 19 = .ok (.aload_n 0, 1) := by decide +kernel
theorem d2_20 : decode prog_58_method_1_code 20 = .ok (.iload 4, 2) := by decide +kernel
theorem d2_22 : decode prog_58_method_1_code 22 = .ok (.putfield 20, 3) := by decide +kernel
theorem d2_25 : decode prog_58_method_1_code 25 = .ok (.return_, 1) := by decide +kernel
theorem pn_0 : plainName "com/example/cotejo/cotejo/optimize/OptimalQuery" = true := by first | (simp [plainName, overriddenIn]; done) | decide +kernel
theorem ef_rm2_0 (m : MethodId) (x0 : Addr) (x1 : Addr) (x2 : Int32) (x3 : Int32) : entryFrame m #[(.ref x0), (.int (1 : Int32)), (.ref x1), (.int x2), (.int x3)] 5 = mkF m 0 #[.val (.ref x0), .val (.int (1 : Int32)), .val (.ref x1), .val (.int x2), .val (.int x3)] [] := by first | (simp [entryFrame, mkF, argsToLocals, Value.category]; done) | rfl
def Q2_0 (Z : State) (a1 : Addr) (a2 : Addr) (p3 : Int32) (p4 : Int32) (h0 : Heap) (n0 : Nat) (v : Option Value) (h : Heap) (L : List Loc) : Prop := v = none ∧ Fr n0 L ∧ Keep h0 h [a1] ∧ Exa Z h a1 "com/example/cotejo/cotejo/optimize/OptimalQuery" ∧ Fld Z h a1 "com/example/cotejo/cotejo/optimize/OptimalQuery" "exhaustivity" "I" (.int (1 : Int32)) ∧ Fld Z h a1 "com/example/cotejo/cotejo/optimize/OptimalQuery" "mode" "Lcom/example/cotejo/cotejo/optimize/Mode;" (.ref a2) ∧ Fld Z h a1 "com/example/cotejo/cotejo/optimize/OptimalQuery" "retrieved" "I" (.int p3) ∧ Fld Z h a1 "com/example/cotejo/cotejo/optimize/OptimalQuery" "relevant" "I" (.int p4)
set_option maxRecDepth 65536 in
set_option maxHeartbeats 40000000 in
theorem rm2_0 (l : Launch) (Z : State) (a0 : Array Value) (hw : ∀ d ∈ tables_1, d.before a0 Z = true) (ws : List Jvm.Cond) (a1 : Addr) (a2 : Addr) (p3 : Int32) (p4 : Int32) (h0 : Heap) (n0 : Nat) (Z0 : n0 ≤ h0.size) (E_a1 : Exa Z h0 a1 "com/example/cotejo/cotejo/optimize/OptimalQuery") (F_exhaustivity_a1 : Fld Z h0 a1 "com/example/cotejo/cotejo/optimize/OptimalQuery" "exhaustivity" "I" (.int (0 : Int32))) (F_mode_a1 : Fld Z h0 a1 "com/example/cotejo/cotejo/optimize/OptimalQuery" "mode" "Lcom/example/cotejo/cotejo/optimize/Mode;" .null) (F_retrieved_a1 : Fld Z h0 a1 "com/example/cotejo/cotejo/optimize/OptimalQuery" "retrieved" "I" (.int (0 : Int32))) (F_relevant_a1 : Fld Z h0 a1 "com/example/cotejo/cotejo/optimize/OptimalQuery" "relevant" "I" (.int (0 : Int32))) (g_a1 : n0 ≤ a1) :
    MetFree l (⟨"com/example/cotejo/cotejo/optimize/OptimalQuery", "<init>", "(ILcom/example/cotejo/cotejo/optimize/Mode;II)V"⟩ : MethodName) (head1 (Jvm.Cond.code (⟨"com/example/cotejo/cotejo/optimize/OptimalQuery", "<init>", "(ILcom/example/cotejo/cotejo/optimize/Mode;II)V"⟩ : MethodName) prog_58_method_1_code 5 none :: ws) ({ frames := 1, cells := 0, slots := 0, locals := 12 } : Room)) (fun a U => a = #[(.ref a1), (.int (1 : Int32)), (.ref a2), (.int p3), (.int p4)] ∧ Z.Warmed39 U.vm ∧ U.heap = h0) (fun _ _ _ _ _ => True) (fun _ U o U' => ∃ v L, o = .returned v ∧ Q2_0 Z a1 a2 p3 p4 h0 n0 v U'.heap L ∧ FrameEnd U o U' L ({ frames := 1, cells := 0, slots := 0, locals := 12 } : Room).cells ({ frames := 1, cells := 0, slots := 0, locals := 12 } : Room).slots) := by
  refine MetFree.of_bodySF (plainFor_of_name pn_0) hisR ?_
  intro p e s m args below meth c s₁ Bd hml0 hP hK
  obtain ⟨rfl, hZ, hh⟩ := hP
  have hx := Bd.exec
  have hby := Bd.bytes
  have hml : c.maxLocals = 5 := hml0
  have hown : s.vm.findClass "com/example/cotejo/cotejo/optimize/OptimalQuery" = some m.cls := findClass_of_methodNamed Bd.named
  have hnm := (name_of_methodNamed Bd.named Bd.method).1
  have X0 : Stand p l e ({ frames := 1, cells := 0, slots := 0, locals := 12 } : Room) s m #[(.ref a1), (.int (1 : Int32)), (.ref a2), (.int p3), (.int p4)] below meth c s₁ [] 0 0 := Stand.of_body Bd
  have e0 : s₁.heap = h0 := by rw [← hh, Bd.state]; rfl
  have N0 := Fr.nil n0
  have pre0 : ∀ t, Steps p.tables e below (s₁.setTop (mkF m 0 #[.val (.ref a1), .val (.int (1 : Int32)), .val (.ref a2), .val (.int p3), .val (.int p4)] [])) t → Steps p.tables e below (s₁.setTop (entryFrame m #[(.ref a1), (.int (1 : Int32)), (.ref a2), (.int p3), (.int p4)] 5)) t := fun t k => castTop (ef_rm2_0 m a1 a2 p3 p4) k
  obtain ⟨T1, X1, e1, st1⟩ := initO X0 hx hZ hown (hw _ (List.mem_of_getElem? (i := 15) rfl)) (hw _ (List.mem_of_getElem? (i := 16) rfl)) (hw _ (List.mem_of_getElem? (i := 17) rfl)) e0 (g := (mkF m 1 #[.val (.ref a1), .val (.int (1 : Int32)), .val (.ref a2), .val (.int p3), .val (.int p4)] [(.ref a1)])) rfl (by rw [hml]; rfl) rfl (hb hby d2_1) (by decide) (W := 0) (by show 2 * 0 + _ ≤ _; exact Nat.le_of_eq rfl) (by decide)
  obtain ⟨T2, h2, X2, e2, W2, st2⟩ := putF X1 hx hZ hown (host := "") (Or.inl (hw _ (List.mem_of_getElem? (i := 18) rfl))) Via.refl e1 F_exhaustivity_a1 E_a1 (Or.inr ⟨(hw _ (List.mem_of_getElem? (i := 19) rfl)), rfl, hnm⟩) (hw _ (List.mem_of_getElem? (i := 10) rfl)) (ty := .int) (by decide) rfl rfl (g := (mkF m 6 #[.val (.ref a1), .val (.int (1 : Int32)), .val (.ref a2), .val (.int p3), .val (.int p4)] [(.int (1 : Int32)), (.ref a1)])) rfl rfl (hb hby d2_6)
  have K2 : Keep h0 h2 [a1] := (Keep.refl h0 [a1]).wr W2 (Or.inl (List.mem_of_getElem? (i := 0) rfl))
  have N2 := Fr.snoc X2 N0 g_a1
  have cf3 := (F_mode_a1.other W2 (Or.inr (slot_ne (Or.inr (hw _ (List.mem_of_getElem? (i := 21) rfl))) (Or.inr (hw _ (List.mem_of_getElem? (i := 19) rfl))) (by decide) (t := (.object "com/example/cotejo/cotejo/optimize/Mode")) (t' := .int) (by decide) (by decide))))
  have cf4 := (F_retrieved_a1.other W2 (Or.inr (slot_ne (Or.inr (hw _ (List.mem_of_getElem? (i := 23) rfl))) (Or.inr (hw _ (List.mem_of_getElem? (i := 19) rfl))) (by decide) (t := .int) (t' := .int) (by decide) (by decide))))
  have cf5 := (F_relevant_a1.other W2 (Or.inr (slot_ne (Or.inr (hw _ (List.mem_of_getElem? (i := 25) rfl))) (Or.inr (hw _ (List.mem_of_getElem? (i := 19) rfl))) (by decide) (t := .int) (t' := .int) (by decide) (by decide))))
  have Fw2 := F_exhaustivity_a1.same W2
  obtain ⟨T6, h6, X6, e6, W6, st6⟩ := putF X2 hx hZ hown (host := "") (Or.inl (hw _ (List.mem_of_getElem? (i := 20) rfl))) Via.refl e2 cf3 (E_a1.wr W2) (Or.inr ⟨(hw _ (List.mem_of_getElem? (i := 21) rfl)), rfl, hnm⟩) (hw _ (List.mem_of_getElem? (i := 10) rfl)) (ty := (.object "com/example/cotejo/cotejo/optimize/Mode")) (by decide) rfl rfl (g := (mkF m 11 #[.val (.ref a1), .val (.int (1 : Int32)), .val (.ref a2), .val (.int p3), .val (.int p4)] [(.ref a2), (.ref a1)])) rfl rfl (hb hby d2_11)
  have K6 : Keep h0 h6 [a1] := K2.wr W6 (Or.inl (List.mem_of_getElem? (i := 0) rfl))
  have N6 := Fr.snoc X6 N2 g_a1
  have cf7 := (Fw2.other W6 (Or.inr (slot_ne (Or.inr (hw _ (List.mem_of_getElem? (i := 19) rfl))) (Or.inr (hw _ (List.mem_of_getElem? (i := 21) rfl))) (by decide) (t := .int) (t' := (.object "com/example/cotejo/cotejo/optimize/Mode")) (by decide) (by decide))))
  have cf8 := (cf4.other W6 (Or.inr (slot_ne (Or.inr (hw _ (List.mem_of_getElem? (i := 23) rfl))) (Or.inr (hw _ (List.mem_of_getElem? (i := 21) rfl))) (by decide) (t := .int) (t' := (.object "com/example/cotejo/cotejo/optimize/Mode")) (by decide) (by decide))))
  have cf9 := (cf5.other W6 (Or.inr (slot_ne (Or.inr (hw _ (List.mem_of_getElem? (i := 25) rfl))) (Or.inr (hw _ (List.mem_of_getElem? (i := 21) rfl))) (by decide) (t := .int) (t' := (.object "com/example/cotejo/cotejo/optimize/Mode")) (by decide) (by decide))))
  have Fw6 := cf3.same W6
  obtain ⟨T10, h10, X10, e10, W10, st10⟩ := putF X6 hx hZ hown (host := "") (Or.inl (hw _ (List.mem_of_getElem? (i := 22) rfl))) Via.refl e6 cf8 ((E_a1.wr W2).wr W6) (Or.inr ⟨(hw _ (List.mem_of_getElem? (i := 23) rfl)), rfl, hnm⟩) (hw _ (List.mem_of_getElem? (i := 10) rfl)) (ty := .int) (by decide) rfl rfl (g := (mkF m 16 #[.val (.ref a1), .val (.int (1 : Int32)), .val (.ref a2), .val (.int p3), .val (.int p4)] [(.int p3), (.ref a1)])) rfl rfl (hb hby d2_16)
  have K10 : Keep h0 h10 [a1] := K6.wr W10 (Or.inl (List.mem_of_getElem? (i := 0) rfl))
  have N10 := Fr.snoc X10 N6 g_a1
  have cf11 := (cf7.other W10 (Or.inr (slot_ne (Or.inr (hw _ (List.mem_of_getElem? (i := 19) rfl))) (Or.inr (hw _ (List.mem_of_getElem? (i := 23) rfl))) (by decide) (t := .int) (t' := .int) (by decide) (by decide))))
  have cf12 := (Fw6.other W10 (Or.inr (slot_ne (Or.inr (hw _ (List.mem_of_getElem? (i := 21) rfl))) (Or.inr (hw _ (List.mem_of_getElem? (i := 23) rfl))) (by decide) (t := (.object "com/example/cotejo/cotejo/optimize/Mode")) (t' := .int) (by decide) (by decide))))
  have cf13 := (cf9.other W10 (Or.inr (slot_ne (Or.inr (hw _ (List.mem_of_getElem? (i := 25) rfl))) (Or.inr (hw _ (List.mem_of_getElem? (i := 23) rfl))) (by decide) (t := .int) (t' := .int) (by decide) (by decide))))
  have cf14 := (((E_a1.wr W2).wr W6).wr W10)
  have Fw10 := cf8.same W10
  obtain ⟨T15, h15, X15, e15, W15, st15⟩ := putF X10 hx hZ hown (host := "") (Or.inl (hw _ (List.mem_of_getElem? (i := 24) rfl))) Via.refl e10 cf13 cf14 (Or.inr ⟨(hw _ (List.mem_of_getElem? (i := 25) rfl)), rfl, hnm⟩) (hw _ (List.mem_of_getElem? (i := 10) rfl)) (ty := .int) (by decide) rfl rfl (g := (mkF m 22 #[.val (.ref a1), .val (.int (1 : Int32)), .val (.ref a2), .val (.int p3), .val (.int p4)] [(.int p4), (.ref a1)])) rfl rfl (hb hby d2_22)
  have K15 : Keep h0 h15 [a1] := K10.wr W15 (Or.inl (List.mem_of_getElem? (i := 0) rfl))
  have N15 := Fr.snoc X15 N10 g_a1
  have cf16 := (cf11.other W15 (Or.inr (slot_ne (Or.inr (hw _ (List.mem_of_getElem? (i := 19) rfl))) (Or.inr (hw _ (List.mem_of_getElem? (i := 25) rfl))) (by decide) (t := .int) (t' := .int) (by decide) (by decide))))
  have cf17 := (cf12.other W15 (Or.inr (slot_ne (Or.inr (hw _ (List.mem_of_getElem? (i := 21) rfl))) (Or.inr (hw _ (List.mem_of_getElem? (i := 25) rfl))) (by decide) (t := (.object "com/example/cotejo/cotejo/optimize/Mode")) (t' := .int) (by decide) (by decide))))
  have cf18 := (Fw10.other W15 (Or.inr (slot_ne (Or.inr (hw _ (List.mem_of_getElem? (i := 23) rfl))) (Or.inr (hw _ (List.mem_of_getElem? (i := 25) rfl))) (by decide) (t := .int) (t' := .int) (by decide) (by decide))))
  have Fw15 := cf13.same W15
  obtain ⟨fs, hr, hrun, hended, hW, hsame⟩ := X15.leave (v := none) (fun _ => rfl)
  refine ⟨_, _, pre0 _ ?_, hrun, hended, _, _, rfl, ?_, ⟨_, rfl⟩, hW, hsame.mono (by decide) (by decide)⟩
  ·
    show Steps p.tables e below (s₁.setTop (mkF m 0 #[.val (.ref a1), .val (.int (1 : Int32)), .val (.ref a2), .val (.int p3), .val (.int p4)] [])) _
    refine XS.aloadN X0.here hx rfl (hb hby d2_0) rfl rfl ?_
    show Steps p.tables e below (s₁.setTop (mkF m 1 #[.val (.ref a1), .val (.int (1 : Int32)), .val (.ref a2), .val (.int p3), .val (.int p4)] [(.ref a1)])) _
    refine st1 _ ?_
    show Steps p.tables e below (T1.setTop (mkF m 4 #[.val (.ref a1), .val (.int (1 : Int32)), .val (.ref a2), .val (.int p3), .val (.int p4)] [])) _
    refine XS.aloadN X1.here hx rfl (hb hby d2_4) rfl rfl ?_
    show Steps p.tables e below (T1.setTop (mkF m 5 #[.val (.ref a1), .val (.int (1 : Int32)), .val (.ref a2), .val (.int p3), .val (.int p4)] [(.ref a1)])) _
    refine XS.iloadN X1.here hx rfl (hb hby d2_5) rfl ?_
    show Steps p.tables e below (T1.setTop (mkF m 6 #[.val (.ref a1), .val (.int (1 : Int32)), .val (.ref a2), .val (.int p3), .val (.int p4)] [(.int (1 : Int32)), (.ref a1)])) _
    refine st2 _ ?_
    show Steps p.tables e below (T2.setTop (mkF m 9 #[.val (.ref a1), .val (.int (1 : Int32)), .val (.ref a2), .val (.int p3), .val (.int p4)] [])) _
    refine XS.aloadN X2.here hx rfl (hb hby d2_9) rfl rfl ?_
    show Steps p.tables e below (T2.setTop (mkF m 10 #[.val (.ref a1), .val (.int (1 : Int32)), .val (.ref a2), .val (.int p3), .val (.int p4)] [(.ref a1)])) _
    refine XS.aloadN X2.here hx rfl (hb hby d2_10) rfl rfl ?_
    show Steps p.tables e below (T2.setTop (mkF m 11 #[.val (.ref a1), .val (.int (1 : Int32)), .val (.ref a2), .val (.int p3), .val (.int p4)] [(.ref a2), (.ref a1)])) _
    refine st6 _ ?_
    show Steps p.tables e below (T6.setTop (mkF m 14 #[.val (.ref a1), .val (.int (1 : Int32)), .val (.ref a2), .val (.int p3), .val (.int p4)] [])) _
    refine XS.aloadN X6.here hx rfl (hb hby d2_14) rfl rfl ?_
    show Steps p.tables e below (T6.setTop (mkF m 15 #[.val (.ref a1), .val (.int (1 : Int32)), .val (.ref a2), .val (.int p3), .val (.int p4)] [(.ref a1)])) _
    refine XS.iloadN X6.here hx rfl (hb hby d2_15) rfl ?_
    show Steps p.tables e below (T6.setTop (mkF m 16 #[.val (.ref a1), .val (.int (1 : Int32)), .val (.ref a2), .val (.int p3), .val (.int p4)] [(.int p3), (.ref a1)])) _
    refine st10 _ ?_
    show Steps p.tables e below (T10.setTop (mkF m 19 #[.val (.ref a1), .val (.int (1 : Int32)), .val (.ref a2), .val (.int p3), .val (.int p4)] [])) _
    refine XS.aloadN X10.here hx rfl (hb hby d2_19) rfl rfl ?_
    show Steps p.tables e below (T10.setTop (mkF m 20 #[.val (.ref a1), .val (.int (1 : Int32)), .val (.ref a2), .val (.int p3), .val (.int p4)] [(.ref a1)])) _
    refine XS.iload X10.here hx rfl (hb hby d2_20) rfl ?_
    show Steps p.tables e below (T10.setTop (mkF m 22 #[.val (.ref a1), .val (.int (1 : Int32)), .val (.ref a2), .val (.int p3), .val (.int p4)] [(.int p4), (.ref a1)])) _
    refine st15 _ ?_
    show Steps p.tables e below (T15.setTop (mkF m 25 #[.val (.ref a1), .val (.int (1 : Int32)), .val (.ref a2), .val (.int p3), .val (.int p4)] [])) _
    exact X15.returnOut hx Bd.returns (hb hby d2_25) hr
  · show Q2_0 Z a1 a2 p3 p4 h0 n0 _ T15.heap _
    rw [e15]
    exact ⟨rfl, N15, K15, (cf14.wr W15), cf16, cf17, cf18, Fw15⟩
theorem pd_0 : parseMethodDescriptor "(ILcom/example/cotejo/cotejo/optimize/Mode;II)V" = some ⟨[.int, (.object "com/example/cotejo/cotejo/optimize/Mode"), .int, .int], none⟩ := by decide +kernel
theorem d1_11 : decode method_2_code 11 = .ok (.invokevirtual 12, 3) := by decide +kernel
theorem d4_0 : decode prog_58_method_6_code 0 = .ok (.aload_n 0, 1) := by decide +kernel
theorem d4_1 : decode prog_58_method_6_code 1 = .ok (.getfield 17, 3) := by decide +kernel
theorem d4_4 : decode prog_58_method_6_code 4 = .ok (.ifCond .ne 7, 3) := by decide +kernel
theorem d4_7 : decode prog_58_method_6_code 7 = .ok (.dconst 0, 1) := by decide +kernel
theorem d4_8 : decode prog_58_method_6_code 8 = .ok (.goto 14, 3) := by decide +kernel
theorem d4_22 : decode prog_58_method_6_code 22 = .ok (.dreturn, 1) := by decide +kernel
theorem d4_11 : decode prog_58_method_6_code 11 = .ok (.aload_n 0, 1) := by decide +kernel
theorem d4_12 : decode prog_58_method_6_code 12 = .ok (.getfield 20, 3) := by decide +kernel
theorem d4_15 : decode prog_58_method_6_code 15 = .ok (.i2d, 1) := by decide +kernel
theorem d4_16 : decode prog_58_method_6_code 16 = .ok (.aload_n 0, 1) := by decide +kernel
theorem d4_17 : decode prog_58_method_6_code 17 = .ok (.getfield 17, 3) := by decide +kernel
theorem d4_20 : decode prog_58_method_6_code 20 = .ok (.i2d, 1) := by decide +kernel
theorem d4_21 : decode prog_58_method_6_code 21 = .ok (.ddiv, 1) := by decide +kernel
theorem ef_rm4_0 (m : MethodId) (x0 : Addr) : entryFrame m #[(.ref x0)] 1 = mkF m 0 #[.val (.ref x0)] [] := by first | (simp [entryFrame, mkF, argsToLocals, Value.category]; done) | rfl
def Q4_0 (Z : State) (a1 : Addr) (p3 : Int32) (p4 : Int32) (h0 : Heap) (n0 : Nat) (v : Option Value) (h : Heap) (L : List Loc) : Prop := v = some (.double (FP.Core.own_pr p3 p4)) ∧ Fr n0 L ∧ h = h0
set_option maxRecDepth 65536 in
set_option maxHeartbeats 40000000 in
theorem rm4_0 (l : Launch) (Z : State) (a0 : Array Value) (hw : ∀ d ∈ tables_1, d.before a0 Z = true) (ws : List Jvm.Cond) (a1 : Addr) (p3 : Int32) (p4 : Int32) (h0 : Heap) (n0 : Nat) (Z0 : n0 ≤ h0.size) (F_retrieved_a1 : Fld Z h0 a1 "com/example/cotejo/cotejo/optimize/OptimalQuery" "retrieved" "I" (.int p3)) (F_relevant_a1 : Fld Z h0 a1 "com/example/cotejo/cotejo/optimize/OptimalQuery" "relevant" "I" (.int p4)) :
    MetFree l (⟨"com/example/cotejo/cotejo/optimize/OptimalQuery", "precision", "()D"⟩ : MethodName) (head1 (Jvm.Cond.code (⟨"com/example/cotejo/cotejo/optimize/OptimalQuery", "precision", "()D"⟩ : MethodName) prog_58_method_6_code 1 (some .double) :: ws) ({ frames := 0, cells := 0, slots := 0, locals := 0 } : Room)) (fun a U => a = #[(.ref a1)] ∧ Z.Warmed39 U.vm ∧ U.heap = h0) (fun _ _ _ _ _ => True) (fun _ U o U' => ∃ v L, o = .returned v ∧ Q4_0 Z a1 p3 p4 h0 n0 v U'.heap L ∧ FrameEnd U o U' L ({ frames := 0, cells := 0, slots := 0, locals := 0 } : Room).cells ({ frames := 0, cells := 0, slots := 0, locals := 0 } : Room).slots) := by
  refine MetFree.of_bodySF (plainFor_of_name pn_0) hisR ?_
  intro p e s m args below meth c s₁ Bd hml0 hP hK
  obtain ⟨rfl, hZ, hh⟩ := hP
  have hx := Bd.exec
  have hby := Bd.bytes
  have hml : c.maxLocals = 1 := hml0
  have hown : s.vm.findClass "com/example/cotejo/cotejo/optimize/OptimalQuery" = some m.cls := findClass_of_methodNamed Bd.named
  have hnm := (name_of_methodNamed Bd.named Bd.method).1
  have X0 : Stand p l e ({ frames := 0, cells := 0, slots := 0, locals := 0 } : Room) s m #[(.ref a1)] below meth c s₁ [] 0 0 := Stand.of_body Bd
  have e0 : s₁.heap = h0 := by rw [← hh, Bd.state]; rfl
  have N0 := Fr.nil n0
  have pre0 : ∀ t, Steps p.tables e below (s₁.setTop (mkF m 0 #[.val (.ref a1)] [])) t → Steps p.tables e below (s₁.setTop (entryFrame m #[(.ref a1)] 1)) t := fun t k => castTop (ef_rm4_0 m a1) k
  obtain ⟨T1, X1, e1, st1⟩ := getF X0 hx hZ hown (host := "") (Or.inl (hw _ (List.mem_of_getElem? (i := 22) rfl))) Via.refl e0 F_retrieved_a1 (g := (mkF m 1 #[.val (.ref a1)] [(.ref a1)])) rfl rfl (hb hby d4_1)
  have k2 : ∀ t, Steps p.tables e below (T1.setTop (mkF m 4 #[.val (.ref a1)] [(.int p3)])) t → Steps p.tables e below (s₁.setTop (entryFrame m #[(.ref a1)] 1)) t := by
    intro t k
    refine pre0 t ?_
    show Steps p.tables e below (s₁.setTop (mkF m 0 #[.val (.ref a1)] [])) _
    refine XS.aloadN X0.here hx rfl (hb hby d4_0) rfl rfl ?_
    show Steps p.tables e below (s₁.setTop (mkF m 1 #[.val (.ref a1)] [(.ref a1)])) _
    refine st1 _ ?_
    exact k
  by_cases hc4_1 : p3 = (0 : Int32)
  ·
    obtain ⟨fs, hr, hrun, hended, hW, hsame⟩ := X1.leave (v := some (.double FP.dconst0)) (fun h => by rw [Bd.returns] at h; cases h)
    refine ⟨_, _, k2 _ ?_, hrun, hended, _, _, rfl, ?_, ⟨_, rfl⟩, hW, hsame.mono (by decide) (by decide)⟩
    ·
      show Steps p.tables e below (T1.setTop (mkF m 4 #[.val (.ref a1)] [(.int p3)])) _
      refine XS.ifNo X1.here hx rfl (hb hby d4_4) rfl ((if0 _ _).trans (teq hc4_1).2) ?_
      show Steps p.tables e below (T1.setTop (mkF m 7 #[.val (.ref a1)] [])) _
      refine XS.dconst0 X1.here hx rfl (hb hby d4_7) (v := FP.dconst0) rfl ?_
      show Steps p.tables e below (T1.setTop (mkF m 8 #[.val (.ref a1)] [(.double FP.dconst0)])) _
      refine XS.goto X1.here hx rfl (pc0 := 8) (pc' := 22) rfl (hb hby d4_8) (by decide) (by decide) ?_
      show Steps p.tables e below (T1.setTop (mkF m 22 #[.val (.ref a1)] [(.double FP.dconst0)])) _
      jvm_step X1.here [X1.here.top, hx, (hb hby d4_22), X1.method', Bd.returns, narrow]
      first | (intro acts; rw [hr _ acts rfl rfl rfl]) | rw [hr _ _ rfl rfl rfl]
      exact Steps.refl _
    · show Q4_0 Z a1 p3 p4 h0 n0 _ T1.heap _
      rw [e1]
      exact ⟨(by unfold FP.Core.own_pr; rw [if_pos hc4_1]), N0, rfl⟩
  ·
    obtain ⟨T3, X3, e3, st3⟩ := getF X1 hx hZ hown (host := "") (Or.inl (hw _ (List.mem_of_getElem? (i := 24) rfl))) Via.refl e1 F_relevant_a1 (g := (mkF m 12 #[.val (.ref a1)] [(.ref a1)])) rfl rfl (hb hby d4_12)
    obtain ⟨T4, X4, e4, st4⟩ := getF X3 hx hZ hown (host := "") (Or.inl (hw _ (List.mem_of_getElem? (i := 22) rfl))) Via.refl e3 F_retrieved_a1 (g := (mkF m 17 #[.val (.ref a1)] [(.ref a1), (.double (FP.i2d p4))])) rfl rfl (hb hby d4_17)
    obtain ⟨fs, hr, hrun, hended, hW, hsame⟩ := X4.leave (v := some (.double (FP.ddiv (FP.i2d p4) (FP.i2d p3)))) (fun h => by rw [Bd.returns] at h; cases h)
    refine ⟨_, _, k2 _ ?_, hrun, hended, _, _, rfl, ?_, ⟨_, rfl⟩, hW, hsame.mono (by decide) (by decide)⟩
    ·
      show Steps p.tables e below (T1.setTop (mkF m 4 #[.val (.ref a1)] [(.int p3)])) _
      refine XS.ifYes X1.here hx rfl (pc0 := 4) (pc' := 11) rfl (hb hby d4_4) rfl ((if0 _ _).trans (feq hc4_1).2) (by decide) (by decide) ?_
      show Steps p.tables e below (T1.setTop (mkF m 11 #[.val (.ref a1)] [])) _
      refine XS.aloadN X1.here hx rfl (hb hby d4_11) rfl rfl ?_
      show Steps p.tables e below (T1.setTop (mkF m 12 #[.val (.ref a1)] [(.ref a1)])) _
      refine st3 _ ?_
      show Steps p.tables e below (T3.setTop (mkF m 15 #[.val (.ref a1)] [(.int p4)])) _
      refine XS.i2dS X3.here hx rfl (hb hby d4_15) rfl (v := (FP.i2d p4)) rfl ?_
      show Steps p.tables e below (T3.setTop (mkF m 16 #[.val (.ref a1)] [(.double (FP.i2d p4))])) _
      refine XS.aloadN X3.here hx rfl (hb hby d4_16) rfl rfl ?_
      show Steps p.tables e below (T3.setTop (mkF m 17 #[.val (.ref a1)] [(.ref a1), (.double (FP.i2d p4))])) _
      refine st4 _ ?_
      show Steps p.tables e below (T4.setTop (mkF m 20 #[.val (.ref a1)] [(.int p3), (.double (FP.i2d p4))])) _
      refine XS.i2dS X4.here hx rfl (hb hby d4_20) rfl (v := (FP.i2d p3)) rfl ?_
      show Steps p.tables e below (T4.setTop (mkF m 21 #[.val (.ref a1)] [(.double (FP.i2d p3)), (.double (FP.i2d p4))])) _
      refine XS.ddivS X4.here hx rfl (hb hby d4_21) rfl (own_dnn _ hc4_1) (v := (FP.ddiv (FP.i2d p4) (FP.i2d p3))) rfl ?_
      show Steps p.tables e below (T4.setTop (mkF m 22 #[.val (.ref a1)] [(.double (FP.ddiv (FP.i2d p4) (FP.i2d p3)))])) _
      jvm_step X4.here [X4.here.top, hx, (hb hby d4_22), X4.method', Bd.returns, narrow]
      first | (intro acts; rw [hr _ acts rfl rfl rfl]) | rw [hr _ _ rfl rfl rfl]
      exact Steps.refl _
    · show Q4_0 Z a1 p3 p4 h0 n0 _ T4.heap _
      rw [e4]
      exact ⟨(by unfold FP.Core.own_pr; rw [if_neg hc4_1]), N0, rfl⟩
theorem pd_1 : parseMethodDescriptor "()D" = some ⟨[], some .double⟩ := by decide +kernel
theorem d1_14 : decode method_2_code 14 = .ok (.dreturn, 1) := by decide +kernel
theorem pn_1 : plainName "com/example/cotejo/cotejo/optimize/OptimalQueryPrecisionPinLaw" = true := by first | (simp [plainName, overriddenIn]; done) | decide +kernel
theorem ef_rm1_0 (m : MethodId) (x0 : Int32) (x1 : Int32) (x2 : Addr) : entryFrame m #[(.int x0), (.int x1), (.ref x2)] 3 = mkF m 0 #[.val (.int x0), .val (.int x1), .val (.ref x2)] [] := by first | (simp [entryFrame, mkF, argsToLocals, Value.category]; done) | rfl
def Q1_0 (Z : State) (p1 : Int32) (p2 : Int32) (a3 : Addr) (h0 : Heap) (n0 : Nat) (v : Option Value) (h : Heap) (L : List Loc) : Prop := v = some (.double (FP.Core.own_pr p1 p2)) ∧ Fr n0 L ∧ Keep h0 h []
set_option maxRecDepth 65536 in
set_option maxHeartbeats 40000000 in
theorem rm1_0 (l : Launch) (Z : State) (a0 : Array Value) (hw : ∀ d ∈ tables_1, d.before a0 Z = true) (ws : List Jvm.Cond) (p1 : Int32) (p2 : Int32) (a3 : Addr) (h0 : Heap) (n0 : Nat) (Z0 : n0 ≤ h0.size) :
    MetFree l (⟨"com/example/cotejo/cotejo/optimize/OptimalQueryPrecisionPinLaw", "prec", "(IILcom/example/cotejo/cotejo/optimize/Mode;)D"⟩ : MethodName) (head1 (Jvm.Cond.code (⟨"com/example/cotejo/cotejo/optimize/OptimalQueryPrecisionPinLaw", "prec", "(IILcom/example/cotejo/cotejo/optimize/Mode;)D"⟩ : MethodName) method_2_code 3 (some .double) :: ws) ({ frames := 2, cells := 1, slots := 4, locals := 29 } : Room)) (fun a U => a = #[(.int p1), (.int p2), (.ref a3)] ∧ Z.Warmed39 U.vm ∧ U.heap = h0) (fun _ _ _ _ _ => True) (fun _ U o U' => ∃ v L, o = .returned v ∧ Q1_0 Z p1 p2 a3 h0 n0 v U'.heap L ∧ FrameEnd U o U' L ({ frames := 2, cells := 1, slots := 4, locals := 29 } : Room).cells ({ frames := 2, cells := 1, slots := 4, locals := 29 } : Room).slots) := by
  refine MetFree.of_bodySF (plainFor_of_name pn_1) hisR ?_
  intro p e s m args below meth c s₁ Bd hml0 hP hK
  obtain ⟨rfl, hZ, hh⟩ := hP
  have hx := Bd.exec
  have hby := Bd.bytes
  have hml : c.maxLocals = 3 := hml0
  have hown : s.vm.findClass "com/example/cotejo/cotejo/optimize/OptimalQueryPrecisionPinLaw" = some m.cls := findClass_of_methodNamed Bd.named
  have hnm := (name_of_methodNamed Bd.named Bd.method).1
  have X0 : Stand p l e ({ frames := 2, cells := 1, slots := 4, locals := 29 } : Room) s m #[(.int p1), (.int p2), (.ref a3)] below meth c s₁ [] 0 0 := Stand.of_body Bd
  have e0 : s₁.heap = h0 := by rw [← hh, Bd.state]; rfl
  have N0 := Fr.nil n0
  have pre0 : ∀ t, Steps p.tables e below (s₁.setTop (mkF m 0 #[.val (.int p1), .val (.int p2), .val (.ref a3)] [])) t → Steps p.tables e below (s₁.setTop (entryFrame m #[(.int p1), (.int p2), (.ref a3)] 3)) t := fun t k => castTop (ef_rm1_0 m p1 p2 a3) k
  obtain ⟨T1, h1, X1, e1, E1, A1, D1, -, st1⟩ := newO X0 hx hZ hown (hw _ (List.mem_of_getElem? (i := 9) rfl)) (hw _ (List.mem_of_getElem? (i := 10) rfl)) (hw _ (List.mem_of_getElem? (i := 11) rfl)) e0 (g := (mkF m 0 #[.val (.int p1), .val (.int p2), .val (.ref a3)] [])) rfl (hb hby d1_0) (by decide) (by decide)
  obtain ⟨b1, g1⟩ : ∃ z, z = h0.size := ⟨_, rfl⟩
  rw [← g1] at A1 D1 st1
  have g_b1 : n0 ≤ b1 := Nat.le_trans Z0 (Nat.le_of_eq g1.symm)
  have sz_b1 : h0.size ≤ b1 := Nat.le_of_eq g1.symm
  have K1 : Keep h0 h1 [] := (Keep.refl h0 []).ext E1
  have F_exhaustivity_b1 : Fld Z h1 b1 "com/example/cotejo/cotejo/optimize/OptimalQuery" "exhaustivity" "I" (.int (0 : Int32)) := D1 (Or.inr (hw _ (List.mem_of_getElem? (i := 19) rfl))) (ty := .int) (by decide)
  have F_mode_b1 : Fld Z h1 b1 "com/example/cotejo/cotejo/optimize/OptimalQuery" "mode" "Lcom/example/cotejo/cotejo/optimize/Mode;" .null := D1 (Or.inr (hw _ (List.mem_of_getElem? (i := 21) rfl))) (ty := (.object "com/example/cotejo/cotejo/optimize/Mode")) (by decide)
  have F_retrieved_b1 : Fld Z h1 b1 "com/example/cotejo/cotejo/optimize/OptimalQuery" "retrieved" "I" (.int (0 : Int32)) := D1 (Or.inr (hw _ (List.mem_of_getElem? (i := 23) rfl))) (ty := .int) (by decide)
  have F_relevant_b1 : Fld Z h1 b1 "com/example/cotejo/cotejo/optimize/OptimalQuery" "relevant" "I" (.int (0 : Int32)) := D1 (Or.inr (hw _ (List.mem_of_getElem? (i := 25) rfl))) (ty := .int) (by decide)
  obtain ⟨_, _, ⟨T2, L2, k2, n2⟩, -, X2, ⟨Lc2, hQ2, l2, y2, z2⟩, st2⟩ := X1.specialBack hx (y := (⟨"com/example/cotejo/cotejo/optimize/OptimalQuery", "<init>", "(ILcom/example/cotejo/cotejo/optimize/Mode;II)V"⟩ : MethodName)) rfl hown (mvT hZ (hw _ (List.mem_of_getElem? (i := 12) rfl))) (mvT hZ (hw _ (List.mem_of_getElem? (i := 13) rfl))) (mvT hZ (hw _ (List.mem_of_getElem? (i := 14) rfl))) (by decide) (backOf (W := 1) (rm2_0 l Z a0 hw [] b1 a3 p1 p2 h1 n0 (Nat.le_trans Z0 K1.1) A1 F_exhaustivity_b1 F_mode_b1 F_retrieved_b1 F_relevant_b1 g_b1) hZ (hw _ (List.mem_of_getElem? (i := 14) rfl)) (hw _ (List.mem_of_getElem? (i := 11) rfl)) (by decide) (by decide)) (g := (mkF m 8 #[.val (.int p1), .val (.int p2), .val (.ref a3)] [(.int p2), (.int p1), (.ref a3), (.int (1 : Int32)), (.ref b1), (.ref b1)])) rfl (by rw [hml]; rfl) (Steps.refl _) (a := b1) (argsL := [(.int (1 : Int32)), (.ref a3), (.int p1), (.int p2)]) (rest := [(.ref b1)]) (lenOf pd_0 rfl) rfl (by show 2 * 0 + _ ≤ _; exact Nat.le_of_eq rfl) (hb hby d1_8) (fun _ _ => ⟨rfl, e1, (by decide : 1 + 0 ≤ _), (by decide : 4 + 0 ≤ _)⟩)
  dsimp only [Pt.U, Pt.locs, Pt.cells, Pt.slots] at X2 l2 y2 z2 st2 hQ2
  subst l2 y2 z2
  obtain ⟨rfl, N2q, K2q, Fq2_0, Fq2_1, Fq2_2, Fq2_3, Fq2_4⟩ := hQ2
  have N2 := Fr.app N0 N2q
  have K2 : Keep h0 T2.heap [] := Keep.trans K1 K2q (allS (Or.inr sz_b1) all0)
  obtain ⟨cq3, kq3, q3a, q3b, q3c⟩ := isOf hZ rfl Fq2_0
  obtain ⟨_, _, ⟨T3, L3, k3, n3⟩, -, X3, ⟨Lc3, hQ3, l3, y3, z3⟩, st3⟩ := X2.virtualBack hx (y := (⟨"com/example/cotejo/cotejo/optimize/OptimalQuery", "precision", "()D"⟩ : MethodName)) (z := (⟨"com/example/cotejo/cotejo/optimize/OptimalQuery", "precision", "()D"⟩ : MethodName)) hown (mvT hZ (hw _ (List.mem_of_getElem? (i := 26) rfl))) (mvT hZ (hw _ (List.mem_of_getElem? (i := 27) rfl))) (notFace_of_selects (args := #[]) (mvT hZ (hw _ (List.mem_of_getElem? (i := 29) rfl)))) (mvT hZ (hw _ (List.mem_of_getElem? (i := 29) rfl))) (mvT hZ (hw _ (List.mem_of_getElem? (i := 28) rfl))) (by decide) (backOf (W := 0) (rm4_0 l Z a0 hw [] b1 p1 p2 T2.heap n0 (Nat.le_trans Z0 K2.1) Fq2_3 Fq2_4) hZ (hw _ (List.mem_of_getElem? (i := 30) rfl)) (hw _ (List.mem_of_getElem? (i := 11) rfl)) (by decide) (by decide)) q3a q3c (g := (mkF m 11 #[.val (.int p1), .val (.int p2), .val (.ref a3)] [(.ref b1)])) rfl (by rw [hml]; rfl) (Steps.refl _) (argsL := []) (rest := []) (lenOf pd_1 rfl) rfl (by show 2 * 0 + _ ≤ _; exact Nat.le_of_eq rfl) (hb hby d1_11) (fun _ _ => ⟨rfl, rfl, (by decide : 1 + 0 ≤ _), (by decide : 4 + 0 ≤ _)⟩)
  dsimp only [Pt.U, Pt.locs, Pt.cells, Pt.slots] at X3 l3 y3 z3 st3 hQ3
  subst l3 y3 z3
  obtain ⟨rfl, N3q, e3⟩ := hQ3
  have N3 := Fr.app N2 N3q
  obtain ⟨fs, hr, hrun, hended, hW, hsame⟩ := X3.leave (v := some (.double (FP.Core.own_pr p1 p2))) (fun h => by rw [Bd.returns] at h; cases h)
  refine ⟨_, _, pre0 _ ?_, hrun, hended, _, _, rfl, ?_, ⟨_, rfl⟩, hW, hsame.mono (by decide) (by decide)⟩
  ·
    show Steps p.tables e below (s₁.setTop (mkF m 0 #[.val (.int p1), .val (.int p2), .val (.ref a3)] [])) _
    refine st1 _ ?_
    show Steps p.tables e below (T1.setTop (mkF m 3 #[.val (.int p1), .val (.int p2), .val (.ref a3)] [(.ref b1)])) _
    refine XS.dup X1.here hx rfl (hb hby d1_3) rfl rfl ?_
    show Steps p.tables e below (T1.setTop (mkF m 4 #[.val (.int p1), .val (.int p2), .val (.ref a3)] [(.ref b1), (.ref b1)])) _
    refine XS.iconst X1.here hx rfl (hb hby d1_4) ?_
    show Steps p.tables e below (T1.setTop (mkF m 5 #[.val (.int p1), .val (.int p2), .val (.ref a3)] [(.int (1 : Int32)), (.ref b1), (.ref b1)])) _
    refine XS.aloadN X1.here hx rfl (hb hby d1_5) rfl rfl ?_
    show Steps p.tables e below (T1.setTop (mkF m 6 #[.val (.int p1), .val (.int p2), .val (.ref a3)] [(.ref a3), (.int (1 : Int32)), (.ref b1), (.ref b1)])) _
    refine XS.iloadN X1.here hx rfl (hb hby d1_6) rfl ?_
    show Steps p.tables e below (T1.setTop (mkF m 7 #[.val (.int p1), .val (.int p2), .val (.ref a3)] [(.int p1), (.ref a3), (.int (1 : Int32)), (.ref b1), (.ref b1)])) _
    refine XS.iloadN X1.here hx rfl (hb hby d1_7) rfl ?_
    show Steps p.tables e below (T1.setTop (mkF m 8 #[.val (.int p1), .val (.int p2), .val (.ref a3)] [(.int p2), (.int p1), (.ref a3), (.int (1 : Int32)), (.ref b1), (.ref b1)])) _
    refine st2.trans ?_
    show Steps p.tables e below (T2.setTop (mkF m 11 #[.val (.int p1), .val (.int p2), .val (.ref a3)] [(.ref b1)])) _
    refine st3.trans ?_
    show Steps p.tables e below (T3.setTop (mkF m 14 #[.val (.int p1), .val (.int p2), .val (.ref a3)] [(.double (FP.Core.own_pr p1 p2))])) _
    jvm_step X3.here [X3.here.top, hx, (hb hby d1_14), X3.method', Bd.returns, narrow]
    first | (intro acts; rw [hr _ acts rfl rfl rfl]) | rw [hr _ _ rfl rfl rfl]
    exact Steps.refl _
  · show Q1_0 Z p1 p2 a3 h0 n0 _ T3.heap _
    rw [e3]
    exact ⟨rfl, N3, K2⟩
theorem pd_2 : parseMethodDescriptor "(IILcom/example/cotejo/cotejo/optimize/Mode;)D" = some ⟨[.int, .int, (.object "com/example/cotejo/cotejo/optimize/Mode")], some .double⟩ := by decide +kernel
theorem d5_0 : decode method_3_code 0 = .ok (.iload_n 0, 1) := by decide +kernel
theorem d5_1 : decode method_3_code 1 = .ok (.ifCond .ne 15, 3) := by decide +kernel
theorem d5_4 : decode method_3_code 4 = .ok (.dload_n 2, 1) := by decide +kernel
theorem d5_5 : decode method_3_code 5 = .ok (.dconst 0, 1) := by decide +kernel
theorem d5_6 : decode method_3_code 6 = .ok (.dcmp .l, 1) := by decide +kernel
theorem d5_7 : decode method_3_code 7 = .ok (.ifCond .ne 7, 3) := by decide +kernel
theorem d5_10 : decode method_3_code 10 = .ok (.iconst 1, 1) := by decide +kernel
theorem d5_11 : decode method_3_code 11 = .ok (.goto 4, 3) := by decide +kernel
theorem d5_15 : decode method_3_code 15 = .ok (.ireturn, 1) := by decide +kernel
theorem d5_16 : decode method_3_code 16 = .ok (.dload_n 2, 1) := by decide +kernel
theorem d5_17 : decode method_3_code 17 = .ok (.dconst 0, 1) := by decide +kernel
theorem d5_18 : decode method_3_code 18 = .ok (.dcmp .l, 1) := by decide +kernel
theorem d5_19 : decode method_3_code 19 = .ok (.ifCond .lt 60, 3) := by decide +kernel
theorem d5_22 : decode method_3_code 22 = .ok (.dload_n 2, 1) := by decide +kernel
theorem d5_23 : decode method_3_code 23 = .ok (.dconst 1, 1) := by decide +kernel
theorem d5_24 : decode method_3_code 24 = .ok (.dcmp .g, 1) := by decide +kernel
theorem d5_25 : decode method_3_code 25 = .ok (.ifCond .gt 54, 3) := by decide +kernel
theorem d5_28 : decode method_3_code 28 = .ok (.dload_n 2, 1) := by decide +kernel
theorem d5_29 : decode method_3_code 29 = .ok (.dconst 1, 1) := by decide +kernel
theorem d5_30 : decode method_3_code 30 = .ok (.dcmp .l, 1) := by decide +kernel
theorem d5_31 : decode method_3_code 31 = .ok (.ifCond .ne 7, 3) := by decide +kernel
theorem d5_34 : decode method_3_code 34 = .ok (.iconst 1, 1) := by decide +kernel
theorem d5_35 : decode method_3_code 35 = .ok (.goto 4, 3) := by decide +kernel
theorem d5_39 : decode method_3_code 39 = .ok (.iload_n 1, 1) := by decide +kernel
theorem d5_40 : decode method_3_code 40 = .ok (.iload_n 0, 1) := by decide +kernel
theorem d5_41 : decode method_3_code 41 = .ok (.if_icmp .ne 7, 3) := by decide +kernel
theorem d5_44 : decode method_3_code 44 = .ok (.iconst 1, 1) := by decide +kernel
theorem d5_45 : decode method_3_code 45 = .ok (.goto 4, 3) := by decide +kernel
theorem d5_49 : decode method_3_code 49 = .ok (.if_icmp .ne 30, 3) := by decide +kernel
theorem d5_52 : decode method_3_code 52 = .ok (.dload_n 2, 1) := by decide +kernel
theorem d5_53 : decode method_3_code 53 = .ok (.dconst 0, 1) := by decide +kernel
theorem d5_54 : decode method_3_code 54 = .ok (.dcmp .l, 1) := by decide +kernel
theorem d5_55 : decode method_3_code 55 = .ok (.ifCond .ne 7, 3) := by decide +kernel
theorem d5_58 : decode method_3_code 58 = .ok (.iconst 1, 1) := by decide +kernel
theorem d5_59 : decode method_3_code 59 = .ok (.goto 4, 3) := by decide +kernel
theorem d5_63 : decode method_3_code 63 = .ok (.iload_n 1, 1) := by decide +kernel
theorem d5_64 : decode method_3_code 64 = .ok (.ifCond .ne 7, 3) := by decide +kernel
theorem d5_67 : decode method_3_code 67 = .ok (.iconst 1, 1) := by decide +kernel
theorem d5_68 : decode method_3_code 68 = .ok (.goto 4, 3) := by decide +kernel
theorem d5_72 : decode method_3_code 72 = .ok (.if_icmp .ne 7, 3) := by decide +kernel
theorem d5_75 : decode method_3_code 75 = .ok (.iconst 1, 1) := by decide +kernel
theorem d5_76 : decode method_3_code 76 = .ok (.goto 4, 3) := by decide +kernel
theorem d5_80 : decode method_3_code 80 = .ok (.ireturn, 1) := by decide +kernel
theorem d5_62 : decode method_3_code 62 = .ok (.iconst 0, 1) := by decide +kernel
theorem d5_71 : decode method_3_code 71 = .ok (.iconst 0, 1) := by decide +kernel
theorem d5_38 : decode method_3_code 38 = .ok (.iconst 0, 1) := by decide +kernel
theorem d5_48 : decode method_3_code 48 = .ok (.iconst 0, 1) := by decide +kernel
theorem ef_rm5_0 (m : MethodId) (x0 : Int32) (x1 : Int32) (x2 : UInt64) : entryFrame m #[(.int x0), (.int x1), (.double x2)] 4 = mkF m 0 #[.val (.int x0), .val (.int x1), .val (.double x2), .second] [] := by first | (simp [entryFrame, mkF, argsToLocals, Value.category]; done) | rfl
def Q5_0 (Z : State) (p1 : Int32) (p2 : Int32) (d3 : UInt64) (h0 : Heap) (n0 : Nat) (v : Option Value) (h : Heap) (L : List Loc) : Prop := v = some (.int (1 : Int32)) ∧ Fr n0 L ∧ h = h0
set_option maxRecDepth 65536 in
set_option maxHeartbeats 40000000 in
theorem rm5_0 (l : Launch) (Z : State) (a0 : Array Value) (hw : ∀ d ∈ tables_1, d.before a0 Z = true) (ws : List Jvm.Cond) (p1 : Int32) (p2 : Int32) (d3 : UInt64) (h0 : Heap) (n0 : Nat) (Z0 : n0 ≤ h0.size) (HS : own_S p1 p2 d3) :
    MetFree l (⟨"com/example/cotejo/cotejo/optimize/OptimalQueryPrecisionPinLaw", "single", "(IID)Z"⟩ : MethodName) (head1 (Jvm.Cond.code (⟨"com/example/cotejo/cotejo/optimize/OptimalQueryPrecisionPinLaw", "single", "(IID)Z"⟩ : MethodName) method_3_code 4 (some .boolean) :: ws) ({ frames := 0, cells := 0, slots := 0, locals := 0 } : Room)) (fun a U => a = #[(.int p1), (.int p2), (.double d3)] ∧ Z.Warmed39 U.vm ∧ U.heap = h0) (fun _ _ _ _ _ => True) (fun _ U o U' => ∃ v L, o = .returned v ∧ Q5_0 Z p1 p2 d3 h0 n0 v U'.heap L ∧ FrameEnd U o U' L ({ frames := 0, cells := 0, slots := 0, locals := 0 } : Room).cells ({ frames := 0, cells := 0, slots := 0, locals := 0 } : Room).slots) := by
  refine MetFree.of_bodySF (plainFor_of_name pn_1) hisR ?_
  intro p e s m args below meth c s₁ Bd hml0 hP hK
  obtain ⟨rfl, hZ, hh⟩ := hP
  have hx := Bd.exec
  have hby := Bd.bytes
  have hml : c.maxLocals = 4 := hml0
  have hown : s.vm.findClass "com/example/cotejo/cotejo/optimize/OptimalQueryPrecisionPinLaw" = some m.cls := findClass_of_methodNamed Bd.named
  have hnm := (name_of_methodNamed Bd.named Bd.method).1
  have X0 : Stand p l e ({ frames := 0, cells := 0, slots := 0, locals := 0 } : Room) s m #[(.int p1), (.int p2), (.double d3)] below meth c s₁ [] 0 0 := Stand.of_body Bd
  have e0 : s₁.heap = h0 := by rw [← hh, Bd.state]; rfl
  have N0 := Fr.nil n0
  have pre0 : ∀ t, Steps p.tables e below (s₁.setTop (mkF m 0 #[.val (.int p1), .val (.int p2), .val (.double d3), .second] [])) t → Steps p.tables e below (s₁.setTop (entryFrame m #[(.int p1), (.int p2), (.double d3)] 4)) t := fun t k => castTop (ef_rm5_0 m p1 p2 d3) k
  have k1 : ∀ t, Steps p.tables e below (s₁.setTop (mkF m 1 #[.val (.int p1), .val (.int p2), .val (.double d3), .second] [(.int p1)])) t → Steps p.tables e below (s₁.setTop (entryFrame m #[(.int p1), (.int p2), (.double d3)] 4)) t := by
    intro t k
    refine pre0 t ?_
    show Steps p.tables e below (s₁.setTop (mkF m 0 #[.val (.int p1), .val (.int p2), .val (.double d3), .second] [])) _
    refine XS.iloadN X0.here hx rfl (hb hby d5_0) rfl ?_
    exact k
  by_cases hc1_1 : p1 = (0 : Int32)
  ·
    obtain ⟨fs, hr, hrun, hended, hW, hsame⟩ := X0.leave (v := some (.int (1 : Int32))) (fun h => by rw [Bd.returns] at h; cases h)
    refine ⟨_, _, k1 _ ?_, hrun, hended, _, _, rfl, ?_, ⟨_, rfl⟩, hW, hsame.mono (by decide) (by decide)⟩
    ·
      show Steps p.tables e below (s₁.setTop (mkF m 1 #[.val (.int p1), .val (.int p2), .val (.double d3), .second] [(.int p1)])) _
      refine XS.ifNo X0.here hx rfl (hb hby d5_1) rfl ((if0 _ _).trans (teq hc1_1).2) ?_
      show Steps p.tables e below (s₁.setTop (mkF m 4 #[.val (.int p1), .val (.int p2), .val (.double d3), .second] [])) _
      refine XS.dloadN X0.here hx rfl (hb hby d5_4) rfl ?_
      show Steps p.tables e below (s₁.setTop (mkF m 5 #[.val (.int p1), .val (.int p2), .val (.double d3), .second] [(.double d3)])) _
      refine XS.dconst0 X0.here hx rfl (hb hby d5_5) (v := FP.dconst0) rfl ?_
      show Steps p.tables e below (s₁.setTop (mkF m 6 #[.val (.int p1), .val (.int p2), .val (.double d3), .second] [(.double FP.dconst0), (.double d3)])) _
      refine XS.dcmpS X0.here hx rfl (hb hby d5_6) rfl (v := (cmpValue (FP.dcmp d3 FP.dconst0) .l)) rfl ?_
      show Steps p.tables e below (s₁.setTop (mkF m 7 #[.val (.int p1), .val (.int p2), .val (.double d3), .second] [(.int (cmpValue (FP.dcmp d3 FP.dconst0) .l))])) _
      refine XS.ifNo X0.here hx rfl (hb hby d5_7) rfl ((if0 _ _).trans (teq (own_s1 HS hc1_1)).2) ?_
      show Steps p.tables e below (s₁.setTop (mkF m 10 #[.val (.int p1), .val (.int p2), .val (.double d3), .second] [])) _
      refine XS.iconst X0.here hx rfl (hb hby d5_10) ?_
      show Steps p.tables e below (s₁.setTop (mkF m 11 #[.val (.int p1), .val (.int p2), .val (.double d3), .second] [(.int (1 : Int32))])) _
      refine XS.goto X0.here hx rfl (pc0 := 11) (pc' := 15) rfl (hb hby d5_11) (by decide) (by decide) ?_
      show Steps p.tables e below (s₁.setTop (mkF m 15 #[.val (.int p1), .val (.int p2), .val (.double d3), .second] [(.int (1 : Int32))])) _
      exact retN X0 hx (t := .boolean) Bd.returns (by simp) (hb hby d5_15) hr
    · show Q5_0 Z p1 p2 d3 h0 n0 _ s₁.heap _
      rw [e0]
      exact ⟨rfl, N0, rfl⟩
  ·
    have k2 : ∀ t, Steps p.tables e below (s₁.setTop (mkF m 16 #[.val (.int p1), .val (.int p2), .val (.double d3), .second] [])) t → Steps p.tables e below (s₁.setTop (entryFrame m #[(.int p1), (.int p2), (.double d3)] 4)) t := by
      intro t k
      refine k1 t ?_
      show Steps p.tables e below (s₁.setTop (mkF m 1 #[.val (.int p1), .val (.int p2), .val (.double d3), .second] [(.int p1)])) _
      refine XS.ifYes X0.here hx rfl (pc0 := 1) (pc' := 16) rfl (hb hby d5_1) rfl ((if0 _ _).trans (feq hc1_1).2) (by decide) (by decide) ?_
      exact k
    by_cases hf2 : p2 = p1
    ·
      by_cases hf3 : p2 = (0 : Int32)
      ·
        obtain ⟨fs, hr, hrun, hended, hW, hsame⟩ := X0.leave (v := some (.int (1 : Int32))) (fun h => by rw [Bd.returns] at h; cases h)
        refine ⟨_, _, k2 _ ?_, hrun, hended, _, _, rfl, ?_, ⟨_, rfl⟩, hW, hsame.mono (by decide) (by decide)⟩
        ·
          show Steps p.tables e below (s₁.setTop (mkF m 16 #[.val (.int p1), .val (.int p2), .val (.double d3), .second] [])) _
          refine XS.dloadN X0.here hx rfl (hb hby d5_16) rfl ?_
          show Steps p.tables e below (s₁.setTop (mkF m 17 #[.val (.int p1), .val (.int p2), .val (.double d3), .second] [(.double d3)])) _
          refine XS.dconst0 X0.here hx rfl (hb hby d5_17) (v := FP.dconst0) rfl ?_
          show Steps p.tables e below (s₁.setTop (mkF m 18 #[.val (.int p1), .val (.int p2), .val (.double d3), .second] [(.double FP.dconst0), (.double d3)])) _
          refine XS.dcmpS X0.here hx rfl (hb hby d5_18) rfl (v := (cmpValue (FP.dcmp d3 FP.dconst0) .l)) rfl ?_
          show Steps p.tables e below (s₁.setTop (mkF m 19 #[.val (.int p1), .val (.int p2), .val (.double d3), .second] [(.int (cmpValue (FP.dcmp d3 FP.dconst0) .l))])) _
          refine XS.ifNo X0.here hx rfl (hb hby d5_19) rfl ((if0 _ _).trans (flt (own_s2 HS)).1) ?_
          show Steps p.tables e below (s₁.setTop (mkF m 22 #[.val (.int p1), .val (.int p2), .val (.double d3), .second] [])) _
          refine XS.dloadN X0.here hx rfl (hb hby d5_22) rfl ?_
          show Steps p.tables e below (s₁.setTop (mkF m 23 #[.val (.int p1), .val (.int p2), .val (.double d3), .second] [(.double d3)])) _
          refine XS.dconst1 X0.here hx rfl (hb hby d5_23) (v := FP.dconst1) rfl ?_
          show Steps p.tables e below (s₁.setTop (mkF m 24 #[.val (.int p1), .val (.int p2), .val (.double d3), .second] [(.double FP.dconst1), (.double d3)])) _
          refine XS.dcmpS X0.here hx rfl (hb hby d5_24) rfl (v := (cmpValue (FP.dcmp d3 FP.dconst1) .g)) rfl ?_
          show Steps p.tables e below (s₁.setTop (mkF m 25 #[.val (.int p1), .val (.int p2), .val (.double d3), .second] [(.int (cmpValue (FP.dcmp d3 FP.dconst1) .g))])) _
          refine XS.ifNo X0.here hx rfl (hb hby d5_25) rfl ((if0 _ _).trans (flt (own_s3 HS)).2.2.1) ?_
          show Steps p.tables e below (s₁.setTop (mkF m 28 #[.val (.int p1), .val (.int p2), .val (.double d3), .second] [])) _
          refine XS.dloadN X0.here hx rfl (hb hby d5_28) rfl ?_
          show Steps p.tables e below (s₁.setTop (mkF m 29 #[.val (.int p1), .val (.int p2), .val (.double d3), .second] [(.double d3)])) _
          refine XS.dconst1 X0.here hx rfl (hb hby d5_29) (v := FP.dconst1) rfl ?_
          show Steps p.tables e below (s₁.setTop (mkF m 30 #[.val (.int p1), .val (.int p2), .val (.double d3), .second] [(.double FP.dconst1), (.double d3)])) _
          refine XS.dcmpS X0.here hx rfl (hb hby d5_30) rfl (v := (cmpValue (FP.dcmp d3 FP.dconst1) .l)) rfl ?_
          show Steps p.tables e below (s₁.setTop (mkF m 31 #[.val (.int p1), .val (.int p2), .val (.double d3), .second] [(.int (cmpValue (FP.dcmp d3 FP.dconst1) .l))])) _
          refine XS.ifNo X0.here hx rfl (hb hby d5_31) rfl ((if0 _ _).trans (teq (own_s4 HS hc1_1 hf2)).2) ?_
          show Steps p.tables e below (s₁.setTop (mkF m 34 #[.val (.int p1), .val (.int p2), .val (.double d3), .second] [])) _
          refine XS.iconst X0.here hx rfl (hb hby d5_34) ?_
          show Steps p.tables e below (s₁.setTop (mkF m 35 #[.val (.int p1), .val (.int p2), .val (.double d3), .second] [(.int (1 : Int32))])) _
          refine XS.goto X0.here hx rfl (pc0 := 35) (pc' := 39) rfl (hb hby d5_35) (by decide) (by decide) ?_
          show Steps p.tables e below (s₁.setTop (mkF m 39 #[.val (.int p1), .val (.int p2), .val (.double d3), .second] [(.int (1 : Int32))])) _
          refine XS.iloadN X0.here hx rfl (hb hby d5_39) rfl ?_
          show Steps p.tables e below (s₁.setTop (mkF m 40 #[.val (.int p1), .val (.int p2), .val (.double d3), .second] [(.int p2), (.int (1 : Int32))])) _
          refine XS.iloadN X0.here hx rfl (hb hby d5_40) rfl ?_
          show Steps p.tables e below (s₁.setTop (mkF m 41 #[.val (.int p1), .val (.int p2), .val (.double d3), .second] [(.int p1), (.int p2), (.int (1 : Int32))])) _
          refine XS.icmpNo X0.here hx rfl (hb hby d5_41) rfl (teq hf2).2 ?_
          show Steps p.tables e below (s₁.setTop (mkF m 44 #[.val (.int p1), .val (.int p2), .val (.double d3), .second] [(.int (1 : Int32))])) _
          refine XS.iconst X0.here hx rfl (hb hby d5_44) ?_
          show Steps p.tables e below (s₁.setTop (mkF m 45 #[.val (.int p1), .val (.int p2), .val (.double d3), .second] [(.int (1 : Int32)), (.int (1 : Int32))])) _
          refine XS.goto X0.here hx rfl (pc0 := 45) (pc' := 49) rfl (hb hby d5_45) (by decide) (by decide) ?_
          show Steps p.tables e below (s₁.setTop (mkF m 49 #[.val (.int p1), .val (.int p2), .val (.double d3), .second] [(.int (1 : Int32)), (.int (1 : Int32))])) _
          refine XS.icmpNo X0.here hx rfl (hb hby d5_49) rfl (teq (by decide : (1 : Int32) = (1 : Int32))).2 ?_
          show Steps p.tables e below (s₁.setTop (mkF m 52 #[.val (.int p1), .val (.int p2), .val (.double d3), .second] [])) _
          refine XS.dloadN X0.here hx rfl (hb hby d5_52) rfl ?_
          show Steps p.tables e below (s₁.setTop (mkF m 53 #[.val (.int p1), .val (.int p2), .val (.double d3), .second] [(.double d3)])) _
          refine XS.dconst0 X0.here hx rfl (hb hby d5_53) (v := FP.dconst0) rfl ?_
          show Steps p.tables e below (s₁.setTop (mkF m 54 #[.val (.int p1), .val (.int p2), .val (.double d3), .second] [(.double FP.dconst0), (.double d3)])) _
          refine XS.dcmpS X0.here hx rfl (hb hby d5_54) rfl (v := (cmpValue (FP.dcmp d3 FP.dconst0) .l)) rfl ?_
          show Steps p.tables e below (s₁.setTop (mkF m 55 #[.val (.int p1), .val (.int p2), .val (.double d3), .second] [(.int (cmpValue (FP.dcmp d3 FP.dconst0) .l))])) _
          refine XS.ifNo X0.here hx rfl (hb hby d5_55) rfl ((if0 _ _).trans (teq (own_s5 HS hc1_1 hf3)).2) ?_
          show Steps p.tables e below (s₁.setTop (mkF m 58 #[.val (.int p1), .val (.int p2), .val (.double d3), .second] [])) _
          refine XS.iconst X0.here hx rfl (hb hby d5_58) ?_
          show Steps p.tables e below (s₁.setTop (mkF m 59 #[.val (.int p1), .val (.int p2), .val (.double d3), .second] [(.int (1 : Int32))])) _
          refine XS.goto X0.here hx rfl (pc0 := 59) (pc' := 63) rfl (hb hby d5_59) (by decide) (by decide) ?_
          show Steps p.tables e below (s₁.setTop (mkF m 63 #[.val (.int p1), .val (.int p2), .val (.double d3), .second] [(.int (1 : Int32))])) _
          refine XS.iloadN X0.here hx rfl (hb hby d5_63) rfl ?_
          show Steps p.tables e below (s₁.setTop (mkF m 64 #[.val (.int p1), .val (.int p2), .val (.double d3), .second] [(.int p2), (.int (1 : Int32))])) _
          refine XS.ifNo X0.here hx rfl (hb hby d5_64) rfl ((if0 _ _).trans (teq hf3).2) ?_
          show Steps p.tables e below (s₁.setTop (mkF m 67 #[.val (.int p1), .val (.int p2), .val (.double d3), .second] [(.int (1 : Int32))])) _
          refine XS.iconst X0.here hx rfl (hb hby d5_67) ?_
          show Steps p.tables e below (s₁.setTop (mkF m 68 #[.val (.int p1), .val (.int p2), .val (.double d3), .second] [(.int (1 : Int32)), (.int (1 : Int32))])) _
          refine XS.goto X0.here hx rfl (pc0 := 68) (pc' := 72) rfl (hb hby d5_68) (by decide) (by decide) ?_
          show Steps p.tables e below (s₁.setTop (mkF m 72 #[.val (.int p1), .val (.int p2), .val (.double d3), .second] [(.int (1 : Int32)), (.int (1 : Int32))])) _
          refine XS.icmpNo X0.here hx rfl (hb hby d5_72) rfl (teq (by decide : (1 : Int32) = (1 : Int32))).2 ?_
          show Steps p.tables e below (s₁.setTop (mkF m 75 #[.val (.int p1), .val (.int p2), .val (.double d3), .second] [])) _
          refine XS.iconst X0.here hx rfl (hb hby d5_75) ?_
          show Steps p.tables e below (s₁.setTop (mkF m 76 #[.val (.int p1), .val (.int p2), .val (.double d3), .second] [(.int (1 : Int32))])) _
          refine XS.goto X0.here hx rfl (pc0 := 76) (pc' := 80) rfl (hb hby d5_76) (by decide) (by decide) ?_
          show Steps p.tables e below (s₁.setTop (mkF m 80 #[.val (.int p1), .val (.int p2), .val (.double d3), .second] [(.int (1 : Int32))])) _
          exact retN X0 hx (t := .boolean) Bd.returns (by simp) (hb hby d5_80) hr
        · show Q5_0 Z p1 p2 d3 h0 n0 _ s₁.heap _
          rw [e0]
          exact ⟨rfl, N0, rfl⟩
      ·
        obtain ⟨fs, hr, hrun, hended, hW, hsame⟩ := X0.leave (v := some (.int (1 : Int32))) (fun h => by rw [Bd.returns] at h; cases h)
        refine ⟨_, _, k2 _ ?_, hrun, hended, _, _, rfl, ?_, ⟨_, rfl⟩, hW, hsame.mono (by decide) (by decide)⟩
        ·
          show Steps p.tables e below (s₁.setTop (mkF m 16 #[.val (.int p1), .val (.int p2), .val (.double d3), .second] [])) _
          refine XS.dloadN X0.here hx rfl (hb hby d5_16) rfl ?_
          show Steps p.tables e below (s₁.setTop (mkF m 17 #[.val (.int p1), .val (.int p2), .val (.double d3), .second] [(.double d3)])) _
          refine XS.dconst0 X0.here hx rfl (hb hby d5_17) (v := FP.dconst0) rfl ?_
          show Steps p.tables e below (s₁.setTop (mkF m 18 #[.val (.int p1), .val (.int p2), .val (.double d3), .second] [(.double FP.dconst0), (.double d3)])) _
          refine XS.dcmpS X0.here hx rfl (hb hby d5_18) rfl (v := (cmpValue (FP.dcmp d3 FP.dconst0) .l)) rfl ?_
          show Steps p.tables e below (s₁.setTop (mkF m 19 #[.val (.int p1), .val (.int p2), .val (.double d3), .second] [(.int (cmpValue (FP.dcmp d3 FP.dconst0) .l))])) _
          refine XS.ifNo X0.here hx rfl (hb hby d5_19) rfl ((if0 _ _).trans (flt (own_s2 HS)).1) ?_
          show Steps p.tables e below (s₁.setTop (mkF m 22 #[.val (.int p1), .val (.int p2), .val (.double d3), .second] [])) _
          refine XS.dloadN X0.here hx rfl (hb hby d5_22) rfl ?_
          show Steps p.tables e below (s₁.setTop (mkF m 23 #[.val (.int p1), .val (.int p2), .val (.double d3), .second] [(.double d3)])) _
          refine XS.dconst1 X0.here hx rfl (hb hby d5_23) (v := FP.dconst1) rfl ?_
          show Steps p.tables e below (s₁.setTop (mkF m 24 #[.val (.int p1), .val (.int p2), .val (.double d3), .second] [(.double FP.dconst1), (.double d3)])) _
          refine XS.dcmpS X0.here hx rfl (hb hby d5_24) rfl (v := (cmpValue (FP.dcmp d3 FP.dconst1) .g)) rfl ?_
          show Steps p.tables e below (s₁.setTop (mkF m 25 #[.val (.int p1), .val (.int p2), .val (.double d3), .second] [(.int (cmpValue (FP.dcmp d3 FP.dconst1) .g))])) _
          refine XS.ifNo X0.here hx rfl (hb hby d5_25) rfl ((if0 _ _).trans (flt (own_s3 HS)).2.2.1) ?_
          show Steps p.tables e below (s₁.setTop (mkF m 28 #[.val (.int p1), .val (.int p2), .val (.double d3), .second] [])) _
          refine XS.dloadN X0.here hx rfl (hb hby d5_28) rfl ?_
          show Steps p.tables e below (s₁.setTop (mkF m 29 #[.val (.int p1), .val (.int p2), .val (.double d3), .second] [(.double d3)])) _
          refine XS.dconst1 X0.here hx rfl (hb hby d5_29) (v := FP.dconst1) rfl ?_
          show Steps p.tables e below (s₁.setTop (mkF m 30 #[.val (.int p1), .val (.int p2), .val (.double d3), .second] [(.double FP.dconst1), (.double d3)])) _
          refine XS.dcmpS X0.here hx rfl (hb hby d5_30) rfl (v := (cmpValue (FP.dcmp d3 FP.dconst1) .l)) rfl ?_
          show Steps p.tables e below (s₁.setTop (mkF m 31 #[.val (.int p1), .val (.int p2), .val (.double d3), .second] [(.int (cmpValue (FP.dcmp d3 FP.dconst1) .l))])) _
          refine XS.ifNo X0.here hx rfl (hb hby d5_31) rfl ((if0 _ _).trans (teq (own_s4 HS hc1_1 hf2)).2) ?_
          show Steps p.tables e below (s₁.setTop (mkF m 34 #[.val (.int p1), .val (.int p2), .val (.double d3), .second] [])) _
          refine XS.iconst X0.here hx rfl (hb hby d5_34) ?_
          show Steps p.tables e below (s₁.setTop (mkF m 35 #[.val (.int p1), .val (.int p2), .val (.double d3), .second] [(.int (1 : Int32))])) _
          refine XS.goto X0.here hx rfl (pc0 := 35) (pc' := 39) rfl (hb hby d5_35) (by decide) (by decide) ?_
          show Steps p.tables e below (s₁.setTop (mkF m 39 #[.val (.int p1), .val (.int p2), .val (.double d3), .second] [(.int (1 : Int32))])) _
          refine XS.iloadN X0.here hx rfl (hb hby d5_39) rfl ?_
          show Steps p.tables e below (s₁.setTop (mkF m 40 #[.val (.int p1), .val (.int p2), .val (.double d3), .second] [(.int p2), (.int (1 : Int32))])) _
          refine XS.iloadN X0.here hx rfl (hb hby d5_40) rfl ?_
          show Steps p.tables e below (s₁.setTop (mkF m 41 #[.val (.int p1), .val (.int p2), .val (.double d3), .second] [(.int p1), (.int p2), (.int (1 : Int32))])) _
          refine XS.icmpNo X0.here hx rfl (hb hby d5_41) rfl (teq hf2).2 ?_
          show Steps p.tables e below (s₁.setTop (mkF m 44 #[.val (.int p1), .val (.int p2), .val (.double d3), .second] [(.int (1 : Int32))])) _
          refine XS.iconst X0.here hx rfl (hb hby d5_44) ?_
          show Steps p.tables e below (s₁.setTop (mkF m 45 #[.val (.int p1), .val (.int p2), .val (.double d3), .second] [(.int (1 : Int32)), (.int (1 : Int32))])) _
          refine XS.goto X0.here hx rfl (pc0 := 45) (pc' := 49) rfl (hb hby d5_45) (by decide) (by decide) ?_
          show Steps p.tables e below (s₁.setTop (mkF m 49 #[.val (.int p1), .val (.int p2), .val (.double d3), .second] [(.int (1 : Int32)), (.int (1 : Int32))])) _
          refine XS.icmpNo X0.here hx rfl (hb hby d5_49) rfl (teq (by decide : (1 : Int32) = (1 : Int32))).2 ?_
          show Steps p.tables e below (s₁.setTop (mkF m 52 #[.val (.int p1), .val (.int p2), .val (.double d3), .second] [])) _
          refine XS.dloadN X0.here hx rfl (hb hby d5_52) rfl ?_
          show Steps p.tables e below (s₁.setTop (mkF m 53 #[.val (.int p1), .val (.int p2), .val (.double d3), .second] [(.double d3)])) _
          refine XS.dconst0 X0.here hx rfl (hb hby d5_53) (v := FP.dconst0) rfl ?_
          show Steps p.tables e below (s₁.setTop (mkF m 54 #[.val (.int p1), .val (.int p2), .val (.double d3), .second] [(.double FP.dconst0), (.double d3)])) _
          refine XS.dcmpS X0.here hx rfl (hb hby d5_54) rfl (v := (cmpValue (FP.dcmp d3 FP.dconst0) .l)) rfl ?_
          show Steps p.tables e below (s₁.setTop (mkF m 55 #[.val (.int p1), .val (.int p2), .val (.double d3), .second] [(.int (cmpValue (FP.dcmp d3 FP.dconst0) .l))])) _
          refine XS.ifYes X0.here hx rfl (pc0 := 55) (pc' := 62) rfl (hb hby d5_55) rfl ((if0 _ _).trans (feq (own_s5n HS hc1_1 hf3)).2) (by decide) (by decide) ?_
          show Steps p.tables e below (s₁.setTop (mkF m 62 #[.val (.int p1), .val (.int p2), .val (.double d3), .second] [])) _
          refine XS.iconst X0.here hx rfl (hb hby d5_62) ?_
          show Steps p.tables e below (s₁.setTop (mkF m 63 #[.val (.int p1), .val (.int p2), .val (.double d3), .second] [(.int (0 : Int32))])) _
          refine XS.iloadN X0.here hx rfl (hb hby d5_63) rfl ?_
          show Steps p.tables e below (s₁.setTop (mkF m 64 #[.val (.int p1), .val (.int p2), .val (.double d3), .second] [(.int p2), (.int (0 : Int32))])) _
          refine XS.ifYes X0.here hx rfl (pc0 := 64) (pc' := 71) rfl (hb hby d5_64) rfl ((if0 _ _).trans (feq hf3).2) (by decide) (by decide) ?_
          show Steps p.tables e below (s₁.setTop (mkF m 71 #[.val (.int p1), .val (.int p2), .val (.double d3), .second] [(.int (0 : Int32))])) _
          refine XS.iconst X0.here hx rfl (hb hby d5_71) ?_
          show Steps p.tables e below (s₁.setTop (mkF m 72 #[.val (.int p1), .val (.int p2), .val (.double d3), .second] [(.int (0 : Int32)), (.int (0 : Int32))])) _
          refine XS.icmpNo X0.here hx rfl (hb hby d5_72) rfl (teq (by decide : (0 : Int32) = (0 : Int32))).2 ?_
          show Steps p.tables e below (s₁.setTop (mkF m 75 #[.val (.int p1), .val (.int p2), .val (.double d3), .second] [])) _
          refine XS.iconst X0.here hx rfl (hb hby d5_75) ?_
          show Steps p.tables e below (s₁.setTop (mkF m 76 #[.val (.int p1), .val (.int p2), .val (.double d3), .second] [(.int (1 : Int32))])) _
          refine XS.goto X0.here hx rfl (pc0 := 76) (pc' := 80) rfl (hb hby d5_76) (by decide) (by decide) ?_
          show Steps p.tables e below (s₁.setTop (mkF m 80 #[.val (.int p1), .val (.int p2), .val (.double d3), .second] [(.int (1 : Int32))])) _
          exact retN X0 hx (t := .boolean) Bd.returns (by simp) (hb hby d5_80) hr
        · show Q5_0 Z p1 p2 d3 h0 n0 _ s₁.heap _
          rw [e0]
          exact ⟨rfl, N0, rfl⟩
    ·
      by_cases hf4 : p2 = (0 : Int32)
      ·
        obtain ⟨fs, hr, hrun, hended, hW, hsame⟩ := X0.leave (v := some (.int (1 : Int32))) (fun h => by rw [Bd.returns] at h; cases h)
        refine ⟨_, _, k2 _ ?_, hrun, hended, _, _, rfl, ?_, ⟨_, rfl⟩, hW, hsame.mono (by decide) (by decide)⟩
        ·
          show Steps p.tables e below (s₁.setTop (mkF m 16 #[.val (.int p1), .val (.int p2), .val (.double d3), .second] [])) _
          refine XS.dloadN X0.here hx rfl (hb hby d5_16) rfl ?_
          show Steps p.tables e below (s₁.setTop (mkF m 17 #[.val (.int p1), .val (.int p2), .val (.double d3), .second] [(.double d3)])) _
          refine XS.dconst0 X0.here hx rfl (hb hby d5_17) (v := FP.dconst0) rfl ?_
          show Steps p.tables e below (s₁.setTop (mkF m 18 #[.val (.int p1), .val (.int p2), .val (.double d3), .second] [(.double FP.dconst0), (.double d3)])) _
          refine XS.dcmpS X0.here hx rfl (hb hby d5_18) rfl (v := (cmpValue (FP.dcmp d3 FP.dconst0) .l)) rfl ?_
          show Steps p.tables e below (s₁.setTop (mkF m 19 #[.val (.int p1), .val (.int p2), .val (.double d3), .second] [(.int (cmpValue (FP.dcmp d3 FP.dconst0) .l))])) _
          refine XS.ifNo X0.here hx rfl (hb hby d5_19) rfl ((if0 _ _).trans (flt (own_s2 HS)).1) ?_
          show Steps p.tables e below (s₁.setTop (mkF m 22 #[.val (.int p1), .val (.int p2), .val (.double d3), .second] [])) _
          refine XS.dloadN X0.here hx rfl (hb hby d5_22) rfl ?_
          show Steps p.tables e below (s₁.setTop (mkF m 23 #[.val (.int p1), .val (.int p2), .val (.double d3), .second] [(.double d3)])) _
          refine XS.dconst1 X0.here hx rfl (hb hby d5_23) (v := FP.dconst1) rfl ?_
          show Steps p.tables e below (s₁.setTop (mkF m 24 #[.val (.int p1), .val (.int p2), .val (.double d3), .second] [(.double FP.dconst1), (.double d3)])) _
          refine XS.dcmpS X0.here hx rfl (hb hby d5_24) rfl (v := (cmpValue (FP.dcmp d3 FP.dconst1) .g)) rfl ?_
          show Steps p.tables e below (s₁.setTop (mkF m 25 #[.val (.int p1), .val (.int p2), .val (.double d3), .second] [(.int (cmpValue (FP.dcmp d3 FP.dconst1) .g))])) _
          refine XS.ifNo X0.here hx rfl (hb hby d5_25) rfl ((if0 _ _).trans (flt (own_s3 HS)).2.2.1) ?_
          show Steps p.tables e below (s₁.setTop (mkF m 28 #[.val (.int p1), .val (.int p2), .val (.double d3), .second] [])) _
          refine XS.dloadN X0.here hx rfl (hb hby d5_28) rfl ?_
          show Steps p.tables e below (s₁.setTop (mkF m 29 #[.val (.int p1), .val (.int p2), .val (.double d3), .second] [(.double d3)])) _
          refine XS.dconst1 X0.here hx rfl (hb hby d5_29) (v := FP.dconst1) rfl ?_
          show Steps p.tables e below (s₁.setTop (mkF m 30 #[.val (.int p1), .val (.int p2), .val (.double d3), .second] [(.double FP.dconst1), (.double d3)])) _
          refine XS.dcmpS X0.here hx rfl (hb hby d5_30) rfl (v := (cmpValue (FP.dcmp d3 FP.dconst1) .l)) rfl ?_
          show Steps p.tables e below (s₁.setTop (mkF m 31 #[.val (.int p1), .val (.int p2), .val (.double d3), .second] [(.int (cmpValue (FP.dcmp d3 FP.dconst1) .l))])) _
          refine XS.ifYes X0.here hx rfl (pc0 := 31) (pc' := 38) rfl (hb hby d5_31) rfl ((if0 _ _).trans (feq (own_s4n HS hc1_1 hf2)).2) (by decide) (by decide) ?_
          show Steps p.tables e below (s₁.setTop (mkF m 38 #[.val (.int p1), .val (.int p2), .val (.double d3), .second] [])) _
          refine XS.iconst X0.here hx rfl (hb hby d5_38) ?_
          show Steps p.tables e below (s₁.setTop (mkF m 39 #[.val (.int p1), .val (.int p2), .val (.double d3), .second] [(.int (0 : Int32))])) _
          refine XS.iloadN X0.here hx rfl (hb hby d5_39) rfl ?_
          show Steps p.tables e below (s₁.setTop (mkF m 40 #[.val (.int p1), .val (.int p2), .val (.double d3), .second] [(.int p2), (.int (0 : Int32))])) _
          refine XS.iloadN X0.here hx rfl (hb hby d5_40) rfl ?_
          show Steps p.tables e below (s₁.setTop (mkF m 41 #[.val (.int p1), .val (.int p2), .val (.double d3), .second] [(.int p1), (.int p2), (.int (0 : Int32))])) _
          refine XS.icmpYes X0.here hx rfl (pc0 := 41) (pc' := 48) rfl (hb hby d5_41) rfl (feq hf2).2 (by decide) (by decide) ?_
          show Steps p.tables e below (s₁.setTop (mkF m 48 #[.val (.int p1), .val (.int p2), .val (.double d3), .second] [(.int (0 : Int32))])) _
          refine XS.iconst X0.here hx rfl (hb hby d5_48) ?_
          show Steps p.tables e below (s₁.setTop (mkF m 49 #[.val (.int p1), .val (.int p2), .val (.double d3), .second] [(.int (0 : Int32)), (.int (0 : Int32))])) _
          refine XS.icmpNo X0.here hx rfl (hb hby d5_49) rfl (teq (by decide : (0 : Int32) = (0 : Int32))).2 ?_
          show Steps p.tables e below (s₁.setTop (mkF m 52 #[.val (.int p1), .val (.int p2), .val (.double d3), .second] [])) _
          refine XS.dloadN X0.here hx rfl (hb hby d5_52) rfl ?_
          show Steps p.tables e below (s₁.setTop (mkF m 53 #[.val (.int p1), .val (.int p2), .val (.double d3), .second] [(.double d3)])) _
          refine XS.dconst0 X0.here hx rfl (hb hby d5_53) (v := FP.dconst0) rfl ?_
          show Steps p.tables e below (s₁.setTop (mkF m 54 #[.val (.int p1), .val (.int p2), .val (.double d3), .second] [(.double FP.dconst0), (.double d3)])) _
          refine XS.dcmpS X0.here hx rfl (hb hby d5_54) rfl (v := (cmpValue (FP.dcmp d3 FP.dconst0) .l)) rfl ?_
          show Steps p.tables e below (s₁.setTop (mkF m 55 #[.val (.int p1), .val (.int p2), .val (.double d3), .second] [(.int (cmpValue (FP.dcmp d3 FP.dconst0) .l))])) _
          refine XS.ifNo X0.here hx rfl (hb hby d5_55) rfl ((if0 _ _).trans (teq (own_s5 HS hc1_1 hf4)).2) ?_
          show Steps p.tables e below (s₁.setTop (mkF m 58 #[.val (.int p1), .val (.int p2), .val (.double d3), .second] [])) _
          refine XS.iconst X0.here hx rfl (hb hby d5_58) ?_
          show Steps p.tables e below (s₁.setTop (mkF m 59 #[.val (.int p1), .val (.int p2), .val (.double d3), .second] [(.int (1 : Int32))])) _
          refine XS.goto X0.here hx rfl (pc0 := 59) (pc' := 63) rfl (hb hby d5_59) (by decide) (by decide) ?_
          show Steps p.tables e below (s₁.setTop (mkF m 63 #[.val (.int p1), .val (.int p2), .val (.double d3), .second] [(.int (1 : Int32))])) _
          refine XS.iloadN X0.here hx rfl (hb hby d5_63) rfl ?_
          show Steps p.tables e below (s₁.setTop (mkF m 64 #[.val (.int p1), .val (.int p2), .val (.double d3), .second] [(.int p2), (.int (1 : Int32))])) _
          refine XS.ifNo X0.here hx rfl (hb hby d5_64) rfl ((if0 _ _).trans (teq hf4).2) ?_
          show Steps p.tables e below (s₁.setTop (mkF m 67 #[.val (.int p1), .val (.int p2), .val (.double d3), .second] [(.int (1 : Int32))])) _
          refine XS.iconst X0.here hx rfl (hb hby d5_67) ?_
          show Steps p.tables e below (s₁.setTop (mkF m 68 #[.val (.int p1), .val (.int p2), .val (.double d3), .second] [(.int (1 : Int32)), (.int (1 : Int32))])) _
          refine XS.goto X0.here hx rfl (pc0 := 68) (pc' := 72) rfl (hb hby d5_68) (by decide) (by decide) ?_
          show Steps p.tables e below (s₁.setTop (mkF m 72 #[.val (.int p1), .val (.int p2), .val (.double d3), .second] [(.int (1 : Int32)), (.int (1 : Int32))])) _
          refine XS.icmpNo X0.here hx rfl (hb hby d5_72) rfl (teq (by decide : (1 : Int32) = (1 : Int32))).2 ?_
          show Steps p.tables e below (s₁.setTop (mkF m 75 #[.val (.int p1), .val (.int p2), .val (.double d3), .second] [])) _
          refine XS.iconst X0.here hx rfl (hb hby d5_75) ?_
          show Steps p.tables e below (s₁.setTop (mkF m 76 #[.val (.int p1), .val (.int p2), .val (.double d3), .second] [(.int (1 : Int32))])) _
          refine XS.goto X0.here hx rfl (pc0 := 76) (pc' := 80) rfl (hb hby d5_76) (by decide) (by decide) ?_
          show Steps p.tables e below (s₁.setTop (mkF m 80 #[.val (.int p1), .val (.int p2), .val (.double d3), .second] [(.int (1 : Int32))])) _
          exact retN X0 hx (t := .boolean) Bd.returns (by simp) (hb hby d5_80) hr
        · show Q5_0 Z p1 p2 d3 h0 n0 _ s₁.heap _
          rw [e0]
          exact ⟨rfl, N0, rfl⟩
      ·
        obtain ⟨fs, hr, hrun, hended, hW, hsame⟩ := X0.leave (v := some (.int (1 : Int32))) (fun h => by rw [Bd.returns] at h; cases h)
        refine ⟨_, _, k2 _ ?_, hrun, hended, _, _, rfl, ?_, ⟨_, rfl⟩, hW, hsame.mono (by decide) (by decide)⟩
        ·
          show Steps p.tables e below (s₁.setTop (mkF m 16 #[.val (.int p1), .val (.int p2), .val (.double d3), .second] [])) _
          refine XS.dloadN X0.here hx rfl (hb hby d5_16) rfl ?_
          show Steps p.tables e below (s₁.setTop (mkF m 17 #[.val (.int p1), .val (.int p2), .val (.double d3), .second] [(.double d3)])) _
          refine XS.dconst0 X0.here hx rfl (hb hby d5_17) (v := FP.dconst0) rfl ?_
          show Steps p.tables e below (s₁.setTop (mkF m 18 #[.val (.int p1), .val (.int p2), .val (.double d3), .second] [(.double FP.dconst0), (.double d3)])) _
          refine XS.dcmpS X0.here hx rfl (hb hby d5_18) rfl (v := (cmpValue (FP.dcmp d3 FP.dconst0) .l)) rfl ?_
          show Steps p.tables e below (s₁.setTop (mkF m 19 #[.val (.int p1), .val (.int p2), .val (.double d3), .second] [(.int (cmpValue (FP.dcmp d3 FP.dconst0) .l))])) _
          refine XS.ifNo X0.here hx rfl (hb hby d5_19) rfl ((if0 _ _).trans (flt (own_s2 HS)).1) ?_
          show Steps p.tables e below (s₁.setTop (mkF m 22 #[.val (.int p1), .val (.int p2), .val (.double d3), .second] [])) _
          refine XS.dloadN X0.here hx rfl (hb hby d5_22) rfl ?_
          show Steps p.tables e below (s₁.setTop (mkF m 23 #[.val (.int p1), .val (.int p2), .val (.double d3), .second] [(.double d3)])) _
          refine XS.dconst1 X0.here hx rfl (hb hby d5_23) (v := FP.dconst1) rfl ?_
          show Steps p.tables e below (s₁.setTop (mkF m 24 #[.val (.int p1), .val (.int p2), .val (.double d3), .second] [(.double FP.dconst1), (.double d3)])) _
          refine XS.dcmpS X0.here hx rfl (hb hby d5_24) rfl (v := (cmpValue (FP.dcmp d3 FP.dconst1) .g)) rfl ?_
          show Steps p.tables e below (s₁.setTop (mkF m 25 #[.val (.int p1), .val (.int p2), .val (.double d3), .second] [(.int (cmpValue (FP.dcmp d3 FP.dconst1) .g))])) _
          refine XS.ifNo X0.here hx rfl (hb hby d5_25) rfl ((if0 _ _).trans (flt (own_s3 HS)).2.2.1) ?_
          show Steps p.tables e below (s₁.setTop (mkF m 28 #[.val (.int p1), .val (.int p2), .val (.double d3), .second] [])) _
          refine XS.dloadN X0.here hx rfl (hb hby d5_28) rfl ?_
          show Steps p.tables e below (s₁.setTop (mkF m 29 #[.val (.int p1), .val (.int p2), .val (.double d3), .second] [(.double d3)])) _
          refine XS.dconst1 X0.here hx rfl (hb hby d5_29) (v := FP.dconst1) rfl ?_
          show Steps p.tables e below (s₁.setTop (mkF m 30 #[.val (.int p1), .val (.int p2), .val (.double d3), .second] [(.double FP.dconst1), (.double d3)])) _
          refine XS.dcmpS X0.here hx rfl (hb hby d5_30) rfl (v := (cmpValue (FP.dcmp d3 FP.dconst1) .l)) rfl ?_
          show Steps p.tables e below (s₁.setTop (mkF m 31 #[.val (.int p1), .val (.int p2), .val (.double d3), .second] [(.int (cmpValue (FP.dcmp d3 FP.dconst1) .l))])) _
          refine XS.ifYes X0.here hx rfl (pc0 := 31) (pc' := 38) rfl (hb hby d5_31) rfl ((if0 _ _).trans (feq (own_s4n HS hc1_1 hf2)).2) (by decide) (by decide) ?_
          show Steps p.tables e below (s₁.setTop (mkF m 38 #[.val (.int p1), .val (.int p2), .val (.double d3), .second] [])) _
          refine XS.iconst X0.here hx rfl (hb hby d5_38) ?_
          show Steps p.tables e below (s₁.setTop (mkF m 39 #[.val (.int p1), .val (.int p2), .val (.double d3), .second] [(.int (0 : Int32))])) _
          refine XS.iloadN X0.here hx rfl (hb hby d5_39) rfl ?_
          show Steps p.tables e below (s₁.setTop (mkF m 40 #[.val (.int p1), .val (.int p2), .val (.double d3), .second] [(.int p2), (.int (0 : Int32))])) _
          refine XS.iloadN X0.here hx rfl (hb hby d5_40) rfl ?_
          show Steps p.tables e below (s₁.setTop (mkF m 41 #[.val (.int p1), .val (.int p2), .val (.double d3), .second] [(.int p1), (.int p2), (.int (0 : Int32))])) _
          refine XS.icmpYes X0.here hx rfl (pc0 := 41) (pc' := 48) rfl (hb hby d5_41) rfl (feq hf2).2 (by decide) (by decide) ?_
          show Steps p.tables e below (s₁.setTop (mkF m 48 #[.val (.int p1), .val (.int p2), .val (.double d3), .second] [(.int (0 : Int32))])) _
          refine XS.iconst X0.here hx rfl (hb hby d5_48) ?_
          show Steps p.tables e below (s₁.setTop (mkF m 49 #[.val (.int p1), .val (.int p2), .val (.double d3), .second] [(.int (0 : Int32)), (.int (0 : Int32))])) _
          refine XS.icmpNo X0.here hx rfl (hb hby d5_49) rfl (teq (by decide : (0 : Int32) = (0 : Int32))).2 ?_
          show Steps p.tables e below (s₁.setTop (mkF m 52 #[.val (.int p1), .val (.int p2), .val (.double d3), .second] [])) _
          refine XS.dloadN X0.here hx rfl (hb hby d5_52) rfl ?_
          show Steps p.tables e below (s₁.setTop (mkF m 53 #[.val (.int p1), .val (.int p2), .val (.double d3), .second] [(.double d3)])) _
          refine XS.dconst0 X0.here hx rfl (hb hby d5_53) (v := FP.dconst0) rfl ?_
          show Steps p.tables e below (s₁.setTop (mkF m 54 #[.val (.int p1), .val (.int p2), .val (.double d3), .second] [(.double FP.dconst0), (.double d3)])) _
          refine XS.dcmpS X0.here hx rfl (hb hby d5_54) rfl (v := (cmpValue (FP.dcmp d3 FP.dconst0) .l)) rfl ?_
          show Steps p.tables e below (s₁.setTop (mkF m 55 #[.val (.int p1), .val (.int p2), .val (.double d3), .second] [(.int (cmpValue (FP.dcmp d3 FP.dconst0) .l))])) _
          refine XS.ifYes X0.here hx rfl (pc0 := 55) (pc' := 62) rfl (hb hby d5_55) rfl ((if0 _ _).trans (feq (own_s5n HS hc1_1 hf4)).2) (by decide) (by decide) ?_
          show Steps p.tables e below (s₁.setTop (mkF m 62 #[.val (.int p1), .val (.int p2), .val (.double d3), .second] [])) _
          refine XS.iconst X0.here hx rfl (hb hby d5_62) ?_
          show Steps p.tables e below (s₁.setTop (mkF m 63 #[.val (.int p1), .val (.int p2), .val (.double d3), .second] [(.int (0 : Int32))])) _
          refine XS.iloadN X0.here hx rfl (hb hby d5_63) rfl ?_
          show Steps p.tables e below (s₁.setTop (mkF m 64 #[.val (.int p1), .val (.int p2), .val (.double d3), .second] [(.int p2), (.int (0 : Int32))])) _
          refine XS.ifYes X0.here hx rfl (pc0 := 64) (pc' := 71) rfl (hb hby d5_64) rfl ((if0 _ _).trans (feq hf4).2) (by decide) (by decide) ?_
          show Steps p.tables e below (s₁.setTop (mkF m 71 #[.val (.int p1), .val (.int p2), .val (.double d3), .second] [(.int (0 : Int32))])) _
          refine XS.iconst X0.here hx rfl (hb hby d5_71) ?_
          show Steps p.tables e below (s₁.setTop (mkF m 72 #[.val (.int p1), .val (.int p2), .val (.double d3), .second] [(.int (0 : Int32)), (.int (0 : Int32))])) _
          refine XS.icmpNo X0.here hx rfl (hb hby d5_72) rfl (teq (by decide : (0 : Int32) = (0 : Int32))).2 ?_
          show Steps p.tables e below (s₁.setTop (mkF m 75 #[.val (.int p1), .val (.int p2), .val (.double d3), .second] [])) _
          refine XS.iconst X0.here hx rfl (hb hby d5_75) ?_
          show Steps p.tables e below (s₁.setTop (mkF m 76 #[.val (.int p1), .val (.int p2), .val (.double d3), .second] [(.int (1 : Int32))])) _
          refine XS.goto X0.here hx rfl (pc0 := 76) (pc' := 80) rfl (hb hby d5_76) (by decide) (by decide) ?_
          show Steps p.tables e below (s₁.setTop (mkF m 80 #[.val (.int p1), .val (.int p2), .val (.double d3), .second] [(.int (1 : Int32))])) _
          exact retN X0 hx (t := .boolean) Bd.returns (by simp) (hb hby d5_80) hr
        · show Q5_0 Z p1 p2 d3 h0 n0 _ s₁.heap _
          rw [e0]
          exact ⟨rfl, N0, rfl⟩
theorem pd_3 : parseMethodDescriptor "(IID)Z" = some ⟨[.int, .int, .double], some .boolean⟩ := by decide +kernel
theorem ef_rm0_0 (m : MethodId) (x0 : Int32) (x1 : Int32) (x2 : Int32) (x3 : Int32) (x4 : Int32) (x5 : Int32) : entryFrame m #[(.int x0), (.int x1), (.int x2), (.int x3), (.int x4), (.int x5)] maxLocals = mkF m 0 #[.val (.int x0), .val (.int x1), .val (.int x2), .val (.int x3), .val (.int x4), .val (.int x5), .unset, .unset, .unset, .unset, .unset, .unset, .unset, .unset, .unset, .unset, .unset, .unset, .unset, .unset, .unset, .unset, .unset, .unset, .unset, .unset, .unset] [] := by first | (simp [entryFrame, mkF, argsToLocals, Value.category, maxLocals]; done) | rfl
def Q0_0 (Z : State) (p1 : Int32) (p2 : Int32) (p3 : Int32) (p4 : Int32) (p5 : Int32) (p6 : Int32) (w_LARGEST : Addr) (w_PRECISION : Addr) (h0 : Heap) (n0 : Nat) (v : Option Value) (h : Heap) (L : List Loc) : Prop := v = some (.int (1 : Int32)) ∧ Fr n0 L
set_option maxRecDepth 65536 in
set_option maxHeartbeats 40000000 in
theorem rm0_0 (l : Launch) (Z : State) (a0 : Array Value) (hw : ∀ d ∈ tables_1, d.before a0 Z = true) (ws : List Jvm.Cond) (p1 : Int32) (p2 : Int32) (p3 : Int32) (p4 : Int32) (p5 : Int32) (p6 : Int32) (w_LARGEST : Addr) (w_PRECISION : Addr) (h0 : Heap) (n0 : Nat) (Z0 : n0 ≤ h0.size) (S_LARGEST : Sta Z h0 "com/example/cotejo/cotejo/optimize/Mode" "LARGEST" "Lcom/example/cotejo/cotejo/optimize/Mode;" (.ref w_LARGEST)) (S_PRECISION : Sta Z h0 "com/example/cotejo/cotejo/optimize/Mode" "PRECISION" "Lcom/example/cotejo/cotejo/optimize/Mode;" (.ref w_PRECISION)) :
    MetFree l x (head1 (Jvm.Cond.code x code maxLocals ret :: ws) room_1) (fun a U => a = #[(.int p1), (.int p2), (.int p3), (.int p4), (.int p5), (.int p6)] ∧ Z.Warmed39 U.vm ∧ U.heap = h0) (fun _ _ _ _ _ => True) (fun _ U o U' => ∃ v L, o = .returned v ∧ Q0_0 Z p1 p2 p3 p4 p5 p6 w_LARGEST w_PRECISION h0 n0 v U'.heap L ∧ FrameEnd U o U' L room_1.cells room_1.slots) := by
  refine MetFree.of_bodySF (plainFor_of_name pn_1) hisR ?_
  intro p e s m args below meth c s₁ Bd hml0 hP hK
  obtain ⟨rfl, hZ, hh⟩ := hP
  have hx := Bd.exec
  have hby := Bd.bytes
  have hml : c.maxLocals = 27 := hml0
  have hown : s.vm.findClass "com/example/cotejo/cotejo/optimize/OptimalQueryPrecisionPinLaw" = some m.cls := findClass_of_methodNamed Bd.named
  have hnm := (name_of_methodNamed Bd.named Bd.method).1
  have X0 : Stand p l e room_1 s m #[(.int p1), (.int p2), (.int p3), (.int p4), (.int p5), (.int p6)] below meth c s₁ [] 0 0 := Stand.of_body Bd
  have e0 : s₁.heap = h0 := by rw [← hh, Bd.state]; rfl
  have N0 := Fr.nil n0
  have pre0 : ∀ t, Steps p.tables e below (s₁.setTop (mkF m 0 #[.val (.int p1), .val (.int p2), .val (.int p3), .val (.int p4), .val (.int p5), .val (.int p6), .unset, .unset, .unset, .unset, .unset, .unset, .unset, .unset, .unset, .unset, .unset, .unset, .unset, .unset, .unset, .unset, .unset, .unset, .unset, .unset, .unset] [])) t → Steps p.tables e below (s₁.setTop (entryFrame m #[(.int p1), (.int p2), (.int p3), (.int p4), (.int p5), (.int p6)] maxLocals)) t := fun t k => castTop (ef_rm0_0 m p1 p2 p3 p4 p5 p6) k
  have k1 : ∀ t, Steps p.tables e below (s₁.setTop (mkF m 4 #[.val (.int p1), .val (.int p2), .val (.int p3), .val (.int p4), .val (.int p5), .val (.int p6), .unset, .unset, .unset, .unset, .unset, .unset, .unset, .unset, .unset, .unset, .unset, .unset, .unset, .unset, .unset, .unset, .unset, .unset, .unset, .unset, .unset] [(.int (p5 &&& (1 : Int32)))])) t → Steps p.tables e below (s₁.setTop (entryFrame m #[(.int p1), (.int p2), (.int p3), (.int p4), (.int p5), (.int p6)] maxLocals)) t := by
    intro t k
    refine pre0 t ?_
    show Steps p.tables e below (s₁.setTop (mkF m 0 #[.val (.int p1), .val (.int p2), .val (.int p3), .val (.int p4), .val (.int p5), .val (.int p6), .unset, .unset, .unset, .unset, .unset, .unset, .unset, .unset, .unset, .unset, .unset, .unset, .unset, .unset, .unset, .unset, .unset, .unset, .unset, .unset, .unset] [])) _
    refine XS.iload X0.here hx rfl (hb hby at_0) rfl ?_
    show Steps p.tables e below (s₁.setTop (mkF m 2 #[.val (.int p1), .val (.int p2), .val (.int p3), .val (.int p4), .val (.int p5), .val (.int p6), .unset, .unset, .unset, .unset, .unset, .unset, .unset, .unset, .unset, .unset, .unset, .unset, .unset, .unset, .unset, .unset, .unset, .unset, .unset, .unset, .unset] [(.int p5)])) _
    refine XS.iconst X0.here hx rfl (hb hby at_2) ?_
    show Steps p.tables e below (s₁.setTop (mkF m 3 #[.val (.int p1), .val (.int p2), .val (.int p3), .val (.int p4), .val (.int p5), .val (.int p6), .unset, .unset, .unset, .unset, .unset, .unset, .unset, .unset, .unset, .unset, .unset, .unset, .unset, .unset, .unset, .unset, .unset, .unset, .unset, .unset, .unset] [(.int (1 : Int32)), (.int p5)])) _
    refine XS.iand X0.here hx rfl (hb hby at_3) rfl ?_
    exact k
  obtain ⟨j2_0, T2, L2, X2, e2, N2, k2⟩ : ∃ (j2_0 : Addr) (T' : State) (L' : List Loc), Stand p l e room_1 s m #[(.int p1), (.int p2), (.int p3), (.int p4), (.int p5), (.int p6)] below meth c T' L' 0 0 ∧ T'.heap = h0 ∧ Fr n0 L' ∧ ∀ t, Steps p.tables e below (T'.setTop (mkF m 16 #[.val (.int p1), .val (.int p2), .val (.int p3), .val (.int p4), .val (.int p5), .val (.int p6), .unset, .unset, .unset, .unset, .unset, .unset, .unset, .unset, .unset, .unset, .unset, .unset, .unset, .unset, .unset, .unset, .unset, .unset, .unset, .unset, .unset] [(.ref j2_0)])) t → Steps p.tables e below (s₁.setTop (entryFrame m #[(.int p1), (.int p2), (.int p3), (.int p4), (.int p5), (.int p6)] maxLocals)) t := by
    by_cases hc4_1 : (p5 &&& (1 : Int32)) = (0 : Int32)
    ·
      obtain ⟨T3, X3, e3, st3⟩ := getS2 X0 hx hZ hown (host := "") (Or.inl (hw _ (List.mem_of_getElem? (i := 0) rfl))) Via.refl e0 S_LARGEST (g := (mkF m 13 #[.val (.int p1), .val (.int p2), .val (.int p3), .val (.int p4), .val (.int p5), .val (.int p6), .unset, .unset, .unset, .unset, .unset, .unset, .unset, .unset, .unset, .unset, .unset, .unset, .unset, .unset, .unset, .unset, .unset, .unset, .unset, .unset, .unset] [])) rfl (hb hby at_13)
      have k4 : ∀ t, Steps p.tables e below (T3.setTop (mkF m 16 #[.val (.int p1), .val (.int p2), .val (.int p3), .val (.int p4), .val (.int p5), .val (.int p6), .unset, .unset, .unset, .unset, .unset, .unset, .unset, .unset, .unset, .unset, .unset, .unset, .unset, .unset, .unset, .unset, .unset, .unset, .unset, .unset, .unset] [(.ref w_LARGEST)])) t → Steps p.tables e below (s₁.setTop (entryFrame m #[(.int p1), (.int p2), (.int p3), (.int p4), (.int p5), (.int p6)] maxLocals)) t := by
        intro t k
        refine k1 t ?_
        show Steps p.tables e below (s₁.setTop (mkF m 4 #[.val (.int p1), .val (.int p2), .val (.int p3), .val (.int p4), .val (.int p5), .val (.int p6), .unset, .unset, .unset, .unset, .unset, .unset, .unset, .unset, .unset, .unset, .unset, .unset, .unset, .unset, .unset, .unset, .unset, .unset, .unset, .unset, .unset] [(.int (p5 &&& (1 : Int32)))])) _
        refine XS.ifYes X0.here hx rfl (pc0 := 4) (pc' := 13) rfl (hb hby at_4) rfl ((if0 _ _).trans (teq hc4_1).1) (by decide) (by decide) ?_
        show Steps p.tables e below (s₁.setTop (mkF m 13 #[.val (.int p1), .val (.int p2), .val (.int p3), .val (.int p4), .val (.int p5), .val (.int p6), .unset, .unset, .unset, .unset, .unset, .unset, .unset, .unset, .unset, .unset, .unset, .unset, .unset, .unset, .unset, .unset, .unset, .unset, .unset, .unset, .unset] [])) _
        refine st3 _ ?_
        exact k
      exact ⟨w_LARGEST, T3, _, X3, e3, N0, k4⟩
    ·
      obtain ⟨T5, X5, e5, st5⟩ := getS2 X0 hx hZ hown (host := "") (Or.inl (hw _ (List.mem_of_getElem? (i := 34) rfl))) Via.refl e0 S_PRECISION (g := (mkF m 7 #[.val (.int p1), .val (.int p2), .val (.int p3), .val (.int p4), .val (.int p5), .val (.int p6), .unset, .unset, .unset, .unset, .unset, .unset, .unset, .unset, .unset, .unset, .unset, .unset, .unset, .unset, .unset, .unset, .unset, .unset, .unset, .unset, .unset] [])) rfl (hb hby at_7)
      have k6 : ∀ t, Steps p.tables e below (T5.setTop (mkF m 16 #[.val (.int p1), .val (.int p2), .val (.int p3), .val (.int p4), .val (.int p5), .val (.int p6), .unset, .unset, .unset, .unset, .unset, .unset, .unset, .unset, .unset, .unset, .unset, .unset, .unset, .unset, .unset, .unset, .unset, .unset, .unset, .unset, .unset] [(.ref w_PRECISION)])) t → Steps p.tables e below (s₁.setTop (entryFrame m #[(.int p1), (.int p2), (.int p3), (.int p4), (.int p5), (.int p6)] maxLocals)) t := by
        intro t k
        refine k1 t ?_
        show Steps p.tables e below (s₁.setTop (mkF m 4 #[.val (.int p1), .val (.int p2), .val (.int p3), .val (.int p4), .val (.int p5), .val (.int p6), .unset, .unset, .unset, .unset, .unset, .unset, .unset, .unset, .unset, .unset, .unset, .unset, .unset, .unset, .unset, .unset, .unset, .unset, .unset, .unset, .unset] [(.int (p5 &&& (1 : Int32)))])) _
        refine XS.ifNo X0.here hx rfl (hb hby at_4) rfl ((if0 _ _).trans (feq hc4_1).1) ?_
        show Steps p.tables e below (s₁.setTop (mkF m 7 #[.val (.int p1), .val (.int p2), .val (.int p3), .val (.int p4), .val (.int p5), .val (.int p6), .unset, .unset, .unset, .unset, .unset, .unset, .unset, .unset, .unset, .unset, .unset, .unset, .unset, .unset, .unset, .unset, .unset, .unset, .unset, .unset, .unset] [])) _
        refine st5 _ ?_
        show Steps p.tables e below (T5.setTop (mkF m 10 #[.val (.int p1), .val (.int p2), .val (.int p3), .val (.int p4), .val (.int p5), .val (.int p6), .unset, .unset, .unset, .unset, .unset, .unset, .unset, .unset, .unset, .unset, .unset, .unset, .unset, .unset, .unset, .unset, .unset, .unset, .unset, .unset, .unset] [(.ref w_PRECISION)])) _
        refine XS.goto X5.here hx rfl (pc0 := 10) (pc' := 16) rfl (hb hby at_10) (by decide) (by decide) ?_
        exact k
      exact ⟨w_PRECISION, T5, _, X5, e5, N0, k6⟩
  have k7 : ∀ t, Steps p.tables e below (T2.setTop (mkF m 24 #[.val (.int p1), .val (.int p2), .val (.int p3), .val (.int p4), .val (.int p5), .val (.int p6), .val (.ref j2_0), .val (.int (p1 &&& (2147483647 : Int32))), .unset, .unset, .unset, .unset, .unset, .unset, .unset, .unset, .unset, .unset, .unset, .unset, .unset, .unset, .unset, .unset, .unset, .unset, .unset] [])) t → Steps p.tables e below (s₁.setTop (entryFrame m #[(.int p1), (.int p2), (.int p3), (.int p4), (.int p5), (.int p6)] maxLocals)) t := by
    intro t k
    refine k2 t ?_
    show Steps p.tables e below (T2.setTop (mkF m 16 #[.val (.int p1), .val (.int p2), .val (.int p3), .val (.int p4), .val (.int p5), .val (.int p6), .unset, .unset, .unset, .unset, .unset, .unset, .unset, .unset, .unset, .unset, .unset, .unset, .unset, .unset, .unset, .unset, .unset, .unset, .unset, .unset, .unset] [(.ref j2_0)])) _
    refine XS.astore X2.here hx rfl (hb hby at_16) rfl rfl (l' := #[.val (.int p1), .val (.int p2), .val (.int p3), .val (.int p4), .val (.int p5), .val (.int p6), .val (.ref j2_0), .unset, .unset, .unset, .unset, .unset, .unset, .unset, .unset, .unset, .unset, .unset, .unset, .unset, .unset, .unset, .unset, .unset, .unset, .unset, .unset]) rfl ?_
    show Steps p.tables e below (T2.setTop (mkF m 18 #[.val (.int p1), .val (.int p2), .val (.int p3), .val (.int p4), .val (.int p5), .val (.int p6), .val (.ref j2_0), .unset, .unset, .unset, .unset, .unset, .unset, .unset, .unset, .unset, .unset, .unset, .unset, .unset, .unset, .unset, .unset, .unset, .unset, .unset, .unset] [])) _
    refine XS.iloadN X2.here hx rfl (hb hby at_18) rfl ?_
    show Steps p.tables e below (T2.setTop (mkF m 19 #[.val (.int p1), .val (.int p2), .val (.int p3), .val (.int p4), .val (.int p5), .val (.int p6), .val (.ref j2_0), .unset, .unset, .unset, .unset, .unset, .unset, .unset, .unset, .unset, .unset, .unset, .unset, .unset, .unset, .unset, .unset, .unset, .unset, .unset, .unset] [(.int p1)])) _
    refine X2.ldcInt hx hown (mvT hZ (hw _ (List.mem_of_getElem? (i := 3) rfl))) (g := (mkF m 19 #[.val (.int p1), .val (.int p2), .val (.int p3), .val (.int p4), .val (.int p5), .val (.int p6), .val (.ref j2_0), .unset, .unset, .unset, .unset, .unset, .unset, .unset, .unset, .unset, .unset, .unset, .unset, .unset, .unset, .unset, .unset, .unset, .unset, .unset, .unset] [(.int p1)])) rfl (hb hby at_19) _ ?_
    show Steps p.tables e below (T2.setTop (mkF m 21 #[.val (.int p1), .val (.int p2), .val (.int p3), .val (.int p4), .val (.int p5), .val (.int p6), .val (.ref j2_0), .unset, .unset, .unset, .unset, .unset, .unset, .unset, .unset, .unset, .unset, .unset, .unset, .unset, .unset, .unset, .unset, .unset, .unset, .unset, .unset] [(.int (2147483647 : Int32)), (.int p1)])) _
    refine XS.iand X2.here hx rfl (hb hby at_21) rfl ?_
    show Steps p.tables e below (T2.setTop (mkF m 22 #[.val (.int p1), .val (.int p2), .val (.int p3), .val (.int p4), .val (.int p5), .val (.int p6), .val (.ref j2_0), .unset, .unset, .unset, .unset, .unset, .unset, .unset, .unset, .unset, .unset, .unset, .unset, .unset, .unset, .unset, .unset, .unset, .unset, .unset, .unset] [(.int (p1 &&& (2147483647 : Int32)))])) _
    refine XS.istore X2.here hx rfl (hb hby at_22) rfl (l' := #[.val (.int p1), .val (.int p2), .val (.int p3), .val (.int p4), .val (.int p5), .val (.int p6), .val (.ref j2_0), .val (.int (p1 &&& (2147483647 : Int32))), .unset, .unset, .unset, .unset, .unset, .unset, .unset, .unset, .unset, .unset, .unset, .unset, .unset, .unset, .unset, .unset, .unset, .unset, .unset]) rfl ?_
    exact k
  obtain ⟨bv, hg_bv⟩ : ∃ z : Int32, z = (p1 &&& (2147483647 : Int32)) := ⟨_, rfl⟩
  rw [← hg_bv] at k7
  have hb0 : 0 ≤ bv.toInt := by rw [hg_bv]; exact own_and _
  have k8 : ∀ t, Steps p.tables e below (T2.setTop (mkF m 39 #[.val (.int p1), .val (.int p2), .val (.int p3), .val (.int p4), .val (.int p5), .val (.int p6), .val (.ref j2_0), .val (.int bv), .val (.int ((((p2.toInt64) &&& (2147483647 : Int64)) - ((p2.toInt64) &&& (2147483647 : Int64)) / ((bv.toInt64) + (1 : Int64)) * ((bv.toInt64) + (1 : Int64))).toInt32)), .unset, .unset, .unset, .unset, .unset, .unset, .unset, .unset, .unset, .unset, .unset, .unset, .unset, .unset, .unset, .unset, .unset, .unset] [])) t → Steps p.tables e below (s₁.setTop (entryFrame m #[(.int p1), (.int p2), (.int p3), (.int p4), (.int p5), (.int p6)] maxLocals)) t := by
    intro t k
    refine k7 t ?_
    show Steps p.tables e below (T2.setTop (mkF m 24 #[.val (.int p1), .val (.int p2), .val (.int p3), .val (.int p4), .val (.int p5), .val (.int p6), .val (.ref j2_0), .val (.int bv), .unset, .unset, .unset, .unset, .unset, .unset, .unset, .unset, .unset, .unset, .unset, .unset, .unset, .unset, .unset, .unset, .unset, .unset, .unset] [])) _
    refine XS.iloadN X2.here hx rfl (hb hby at_24) rfl ?_
    show Steps p.tables e below (T2.setTop (mkF m 25 #[.val (.int p1), .val (.int p2), .val (.int p3), .val (.int p4), .val (.int p5), .val (.int p6), .val (.ref j2_0), .val (.int bv), .unset, .unset, .unset, .unset, .unset, .unset, .unset, .unset, .unset, .unset, .unset, .unset, .unset, .unset, .unset, .unset, .unset, .unset, .unset] [(.int p2)])) _
    refine XS.i2l X2.here hx rfl (hb hby at_25) rfl ?_
    show Steps p.tables e below (T2.setTop (mkF m 26 #[.val (.int p1), .val (.int p2), .val (.int p3), .val (.int p4), .val (.int p5), .val (.int p6), .val (.ref j2_0), .val (.int bv), .unset, .unset, .unset, .unset, .unset, .unset, .unset, .unset, .unset, .unset, .unset, .unset, .unset, .unset, .unset, .unset, .unset, .unset, .unset] [(.long (p2.toInt64))])) _
    refine X2.ldc2Long hx hown (mvT hZ (hw _ (List.mem_of_getElem? (i := 4) rfl))) (g := (mkF m 26 #[.val (.int p1), .val (.int p2), .val (.int p3), .val (.int p4), .val (.int p5), .val (.int p6), .val (.ref j2_0), .val (.int bv), .unset, .unset, .unset, .unset, .unset, .unset, .unset, .unset, .unset, .unset, .unset, .unset, .unset, .unset, .unset, .unset, .unset, .unset, .unset] [(.long (p2.toInt64))])) rfl (hb hby at_26) _ ?_
    show Steps p.tables e below (T2.setTop (mkF m 29 #[.val (.int p1), .val (.int p2), .val (.int p3), .val (.int p4), .val (.int p5), .val (.int p6), .val (.ref j2_0), .val (.int bv), .unset, .unset, .unset, .unset, .unset, .unset, .unset, .unset, .unset, .unset, .unset, .unset, .unset, .unset, .unset, .unset, .unset, .unset, .unset] [(.long (2147483647 : Int64)), (.long (p2.toInt64))])) _
    refine XS.land X2.here hx rfl (hb hby at_29) rfl ?_
    show Steps p.tables e below (T2.setTop (mkF m 30 #[.val (.int p1), .val (.int p2), .val (.int p3), .val (.int p4), .val (.int p5), .val (.int p6), .val (.ref j2_0), .val (.int bv), .unset, .unset, .unset, .unset, .unset, .unset, .unset, .unset, .unset, .unset, .unset, .unset, .unset, .unset, .unset, .unset, .unset, .unset, .unset] [(.long ((p2.toInt64) &&& (2147483647 : Int64)))])) _
    refine XS.iload X2.here hx rfl (hb hby at_30) rfl ?_
    show Steps p.tables e below (T2.setTop (mkF m 32 #[.val (.int p1), .val (.int p2), .val (.int p3), .val (.int p4), .val (.int p5), .val (.int p6), .val (.ref j2_0), .val (.int bv), .unset, .unset, .unset, .unset, .unset, .unset, .unset, .unset, .unset, .unset, .unset, .unset, .unset, .unset, .unset, .unset, .unset, .unset, .unset] [(.int bv), (.long ((p2.toInt64) &&& (2147483647 : Int64)))])) _
    refine XS.i2l X2.here hx rfl (hb hby at_32) rfl ?_
    show Steps p.tables e below (T2.setTop (mkF m 33 #[.val (.int p1), .val (.int p2), .val (.int p3), .val (.int p4), .val (.int p5), .val (.int p6), .val (.ref j2_0), .val (.int bv), .unset, .unset, .unset, .unset, .unset, .unset, .unset, .unset, .unset, .unset, .unset, .unset, .unset, .unset, .unset, .unset, .unset, .unset, .unset] [(.long (bv.toInt64)), (.long ((p2.toInt64) &&& (2147483647 : Int64)))])) _
    refine XS.lconst X2.here hx rfl (hb hby at_33) ?_
    show Steps p.tables e below (T2.setTop (mkF m 34 #[.val (.int p1), .val (.int p2), .val (.int p3), .val (.int p4), .val (.int p5), .val (.int p6), .val (.ref j2_0), .val (.int bv), .unset, .unset, .unset, .unset, .unset, .unset, .unset, .unset, .unset, .unset, .unset, .unset, .unset, .unset, .unset, .unset, .unset, .unset, .unset] [(.long (1 : Int64)), (.long (bv.toInt64)), (.long ((p2.toInt64) &&& (2147483647 : Int64)))])) _
    refine XS.ladd X2.here hx rfl (hb hby at_34) rfl ?_
    show Steps p.tables e below (T2.setTop (mkF m 35 #[.val (.int p1), .val (.int p2), .val (.int p3), .val (.int p4), .val (.int p5), .val (.int p6), .val (.ref j2_0), .val (.int bv), .unset, .unset, .unset, .unset, .unset, .unset, .unset, .unset, .unset, .unset, .unset, .unset, .unset, .unset, .unset, .unset, .unset, .unset, .unset] [(.long ((bv.toInt64) + (1 : Int64))), (.long ((p2.toInt64) &&& (2147483647 : Int64)))])) _
    refine XS.lrem X2.here hx rfl (hb hby at_35) rfl (own_nz _ hb0) ?_
    show Steps p.tables e below (T2.setTop (mkF m 36 #[.val (.int p1), .val (.int p2), .val (.int p3), .val (.int p4), .val (.int p5), .val (.int p6), .val (.ref j2_0), .val (.int bv), .unset, .unset, .unset, .unset, .unset, .unset, .unset, .unset, .unset, .unset, .unset, .unset, .unset, .unset, .unset, .unset, .unset, .unset, .unset] [(.long (((p2.toInt64) &&& (2147483647 : Int64)) - ((p2.toInt64) &&& (2147483647 : Int64)) / ((bv.toInt64) + (1 : Int64)) * ((bv.toInt64) + (1 : Int64))))])) _
    refine XS.l2i X2.here hx rfl (hb hby at_36) rfl ?_
    show Steps p.tables e below (T2.setTop (mkF m 37 #[.val (.int p1), .val (.int p2), .val (.int p3), .val (.int p4), .val (.int p5), .val (.int p6), .val (.ref j2_0), .val (.int bv), .unset, .unset, .unset, .unset, .unset, .unset, .unset, .unset, .unset, .unset, .unset, .unset, .unset, .unset, .unset, .unset, .unset, .unset, .unset] [(.int ((((p2.toInt64) &&& (2147483647 : Int64)) - ((p2.toInt64) &&& (2147483647 : Int64)) / ((bv.toInt64) + (1 : Int64)) * ((bv.toInt64) + (1 : Int64))).toInt32))])) _
    refine XS.istore X2.here hx rfl (hb hby at_37) rfl (l' := #[.val (.int p1), .val (.int p2), .val (.int p3), .val (.int p4), .val (.int p5), .val (.int p6), .val (.ref j2_0), .val (.int bv), .val (.int ((((p2.toInt64) &&& (2147483647 : Int64)) - ((p2.toInt64) &&& (2147483647 : Int64)) / ((bv.toInt64) + (1 : Int64)) * ((bv.toInt64) + (1 : Int64))).toInt32)), .unset, .unset, .unset, .unset, .unset, .unset, .unset, .unset, .unset, .unset, .unset, .unset, .unset, .unset, .unset, .unset, .unset, .unset]) rfl ?_
    exact k
  obtain ⟨av, hg_av⟩ : ∃ z : Int32, z = ((((p2.toInt64) &&& (2147483647 : Int64)) - ((p2.toInt64) &&& (2147483647 : Int64)) / ((bv.toInt64) + (1 : Int64)) * ((bv.toInt64) + (1 : Int64))).toInt32) := ⟨_, rfl⟩
  rw [← hg_av] at k8
  have hok_av : FP.Core.own_ok bv av := by rw [hg_av]; exact own_r2 _ _ hb0
  have k9 : ∀ t, Steps p.tables e below (T2.setTop (mkF m 45 #[.val (.int p1), .val (.int p2), .val (.int p3), .val (.int p4), .val (.int p5), .val (.int p6), .val (.ref j2_0), .val (.int bv), .val (.int av), .val (.int (p3 &&& (2147483647 : Int32))), .unset, .unset, .unset, .unset, .unset, .unset, .unset, .unset, .unset, .unset, .unset, .unset, .unset, .unset, .unset, .unset, .unset] [])) t → Steps p.tables e below (s₁.setTop (entryFrame m #[(.int p1), (.int p2), (.int p3), (.int p4), (.int p5), (.int p6)] maxLocals)) t := by
    intro t k
    refine k8 t ?_
    show Steps p.tables e below (T2.setTop (mkF m 39 #[.val (.int p1), .val (.int p2), .val (.int p3), .val (.int p4), .val (.int p5), .val (.int p6), .val (.ref j2_0), .val (.int bv), .val (.int av), .unset, .unset, .unset, .unset, .unset, .unset, .unset, .unset, .unset, .unset, .unset, .unset, .unset, .unset, .unset, .unset, .unset, .unset] [])) _
    refine XS.iloadN X2.here hx rfl (hb hby at_39) rfl ?_
    show Steps p.tables e below (T2.setTop (mkF m 40 #[.val (.int p1), .val (.int p2), .val (.int p3), .val (.int p4), .val (.int p5), .val (.int p6), .val (.ref j2_0), .val (.int bv), .val (.int av), .unset, .unset, .unset, .unset, .unset, .unset, .unset, .unset, .unset, .unset, .unset, .unset, .unset, .unset, .unset, .unset, .unset, .unset] [(.int p3)])) _
    refine X2.ldcInt hx hown (mvT hZ (hw _ (List.mem_of_getElem? (i := 3) rfl))) (g := (mkF m 40 #[.val (.int p1), .val (.int p2), .val (.int p3), .val (.int p4), .val (.int p5), .val (.int p6), .val (.ref j2_0), .val (.int bv), .val (.int av), .unset, .unset, .unset, .unset, .unset, .unset, .unset, .unset, .unset, .unset, .unset, .unset, .unset, .unset, .unset, .unset, .unset, .unset] [(.int p3)])) rfl (hb hby at_40) _ ?_
    show Steps p.tables e below (T2.setTop (mkF m 42 #[.val (.int p1), .val (.int p2), .val (.int p3), .val (.int p4), .val (.int p5), .val (.int p6), .val (.ref j2_0), .val (.int bv), .val (.int av), .unset, .unset, .unset, .unset, .unset, .unset, .unset, .unset, .unset, .unset, .unset, .unset, .unset, .unset, .unset, .unset, .unset, .unset] [(.int (2147483647 : Int32)), (.int p3)])) _
    refine XS.iand X2.here hx rfl (hb hby at_42) rfl ?_
    show Steps p.tables e below (T2.setTop (mkF m 43 #[.val (.int p1), .val (.int p2), .val (.int p3), .val (.int p4), .val (.int p5), .val (.int p6), .val (.ref j2_0), .val (.int bv), .val (.int av), .unset, .unset, .unset, .unset, .unset, .unset, .unset, .unset, .unset, .unset, .unset, .unset, .unset, .unset, .unset, .unset, .unset, .unset] [(.int (p3 &&& (2147483647 : Int32)))])) _
    refine XS.istore X2.here hx rfl (hb hby at_43) rfl (l' := #[.val (.int p1), .val (.int p2), .val (.int p3), .val (.int p4), .val (.int p5), .val (.int p6), .val (.ref j2_0), .val (.int bv), .val (.int av), .val (.int (p3 &&& (2147483647 : Int32))), .unset, .unset, .unset, .unset, .unset, .unset, .unset, .unset, .unset, .unset, .unset, .unset, .unset, .unset, .unset, .unset, .unset]) rfl ?_
    exact k
  obtain ⟨dv, hg_dv⟩ : ∃ z : Int32, z = (p3 &&& (2147483647 : Int32)) := ⟨_, rfl⟩
  rw [← hg_dv] at k9
  have hd0 : 0 ≤ dv.toInt := by rw [hg_dv]; exact own_and _
  have k10 : ∀ t, Steps p.tables e below (T2.setTop (mkF m 60 #[.val (.int p1), .val (.int p2), .val (.int p3), .val (.int p4), .val (.int p5), .val (.int p6), .val (.ref j2_0), .val (.int bv), .val (.int av), .val (.int dv), .val (.int ((((p4.toInt64) &&& (2147483647 : Int64)) - ((p4.toInt64) &&& (2147483647 : Int64)) / ((dv.toInt64) + (1 : Int64)) * ((dv.toInt64) + (1 : Int64))).toInt32)), .unset, .unset, .unset, .unset, .unset, .unset, .unset, .unset, .unset, .unset, .unset, .unset, .unset, .unset, .unset, .unset] [])) t → Steps p.tables e below (s₁.setTop (entryFrame m #[(.int p1), (.int p2), (.int p3), (.int p4), (.int p5), (.int p6)] maxLocals)) t := by
    intro t k
    refine k9 t ?_
    show Steps p.tables e below (T2.setTop (mkF m 45 #[.val (.int p1), .val (.int p2), .val (.int p3), .val (.int p4), .val (.int p5), .val (.int p6), .val (.ref j2_0), .val (.int bv), .val (.int av), .val (.int dv), .unset, .unset, .unset, .unset, .unset, .unset, .unset, .unset, .unset, .unset, .unset, .unset, .unset, .unset, .unset, .unset, .unset] [])) _
    refine XS.iloadN X2.here hx rfl (hb hby at_45) rfl ?_
    show Steps p.tables e below (T2.setTop (mkF m 46 #[.val (.int p1), .val (.int p2), .val (.int p3), .val (.int p4), .val (.int p5), .val (.int p6), .val (.ref j2_0), .val (.int bv), .val (.int av), .val (.int dv), .unset, .unset, .unset, .unset, .unset, .unset, .unset, .unset, .unset, .unset, .unset, .unset, .unset, .unset, .unset, .unset, .unset] [(.int p4)])) _
    refine XS.i2l X2.here hx rfl (hb hby at_46) rfl ?_
    show Steps p.tables e below (T2.setTop (mkF m 47 #[.val (.int p1), .val (.int p2), .val (.int p3), .val (.int p4), .val (.int p5), .val (.int p6), .val (.ref j2_0), .val (.int bv), .val (.int av), .val (.int dv), .unset, .unset, .unset, .unset, .unset, .unset, .unset, .unset, .unset, .unset, .unset, .unset, .unset, .unset, .unset, .unset, .unset] [(.long (p4.toInt64))])) _
    refine X2.ldc2Long hx hown (mvT hZ (hw _ (List.mem_of_getElem? (i := 4) rfl))) (g := (mkF m 47 #[.val (.int p1), .val (.int p2), .val (.int p3), .val (.int p4), .val (.int p5), .val (.int p6), .val (.ref j2_0), .val (.int bv), .val (.int av), .val (.int dv), .unset, .unset, .unset, .unset, .unset, .unset, .unset, .unset, .unset, .unset, .unset, .unset, .unset, .unset, .unset, .unset, .unset] [(.long (p4.toInt64))])) rfl (hb hby at_47) _ ?_
    show Steps p.tables e below (T2.setTop (mkF m 50 #[.val (.int p1), .val (.int p2), .val (.int p3), .val (.int p4), .val (.int p5), .val (.int p6), .val (.ref j2_0), .val (.int bv), .val (.int av), .val (.int dv), .unset, .unset, .unset, .unset, .unset, .unset, .unset, .unset, .unset, .unset, .unset, .unset, .unset, .unset, .unset, .unset, .unset] [(.long (2147483647 : Int64)), (.long (p4.toInt64))])) _
    refine XS.land X2.here hx rfl (hb hby at_50) rfl ?_
    show Steps p.tables e below (T2.setTop (mkF m 51 #[.val (.int p1), .val (.int p2), .val (.int p3), .val (.int p4), .val (.int p5), .val (.int p6), .val (.ref j2_0), .val (.int bv), .val (.int av), .val (.int dv), .unset, .unset, .unset, .unset, .unset, .unset, .unset, .unset, .unset, .unset, .unset, .unset, .unset, .unset, .unset, .unset, .unset] [(.long ((p4.toInt64) &&& (2147483647 : Int64)))])) _
    refine XS.iload X2.here hx rfl (hb hby at_51) rfl ?_
    show Steps p.tables e below (T2.setTop (mkF m 53 #[.val (.int p1), .val (.int p2), .val (.int p3), .val (.int p4), .val (.int p5), .val (.int p6), .val (.ref j2_0), .val (.int bv), .val (.int av), .val (.int dv), .unset, .unset, .unset, .unset, .unset, .unset, .unset, .unset, .unset, .unset, .unset, .unset, .unset, .unset, .unset, .unset, .unset] [(.int dv), (.long ((p4.toInt64) &&& (2147483647 : Int64)))])) _
    refine XS.i2l X2.here hx rfl (hb hby at_53) rfl ?_
    show Steps p.tables e below (T2.setTop (mkF m 54 #[.val (.int p1), .val (.int p2), .val (.int p3), .val (.int p4), .val (.int p5), .val (.int p6), .val (.ref j2_0), .val (.int bv), .val (.int av), .val (.int dv), .unset, .unset, .unset, .unset, .unset, .unset, .unset, .unset, .unset, .unset, .unset, .unset, .unset, .unset, .unset, .unset, .unset] [(.long (dv.toInt64)), (.long ((p4.toInt64) &&& (2147483647 : Int64)))])) _
    refine XS.lconst X2.here hx rfl (hb hby at_54) ?_
    show Steps p.tables e below (T2.setTop (mkF m 55 #[.val (.int p1), .val (.int p2), .val (.int p3), .val (.int p4), .val (.int p5), .val (.int p6), .val (.ref j2_0), .val (.int bv), .val (.int av), .val (.int dv), .unset, .unset, .unset, .unset, .unset, .unset, .unset, .unset, .unset, .unset, .unset, .unset, .unset, .unset, .unset, .unset, .unset] [(.long (1 : Int64)), (.long (dv.toInt64)), (.long ((p4.toInt64) &&& (2147483647 : Int64)))])) _
    refine XS.ladd X2.here hx rfl (hb hby at_55) rfl ?_
    show Steps p.tables e below (T2.setTop (mkF m 56 #[.val (.int p1), .val (.int p2), .val (.int p3), .val (.int p4), .val (.int p5), .val (.int p6), .val (.ref j2_0), .val (.int bv), .val (.int av), .val (.int dv), .unset, .unset, .unset, .unset, .unset, .unset, .unset, .unset, .unset, .unset, .unset, .unset, .unset, .unset, .unset, .unset, .unset] [(.long ((dv.toInt64) + (1 : Int64))), (.long ((p4.toInt64) &&& (2147483647 : Int64)))])) _
    refine XS.lrem X2.here hx rfl (hb hby at_56) rfl (own_nz _ hd0) ?_
    show Steps p.tables e below (T2.setTop (mkF m 57 #[.val (.int p1), .val (.int p2), .val (.int p3), .val (.int p4), .val (.int p5), .val (.int p6), .val (.ref j2_0), .val (.int bv), .val (.int av), .val (.int dv), .unset, .unset, .unset, .unset, .unset, .unset, .unset, .unset, .unset, .unset, .unset, .unset, .unset, .unset, .unset, .unset, .unset] [(.long (((p4.toInt64) &&& (2147483647 : Int64)) - ((p4.toInt64) &&& (2147483647 : Int64)) / ((dv.toInt64) + (1 : Int64)) * ((dv.toInt64) + (1 : Int64))))])) _
    refine XS.l2i X2.here hx rfl (hb hby at_57) rfl ?_
    show Steps p.tables e below (T2.setTop (mkF m 58 #[.val (.int p1), .val (.int p2), .val (.int p3), .val (.int p4), .val (.int p5), .val (.int p6), .val (.ref j2_0), .val (.int bv), .val (.int av), .val (.int dv), .unset, .unset, .unset, .unset, .unset, .unset, .unset, .unset, .unset, .unset, .unset, .unset, .unset, .unset, .unset, .unset, .unset] [(.int ((((p4.toInt64) &&& (2147483647 : Int64)) - ((p4.toInt64) &&& (2147483647 : Int64)) / ((dv.toInt64) + (1 : Int64)) * ((dv.toInt64) + (1 : Int64))).toInt32))])) _
    refine XS.istore X2.here hx rfl (hb hby at_58) rfl (l' := #[.val (.int p1), .val (.int p2), .val (.int p3), .val (.int p4), .val (.int p5), .val (.int p6), .val (.ref j2_0), .val (.int bv), .val (.int av), .val (.int dv), .val (.int ((((p4.toInt64) &&& (2147483647 : Int64)) - ((p4.toInt64) &&& (2147483647 : Int64)) / ((dv.toInt64) + (1 : Int64)) * ((dv.toInt64) + (1 : Int64))).toInt32)), .unset, .unset, .unset, .unset, .unset, .unset, .unset, .unset, .unset, .unset, .unset, .unset, .unset, .unset, .unset, .unset]) rfl ?_
    exact k
  obtain ⟨cv, hg_cv⟩ : ∃ z : Int32, z = ((((p4.toInt64) &&& (2147483647 : Int64)) - ((p4.toInt64) &&& (2147483647 : Int64)) / ((dv.toInt64) + (1 : Int64)) * ((dv.toInt64) + (1 : Int64))).toInt32) := ⟨_, rfl⟩
  rw [← hg_cv] at k10
  have hok_cv : FP.Core.own_ok dv cv := by rw [hg_cv]; exact own_r2 _ _ hd0
  have k11 : ∀ t, Steps p.tables e below (T2.setTop (mkF m 76 #[.val (.int p1), .val (.int p2), .val (.int p3), .val (.int p4), .val (.int p5), .val (.int p6), .val (.ref j2_0), .val (.int bv), .val (.int av), .val (.int dv), .val (.int cv), .val (.int ((((p6.toInt64) &&& (2147483647 : Int64)) - ((p6.toInt64) &&& (2147483647 : Int64)) / ((bv.toInt64) + (1 : Int64)) * ((bv.toInt64) + (1 : Int64))).toInt32)), .unset, .unset, .unset, .unset, .unset, .unset, .unset, .unset, .unset, .unset, .unset, .unset, .unset, .unset, .unset] [])) t → Steps p.tables e below (s₁.setTop (entryFrame m #[(.int p1), (.int p2), (.int p3), (.int p4), (.int p5), (.int p6)] maxLocals)) t := by
    intro t k
    refine k10 t ?_
    show Steps p.tables e below (T2.setTop (mkF m 60 #[.val (.int p1), .val (.int p2), .val (.int p3), .val (.int p4), .val (.int p5), .val (.int p6), .val (.ref j2_0), .val (.int bv), .val (.int av), .val (.int dv), .val (.int cv), .unset, .unset, .unset, .unset, .unset, .unset, .unset, .unset, .unset, .unset, .unset, .unset, .unset, .unset, .unset, .unset] [])) _
    refine XS.iload X2.here hx rfl (hb hby at_60) rfl ?_
    show Steps p.tables e below (T2.setTop (mkF m 62 #[.val (.int p1), .val (.int p2), .val (.int p3), .val (.int p4), .val (.int p5), .val (.int p6), .val (.ref j2_0), .val (.int bv), .val (.int av), .val (.int dv), .val (.int cv), .unset, .unset, .unset, .unset, .unset, .unset, .unset, .unset, .unset, .unset, .unset, .unset, .unset, .unset, .unset, .unset] [(.int p6)])) _
    refine XS.i2l X2.here hx rfl (hb hby at_62) rfl ?_
    show Steps p.tables e below (T2.setTop (mkF m 63 #[.val (.int p1), .val (.int p2), .val (.int p3), .val (.int p4), .val (.int p5), .val (.int p6), .val (.ref j2_0), .val (.int bv), .val (.int av), .val (.int dv), .val (.int cv), .unset, .unset, .unset, .unset, .unset, .unset, .unset, .unset, .unset, .unset, .unset, .unset, .unset, .unset, .unset, .unset] [(.long (p6.toInt64))])) _
    refine X2.ldc2Long hx hown (mvT hZ (hw _ (List.mem_of_getElem? (i := 4) rfl))) (g := (mkF m 63 #[.val (.int p1), .val (.int p2), .val (.int p3), .val (.int p4), .val (.int p5), .val (.int p6), .val (.ref j2_0), .val (.int bv), .val (.int av), .val (.int dv), .val (.int cv), .unset, .unset, .unset, .unset, .unset, .unset, .unset, .unset, .unset, .unset, .unset, .unset, .unset, .unset, .unset, .unset] [(.long (p6.toInt64))])) rfl (hb hby at_63) _ ?_
    show Steps p.tables e below (T2.setTop (mkF m 66 #[.val (.int p1), .val (.int p2), .val (.int p3), .val (.int p4), .val (.int p5), .val (.int p6), .val (.ref j2_0), .val (.int bv), .val (.int av), .val (.int dv), .val (.int cv), .unset, .unset, .unset, .unset, .unset, .unset, .unset, .unset, .unset, .unset, .unset, .unset, .unset, .unset, .unset, .unset] [(.long (2147483647 : Int64)), (.long (p6.toInt64))])) _
    refine XS.land X2.here hx rfl (hb hby at_66) rfl ?_
    show Steps p.tables e below (T2.setTop (mkF m 67 #[.val (.int p1), .val (.int p2), .val (.int p3), .val (.int p4), .val (.int p5), .val (.int p6), .val (.ref j2_0), .val (.int bv), .val (.int av), .val (.int dv), .val (.int cv), .unset, .unset, .unset, .unset, .unset, .unset, .unset, .unset, .unset, .unset, .unset, .unset, .unset, .unset, .unset, .unset] [(.long ((p6.toInt64) &&& (2147483647 : Int64)))])) _
    refine XS.iload X2.here hx rfl (hb hby at_67) rfl ?_
    show Steps p.tables e below (T2.setTop (mkF m 69 #[.val (.int p1), .val (.int p2), .val (.int p3), .val (.int p4), .val (.int p5), .val (.int p6), .val (.ref j2_0), .val (.int bv), .val (.int av), .val (.int dv), .val (.int cv), .unset, .unset, .unset, .unset, .unset, .unset, .unset, .unset, .unset, .unset, .unset, .unset, .unset, .unset, .unset, .unset] [(.int bv), (.long ((p6.toInt64) &&& (2147483647 : Int64)))])) _
    refine XS.i2l X2.here hx rfl (hb hby at_69) rfl ?_
    show Steps p.tables e below (T2.setTop (mkF m 70 #[.val (.int p1), .val (.int p2), .val (.int p3), .val (.int p4), .val (.int p5), .val (.int p6), .val (.ref j2_0), .val (.int bv), .val (.int av), .val (.int dv), .val (.int cv), .unset, .unset, .unset, .unset, .unset, .unset, .unset, .unset, .unset, .unset, .unset, .unset, .unset, .unset, .unset, .unset] [(.long (bv.toInt64)), (.long ((p6.toInt64) &&& (2147483647 : Int64)))])) _
    refine XS.lconst X2.here hx rfl (hb hby at_70) ?_
    show Steps p.tables e below (T2.setTop (mkF m 71 #[.val (.int p1), .val (.int p2), .val (.int p3), .val (.int p4), .val (.int p5), .val (.int p6), .val (.ref j2_0), .val (.int bv), .val (.int av), .val (.int dv), .val (.int cv), .unset, .unset, .unset, .unset, .unset, .unset, .unset, .unset, .unset, .unset, .unset, .unset, .unset, .unset, .unset, .unset] [(.long (1 : Int64)), (.long (bv.toInt64)), (.long ((p6.toInt64) &&& (2147483647 : Int64)))])) _
    refine XS.ladd X2.here hx rfl (hb hby at_71) rfl ?_
    show Steps p.tables e below (T2.setTop (mkF m 72 #[.val (.int p1), .val (.int p2), .val (.int p3), .val (.int p4), .val (.int p5), .val (.int p6), .val (.ref j2_0), .val (.int bv), .val (.int av), .val (.int dv), .val (.int cv), .unset, .unset, .unset, .unset, .unset, .unset, .unset, .unset, .unset, .unset, .unset, .unset, .unset, .unset, .unset, .unset] [(.long ((bv.toInt64) + (1 : Int64))), (.long ((p6.toInt64) &&& (2147483647 : Int64)))])) _
    refine XS.lrem X2.here hx rfl (hb hby at_72) rfl (own_nz _ hb0) ?_
    show Steps p.tables e below (T2.setTop (mkF m 73 #[.val (.int p1), .val (.int p2), .val (.int p3), .val (.int p4), .val (.int p5), .val (.int p6), .val (.ref j2_0), .val (.int bv), .val (.int av), .val (.int dv), .val (.int cv), .unset, .unset, .unset, .unset, .unset, .unset, .unset, .unset, .unset, .unset, .unset, .unset, .unset, .unset, .unset, .unset] [(.long (((p6.toInt64) &&& (2147483647 : Int64)) - ((p6.toInt64) &&& (2147483647 : Int64)) / ((bv.toInt64) + (1 : Int64)) * ((bv.toInt64) + (1 : Int64))))])) _
    refine XS.l2i X2.here hx rfl (hb hby at_73) rfl ?_
    show Steps p.tables e below (T2.setTop (mkF m 74 #[.val (.int p1), .val (.int p2), .val (.int p3), .val (.int p4), .val (.int p5), .val (.int p6), .val (.ref j2_0), .val (.int bv), .val (.int av), .val (.int dv), .val (.int cv), .unset, .unset, .unset, .unset, .unset, .unset, .unset, .unset, .unset, .unset, .unset, .unset, .unset, .unset, .unset, .unset] [(.int ((((p6.toInt64) &&& (2147483647 : Int64)) - ((p6.toInt64) &&& (2147483647 : Int64)) / ((bv.toInt64) + (1 : Int64)) * ((bv.toInt64) + (1 : Int64))).toInt32))])) _
    refine XS.istore X2.here hx rfl (hb hby at_74) rfl (l' := #[.val (.int p1), .val (.int p2), .val (.int p3), .val (.int p4), .val (.int p5), .val (.int p6), .val (.ref j2_0), .val (.int bv), .val (.int av), .val (.int dv), .val (.int cv), .val (.int ((((p6.toInt64) &&& (2147483647 : Int64)) - ((p6.toInt64) &&& (2147483647 : Int64)) / ((bv.toInt64) + (1 : Int64)) * ((bv.toInt64) + (1 : Int64))).toInt32)), .unset, .unset, .unset, .unset, .unset, .unset, .unset, .unset, .unset, .unset, .unset, .unset, .unset, .unset, .unset]) rfl ?_
    exact k
  obtain ⟨c3, hg_c3⟩ : ∃ z : Int32, z = ((((p6.toInt64) &&& (2147483647 : Int64)) - ((p6.toInt64) &&& (2147483647 : Int64)) / ((bv.toInt64) + (1 : Int64)) * ((bv.toInt64) + (1 : Int64))).toInt32) := ⟨_, rfl⟩
  rw [← hg_c3] at k11
  have hok_c3 : FP.Core.own_ok bv c3 := by rw [hg_c3]; exact own_r2 _ _ hb0
  have k12 : ∀ t, Steps p.tables e below (T2.setTop (mkF m 91 #[.val (.int p1), .val (.int p2), .val (.int p3), .val (.int p4), .val (.int p5), .val (.int p6), .val (.ref j2_0), .val (.int bv), .val (.int av), .val (.int dv), .val (.int cv), .val (.int c3), .val (.int (((p5.toUInt32 >>> ((1 : Int32) &&& 31).toUInt32).toInt32) % (31 : Int32))), .val (.int ((1 : Int32) <<< ((((p5.toUInt32 >>> ((1 : Int32) &&& 31).toUInt32).toInt32) % (31 : Int32)) &&& 31))), .unset, .unset, .unset, .unset, .unset, .unset, .unset, .unset, .unset, .unset, .unset, .unset, .unset] [])) t → Steps p.tables e below (s₁.setTop (entryFrame m #[(.int p1), (.int p2), (.int p3), (.int p4), (.int p5), (.int p6)] maxLocals)) t := by
    intro t k
    refine k11 t ?_
    show Steps p.tables e below (T2.setTop (mkF m 76 #[.val (.int p1), .val (.int p2), .val (.int p3), .val (.int p4), .val (.int p5), .val (.int p6), .val (.ref j2_0), .val (.int bv), .val (.int av), .val (.int dv), .val (.int cv), .val (.int c3), .unset, .unset, .unset, .unset, .unset, .unset, .unset, .unset, .unset, .unset, .unset, .unset, .unset, .unset, .unset] [])) _
    refine XS.iload X2.here hx rfl (hb hby at_76) rfl ?_
    show Steps p.tables e below (T2.setTop (mkF m 78 #[.val (.int p1), .val (.int p2), .val (.int p3), .val (.int p4), .val (.int p5), .val (.int p6), .val (.ref j2_0), .val (.int bv), .val (.int av), .val (.int dv), .val (.int cv), .val (.int c3), .unset, .unset, .unset, .unset, .unset, .unset, .unset, .unset, .unset, .unset, .unset, .unset, .unset, .unset, .unset] [(.int p5)])) _
    refine XS.iconst X2.here hx rfl (hb hby at_78) ?_
    show Steps p.tables e below (T2.setTop (mkF m 79 #[.val (.int p1), .val (.int p2), .val (.int p3), .val (.int p4), .val (.int p5), .val (.int p6), .val (.ref j2_0), .val (.int bv), .val (.int av), .val (.int dv), .val (.int cv), .val (.int c3), .unset, .unset, .unset, .unset, .unset, .unset, .unset, .unset, .unset, .unset, .unset, .unset, .unset, .unset, .unset] [(.int (1 : Int32)), (.int p5)])) _
    refine XS.iushr X2.here hx rfl (hb hby at_79) rfl ?_
    show Steps p.tables e below (T2.setTop (mkF m 80 #[.val (.int p1), .val (.int p2), .val (.int p3), .val (.int p4), .val (.int p5), .val (.int p6), .val (.ref j2_0), .val (.int bv), .val (.int av), .val (.int dv), .val (.int cv), .val (.int c3), .unset, .unset, .unset, .unset, .unset, .unset, .unset, .unset, .unset, .unset, .unset, .unset, .unset, .unset, .unset] [(.int ((p5.toUInt32 >>> ((1 : Int32) &&& 31).toUInt32).toInt32))])) _
    refine XS.bipush X2.here hx rfl (hb hby at_80) ?_
    show Steps p.tables e below (T2.setTop (mkF m 82 #[.val (.int p1), .val (.int p2), .val (.int p3), .val (.int p4), .val (.int p5), .val (.int p6), .val (.ref j2_0), .val (.int bv), .val (.int av), .val (.int dv), .val (.int cv), .val (.int c3), .unset, .unset, .unset, .unset, .unset, .unset, .unset, .unset, .unset, .unset, .unset, .unset, .unset, .unset, .unset] [(.int (31 : Int32)), (.int ((p5.toUInt32 >>> ((1 : Int32) &&& 31).toUInt32).toInt32))])) _
    refine iremM X2 hx rfl (hb hby at_82) rfl (by decide) ?_
    show Steps p.tables e below (T2.setTop (mkF m 83 #[.val (.int p1), .val (.int p2), .val (.int p3), .val (.int p4), .val (.int p5), .val (.int p6), .val (.ref j2_0), .val (.int bv), .val (.int av), .val (.int dv), .val (.int cv), .val (.int c3), .unset, .unset, .unset, .unset, .unset, .unset, .unset, .unset, .unset, .unset, .unset, .unset, .unset, .unset, .unset] [(.int (((p5.toUInt32 >>> ((1 : Int32) &&& 31).toUInt32).toInt32) % (31 : Int32)))])) _
    refine XS.istore X2.here hx rfl (hb hby at_83) rfl (l' := #[.val (.int p1), .val (.int p2), .val (.int p3), .val (.int p4), .val (.int p5), .val (.int p6), .val (.ref j2_0), .val (.int bv), .val (.int av), .val (.int dv), .val (.int cv), .val (.int c3), .val (.int (((p5.toUInt32 >>> ((1 : Int32) &&& 31).toUInt32).toInt32) % (31 : Int32))), .unset, .unset, .unset, .unset, .unset, .unset, .unset, .unset, .unset, .unset, .unset, .unset, .unset, .unset]) rfl ?_
    show Steps p.tables e below (T2.setTop (mkF m 85 #[.val (.int p1), .val (.int p2), .val (.int p3), .val (.int p4), .val (.int p5), .val (.int p6), .val (.ref j2_0), .val (.int bv), .val (.int av), .val (.int dv), .val (.int cv), .val (.int c3), .val (.int (((p5.toUInt32 >>> ((1 : Int32) &&& 31).toUInt32).toInt32) % (31 : Int32))), .unset, .unset, .unset, .unset, .unset, .unset, .unset, .unset, .unset, .unset, .unset, .unset, .unset, .unset] [])) _
    refine XS.iconst X2.here hx rfl (hb hby at_85) ?_
    show Steps p.tables e below (T2.setTop (mkF m 86 #[.val (.int p1), .val (.int p2), .val (.int p3), .val (.int p4), .val (.int p5), .val (.int p6), .val (.ref j2_0), .val (.int bv), .val (.int av), .val (.int dv), .val (.int cv), .val (.int c3), .val (.int (((p5.toUInt32 >>> ((1 : Int32) &&& 31).toUInt32).toInt32) % (31 : Int32))), .unset, .unset, .unset, .unset, .unset, .unset, .unset, .unset, .unset, .unset, .unset, .unset, .unset, .unset] [(.int (1 : Int32))])) _
    refine XS.iload X2.here hx rfl (hb hby at_86) rfl ?_
    show Steps p.tables e below (T2.setTop (mkF m 88 #[.val (.int p1), .val (.int p2), .val (.int p3), .val (.int p4), .val (.int p5), .val (.int p6), .val (.ref j2_0), .val (.int bv), .val (.int av), .val (.int dv), .val (.int cv), .val (.int c3), .val (.int (((p5.toUInt32 >>> ((1 : Int32) &&& 31).toUInt32).toInt32) % (31 : Int32))), .unset, .unset, .unset, .unset, .unset, .unset, .unset, .unset, .unset, .unset, .unset, .unset, .unset, .unset] [(.int (((p5.toUInt32 >>> ((1 : Int32) &&& 31).toUInt32).toInt32) % (31 : Int32))), (.int (1 : Int32))])) _
    refine XS.ishl X2.here hx rfl (hb hby at_88) rfl ?_
    show Steps p.tables e below (T2.setTop (mkF m 89 #[.val (.int p1), .val (.int p2), .val (.int p3), .val (.int p4), .val (.int p5), .val (.int p6), .val (.ref j2_0), .val (.int bv), .val (.int av), .val (.int dv), .val (.int cv), .val (.int c3), .val (.int (((p5.toUInt32 >>> ((1 : Int32) &&& 31).toUInt32).toInt32) % (31 : Int32))), .unset, .unset, .unset, .unset, .unset, .unset, .unset, .unset, .unset, .unset, .unset, .unset, .unset, .unset] [(.int ((1 : Int32) <<< ((((p5.toUInt32 >>> ((1 : Int32) &&& 31).toUInt32).toInt32) % (31 : Int32)) &&& 31)))])) _
    refine XS.istore X2.here hx rfl (hb hby at_89) rfl (l' := #[.val (.int p1), .val (.int p2), .val (.int p3), .val (.int p4), .val (.int p5), .val (.int p6), .val (.ref j2_0), .val (.int bv), .val (.int av), .val (.int dv), .val (.int cv), .val (.int c3), .val (.int (((p5.toUInt32 >>> ((1 : Int32) &&& 31).toUInt32).toInt32) % (31 : Int32))), .val (.int ((1 : Int32) <<< ((((p5.toUInt32 >>> ((1 : Int32) &&& 31).toUInt32).toInt32) % (31 : Int32)) &&& 31))), .unset, .unset, .unset, .unset, .unset, .unset, .unset, .unset, .unset, .unset, .unset, .unset, .unset]) rfl ?_
    exact k
  obtain ⟨b4, hg_b4⟩ : ∃ z : Int32, z = ((1 : Int32) <<< ((((p5.toUInt32 >>> ((1 : Int32) &&& 31).toUInt32).toInt32) % (31 : Int32)) &&& 31)) := ⟨_, rfl⟩
  rw [← hg_b4] at k12
  have htw : own_two b4 := by rw [hg_b4]; exact own_tw _
  have k13 : ∀ t, Steps p.tables e below (T2.setTop (mkF m 106 #[.val (.int p1), .val (.int p2), .val (.int p3), .val (.int p4), .val (.int p5), .val (.int p6), .val (.ref j2_0), .val (.int bv), .val (.int av), .val (.int dv), .val (.int cv), .val (.int c3), .val (.int (((p5.toUInt32 >>> ((1 : Int32) &&& 31).toUInt32).toInt32) % (31 : Int32))), .val (.int b4), .val (.int ((((p2.toInt64) &&& (2147483647 : Int64)) - ((p2.toInt64) &&& (2147483647 : Int64)) / ((b4.toInt64) + (1 : Int64)) * ((b4.toInt64) + (1 : Int64))).toInt32)), .unset, .unset, .unset, .unset, .unset, .unset, .unset, .unset, .unset, .unset, .unset, .unset] [])) t → Steps p.tables e below (s₁.setTop (entryFrame m #[(.int p1), (.int p2), (.int p3), (.int p4), (.int p5), (.int p6)] maxLocals)) t := by
    intro t k
    refine k12 t ?_
    show Steps p.tables e below (T2.setTop (mkF m 91 #[.val (.int p1), .val (.int p2), .val (.int p3), .val (.int p4), .val (.int p5), .val (.int p6), .val (.ref j2_0), .val (.int bv), .val (.int av), .val (.int dv), .val (.int cv), .val (.int c3), .val (.int (((p5.toUInt32 >>> ((1 : Int32) &&& 31).toUInt32).toInt32) % (31 : Int32))), .val (.int b4), .unset, .unset, .unset, .unset, .unset, .unset, .unset, .unset, .unset, .unset, .unset, .unset, .unset] [])) _
    refine XS.iloadN X2.here hx rfl (hb hby at_91) rfl ?_
    show Steps p.tables e below (T2.setTop (mkF m 92 #[.val (.int p1), .val (.int p2), .val (.int p3), .val (.int p4), .val (.int p5), .val (.int p6), .val (.ref j2_0), .val (.int bv), .val (.int av), .val (.int dv), .val (.int cv), .val (.int c3), .val (.int (((p5.toUInt32 >>> ((1 : Int32) &&& 31).toUInt32).toInt32) % (31 : Int32))), .val (.int b4), .unset, .unset, .unset, .unset, .unset, .unset, .unset, .unset, .unset, .unset, .unset, .unset, .unset] [(.int p2)])) _
    refine XS.i2l X2.here hx rfl (hb hby at_92) rfl ?_
    show Steps p.tables e below (T2.setTop (mkF m 93 #[.val (.int p1), .val (.int p2), .val (.int p3), .val (.int p4), .val (.int p5), .val (.int p6), .val (.ref j2_0), .val (.int bv), .val (.int av), .val (.int dv), .val (.int cv), .val (.int c3), .val (.int (((p5.toUInt32 >>> ((1 : Int32) &&& 31).toUInt32).toInt32) % (31 : Int32))), .val (.int b4), .unset, .unset, .unset, .unset, .unset, .unset, .unset, .unset, .unset, .unset, .unset, .unset, .unset] [(.long (p2.toInt64))])) _
    refine X2.ldc2Long hx hown (mvT hZ (hw _ (List.mem_of_getElem? (i := 4) rfl))) (g := (mkF m 93 #[.val (.int p1), .val (.int p2), .val (.int p3), .val (.int p4), .val (.int p5), .val (.int p6), .val (.ref j2_0), .val (.int bv), .val (.int av), .val (.int dv), .val (.int cv), .val (.int c3), .val (.int (((p5.toUInt32 >>> ((1 : Int32) &&& 31).toUInt32).toInt32) % (31 : Int32))), .val (.int b4), .unset, .unset, .unset, .unset, .unset, .unset, .unset, .unset, .unset, .unset, .unset, .unset, .unset] [(.long (p2.toInt64))])) rfl (hb hby at_93) _ ?_
    show Steps p.tables e below (T2.setTop (mkF m 96 #[.val (.int p1), .val (.int p2), .val (.int p3), .val (.int p4), .val (.int p5), .val (.int p6), .val (.ref j2_0), .val (.int bv), .val (.int av), .val (.int dv), .val (.int cv), .val (.int c3), .val (.int (((p5.toUInt32 >>> ((1 : Int32) &&& 31).toUInt32).toInt32) % (31 : Int32))), .val (.int b4), .unset, .unset, .unset, .unset, .unset, .unset, .unset, .unset, .unset, .unset, .unset, .unset, .unset] [(.long (2147483647 : Int64)), (.long (p2.toInt64))])) _
    refine XS.land X2.here hx rfl (hb hby at_96) rfl ?_
    show Steps p.tables e below (T2.setTop (mkF m 97 #[.val (.int p1), .val (.int p2), .val (.int p3), .val (.int p4), .val (.int p5), .val (.int p6), .val (.ref j2_0), .val (.int bv), .val (.int av), .val (.int dv), .val (.int cv), .val (.int c3), .val (.int (((p5.toUInt32 >>> ((1 : Int32) &&& 31).toUInt32).toInt32) % (31 : Int32))), .val (.int b4), .unset, .unset, .unset, .unset, .unset, .unset, .unset, .unset, .unset, .unset, .unset, .unset, .unset] [(.long ((p2.toInt64) &&& (2147483647 : Int64)))])) _
    refine XS.iload X2.here hx rfl (hb hby at_97) rfl ?_
    show Steps p.tables e below (T2.setTop (mkF m 99 #[.val (.int p1), .val (.int p2), .val (.int p3), .val (.int p4), .val (.int p5), .val (.int p6), .val (.ref j2_0), .val (.int bv), .val (.int av), .val (.int dv), .val (.int cv), .val (.int c3), .val (.int (((p5.toUInt32 >>> ((1 : Int32) &&& 31).toUInt32).toInt32) % (31 : Int32))), .val (.int b4), .unset, .unset, .unset, .unset, .unset, .unset, .unset, .unset, .unset, .unset, .unset, .unset, .unset] [(.int b4), (.long ((p2.toInt64) &&& (2147483647 : Int64)))])) _
    refine XS.i2l X2.here hx rfl (hb hby at_99) rfl ?_
    show Steps p.tables e below (T2.setTop (mkF m 100 #[.val (.int p1), .val (.int p2), .val (.int p3), .val (.int p4), .val (.int p5), .val (.int p6), .val (.ref j2_0), .val (.int bv), .val (.int av), .val (.int dv), .val (.int cv), .val (.int c3), .val (.int (((p5.toUInt32 >>> ((1 : Int32) &&& 31).toUInt32).toInt32) % (31 : Int32))), .val (.int b4), .unset, .unset, .unset, .unset, .unset, .unset, .unset, .unset, .unset, .unset, .unset, .unset, .unset] [(.long (b4.toInt64)), (.long ((p2.toInt64) &&& (2147483647 : Int64)))])) _
    refine XS.lconst X2.here hx rfl (hb hby at_100) ?_
    show Steps p.tables e below (T2.setTop (mkF m 101 #[.val (.int p1), .val (.int p2), .val (.int p3), .val (.int p4), .val (.int p5), .val (.int p6), .val (.ref j2_0), .val (.int bv), .val (.int av), .val (.int dv), .val (.int cv), .val (.int c3), .val (.int (((p5.toUInt32 >>> ((1 : Int32) &&& 31).toUInt32).toInt32) % (31 : Int32))), .val (.int b4), .unset, .unset, .unset, .unset, .unset, .unset, .unset, .unset, .unset, .unset, .unset, .unset, .unset] [(.long (1 : Int64)), (.long (b4.toInt64)), (.long ((p2.toInt64) &&& (2147483647 : Int64)))])) _
    refine XS.ladd X2.here hx rfl (hb hby at_101) rfl ?_
    show Steps p.tables e below (T2.setTop (mkF m 102 #[.val (.int p1), .val (.int p2), .val (.int p3), .val (.int p4), .val (.int p5), .val (.int p6), .val (.ref j2_0), .val (.int bv), .val (.int av), .val (.int dv), .val (.int cv), .val (.int c3), .val (.int (((p5.toUInt32 >>> ((1 : Int32) &&& 31).toUInt32).toInt32) % (31 : Int32))), .val (.int b4), .unset, .unset, .unset, .unset, .unset, .unset, .unset, .unset, .unset, .unset, .unset, .unset, .unset] [(.long ((b4.toInt64) + (1 : Int64))), (.long ((p2.toInt64) &&& (2147483647 : Int64)))])) _
    refine XS.lrem X2.here hx rfl (hb hby at_102) rfl (own_nz _ (own_two0 htw)) ?_
    show Steps p.tables e below (T2.setTop (mkF m 103 #[.val (.int p1), .val (.int p2), .val (.int p3), .val (.int p4), .val (.int p5), .val (.int p6), .val (.ref j2_0), .val (.int bv), .val (.int av), .val (.int dv), .val (.int cv), .val (.int c3), .val (.int (((p5.toUInt32 >>> ((1 : Int32) &&& 31).toUInt32).toInt32) % (31 : Int32))), .val (.int b4), .unset, .unset, .unset, .unset, .unset, .unset, .unset, .unset, .unset, .unset, .unset, .unset, .unset] [(.long (((p2.toInt64) &&& (2147483647 : Int64)) - ((p2.toInt64) &&& (2147483647 : Int64)) / ((b4.toInt64) + (1 : Int64)) * ((b4.toInt64) + (1 : Int64))))])) _
    refine XS.l2i X2.here hx rfl (hb hby at_103) rfl ?_
    show Steps p.tables e below (T2.setTop (mkF m 104 #[.val (.int p1), .val (.int p2), .val (.int p3), .val (.int p4), .val (.int p5), .val (.int p6), .val (.ref j2_0), .val (.int bv), .val (.int av), .val (.int dv), .val (.int cv), .val (.int c3), .val (.int (((p5.toUInt32 >>> ((1 : Int32) &&& 31).toUInt32).toInt32) % (31 : Int32))), .val (.int b4), .unset, .unset, .unset, .unset, .unset, .unset, .unset, .unset, .unset, .unset, .unset, .unset, .unset] [(.int ((((p2.toInt64) &&& (2147483647 : Int64)) - ((p2.toInt64) &&& (2147483647 : Int64)) / ((b4.toInt64) + (1 : Int64)) * ((b4.toInt64) + (1 : Int64))).toInt32))])) _
    refine XS.istore X2.here hx rfl (hb hby at_104) rfl (l' := #[.val (.int p1), .val (.int p2), .val (.int p3), .val (.int p4), .val (.int p5), .val (.int p6), .val (.ref j2_0), .val (.int bv), .val (.int av), .val (.int dv), .val (.int cv), .val (.int c3), .val (.int (((p5.toUInt32 >>> ((1 : Int32) &&& 31).toUInt32).toInt32) % (31 : Int32))), .val (.int b4), .val (.int ((((p2.toInt64) &&& (2147483647 : Int64)) - ((p2.toInt64) &&& (2147483647 : Int64)) / ((b4.toInt64) + (1 : Int64)) * ((b4.toInt64) + (1 : Int64))).toInt32)), .unset, .unset, .unset, .unset, .unset, .unset, .unset, .unset, .unset, .unset, .unset, .unset]) rfl ?_
    exact k
  obtain ⟨a4, hg_a4⟩ : ∃ z : Int32, z = ((((p2.toInt64) &&& (2147483647 : Int64)) - ((p2.toInt64) &&& (2147483647 : Int64)) / ((b4.toInt64) + (1 : Int64)) * ((b4.toInt64) + (1 : Int64))).toInt32) := ⟨_, rfl⟩
  rw [← hg_a4] at k13
  have hok_a4 : FP.Core.own_ok b4 a4 := by rw [hg_a4]; exact own_r2 _ _ (own_two0 htw)
  obtain ⟨_, _, ⟨T14, L14, k14, n14⟩, -, X14, ⟨Lc14, hQ14, l14, y14, z14⟩, st14⟩ := Jvm.LawKit.callS X2 hx (y := (⟨"com/example/cotejo/cotejo/optimize/OptimalQueryPrecisionPinLaw", "prec", "(IILcom/example/cotejo/cotejo/optimize/Mode;)D"⟩ : MethodName)) hown (mvT hZ (hw _ (List.mem_of_getElem? (i := 5) rfl))) (mvT hZ (hw _ (List.mem_of_getElem? (i := 6) rfl))) (mvT hZ (hw _ (List.mem_of_getElem? (i := 7) rfl))) (mvT hZ (hw _ (List.mem_of_getElem? (i := 8) rfl))) (by decide) (backOf (W := 0) (rm1_0 l Z a0 hw [] bv av j2_0 h0 n0 Z0 ) hZ (hw _ (List.mem_of_getElem? (i := 8) rfl)) (hw _ (List.mem_of_getElem? (i := 7) rfl)) (by decide) (by decide)) (g := (mkF m 112 #[.val (.int p1), .val (.int p2), .val (.int p3), .val (.int p4), .val (.int p5), .val (.int p6), .val (.ref j2_0), .val (.int bv), .val (.int av), .val (.int dv), .val (.int cv), .val (.int c3), .val (.int (((p5.toUInt32 >>> ((1 : Int32) &&& 31).toUInt32).toInt32) % (31 : Int32))), .val (.int b4), .val (.int a4), .unset, .unset, .unset, .unset, .unset, .unset, .unset, .unset, .unset, .unset, .unset, .unset] [(.ref j2_0), (.int av), (.int bv)])) rfl (by rw [hml]; rfl) (argsL := [(.int bv), (.int av), (.ref j2_0)]) (rest := []) (lenOf pd_2 rfl) rfl (by show 2 * 0 + _ ≤ _; exact Nat.le_of_eq rfl) (hb hby at_112) (fun _ _ => ⟨rfl, e2, (by decide : 0 + 1 ≤ _), (by decide : 0 + 4 ≤ _)⟩)
  dsimp only [Pt.U, Pt.locs, Pt.cells, Pt.slots] at X14 l14 y14 z14 st14 hQ14
  subst l14 y14 z14
  obtain ⟨rfl, N14q, K14q⟩ := hQ14
  have N14 := Fr.app N2 N14q
  have K14 : Keep h0 T14.heap [] := Keep.trans (Keep.refl h0 []) K14q all0
  obtain ⟨_, _, ⟨T15, L15, k15, n15⟩, -, X15, ⟨Lc15, hQ15, l15, y15, z15⟩, st15⟩ := Jvm.LawKit.callS X14 hx (y := (⟨"com/example/cotejo/cotejo/optimize/OptimalQueryPrecisionPinLaw", "prec", "(IILcom/example/cotejo/cotejo/optimize/Mode;)D"⟩ : MethodName)) hown (mvT hZ (hw _ (List.mem_of_getElem? (i := 5) rfl))) (mvT hZ (hw _ (List.mem_of_getElem? (i := 6) rfl))) (mvT hZ (hw _ (List.mem_of_getElem? (i := 7) rfl))) (mvT hZ (hw _ (List.mem_of_getElem? (i := 8) rfl))) (by decide) (backOf (W := 0) (rm1_0 l Z a0 hw [] dv cv j2_0 T14.heap n0 (Nat.le_trans Z0 K14.1) ) hZ (hw _ (List.mem_of_getElem? (i := 8) rfl)) (hw _ (List.mem_of_getElem? (i := 7) rfl)) (by decide) (by decide)) (g := (mkF m 123 #[.val (.int p1), .val (.int p2), .val (.int p3), .val (.int p4), .val (.int p5), .val (.int p6), .val (.ref j2_0), .val (.int bv), .val (.int av), .val (.int dv), .val (.int cv), .val (.int c3), .val (.int (((p5.toUInt32 >>> ((1 : Int32) &&& 31).toUInt32).toInt32) % (31 : Int32))), .val (.int b4), .val (.int a4), .val (.double (FP.Core.own_pr bv av)), .second, .unset, .unset, .unset, .unset, .unset, .unset, .unset, .unset, .unset, .unset] [(.ref j2_0), (.int cv), (.int dv)])) rfl (by rw [hml]; rfl) (argsL := [(.int dv), (.int cv), (.ref j2_0)]) (rest := []) (lenOf pd_2 rfl) rfl (by show 2 * 0 + _ ≤ _; exact Nat.le_of_eq rfl) (hb hby at_123) (fun _ _ => ⟨rfl, rfl, (by decide : 1 + 1 ≤ _), (by decide : 4 + 4 ≤ _)⟩)
  dsimp only [Pt.U, Pt.locs, Pt.cells, Pt.slots] at X15 l15 y15 z15 st15 hQ15
  subst l15 y15 z15
  obtain ⟨rfl, N15q, K15q⟩ := hQ15
  have N15 := Fr.app N14 N15q
  have K15 : Keep h0 T15.heap [] := Keep.trans K14 K15q all0
  obtain ⟨_, _, ⟨T16, L16, k16, n16⟩, -, X16, ⟨Lc16, hQ16, l16, y16, z16⟩, st16⟩ := Jvm.LawKit.callS X15 hx (y := (⟨"com/example/cotejo/cotejo/optimize/OptimalQueryPrecisionPinLaw", "prec", "(IILcom/example/cotejo/cotejo/optimize/Mode;)D"⟩ : MethodName)) hown (mvT hZ (hw _ (List.mem_of_getElem? (i := 5) rfl))) (mvT hZ (hw _ (List.mem_of_getElem? (i := 6) rfl))) (mvT hZ (hw _ (List.mem_of_getElem? (i := 7) rfl))) (mvT hZ (hw _ (List.mem_of_getElem? (i := 8) rfl))) (by decide) (backOf (W := 0) (rm1_0 l Z a0 hw [] bv c3 j2_0 T15.heap n0 (Nat.le_trans Z0 K15.1) ) hZ (hw _ (List.mem_of_getElem? (i := 8) rfl)) (hw _ (List.mem_of_getElem? (i := 7) rfl)) (by decide) (by decide)) (g := (mkF m 134 #[.val (.int p1), .val (.int p2), .val (.int p3), .val (.int p4), .val (.int p5), .val (.int p6), .val (.ref j2_0), .val (.int bv), .val (.int av), .val (.int dv), .val (.int cv), .val (.int c3), .val (.int (((p5.toUInt32 >>> ((1 : Int32) &&& 31).toUInt32).toInt32) % (31 : Int32))), .val (.int b4), .val (.int a4), .val (.double (FP.Core.own_pr bv av)), .second, .val (.double (FP.Core.own_pr dv cv)), .second, .unset, .unset, .unset, .unset, .unset, .unset, .unset, .unset] [(.ref j2_0), (.int c3), (.int bv)])) rfl (by rw [hml]; rfl) (argsL := [(.int bv), (.int c3), (.ref j2_0)]) (rest := []) (lenOf pd_2 rfl) rfl (by show 2 * 0 + _ ≤ _; exact Nat.le_of_eq rfl) (hb hby at_134) (fun _ _ => ⟨rfl, rfl, (by decide : 2 + 1 ≤ _), (by decide : 8 + 4 ≤ _)⟩)
  dsimp only [Pt.U, Pt.locs, Pt.cells, Pt.slots] at X16 l16 y16 z16 st16 hQ16
  subst l16 y16 z16
  obtain ⟨rfl, N16q, K16q⟩ := hQ16
  have N16 := Fr.app N15 N16q
  have K16 : Keep h0 T16.heap [] := Keep.trans K15 K16q all0
  obtain ⟨_, _, ⟨T17, L17, k17, n17⟩, -, X17, ⟨Lc17, hQ17, l17, y17, z17⟩, st17⟩ := Jvm.LawKit.callS X16 hx (y := (⟨"com/example/cotejo/cotejo/optimize/OptimalQueryPrecisionPinLaw", "prec", "(IILcom/example/cotejo/cotejo/optimize/Mode;)D"⟩ : MethodName)) hown (mvT hZ (hw _ (List.mem_of_getElem? (i := 5) rfl))) (mvT hZ (hw _ (List.mem_of_getElem? (i := 6) rfl))) (mvT hZ (hw _ (List.mem_of_getElem? (i := 7) rfl))) (mvT hZ (hw _ (List.mem_of_getElem? (i := 8) rfl))) (by decide) (backOf (W := 0) (rm1_0 l Z a0 hw [] b4 a4 j2_0 T16.heap n0 (Nat.le_trans Z0 K16.1) ) hZ (hw _ (List.mem_of_getElem? (i := 8) rfl)) (hw _ (List.mem_of_getElem? (i := 7) rfl)) (by decide) (by decide)) (g := (mkF m 145 #[.val (.int p1), .val (.int p2), .val (.int p3), .val (.int p4), .val (.int p5), .val (.int p6), .val (.ref j2_0), .val (.int bv), .val (.int av), .val (.int dv), .val (.int cv), .val (.int c3), .val (.int (((p5.toUInt32 >>> ((1 : Int32) &&& 31).toUInt32).toInt32) % (31 : Int32))), .val (.int b4), .val (.int a4), .val (.double (FP.Core.own_pr bv av)), .second, .val (.double (FP.Core.own_pr dv cv)), .second, .val (.double (FP.Core.own_pr bv c3)), .second, .unset, .unset, .unset, .unset, .unset, .unset] [(.ref j2_0), (.int a4), (.int b4)])) rfl (by rw [hml]; rfl) (argsL := [(.int b4), (.int a4), (.ref j2_0)]) (rest := []) (lenOf pd_2 rfl) rfl (by show 2 * 0 + _ ≤ _; exact Nat.le_of_eq rfl) (hb hby at_145) (fun _ _ => ⟨rfl, rfl, (by decide : 3 + 1 ≤ _), (by decide : 12 + 4 ≤ _)⟩)
  dsimp only [Pt.U, Pt.locs, Pt.cells, Pt.slots] at X17 l17 y17 z17 st17 hQ17
  subst l17 y17 z17
  obtain ⟨rfl, N17q, K17q⟩ := hQ17
  have N17 := Fr.app N16 N17q
  have K17 : Keep h0 T17.heap [] := Keep.trans K16 K17q all0
  obtain ⟨_, _, ⟨T18, L18, k18, n18⟩, -, X18, ⟨Lc18, hQ18, l18, y18, z18⟩, st18⟩ := Jvm.LawKit.callS X17 hx (y := (⟨"com/example/cotejo/cotejo/optimize/OptimalQueryPrecisionPinLaw", "single", "(IID)Z"⟩ : MethodName)) hown (mvT hZ (hw _ (List.mem_of_getElem? (i := 31) rfl))) (mvT hZ (hw _ (List.mem_of_getElem? (i := 32) rfl))) (mvT hZ (hw _ (List.mem_of_getElem? (i := 7) rfl))) (mvT hZ (hw _ (List.mem_of_getElem? (i := 33) rfl))) (by decide) (backOf (W := 0) (rm5_0 l Z a0 hw [] bv av (FP.Core.own_pr bv av) T17.heap n0 (Nat.le_trans Z0 K17.1) ⟨hok_av, rfl⟩) hZ (hw _ (List.mem_of_getElem? (i := 33) rfl)) (hw _ (List.mem_of_getElem? (i := 7) rfl)) (by decide) (by decide)) (g := (mkF m 156 #[.val (.int p1), .val (.int p2), .val (.int p3), .val (.int p4), .val (.int p5), .val (.int p6), .val (.ref j2_0), .val (.int bv), .val (.int av), .val (.int dv), .val (.int cv), .val (.int c3), .val (.int (((p5.toUInt32 >>> ((1 : Int32) &&& 31).toUInt32).toInt32) % (31 : Int32))), .val (.int b4), .val (.int a4), .val (.double (FP.Core.own_pr bv av)), .second, .val (.double (FP.Core.own_pr dv cv)), .second, .val (.double (FP.Core.own_pr bv c3)), .second, .val (.double (FP.Core.own_pr b4 a4)), .second, .unset, .unset, .unset, .unset] [(.double (FP.Core.own_pr bv av)), (.int av), (.int bv)])) rfl (by rw [hml]; rfl) (argsL := [(.int bv), (.int av), (.double (FP.Core.own_pr bv av))]) (rest := []) (lenOf pd_3 rfl) rfl (by show 2 * 0 + _ ≤ _; exact Nat.le_of_eq rfl) (hb hby at_156) (fun _ _ => ⟨rfl, rfl, (by decide : 4 + 0 ≤ _), (by decide : 16 + 0 ≤ _)⟩)
  dsimp only [Pt.U, Pt.locs, Pt.cells, Pt.slots] at X18 l18 y18 z18 st18 hQ18
  subst l18 y18 z18
  obtain ⟨rfl, N18q, e18⟩ := hQ18
  have N18 := Fr.app N17 N18q
  obtain ⟨_, _, ⟨T19, L19, k19, n19⟩, -, X19, ⟨Lc19, hQ19, l19, y19, z19⟩, st19⟩ := Jvm.LawKit.callS X18 hx (y := (⟨"com/example/cotejo/cotejo/optimize/OptimalQueryPrecisionPinLaw", "single", "(IID)Z"⟩ : MethodName)) hown (mvT hZ (hw _ (List.mem_of_getElem? (i := 31) rfl))) (mvT hZ (hw _ (List.mem_of_getElem? (i := 32) rfl))) (mvT hZ (hw _ (List.mem_of_getElem? (i := 7) rfl))) (mvT hZ (hw _ (List.mem_of_getElem? (i := 33) rfl))) (by decide) (backOf (W := 0) (rm5_0 l Z a0 hw [] dv cv (FP.Core.own_pr dv cv) T17.heap n0 (Nat.le_trans Z0 K17.1) ⟨hok_cv, rfl⟩) hZ (hw _ (List.mem_of_getElem? (i := 33) rfl)) (hw _ (List.mem_of_getElem? (i := 7) rfl)) (by decide) (by decide)) (g := (mkF m 168 #[.val (.int p1), .val (.int p2), .val (.int p3), .val (.int p4), .val (.int p5), .val (.int p6), .val (.ref j2_0), .val (.int bv), .val (.int av), .val (.int dv), .val (.int cv), .val (.int c3), .val (.int (((p5.toUInt32 >>> ((1 : Int32) &&& 31).toUInt32).toInt32) % (31 : Int32))), .val (.int b4), .val (.int a4), .val (.double (FP.Core.own_pr bv av)), .second, .val (.double (FP.Core.own_pr dv cv)), .second, .val (.double (FP.Core.own_pr bv c3)), .second, .val (.double (FP.Core.own_pr b4 a4)), .second, .unset, .unset, .unset, .unset] [(.double (FP.Core.own_pr dv cv)), (.int cv), (.int dv)])) rfl (by rw [hml]; rfl) (argsL := [(.int dv), (.int cv), (.double (FP.Core.own_pr dv cv))]) (rest := []) (lenOf pd_3 rfl) rfl (by show 2 * 0 + _ ≤ _; exact Nat.le_of_eq rfl) (hb hby at_168) (fun _ _ => ⟨rfl, e18, (by decide : 4 + 0 ≤ _), (by decide : 16 + 0 ≤ _)⟩)
  dsimp only [Pt.U, Pt.locs, Pt.cells, Pt.slots] at X19 l19 y19 z19 st19 hQ19
  subst l19 y19 z19
  obtain ⟨rfl, N19q, e19⟩ := hQ19
  have N19 := Fr.app N18 N19q
  obtain ⟨_, _, ⟨T20, L20, k20, n20⟩, -, X20, ⟨Lc20, hQ20, l20, y20, z20⟩, st20⟩ := Jvm.LawKit.callS X19 hx (y := (⟨"com/example/cotejo/cotejo/optimize/OptimalQueryPrecisionPinLaw", "single", "(IID)Z"⟩ : MethodName)) hown (mvT hZ (hw _ (List.mem_of_getElem? (i := 31) rfl))) (mvT hZ (hw _ (List.mem_of_getElem? (i := 32) rfl))) (mvT hZ (hw _ (List.mem_of_getElem? (i := 7) rfl))) (mvT hZ (hw _ (List.mem_of_getElem? (i := 33) rfl))) (by decide) (backOf (W := 0) (rm5_0 l Z a0 hw [] bv c3 (FP.Core.own_pr bv c3) T17.heap n0 (Nat.le_trans Z0 K17.1) ⟨hok_c3, rfl⟩) hZ (hw _ (List.mem_of_getElem? (i := 33) rfl)) (hw _ (List.mem_of_getElem? (i := 7) rfl)) (by decide) (by decide)) (g := (mkF m 180 #[.val (.int p1), .val (.int p2), .val (.int p3), .val (.int p4), .val (.int p5), .val (.int p6), .val (.ref j2_0), .val (.int bv), .val (.int av), .val (.int dv), .val (.int cv), .val (.int c3), .val (.int (((p5.toUInt32 >>> ((1 : Int32) &&& 31).toUInt32).toInt32) % (31 : Int32))), .val (.int b4), .val (.int a4), .val (.double (FP.Core.own_pr bv av)), .second, .val (.double (FP.Core.own_pr dv cv)), .second, .val (.double (FP.Core.own_pr bv c3)), .second, .val (.double (FP.Core.own_pr b4 a4)), .second, .unset, .unset, .unset, .unset] [(.double (FP.Core.own_pr bv c3)), (.int c3), (.int bv)])) rfl (by rw [hml]; rfl) (argsL := [(.int bv), (.int c3), (.double (FP.Core.own_pr bv c3))]) (rest := []) (lenOf pd_3 rfl) rfl (by show 2 * 0 + _ ≤ _; exact Nat.le_of_eq rfl) (hb hby at_180) (fun _ _ => ⟨rfl, e19, (by decide : 4 + 0 ≤ _), (by decide : 16 + 0 ≤ _)⟩)
  dsimp only [Pt.U, Pt.locs, Pt.cells, Pt.slots] at X20 l20 y20 z20 st20 hQ20
  subst l20 y20 z20
  obtain ⟨rfl, N20q, e20⟩ := hQ20
  have N20 := Fr.app N19 N20q
  obtain ⟨_, _, ⟨T21, L21, k21, n21⟩, -, X21, ⟨Lc21, hQ21, l21, y21, z21⟩, st21⟩ := Jvm.LawKit.callS X20 hx (y := (⟨"com/example/cotejo/cotejo/optimize/OptimalQueryPrecisionPinLaw", "single", "(IID)Z"⟩ : MethodName)) hown (mvT hZ (hw _ (List.mem_of_getElem? (i := 31) rfl))) (mvT hZ (hw _ (List.mem_of_getElem? (i := 32) rfl))) (mvT hZ (hw _ (List.mem_of_getElem? (i := 7) rfl))) (mvT hZ (hw _ (List.mem_of_getElem? (i := 33) rfl))) (by decide) (backOf (W := 0) (rm5_0 l Z a0 hw [] b4 a4 (FP.Core.own_pr b4 a4) T17.heap n0 (Nat.le_trans Z0 K17.1) ⟨hok_a4, rfl⟩) hZ (hw _ (List.mem_of_getElem? (i := 33) rfl)) (hw _ (List.mem_of_getElem? (i := 7) rfl)) (by decide) (by decide)) (g := (mkF m 192 #[.val (.int p1), .val (.int p2), .val (.int p3), .val (.int p4), .val (.int p5), .val (.int p6), .val (.ref j2_0), .val (.int bv), .val (.int av), .val (.int dv), .val (.int cv), .val (.int c3), .val (.int (((p5.toUInt32 >>> ((1 : Int32) &&& 31).toUInt32).toInt32) % (31 : Int32))), .val (.int b4), .val (.int a4), .val (.double (FP.Core.own_pr bv av)), .second, .val (.double (FP.Core.own_pr dv cv)), .second, .val (.double (FP.Core.own_pr bv c3)), .second, .val (.double (FP.Core.own_pr b4 a4)), .second, .unset, .unset, .unset, .unset] [(.double (FP.Core.own_pr b4 a4)), (.int a4), (.int b4)])) rfl (by rw [hml]; rfl) (argsL := [(.int b4), (.int a4), (.double (FP.Core.own_pr b4 a4))]) (rest := []) (lenOf pd_3 rfl) rfl (by show 2 * 0 + _ ≤ _; exact Nat.le_of_eq rfl) (hb hby at_192) (fun _ _ => ⟨rfl, e20, (by decide : 4 + 0 ≤ _), (by decide : 16 + 0 ≤ _)⟩)
  dsimp only [Pt.U, Pt.locs, Pt.cells, Pt.slots] at X21 l21 y21 z21 st21 hQ21
  subst l21 y21 z21
  obtain ⟨rfl, N21q, e21⟩ := hQ21
  have N21 := Fr.app N20 N21q
  have k22 : ∀ t, Steps p.tables e below (T21.setTop (mkF m 217 #[.val (.int p1), .val (.int p2), .val (.int p3), .val (.int p4), .val (.int p5), .val (.int p6), .val (.ref j2_0), .val (.int bv), .val (.int av), .val (.int dv), .val (.int cv), .val (.int c3), .val (.int (((p5.toUInt32 >>> ((1 : Int32) &&& 31).toUInt32).toInt32) % (31 : Int32))), .val (.int b4), .val (.int a4), .val (.double (FP.Core.own_pr bv av)), .second, .val (.double (FP.Core.own_pr dv cv)), .second, .val (.double (FP.Core.own_pr bv c3)), .second, .val (.double (FP.Core.own_pr b4 a4)), .second, .unset, .unset, .unset, .unset] [(.int bv)])) t → Steps p.tables e below (s₁.setTop (entryFrame m #[(.int p1), (.int p2), (.int p3), (.int p4), (.int p5), (.int p6)] maxLocals)) t := by
    intro t k
    refine k13 t ?_
    show Steps p.tables e below (T2.setTop (mkF m 106 #[.val (.int p1), .val (.int p2), .val (.int p3), .val (.int p4), .val (.int p5), .val (.int p6), .val (.ref j2_0), .val (.int bv), .val (.int av), .val (.int dv), .val (.int cv), .val (.int c3), .val (.int (((p5.toUInt32 >>> ((1 : Int32) &&& 31).toUInt32).toInt32) % (31 : Int32))), .val (.int b4), .val (.int a4), .unset, .unset, .unset, .unset, .unset, .unset, .unset, .unset, .unset, .unset, .unset, .unset] [])) _
    refine XS.iload X2.here hx rfl (hb hby at_106) rfl ?_
    show Steps p.tables e below (T2.setTop (mkF m 108 #[.val (.int p1), .val (.int p2), .val (.int p3), .val (.int p4), .val (.int p5), .val (.int p6), .val (.ref j2_0), .val (.int bv), .val (.int av), .val (.int dv), .val (.int cv), .val (.int c3), .val (.int (((p5.toUInt32 >>> ((1 : Int32) &&& 31).toUInt32).toInt32) % (31 : Int32))), .val (.int b4), .val (.int a4), .unset, .unset, .unset, .unset, .unset, .unset, .unset, .unset, .unset, .unset, .unset, .unset] [(.int bv)])) _
    refine XS.iload X2.here hx rfl (hb hby at_108) rfl ?_
    show Steps p.tables e below (T2.setTop (mkF m 110 #[.val (.int p1), .val (.int p2), .val (.int p3), .val (.int p4), .val (.int p5), .val (.int p6), .val (.ref j2_0), .val (.int bv), .val (.int av), .val (.int dv), .val (.int cv), .val (.int c3), .val (.int (((p5.toUInt32 >>> ((1 : Int32) &&& 31).toUInt32).toInt32) % (31 : Int32))), .val (.int b4), .val (.int a4), .unset, .unset, .unset, .unset, .unset, .unset, .unset, .unset, .unset, .unset, .unset, .unset] [(.int av), (.int bv)])) _
    refine XS.aload X2.here hx rfl (hb hby at_110) rfl rfl ?_
    show Steps p.tables e below (T2.setTop (mkF m 112 #[.val (.int p1), .val (.int p2), .val (.int p3), .val (.int p4), .val (.int p5), .val (.int p6), .val (.ref j2_0), .val (.int bv), .val (.int av), .val (.int dv), .val (.int cv), .val (.int c3), .val (.int (((p5.toUInt32 >>> ((1 : Int32) &&& 31).toUInt32).toInt32) % (31 : Int32))), .val (.int b4), .val (.int a4), .unset, .unset, .unset, .unset, .unset, .unset, .unset, .unset, .unset, .unset, .unset, .unset] [(.ref j2_0), (.int av), (.int bv)])) _
    refine st14 _ ?_
    show Steps p.tables e below (T14.setTop (mkF m 115 #[.val (.int p1), .val (.int p2), .val (.int p3), .val (.int p4), .val (.int p5), .val (.int p6), .val (.ref j2_0), .val (.int bv), .val (.int av), .val (.int dv), .val (.int cv), .val (.int c3), .val (.int (((p5.toUInt32 >>> ((1 : Int32) &&& 31).toUInt32).toInt32) % (31 : Int32))), .val (.int b4), .val (.int a4), .unset, .unset, .unset, .unset, .unset, .unset, .unset, .unset, .unset, .unset, .unset, .unset] [(.double (FP.Core.own_pr bv av))])) _
    refine XS.dstore X14.here hx rfl (hb hby at_115) rfl (l' := #[.val (.int p1), .val (.int p2), .val (.int p3), .val (.int p4), .val (.int p5), .val (.int p6), .val (.ref j2_0), .val (.int bv), .val (.int av), .val (.int dv), .val (.int cv), .val (.int c3), .val (.int (((p5.toUInt32 >>> ((1 : Int32) &&& 31).toUInt32).toInt32) % (31 : Int32))), .val (.int b4), .val (.int a4), .val (.double (FP.Core.own_pr bv av)), .second, .unset, .unset, .unset, .unset, .unset, .unset, .unset, .unset, .unset, .unset]) rfl ?_
    show Steps p.tables e below (T14.setTop (mkF m 117 #[.val (.int p1), .val (.int p2), .val (.int p3), .val (.int p4), .val (.int p5), .val (.int p6), .val (.ref j2_0), .val (.int bv), .val (.int av), .val (.int dv), .val (.int cv), .val (.int c3), .val (.int (((p5.toUInt32 >>> ((1 : Int32) &&& 31).toUInt32).toInt32) % (31 : Int32))), .val (.int b4), .val (.int a4), .val (.double (FP.Core.own_pr bv av)), .second, .unset, .unset, .unset, .unset, .unset, .unset, .unset, .unset, .unset, .unset] [])) _
    refine XS.iload X14.here hx rfl (hb hby at_117) rfl ?_
    show Steps p.tables e below (T14.setTop (mkF m 119 #[.val (.int p1), .val (.int p2), .val (.int p3), .val (.int p4), .val (.int p5), .val (.int p6), .val (.ref j2_0), .val (.int bv), .val (.int av), .val (.int dv), .val (.int cv), .val (.int c3), .val (.int (((p5.toUInt32 >>> ((1 : Int32) &&& 31).toUInt32).toInt32) % (31 : Int32))), .val (.int b4), .val (.int a4), .val (.double (FP.Core.own_pr bv av)), .second, .unset, .unset, .unset, .unset, .unset, .unset, .unset, .unset, .unset, .unset] [(.int dv)])) _
    refine XS.iload X14.here hx rfl (hb hby at_119) rfl ?_
    show Steps p.tables e below (T14.setTop (mkF m 121 #[.val (.int p1), .val (.int p2), .val (.int p3), .val (.int p4), .val (.int p5), .val (.int p6), .val (.ref j2_0), .val (.int bv), .val (.int av), .val (.int dv), .val (.int cv), .val (.int c3), .val (.int (((p5.toUInt32 >>> ((1 : Int32) &&& 31).toUInt32).toInt32) % (31 : Int32))), .val (.int b4), .val (.int a4), .val (.double (FP.Core.own_pr bv av)), .second, .unset, .unset, .unset, .unset, .unset, .unset, .unset, .unset, .unset, .unset] [(.int cv), (.int dv)])) _
    refine XS.aload X14.here hx rfl (hb hby at_121) rfl rfl ?_
    show Steps p.tables e below (T14.setTop (mkF m 123 #[.val (.int p1), .val (.int p2), .val (.int p3), .val (.int p4), .val (.int p5), .val (.int p6), .val (.ref j2_0), .val (.int bv), .val (.int av), .val (.int dv), .val (.int cv), .val (.int c3), .val (.int (((p5.toUInt32 >>> ((1 : Int32) &&& 31).toUInt32).toInt32) % (31 : Int32))), .val (.int b4), .val (.int a4), .val (.double (FP.Core.own_pr bv av)), .second, .unset, .unset, .unset, .unset, .unset, .unset, .unset, .unset, .unset, .unset] [(.ref j2_0), (.int cv), (.int dv)])) _
    refine st15 _ ?_
    show Steps p.tables e below (T15.setTop (mkF m 126 #[.val (.int p1), .val (.int p2), .val (.int p3), .val (.int p4), .val (.int p5), .val (.int p6), .val (.ref j2_0), .val (.int bv), .val (.int av), .val (.int dv), .val (.int cv), .val (.int c3), .val (.int (((p5.toUInt32 >>> ((1 : Int32) &&& 31).toUInt32).toInt32) % (31 : Int32))), .val (.int b4), .val (.int a4), .val (.double (FP.Core.own_pr bv av)), .second, .unset, .unset, .unset, .unset, .unset, .unset, .unset, .unset, .unset, .unset] [(.double (FP.Core.own_pr dv cv))])) _
    refine XS.dstore X15.here hx rfl (hb hby at_126) rfl (l' := #[.val (.int p1), .val (.int p2), .val (.int p3), .val (.int p4), .val (.int p5), .val (.int p6), .val (.ref j2_0), .val (.int bv), .val (.int av), .val (.int dv), .val (.int cv), .val (.int c3), .val (.int (((p5.toUInt32 >>> ((1 : Int32) &&& 31).toUInt32).toInt32) % (31 : Int32))), .val (.int b4), .val (.int a4), .val (.double (FP.Core.own_pr bv av)), .second, .val (.double (FP.Core.own_pr dv cv)), .second, .unset, .unset, .unset, .unset, .unset, .unset, .unset, .unset]) rfl ?_
    show Steps p.tables e below (T15.setTop (mkF m 128 #[.val (.int p1), .val (.int p2), .val (.int p3), .val (.int p4), .val (.int p5), .val (.int p6), .val (.ref j2_0), .val (.int bv), .val (.int av), .val (.int dv), .val (.int cv), .val (.int c3), .val (.int (((p5.toUInt32 >>> ((1 : Int32) &&& 31).toUInt32).toInt32) % (31 : Int32))), .val (.int b4), .val (.int a4), .val (.double (FP.Core.own_pr bv av)), .second, .val (.double (FP.Core.own_pr dv cv)), .second, .unset, .unset, .unset, .unset, .unset, .unset, .unset, .unset] [])) _
    refine XS.iload X15.here hx rfl (hb hby at_128) rfl ?_
    show Steps p.tables e below (T15.setTop (mkF m 130 #[.val (.int p1), .val (.int p2), .val (.int p3), .val (.int p4), .val (.int p5), .val (.int p6), .val (.ref j2_0), .val (.int bv), .val (.int av), .val (.int dv), .val (.int cv), .val (.int c3), .val (.int (((p5.toUInt32 >>> ((1 : Int32) &&& 31).toUInt32).toInt32) % (31 : Int32))), .val (.int b4), .val (.int a4), .val (.double (FP.Core.own_pr bv av)), .second, .val (.double (FP.Core.own_pr dv cv)), .second, .unset, .unset, .unset, .unset, .unset, .unset, .unset, .unset] [(.int bv)])) _
    refine XS.iload X15.here hx rfl (hb hby at_130) rfl ?_
    show Steps p.tables e below (T15.setTop (mkF m 132 #[.val (.int p1), .val (.int p2), .val (.int p3), .val (.int p4), .val (.int p5), .val (.int p6), .val (.ref j2_0), .val (.int bv), .val (.int av), .val (.int dv), .val (.int cv), .val (.int c3), .val (.int (((p5.toUInt32 >>> ((1 : Int32) &&& 31).toUInt32).toInt32) % (31 : Int32))), .val (.int b4), .val (.int a4), .val (.double (FP.Core.own_pr bv av)), .second, .val (.double (FP.Core.own_pr dv cv)), .second, .unset, .unset, .unset, .unset, .unset, .unset, .unset, .unset] [(.int c3), (.int bv)])) _
    refine XS.aload X15.here hx rfl (hb hby at_132) rfl rfl ?_
    show Steps p.tables e below (T15.setTop (mkF m 134 #[.val (.int p1), .val (.int p2), .val (.int p3), .val (.int p4), .val (.int p5), .val (.int p6), .val (.ref j2_0), .val (.int bv), .val (.int av), .val (.int dv), .val (.int cv), .val (.int c3), .val (.int (((p5.toUInt32 >>> ((1 : Int32) &&& 31).toUInt32).toInt32) % (31 : Int32))), .val (.int b4), .val (.int a4), .val (.double (FP.Core.own_pr bv av)), .second, .val (.double (FP.Core.own_pr dv cv)), .second, .unset, .unset, .unset, .unset, .unset, .unset, .unset, .unset] [(.ref j2_0), (.int c3), (.int bv)])) _
    refine st16 _ ?_
    show Steps p.tables e below (T16.setTop (mkF m 137 #[.val (.int p1), .val (.int p2), .val (.int p3), .val (.int p4), .val (.int p5), .val (.int p6), .val (.ref j2_0), .val (.int bv), .val (.int av), .val (.int dv), .val (.int cv), .val (.int c3), .val (.int (((p5.toUInt32 >>> ((1 : Int32) &&& 31).toUInt32).toInt32) % (31 : Int32))), .val (.int b4), .val (.int a4), .val (.double (FP.Core.own_pr bv av)), .second, .val (.double (FP.Core.own_pr dv cv)), .second, .unset, .unset, .unset, .unset, .unset, .unset, .unset, .unset] [(.double (FP.Core.own_pr bv c3))])) _
    refine XS.dstore X16.here hx rfl (hb hby at_137) rfl (l' := #[.val (.int p1), .val (.int p2), .val (.int p3), .val (.int p4), .val (.int p5), .val (.int p6), .val (.ref j2_0), .val (.int bv), .val (.int av), .val (.int dv), .val (.int cv), .val (.int c3), .val (.int (((p5.toUInt32 >>> ((1 : Int32) &&& 31).toUInt32).toInt32) % (31 : Int32))), .val (.int b4), .val (.int a4), .val (.double (FP.Core.own_pr bv av)), .second, .val (.double (FP.Core.own_pr dv cv)), .second, .val (.double (FP.Core.own_pr bv c3)), .second, .unset, .unset, .unset, .unset, .unset, .unset]) rfl ?_
    show Steps p.tables e below (T16.setTop (mkF m 139 #[.val (.int p1), .val (.int p2), .val (.int p3), .val (.int p4), .val (.int p5), .val (.int p6), .val (.ref j2_0), .val (.int bv), .val (.int av), .val (.int dv), .val (.int cv), .val (.int c3), .val (.int (((p5.toUInt32 >>> ((1 : Int32) &&& 31).toUInt32).toInt32) % (31 : Int32))), .val (.int b4), .val (.int a4), .val (.double (FP.Core.own_pr bv av)), .second, .val (.double (FP.Core.own_pr dv cv)), .second, .val (.double (FP.Core.own_pr bv c3)), .second, .unset, .unset, .unset, .unset, .unset, .unset] [])) _
    refine XS.iload X16.here hx rfl (hb hby at_139) rfl ?_
    show Steps p.tables e below (T16.setTop (mkF m 141 #[.val (.int p1), .val (.int p2), .val (.int p3), .val (.int p4), .val (.int p5), .val (.int p6), .val (.ref j2_0), .val (.int bv), .val (.int av), .val (.int dv), .val (.int cv), .val (.int c3), .val (.int (((p5.toUInt32 >>> ((1 : Int32) &&& 31).toUInt32).toInt32) % (31 : Int32))), .val (.int b4), .val (.int a4), .val (.double (FP.Core.own_pr bv av)), .second, .val (.double (FP.Core.own_pr dv cv)), .second, .val (.double (FP.Core.own_pr bv c3)), .second, .unset, .unset, .unset, .unset, .unset, .unset] [(.int b4)])) _
    refine XS.iload X16.here hx rfl (hb hby at_141) rfl ?_
    show Steps p.tables e below (T16.setTop (mkF m 143 #[.val (.int p1), .val (.int p2), .val (.int p3), .val (.int p4), .val (.int p5), .val (.int p6), .val (.ref j2_0), .val (.int bv), .val (.int av), .val (.int dv), .val (.int cv), .val (.int c3), .val (.int (((p5.toUInt32 >>> ((1 : Int32) &&& 31).toUInt32).toInt32) % (31 : Int32))), .val (.int b4), .val (.int a4), .val (.double (FP.Core.own_pr bv av)), .second, .val (.double (FP.Core.own_pr dv cv)), .second, .val (.double (FP.Core.own_pr bv c3)), .second, .unset, .unset, .unset, .unset, .unset, .unset] [(.int a4), (.int b4)])) _
    refine XS.aload X16.here hx rfl (hb hby at_143) rfl rfl ?_
    show Steps p.tables e below (T16.setTop (mkF m 145 #[.val (.int p1), .val (.int p2), .val (.int p3), .val (.int p4), .val (.int p5), .val (.int p6), .val (.ref j2_0), .val (.int bv), .val (.int av), .val (.int dv), .val (.int cv), .val (.int c3), .val (.int (((p5.toUInt32 >>> ((1 : Int32) &&& 31).toUInt32).toInt32) % (31 : Int32))), .val (.int b4), .val (.int a4), .val (.double (FP.Core.own_pr bv av)), .second, .val (.double (FP.Core.own_pr dv cv)), .second, .val (.double (FP.Core.own_pr bv c3)), .second, .unset, .unset, .unset, .unset, .unset, .unset] [(.ref j2_0), (.int a4), (.int b4)])) _
    refine st17 _ ?_
    show Steps p.tables e below (T17.setTop (mkF m 148 #[.val (.int p1), .val (.int p2), .val (.int p3), .val (.int p4), .val (.int p5), .val (.int p6), .val (.ref j2_0), .val (.int bv), .val (.int av), .val (.int dv), .val (.int cv), .val (.int c3), .val (.int (((p5.toUInt32 >>> ((1 : Int32) &&& 31).toUInt32).toInt32) % (31 : Int32))), .val (.int b4), .val (.int a4), .val (.double (FP.Core.own_pr bv av)), .second, .val (.double (FP.Core.own_pr dv cv)), .second, .val (.double (FP.Core.own_pr bv c3)), .second, .unset, .unset, .unset, .unset, .unset, .unset] [(.double (FP.Core.own_pr b4 a4))])) _
    refine XS.dstore X17.here hx rfl (hb hby at_148) rfl (l' := #[.val (.int p1), .val (.int p2), .val (.int p3), .val (.int p4), .val (.int p5), .val (.int p6), .val (.ref j2_0), .val (.int bv), .val (.int av), .val (.int dv), .val (.int cv), .val (.int c3), .val (.int (((p5.toUInt32 >>> ((1 : Int32) &&& 31).toUInt32).toInt32) % (31 : Int32))), .val (.int b4), .val (.int a4), .val (.double (FP.Core.own_pr bv av)), .second, .val (.double (FP.Core.own_pr dv cv)), .second, .val (.double (FP.Core.own_pr bv c3)), .second, .val (.double (FP.Core.own_pr b4 a4)), .second, .unset, .unset, .unset, .unset]) rfl ?_
    show Steps p.tables e below (T17.setTop (mkF m 150 #[.val (.int p1), .val (.int p2), .val (.int p3), .val (.int p4), .val (.int p5), .val (.int p6), .val (.ref j2_0), .val (.int bv), .val (.int av), .val (.int dv), .val (.int cv), .val (.int c3), .val (.int (((p5.toUInt32 >>> ((1 : Int32) &&& 31).toUInt32).toInt32) % (31 : Int32))), .val (.int b4), .val (.int a4), .val (.double (FP.Core.own_pr bv av)), .second, .val (.double (FP.Core.own_pr dv cv)), .second, .val (.double (FP.Core.own_pr bv c3)), .second, .val (.double (FP.Core.own_pr b4 a4)), .second, .unset, .unset, .unset, .unset] [])) _
    refine XS.iload X17.here hx rfl (hb hby at_150) rfl ?_
    show Steps p.tables e below (T17.setTop (mkF m 152 #[.val (.int p1), .val (.int p2), .val (.int p3), .val (.int p4), .val (.int p5), .val (.int p6), .val (.ref j2_0), .val (.int bv), .val (.int av), .val (.int dv), .val (.int cv), .val (.int c3), .val (.int (((p5.toUInt32 >>> ((1 : Int32) &&& 31).toUInt32).toInt32) % (31 : Int32))), .val (.int b4), .val (.int a4), .val (.double (FP.Core.own_pr bv av)), .second, .val (.double (FP.Core.own_pr dv cv)), .second, .val (.double (FP.Core.own_pr bv c3)), .second, .val (.double (FP.Core.own_pr b4 a4)), .second, .unset, .unset, .unset, .unset] [(.int bv)])) _
    refine XS.iload X17.here hx rfl (hb hby at_152) rfl ?_
    show Steps p.tables e below (T17.setTop (mkF m 154 #[.val (.int p1), .val (.int p2), .val (.int p3), .val (.int p4), .val (.int p5), .val (.int p6), .val (.ref j2_0), .val (.int bv), .val (.int av), .val (.int dv), .val (.int cv), .val (.int c3), .val (.int (((p5.toUInt32 >>> ((1 : Int32) &&& 31).toUInt32).toInt32) % (31 : Int32))), .val (.int b4), .val (.int a4), .val (.double (FP.Core.own_pr bv av)), .second, .val (.double (FP.Core.own_pr dv cv)), .second, .val (.double (FP.Core.own_pr bv c3)), .second, .val (.double (FP.Core.own_pr b4 a4)), .second, .unset, .unset, .unset, .unset] [(.int av), (.int bv)])) _
    refine XS.dload X17.here hx rfl (hb hby at_154) rfl ?_
    show Steps p.tables e below (T17.setTop (mkF m 156 #[.val (.int p1), .val (.int p2), .val (.int p3), .val (.int p4), .val (.int p5), .val (.int p6), .val (.ref j2_0), .val (.int bv), .val (.int av), .val (.int dv), .val (.int cv), .val (.int c3), .val (.int (((p5.toUInt32 >>> ((1 : Int32) &&& 31).toUInt32).toInt32) % (31 : Int32))), .val (.int b4), .val (.int a4), .val (.double (FP.Core.own_pr bv av)), .second, .val (.double (FP.Core.own_pr dv cv)), .second, .val (.double (FP.Core.own_pr bv c3)), .second, .val (.double (FP.Core.own_pr b4 a4)), .second, .unset, .unset, .unset, .unset] [(.double (FP.Core.own_pr bv av)), (.int av), (.int bv)])) _
    refine st18 _ ?_
    show Steps p.tables e below (T18.setTop (mkF m 159 #[.val (.int p1), .val (.int p2), .val (.int p3), .val (.int p4), .val (.int p5), .val (.int p6), .val (.ref j2_0), .val (.int bv), .val (.int av), .val (.int dv), .val (.int cv), .val (.int c3), .val (.int (((p5.toUInt32 >>> ((1 : Int32) &&& 31).toUInt32).toInt32) % (31 : Int32))), .val (.int b4), .val (.int a4), .val (.double (FP.Core.own_pr bv av)), .second, .val (.double (FP.Core.own_pr dv cv)), .second, .val (.double (FP.Core.own_pr bv c3)), .second, .val (.double (FP.Core.own_pr b4 a4)), .second, .unset, .unset, .unset, .unset] [(.int (1 : Int32))])) _
    refine XS.ifNo X18.here hx rfl (hb hby at_159) rfl ((if0 _ _).trans (feq (by decide : ¬ ((1 : Int32) = (0 : Int32)))).1) ?_
    show Steps p.tables e below (T18.setTop (mkF m 162 #[.val (.int p1), .val (.int p2), .val (.int p3), .val (.int p4), .val (.int p5), .val (.int p6), .val (.ref j2_0), .val (.int bv), .val (.int av), .val (.int dv), .val (.int cv), .val (.int c3), .val (.int (((p5.toUInt32 >>> ((1 : Int32) &&& 31).toUInt32).toInt32) % (31 : Int32))), .val (.int b4), .val (.int a4), .val (.double (FP.Core.own_pr bv av)), .second, .val (.double (FP.Core.own_pr dv cv)), .second, .val (.double (FP.Core.own_pr bv c3)), .second, .val (.double (FP.Core.own_pr b4 a4)), .second, .unset, .unset, .unset, .unset] [])) _
    refine XS.iload X18.here hx rfl (hb hby at_162) rfl ?_
    show Steps p.tables e below (T18.setTop (mkF m 164 #[.val (.int p1), .val (.int p2), .val (.int p3), .val (.int p4), .val (.int p5), .val (.int p6), .val (.ref j2_0), .val (.int bv), .val (.int av), .val (.int dv), .val (.int cv), .val (.int c3), .val (.int (((p5.toUInt32 >>> ((1 : Int32) &&& 31).toUInt32).toInt32) % (31 : Int32))), .val (.int b4), .val (.int a4), .val (.double (FP.Core.own_pr bv av)), .second, .val (.double (FP.Core.own_pr dv cv)), .second, .val (.double (FP.Core.own_pr bv c3)), .second, .val (.double (FP.Core.own_pr b4 a4)), .second, .unset, .unset, .unset, .unset] [(.int dv)])) _
    refine XS.iload X18.here hx rfl (hb hby at_164) rfl ?_
    show Steps p.tables e below (T18.setTop (mkF m 166 #[.val (.int p1), .val (.int p2), .val (.int p3), .val (.int p4), .val (.int p5), .val (.int p6), .val (.ref j2_0), .val (.int bv), .val (.int av), .val (.int dv), .val (.int cv), .val (.int c3), .val (.int (((p5.toUInt32 >>> ((1 : Int32) &&& 31).toUInt32).toInt32) % (31 : Int32))), .val (.int b4), .val (.int a4), .val (.double (FP.Core.own_pr bv av)), .second, .val (.double (FP.Core.own_pr dv cv)), .second, .val (.double (FP.Core.own_pr bv c3)), .second, .val (.double (FP.Core.own_pr b4 a4)), .second, .unset, .unset, .unset, .unset] [(.int cv), (.int dv)])) _
    refine XS.dload X18.here hx rfl (hb hby at_166) rfl ?_
    show Steps p.tables e below (T18.setTop (mkF m 168 #[.val (.int p1), .val (.int p2), .val (.int p3), .val (.int p4), .val (.int p5), .val (.int p6), .val (.ref j2_0), .val (.int bv), .val (.int av), .val (.int dv), .val (.int cv), .val (.int c3), .val (.int (((p5.toUInt32 >>> ((1 : Int32) &&& 31).toUInt32).toInt32) % (31 : Int32))), .val (.int b4), .val (.int a4), .val (.double (FP.Core.own_pr bv av)), .second, .val (.double (FP.Core.own_pr dv cv)), .second, .val (.double (FP.Core.own_pr bv c3)), .second, .val (.double (FP.Core.own_pr b4 a4)), .second, .unset, .unset, .unset, .unset] [(.double (FP.Core.own_pr dv cv)), (.int cv), (.int dv)])) _
    refine st19 _ ?_
    show Steps p.tables e below (T19.setTop (mkF m 171 #[.val (.int p1), .val (.int p2), .val (.int p3), .val (.int p4), .val (.int p5), .val (.int p6), .val (.ref j2_0), .val (.int bv), .val (.int av), .val (.int dv), .val (.int cv), .val (.int c3), .val (.int (((p5.toUInt32 >>> ((1 : Int32) &&& 31).toUInt32).toInt32) % (31 : Int32))), .val (.int b4), .val (.int a4), .val (.double (FP.Core.own_pr bv av)), .second, .val (.double (FP.Core.own_pr dv cv)), .second, .val (.double (FP.Core.own_pr bv c3)), .second, .val (.double (FP.Core.own_pr b4 a4)), .second, .unset, .unset, .unset, .unset] [(.int (1 : Int32))])) _
    refine XS.ifNo X19.here hx rfl (hb hby at_171) rfl ((if0 _ _).trans (feq (by decide : ¬ ((1 : Int32) = (0 : Int32)))).1) ?_
    show Steps p.tables e below (T19.setTop (mkF m 174 #[.val (.int p1), .val (.int p2), .val (.int p3), .val (.int p4), .val (.int p5), .val (.int p6), .val (.ref j2_0), .val (.int bv), .val (.int av), .val (.int dv), .val (.int cv), .val (.int c3), .val (.int (((p5.toUInt32 >>> ((1 : Int32) &&& 31).toUInt32).toInt32) % (31 : Int32))), .val (.int b4), .val (.int a4), .val (.double (FP.Core.own_pr bv av)), .second, .val (.double (FP.Core.own_pr dv cv)), .second, .val (.double (FP.Core.own_pr bv c3)), .second, .val (.double (FP.Core.own_pr b4 a4)), .second, .unset, .unset, .unset, .unset] [])) _
    refine XS.iload X19.here hx rfl (hb hby at_174) rfl ?_
    show Steps p.tables e below (T19.setTop (mkF m 176 #[.val (.int p1), .val (.int p2), .val (.int p3), .val (.int p4), .val (.int p5), .val (.int p6), .val (.ref j2_0), .val (.int bv), .val (.int av), .val (.int dv), .val (.int cv), .val (.int c3), .val (.int (((p5.toUInt32 >>> ((1 : Int32) &&& 31).toUInt32).toInt32) % (31 : Int32))), .val (.int b4), .val (.int a4), .val (.double (FP.Core.own_pr bv av)), .second, .val (.double (FP.Core.own_pr dv cv)), .second, .val (.double (FP.Core.own_pr bv c3)), .second, .val (.double (FP.Core.own_pr b4 a4)), .second, .unset, .unset, .unset, .unset] [(.int bv)])) _
    refine XS.iload X19.here hx rfl (hb hby at_176) rfl ?_
    show Steps p.tables e below (T19.setTop (mkF m 178 #[.val (.int p1), .val (.int p2), .val (.int p3), .val (.int p4), .val (.int p5), .val (.int p6), .val (.ref j2_0), .val (.int bv), .val (.int av), .val (.int dv), .val (.int cv), .val (.int c3), .val (.int (((p5.toUInt32 >>> ((1 : Int32) &&& 31).toUInt32).toInt32) % (31 : Int32))), .val (.int b4), .val (.int a4), .val (.double (FP.Core.own_pr bv av)), .second, .val (.double (FP.Core.own_pr dv cv)), .second, .val (.double (FP.Core.own_pr bv c3)), .second, .val (.double (FP.Core.own_pr b4 a4)), .second, .unset, .unset, .unset, .unset] [(.int c3), (.int bv)])) _
    refine XS.dload X19.here hx rfl (hb hby at_178) rfl ?_
    show Steps p.tables e below (T19.setTop (mkF m 180 #[.val (.int p1), .val (.int p2), .val (.int p3), .val (.int p4), .val (.int p5), .val (.int p6), .val (.ref j2_0), .val (.int bv), .val (.int av), .val (.int dv), .val (.int cv), .val (.int c3), .val (.int (((p5.toUInt32 >>> ((1 : Int32) &&& 31).toUInt32).toInt32) % (31 : Int32))), .val (.int b4), .val (.int a4), .val (.double (FP.Core.own_pr bv av)), .second, .val (.double (FP.Core.own_pr dv cv)), .second, .val (.double (FP.Core.own_pr bv c3)), .second, .val (.double (FP.Core.own_pr b4 a4)), .second, .unset, .unset, .unset, .unset] [(.double (FP.Core.own_pr bv c3)), (.int c3), (.int bv)])) _
    refine st20 _ ?_
    show Steps p.tables e below (T20.setTop (mkF m 183 #[.val (.int p1), .val (.int p2), .val (.int p3), .val (.int p4), .val (.int p5), .val (.int p6), .val (.ref j2_0), .val (.int bv), .val (.int av), .val (.int dv), .val (.int cv), .val (.int c3), .val (.int (((p5.toUInt32 >>> ((1 : Int32) &&& 31).toUInt32).toInt32) % (31 : Int32))), .val (.int b4), .val (.int a4), .val (.double (FP.Core.own_pr bv av)), .second, .val (.double (FP.Core.own_pr dv cv)), .second, .val (.double (FP.Core.own_pr bv c3)), .second, .val (.double (FP.Core.own_pr b4 a4)), .second, .unset, .unset, .unset, .unset] [(.int (1 : Int32))])) _
    refine XS.ifNo X20.here hx rfl (hb hby at_183) rfl ((if0 _ _).trans (feq (by decide : ¬ ((1 : Int32) = (0 : Int32)))).1) ?_
    show Steps p.tables e below (T20.setTop (mkF m 186 #[.val (.int p1), .val (.int p2), .val (.int p3), .val (.int p4), .val (.int p5), .val (.int p6), .val (.ref j2_0), .val (.int bv), .val (.int av), .val (.int dv), .val (.int cv), .val (.int c3), .val (.int (((p5.toUInt32 >>> ((1 : Int32) &&& 31).toUInt32).toInt32) % (31 : Int32))), .val (.int b4), .val (.int a4), .val (.double (FP.Core.own_pr bv av)), .second, .val (.double (FP.Core.own_pr dv cv)), .second, .val (.double (FP.Core.own_pr bv c3)), .second, .val (.double (FP.Core.own_pr b4 a4)), .second, .unset, .unset, .unset, .unset] [])) _
    refine XS.iload X20.here hx rfl (hb hby at_186) rfl ?_
    show Steps p.tables e below (T20.setTop (mkF m 188 #[.val (.int p1), .val (.int p2), .val (.int p3), .val (.int p4), .val (.int p5), .val (.int p6), .val (.ref j2_0), .val (.int bv), .val (.int av), .val (.int dv), .val (.int cv), .val (.int c3), .val (.int (((p5.toUInt32 >>> ((1 : Int32) &&& 31).toUInt32).toInt32) % (31 : Int32))), .val (.int b4), .val (.int a4), .val (.double (FP.Core.own_pr bv av)), .second, .val (.double (FP.Core.own_pr dv cv)), .second, .val (.double (FP.Core.own_pr bv c3)), .second, .val (.double (FP.Core.own_pr b4 a4)), .second, .unset, .unset, .unset, .unset] [(.int b4)])) _
    refine XS.iload X20.here hx rfl (hb hby at_188) rfl ?_
    show Steps p.tables e below (T20.setTop (mkF m 190 #[.val (.int p1), .val (.int p2), .val (.int p3), .val (.int p4), .val (.int p5), .val (.int p6), .val (.ref j2_0), .val (.int bv), .val (.int av), .val (.int dv), .val (.int cv), .val (.int c3), .val (.int (((p5.toUInt32 >>> ((1 : Int32) &&& 31).toUInt32).toInt32) % (31 : Int32))), .val (.int b4), .val (.int a4), .val (.double (FP.Core.own_pr bv av)), .second, .val (.double (FP.Core.own_pr dv cv)), .second, .val (.double (FP.Core.own_pr bv c3)), .second, .val (.double (FP.Core.own_pr b4 a4)), .second, .unset, .unset, .unset, .unset] [(.int a4), (.int b4)])) _
    refine XS.dload X20.here hx rfl (hb hby at_190) rfl ?_
    show Steps p.tables e below (T20.setTop (mkF m 192 #[.val (.int p1), .val (.int p2), .val (.int p3), .val (.int p4), .val (.int p5), .val (.int p6), .val (.ref j2_0), .val (.int bv), .val (.int av), .val (.int dv), .val (.int cv), .val (.int c3), .val (.int (((p5.toUInt32 >>> ((1 : Int32) &&& 31).toUInt32).toInt32) % (31 : Int32))), .val (.int b4), .val (.int a4), .val (.double (FP.Core.own_pr bv av)), .second, .val (.double (FP.Core.own_pr dv cv)), .second, .val (.double (FP.Core.own_pr bv c3)), .second, .val (.double (FP.Core.own_pr b4 a4)), .second, .unset, .unset, .unset, .unset] [(.double (FP.Core.own_pr b4 a4)), (.int a4), (.int b4)])) _
    refine st21 _ ?_
    show Steps p.tables e below (T21.setTop (mkF m 195 #[.val (.int p1), .val (.int p2), .val (.int p3), .val (.int p4), .val (.int p5), .val (.int p6), .val (.ref j2_0), .val (.int bv), .val (.int av), .val (.int dv), .val (.int cv), .val (.int c3), .val (.int (((p5.toUInt32 >>> ((1 : Int32) &&& 31).toUInt32).toInt32) % (31 : Int32))), .val (.int b4), .val (.int a4), .val (.double (FP.Core.own_pr bv av)), .second, .val (.double (FP.Core.own_pr dv cv)), .second, .val (.double (FP.Core.own_pr bv c3)), .second, .val (.double (FP.Core.own_pr b4 a4)), .second, .unset, .unset, .unset, .unset] [(.int (1 : Int32))])) _
    refine XS.ifYes X21.here hx rfl (pc0 := 195) (pc' := 200) rfl (hb hby at_195) rfl ((if0 _ _).trans (feq (by decide : ¬ ((1 : Int32) = (0 : Int32)))).2) (by decide) (by decide) ?_
    show Steps p.tables e below (T21.setTop (mkF m 200 #[.val (.int p1), .val (.int p2), .val (.int p3), .val (.int p4), .val (.int p5), .val (.int p6), .val (.ref j2_0), .val (.int bv), .val (.int av), .val (.int dv), .val (.int cv), .val (.int c3), .val (.int (((p5.toUInt32 >>> ((1 : Int32) &&& 31).toUInt32).toInt32) % (31 : Int32))), .val (.int b4), .val (.int a4), .val (.double (FP.Core.own_pr bv av)), .second, .val (.double (FP.Core.own_pr dv cv)), .second, .val (.double (FP.Core.own_pr bv c3)), .second, .val (.double (FP.Core.own_pr b4 a4)), .second, .unset, .unset, .unset, .unset] [])) _
    refine XS.dload X21.here hx rfl (hb hby at_200) rfl ?_
    show Steps p.tables e below (T21.setTop (mkF m 202 #[.val (.int p1), .val (.int p2), .val (.int p3), .val (.int p4), .val (.int p5), .val (.int p6), .val (.ref j2_0), .val (.int bv), .val (.int av), .val (.int dv), .val (.int cv), .val (.int c3), .val (.int (((p5.toUInt32 >>> ((1 : Int32) &&& 31).toUInt32).toInt32) % (31 : Int32))), .val (.int b4), .val (.int a4), .val (.double (FP.Core.own_pr bv av)), .second, .val (.double (FP.Core.own_pr dv cv)), .second, .val (.double (FP.Core.own_pr bv c3)), .second, .val (.double (FP.Core.own_pr b4 a4)), .second, .unset, .unset, .unset, .unset] [(.double (FP.Core.own_pr b4 a4))])) _
    refine XS.iload X21.here hx rfl (hb hby at_202) rfl ?_
    show Steps p.tables e below (T21.setTop (mkF m 204 #[.val (.int p1), .val (.int p2), .val (.int p3), .val (.int p4), .val (.int p5), .val (.int p6), .val (.ref j2_0), .val (.int bv), .val (.int av), .val (.int dv), .val (.int cv), .val (.int c3), .val (.int (((p5.toUInt32 >>> ((1 : Int32) &&& 31).toUInt32).toInt32) % (31 : Int32))), .val (.int b4), .val (.int a4), .val (.double (FP.Core.own_pr bv av)), .second, .val (.double (FP.Core.own_pr dv cv)), .second, .val (.double (FP.Core.own_pr bv c3)), .second, .val (.double (FP.Core.own_pr b4 a4)), .second, .unset, .unset, .unset, .unset] [(.int b4), (.double (FP.Core.own_pr b4 a4))])) _
    refine XS.i2dS X21.here hx rfl (hb hby at_204) rfl (v := (FP.i2d b4)) rfl ?_
    show Steps p.tables e below (T21.setTop (mkF m 205 #[.val (.int p1), .val (.int p2), .val (.int p3), .val (.int p4), .val (.int p5), .val (.int p6), .val (.ref j2_0), .val (.int bv), .val (.int av), .val (.int dv), .val (.int cv), .val (.int c3), .val (.int (((p5.toUInt32 >>> ((1 : Int32) &&& 31).toUInt32).toInt32) % (31 : Int32))), .val (.int b4), .val (.int a4), .val (.double (FP.Core.own_pr bv av)), .second, .val (.double (FP.Core.own_pr dv cv)), .second, .val (.double (FP.Core.own_pr bv c3)), .second, .val (.double (FP.Core.own_pr b4 a4)), .second, .unset, .unset, .unset, .unset] [(.double (FP.i2d b4)), (.double (FP.Core.own_pr b4 a4))])) _
    refine XS.dmulS X21.here hx rfl (hb hby at_205) rfl (own_mnn hok_a4 htw) (v := (FP.dmul (FP.Core.own_pr b4 a4) (FP.i2d b4))) rfl ?_
    show Steps p.tables e below (T21.setTop (mkF m 206 #[.val (.int p1), .val (.int p2), .val (.int p3), .val (.int p4), .val (.int p5), .val (.int p6), .val (.ref j2_0), .val (.int bv), .val (.int av), .val (.int dv), .val (.int cv), .val (.int c3), .val (.int (((p5.toUInt32 >>> ((1 : Int32) &&& 31).toUInt32).toInt32) % (31 : Int32))), .val (.int b4), .val (.int a4), .val (.double (FP.Core.own_pr bv av)), .second, .val (.double (FP.Core.own_pr dv cv)), .second, .val (.double (FP.Core.own_pr bv c3)), .second, .val (.double (FP.Core.own_pr b4 a4)), .second, .unset, .unset, .unset, .unset] [(.double (FP.dmul (FP.Core.own_pr b4 a4) (FP.i2d b4)))])) _
    refine XS.iload X21.here hx rfl (hb hby at_206) rfl ?_
    show Steps p.tables e below (T21.setTop (mkF m 208 #[.val (.int p1), .val (.int p2), .val (.int p3), .val (.int p4), .val (.int p5), .val (.int p6), .val (.ref j2_0), .val (.int bv), .val (.int av), .val (.int dv), .val (.int cv), .val (.int c3), .val (.int (((p5.toUInt32 >>> ((1 : Int32) &&& 31).toUInt32).toInt32) % (31 : Int32))), .val (.int b4), .val (.int a4), .val (.double (FP.Core.own_pr bv av)), .second, .val (.double (FP.Core.own_pr dv cv)), .second, .val (.double (FP.Core.own_pr bv c3)), .second, .val (.double (FP.Core.own_pr b4 a4)), .second, .unset, .unset, .unset, .unset] [(.int a4), (.double (FP.dmul (FP.Core.own_pr b4 a4) (FP.i2d b4)))])) _
    refine XS.i2dS X21.here hx rfl (hb hby at_208) rfl (v := (FP.i2d a4)) rfl ?_
    show Steps p.tables e below (T21.setTop (mkF m 209 #[.val (.int p1), .val (.int p2), .val (.int p3), .val (.int p4), .val (.int p5), .val (.int p6), .val (.ref j2_0), .val (.int bv), .val (.int av), .val (.int dv), .val (.int cv), .val (.int c3), .val (.int (((p5.toUInt32 >>> ((1 : Int32) &&& 31).toUInt32).toInt32) % (31 : Int32))), .val (.int b4), .val (.int a4), .val (.double (FP.Core.own_pr bv av)), .second, .val (.double (FP.Core.own_pr dv cv)), .second, .val (.double (FP.Core.own_pr bv c3)), .second, .val (.double (FP.Core.own_pr b4 a4)), .second, .unset, .unset, .unset, .unset] [(.double (FP.i2d a4)), (.double (FP.dmul (FP.Core.own_pr b4 a4) (FP.i2d b4)))])) _
    refine XS.dcmpS X21.here hx rfl (hb hby at_209) rfl (v := (cmpValue (FP.dcmp (FP.dmul (FP.Core.own_pr b4 a4) (FP.i2d b4)) (FP.i2d a4)) .l)) rfl ?_
    show Steps p.tables e below (T21.setTop (mkF m 210 #[.val (.int p1), .val (.int p2), .val (.int p3), .val (.int p4), .val (.int p5), .val (.int p6), .val (.ref j2_0), .val (.int bv), .val (.int av), .val (.int dv), .val (.int cv), .val (.int c3), .val (.int (((p5.toUInt32 >>> ((1 : Int32) &&& 31).toUInt32).toInt32) % (31 : Int32))), .val (.int b4), .val (.int a4), .val (.double (FP.Core.own_pr bv av)), .second, .val (.double (FP.Core.own_pr dv cv)), .second, .val (.double (FP.Core.own_pr bv c3)), .second, .val (.double (FP.Core.own_pr b4 a4)), .second, .unset, .unset, .unset, .unset] [(.int (cmpValue (FP.dcmp (FP.dmul (FP.Core.own_pr b4 a4) (FP.i2d b4)) (FP.i2d a4)) .l))])) _
    refine XS.ifYes X21.here hx rfl (pc0 := 210) (pc' := 215) rfl (hb hby at_210) rfl ((if0 _ _).trans (teq (own_l1 hok_a4 htw)).1) (by decide) (by decide) ?_
    show Steps p.tables e below (T21.setTop (mkF m 215 #[.val (.int p1), .val (.int p2), .val (.int p3), .val (.int p4), .val (.int p5), .val (.int p6), .val (.ref j2_0), .val (.int bv), .val (.int av), .val (.int dv), .val (.int cv), .val (.int c3), .val (.int (((p5.toUInt32 >>> ((1 : Int32) &&& 31).toUInt32).toInt32) % (31 : Int32))), .val (.int b4), .val (.int a4), .val (.double (FP.Core.own_pr bv av)), .second, .val (.double (FP.Core.own_pr dv cv)), .second, .val (.double (FP.Core.own_pr bv c3)), .second, .val (.double (FP.Core.own_pr b4 a4)), .second, .unset, .unset, .unset, .unset] [])) _
    refine XS.iload X21.here hx rfl (hb hby at_215) rfl ?_
    exact k
  obtain ⟨T23, L23, X23, e23, N23, k23⟩ : ∃ (T' : State) (L' : List Loc), Stand p l e room_1 s m #[(.int p1), (.int p2), (.int p3), (.int p4), (.int p5), (.int p6)] below meth c T' L' 4 16 ∧ T'.heap = T17.heap ∧ Fr n0 L' ∧ ∀ t, Steps p.tables e below (T'.setTop (mkF m 271 #[.val (.int p1), .val (.int p2), .val (.int p3), .val (.int p4), .val (.int p5), .val (.int p6), .val (.ref j2_0), .val (.int bv), .val (.int av), .val (.int dv), .val (.int cv), .val (.int c3), .val (.int (((p5.toUInt32 >>> ((1 : Int32) &&& 31).toUInt32).toInt32) % (31 : Int32))), .val (.int b4), .val (.int a4), .val (.double (FP.Core.own_pr bv av)), .second, .val (.double (FP.Core.own_pr dv cv)), .second, .val (.double (FP.Core.own_pr bv c3)), .second, .val (.double (FP.Core.own_pr b4 a4)), .second, .unset, .unset, .unset, .unset] [])) t → Steps p.tables e below (s₁.setTop (entryFrame m #[(.int p1), (.int p2), (.int p3), (.int p4), (.int p5), (.int p6)] maxLocals)) t := by
    by_cases hc217_2 : (0 : Int32) < bv
    ·
      have k24 : ∀ t, Steps p.tables e below (T21.setTop (mkF m 224 #[.val (.int p1), .val (.int p2), .val (.int p3), .val (.int p4), .val (.int p5), .val (.int p6), .val (.ref j2_0), .val (.int bv), .val (.int av), .val (.int dv), .val (.int cv), .val (.int c3), .val (.int (((p5.toUInt32 >>> ((1 : Int32) &&& 31).toUInt32).toInt32) % (31 : Int32))), .val (.int b4), .val (.int a4), .val (.double (FP.Core.own_pr bv av)), .second, .val (.double (FP.Core.own_pr dv cv)), .second, .val (.double (FP.Core.own_pr bv c3)), .second, .val (.double (FP.Core.own_pr b4 a4)), .second, .unset, .unset, .unset, .unset] [(.int c3), (.int av)])) t → Steps p.tables e below (s₁.setTop (entryFrame m #[(.int p1), (.int p2), (.int p3), (.int p4), (.int p5), (.int p6)] maxLocals)) t := by
        intro t k
        refine k22 t ?_
        show Steps p.tables e below (T21.setTop (mkF m 217 #[.val (.int p1), .val (.int p2), .val (.int p3), .val (.int p4), .val (.int p5), .val (.int p6), .val (.ref j2_0), .val (.int bv), .val (.int av), .val (.int dv), .val (.int cv), .val (.int c3), .val (.int (((p5.toUInt32 >>> ((1 : Int32) &&& 31).toUInt32).toInt32) % (31 : Int32))), .val (.int b4), .val (.int a4), .val (.double (FP.Core.own_pr bv av)), .second, .val (.double (FP.Core.own_pr dv cv)), .second, .val (.double (FP.Core.own_pr bv c3)), .second, .val (.double (FP.Core.own_pr b4 a4)), .second, .unset, .unset, .unset, .unset] [(.int bv)])) _
        refine XS.ifNo X21.here hx rfl (hb hby at_217) rfl ((if0 _ _).trans (tlt hc217_2).2.2.2) ?_
        show Steps p.tables e below (T21.setTop (mkF m 220 #[.val (.int p1), .val (.int p2), .val (.int p3), .val (.int p4), .val (.int p5), .val (.int p6), .val (.ref j2_0), .val (.int bv), .val (.int av), .val (.int dv), .val (.int cv), .val (.int c3), .val (.int (((p5.toUInt32 >>> ((1 : Int32) &&& 31).toUInt32).toInt32) % (31 : Int32))), .val (.int b4), .val (.int a4), .val (.double (FP.Core.own_pr bv av)), .second, .val (.double (FP.Core.own_pr dv cv)), .second, .val (.double (FP.Core.own_pr bv c3)), .second, .val (.double (FP.Core.own_pr b4 a4)), .second, .unset, .unset, .unset, .unset] [])) _
        refine XS.iload X21.here hx rfl (hb hby at_220) rfl ?_
        show Steps p.tables e below (T21.setTop (mkF m 222 #[.val (.int p1), .val (.int p2), .val (.int p3), .val (.int p4), .val (.int p5), .val (.int p6), .val (.ref j2_0), .val (.int bv), .val (.int av), .val (.int dv), .val (.int cv), .val (.int c3), .val (.int (((p5.toUInt32 >>> ((1 : Int32) &&& 31).toUInt32).toInt32) % (31 : Int32))), .val (.int b4), .val (.int a4), .val (.double (FP.Core.own_pr bv av)), .second, .val (.double (FP.Core.own_pr dv cv)), .second, .val (.double (FP.Core.own_pr bv c3)), .second, .val (.double (FP.Core.own_pr b4 a4)), .second, .unset, .unset, .unset, .unset] [(.int av)])) _
        refine XS.iload X21.here hx rfl (hb hby at_222) rfl ?_
        exact k
      by_cases hc224_3 : av < c3
      ·
        have k25 : ∀ t, Steps p.tables e below (T21.setTop (mkF m 271 #[.val (.int p1), .val (.int p2), .val (.int p3), .val (.int p4), .val (.int p5), .val (.int p6), .val (.ref j2_0), .val (.int bv), .val (.int av), .val (.int dv), .val (.int cv), .val (.int c3), .val (.int (((p5.toUInt32 >>> ((1 : Int32) &&& 31).toUInt32).toInt32) % (31 : Int32))), .val (.int b4), .val (.int a4), .val (.double (FP.Core.own_pr bv av)), .second, .val (.double (FP.Core.own_pr dv cv)), .second, .val (.double (FP.Core.own_pr bv c3)), .second, .val (.double (FP.Core.own_pr b4 a4)), .second, .unset, .unset, .unset, .unset] [])) t → Steps p.tables e below (s₁.setTop (entryFrame m #[(.int p1), (.int p2), (.int p3), (.int p4), (.int p5), (.int p6)] maxLocals)) t := by
          intro t k
          refine k24 t ?_
          show Steps p.tables e below (T21.setTop (mkF m 224 #[.val (.int p1), .val (.int p2), .val (.int p3), .val (.int p4), .val (.int p5), .val (.int p6), .val (.ref j2_0), .val (.int bv), .val (.int av), .val (.int dv), .val (.int cv), .val (.int c3), .val (.int (((p5.toUInt32 >>> ((1 : Int32) &&& 31).toUInt32).toInt32) % (31 : Int32))), .val (.int b4), .val (.int a4), .val (.double (FP.Core.own_pr bv av)), .second, .val (.double (FP.Core.own_pr dv cv)), .second, .val (.double (FP.Core.own_pr bv c3)), .second, .val (.double (FP.Core.own_pr b4 a4)), .second, .unset, .unset, .unset, .unset] [(.int c3), (.int av)])) _
          refine XS.icmpNo X21.here hx rfl (hb hby at_224) rfl (tlt hc224_3).2.1 ?_
          show Steps p.tables e below (T21.setTop (mkF m 227 #[.val (.int p1), .val (.int p2), .val (.int p3), .val (.int p4), .val (.int p5), .val (.int p6), .val (.ref j2_0), .val (.int bv), .val (.int av), .val (.int dv), .val (.int cv), .val (.int c3), .val (.int (((p5.toUInt32 >>> ((1 : Int32) &&& 31).toUInt32).toInt32) % (31 : Int32))), .val (.int b4), .val (.int a4), .val (.double (FP.Core.own_pr bv av)), .second, .val (.double (FP.Core.own_pr dv cv)), .second, .val (.double (FP.Core.own_pr bv c3)), .second, .val (.double (FP.Core.own_pr b4 a4)), .second, .unset, .unset, .unset, .unset] [])) _
          refine XS.dload X21.here hx rfl (hb hby at_227) rfl ?_
          show Steps p.tables e below (T21.setTop (mkF m 229 #[.val (.int p1), .val (.int p2), .val (.int p3), .val (.int p4), .val (.int p5), .val (.int p6), .val (.ref j2_0), .val (.int bv), .val (.int av), .val (.int dv), .val (.int cv), .val (.int c3), .val (.int (((p5.toUInt32 >>> ((1 : Int32) &&& 31).toUInt32).toInt32) % (31 : Int32))), .val (.int b4), .val (.int a4), .val (.double (FP.Core.own_pr bv av)), .second, .val (.double (FP.Core.own_pr dv cv)), .second, .val (.double (FP.Core.own_pr bv c3)), .second, .val (.double (FP.Core.own_pr b4 a4)), .second, .unset, .unset, .unset, .unset] [(.double (FP.Core.own_pr bv av))])) _
          refine XS.dload X21.here hx rfl (hb hby at_229) rfl ?_
          show Steps p.tables e below (T21.setTop (mkF m 231 #[.val (.int p1), .val (.int p2), .val (.int p3), .val (.int p4), .val (.int p5), .val (.int p6), .val (.ref j2_0), .val (.int bv), .val (.int av), .val (.int dv), .val (.int cv), .val (.int c3), .val (.int (((p5.toUInt32 >>> ((1 : Int32) &&& 31).toUInt32).toInt32) % (31 : Int32))), .val (.int b4), .val (.int a4), .val (.double (FP.Core.own_pr bv av)), .second, .val (.double (FP.Core.own_pr dv cv)), .second, .val (.double (FP.Core.own_pr bv c3)), .second, .val (.double (FP.Core.own_pr b4 a4)), .second, .unset, .unset, .unset, .unset] [(.double (FP.Core.own_pr bv c3)), (.double (FP.Core.own_pr bv av))])) _
          refine XS.dcmpS X21.here hx rfl (hb hby at_231) rfl (v := (cmpValue (FP.dcmp (FP.Core.own_pr bv av) (FP.Core.own_pr bv c3)) .g)) rfl ?_
          show Steps p.tables e below (T21.setTop (mkF m 232 #[.val (.int p1), .val (.int p2), .val (.int p3), .val (.int p4), .val (.int p5), .val (.int p6), .val (.ref j2_0), .val (.int bv), .val (.int av), .val (.int dv), .val (.int cv), .val (.int c3), .val (.int (((p5.toUInt32 >>> ((1 : Int32) &&& 31).toUInt32).toInt32) % (31 : Int32))), .val (.int b4), .val (.int a4), .val (.double (FP.Core.own_pr bv av)), .second, .val (.double (FP.Core.own_pr dv cv)), .second, .val (.double (FP.Core.own_pr bv c3)), .second, .val (.double (FP.Core.own_pr b4 a4)), .second, .unset, .unset, .unset, .unset] [(.int (cmpValue (FP.dcmp (FP.Core.own_pr bv av) (FP.Core.own_pr bv c3)) .g))])) _
          refine XS.ifYes X21.here hx rfl (pc0 := 232) (pc' := 237) rfl (hb hby at_232) rfl ((if0 _ _).trans (tlt (own_l2 hok_av hok_c3 hc217_2 hc224_3)).1) (by decide) (by decide) ?_
          show Steps p.tables e below (T21.setTop (mkF m 237 #[.val (.int p1), .val (.int p2), .val (.int p3), .val (.int p4), .val (.int p5), .val (.int p6), .val (.ref j2_0), .val (.int bv), .val (.int av), .val (.int dv), .val (.int cv), .val (.int c3), .val (.int (((p5.toUInt32 >>> ((1 : Int32) &&& 31).toUInt32).toInt32) % (31 : Int32))), .val (.int b4), .val (.int a4), .val (.double (FP.Core.own_pr bv av)), .second, .val (.double (FP.Core.own_pr dv cv)), .second, .val (.double (FP.Core.own_pr bv c3)), .second, .val (.double (FP.Core.own_pr b4 a4)), .second, .unset, .unset, .unset, .unset] [])) _
          refine XS.iload X21.here hx rfl (hb hby at_237) rfl ?_
          show Steps p.tables e below (T21.setTop (mkF m 239 #[.val (.int p1), .val (.int p2), .val (.int p3), .val (.int p4), .val (.int p5), .val (.int p6), .val (.ref j2_0), .val (.int bv), .val (.int av), .val (.int dv), .val (.int cv), .val (.int c3), .val (.int (((p5.toUInt32 >>> ((1 : Int32) &&& 31).toUInt32).toInt32) % (31 : Int32))), .val (.int b4), .val (.int a4), .val (.double (FP.Core.own_pr bv av)), .second, .val (.double (FP.Core.own_pr dv cv)), .second, .val (.double (FP.Core.own_pr bv c3)), .second, .val (.double (FP.Core.own_pr b4 a4)), .second, .unset, .unset, .unset, .unset] [(.int av)])) _
          refine XS.iload X21.here hx rfl (hb hby at_239) rfl ?_
          show Steps p.tables e below (T21.setTop (mkF m 241 #[.val (.int p1), .val (.int p2), .val (.int p3), .val (.int p4), .val (.int p5), .val (.int p6), .val (.ref j2_0), .val (.int bv), .val (.int av), .val (.int dv), .val (.int cv), .val (.int c3), .val (.int (((p5.toUInt32 >>> ((1 : Int32) &&& 31).toUInt32).toInt32) % (31 : Int32))), .val (.int b4), .val (.int a4), .val (.double (FP.Core.own_pr bv av)), .second, .val (.double (FP.Core.own_pr dv cv)), .second, .val (.double (FP.Core.own_pr bv c3)), .second, .val (.double (FP.Core.own_pr b4 a4)), .second, .unset, .unset, .unset, .unset] [(.int c3), (.int av)])) _
          refine XS.icmpYes X21.here hx rfl (pc0 := 241) (pc' := 254) rfl (hb hby at_241) rfl (feq (Int32.ne_of_lt hc224_3)).2 (by decide) (by decide) ?_
          show Steps p.tables e below (T21.setTop (mkF m 254 #[.val (.int p1), .val (.int p2), .val (.int p3), .val (.int p4), .val (.int p5), .val (.int p6), .val (.ref j2_0), .val (.int bv), .val (.int av), .val (.int dv), .val (.int cv), .val (.int c3), .val (.int (((p5.toUInt32 >>> ((1 : Int32) &&& 31).toUInt32).toInt32) % (31 : Int32))), .val (.int b4), .val (.int a4), .val (.double (FP.Core.own_pr bv av)), .second, .val (.double (FP.Core.own_pr dv cv)), .second, .val (.double (FP.Core.own_pr bv c3)), .second, .val (.double (FP.Core.own_pr b4 a4)), .second, .unset, .unset, .unset, .unset] [])) _
          refine XS.iload X21.here hx rfl (hb hby at_254) rfl ?_
          show Steps p.tables e below (T21.setTop (mkF m 256 #[.val (.int p1), .val (.int p2), .val (.int p3), .val (.int p4), .val (.int p5), .val (.int p6), .val (.ref j2_0), .val (.int bv), .val (.int av), .val (.int dv), .val (.int cv), .val (.int c3), .val (.int (((p5.toUInt32 >>> ((1 : Int32) &&& 31).toUInt32).toInt32) % (31 : Int32))), .val (.int b4), .val (.int a4), .val (.double (FP.Core.own_pr bv av)), .second, .val (.double (FP.Core.own_pr dv cv)), .second, .val (.double (FP.Core.own_pr bv c3)), .second, .val (.double (FP.Core.own_pr b4 a4)), .second, .unset, .unset, .unset, .unset] [(.int av)])) _
          refine XS.iload X21.here hx rfl (hb hby at_256) rfl ?_
          show Steps p.tables e below (T21.setTop (mkF m 258 #[.val (.int p1), .val (.int p2), .val (.int p3), .val (.int p4), .val (.int p5), .val (.int p6), .val (.ref j2_0), .val (.int bv), .val (.int av), .val (.int dv), .val (.int cv), .val (.int c3), .val (.int (((p5.toUInt32 >>> ((1 : Int32) &&& 31).toUInt32).toInt32) % (31 : Int32))), .val (.int b4), .val (.int a4), .val (.double (FP.Core.own_pr bv av)), .second, .val (.double (FP.Core.own_pr dv cv)), .second, .val (.double (FP.Core.own_pr bv c3)), .second, .val (.double (FP.Core.own_pr b4 a4)), .second, .unset, .unset, .unset, .unset] [(.int c3), (.int av)])) _
          refine XS.icmpYes X21.here hx rfl (pc0 := 258) (pc' := 271) rfl (hb hby at_258) rfl (flt (Int32.lt_asymm hc224_3)).2.2.2 (by decide) (by decide) ?_
          exact k
        exact ⟨T21, _, X21, e21, N21, k25⟩
      ·
        have k26 : ∀ t, Steps p.tables e below (T21.setTop (mkF m 241 #[.val (.int p1), .val (.int p2), .val (.int p3), .val (.int p4), .val (.int p5), .val (.int p6), .val (.ref j2_0), .val (.int bv), .val (.int av), .val (.int dv), .val (.int cv), .val (.int c3), .val (.int (((p5.toUInt32 >>> ((1 : Int32) &&& 31).toUInt32).toInt32) % (31 : Int32))), .val (.int b4), .val (.int a4), .val (.double (FP.Core.own_pr bv av)), .second, .val (.double (FP.Core.own_pr dv cv)), .second, .val (.double (FP.Core.own_pr bv c3)), .second, .val (.double (FP.Core.own_pr b4 a4)), .second, .unset, .unset, .unset, .unset] [(.int c3), (.int av)])) t → Steps p.tables e below (s₁.setTop (entryFrame m #[(.int p1), (.int p2), (.int p3), (.int p4), (.int p5), (.int p6)] maxLocals)) t := by
          intro t k
          refine k24 t ?_
          show Steps p.tables e below (T21.setTop (mkF m 224 #[.val (.int p1), .val (.int p2), .val (.int p3), .val (.int p4), .val (.int p5), .val (.int p6), .val (.ref j2_0), .val (.int bv), .val (.int av), .val (.int dv), .val (.int cv), .val (.int c3), .val (.int (((p5.toUInt32 >>> ((1 : Int32) &&& 31).toUInt32).toInt32) % (31 : Int32))), .val (.int b4), .val (.int a4), .val (.double (FP.Core.own_pr bv av)), .second, .val (.double (FP.Core.own_pr dv cv)), .second, .val (.double (FP.Core.own_pr bv c3)), .second, .val (.double (FP.Core.own_pr b4 a4)), .second, .unset, .unset, .unset, .unset] [(.int c3), (.int av)])) _
          refine XS.icmpYes X21.here hx rfl (pc0 := 224) (pc' := 237) rfl (hb hby at_224) rfl (flt hc224_3).2.1 (by decide) (by decide) ?_
          show Steps p.tables e below (T21.setTop (mkF m 237 #[.val (.int p1), .val (.int p2), .val (.int p3), .val (.int p4), .val (.int p5), .val (.int p6), .val (.ref j2_0), .val (.int bv), .val (.int av), .val (.int dv), .val (.int cv), .val (.int c3), .val (.int (((p5.toUInt32 >>> ((1 : Int32) &&& 31).toUInt32).toInt32) % (31 : Int32))), .val (.int b4), .val (.int a4), .val (.double (FP.Core.own_pr bv av)), .second, .val (.double (FP.Core.own_pr dv cv)), .second, .val (.double (FP.Core.own_pr bv c3)), .second, .val (.double (FP.Core.own_pr b4 a4)), .second, .unset, .unset, .unset, .unset] [])) _
          refine XS.iload X21.here hx rfl (hb hby at_237) rfl ?_
          show Steps p.tables e below (T21.setTop (mkF m 239 #[.val (.int p1), .val (.int p2), .val (.int p3), .val (.int p4), .val (.int p5), .val (.int p6), .val (.ref j2_0), .val (.int bv), .val (.int av), .val (.int dv), .val (.int cv), .val (.int c3), .val (.int (((p5.toUInt32 >>> ((1 : Int32) &&& 31).toUInt32).toInt32) % (31 : Int32))), .val (.int b4), .val (.int a4), .val (.double (FP.Core.own_pr bv av)), .second, .val (.double (FP.Core.own_pr dv cv)), .second, .val (.double (FP.Core.own_pr bv c3)), .second, .val (.double (FP.Core.own_pr b4 a4)), .second, .unset, .unset, .unset, .unset] [(.int av)])) _
          refine XS.iload X21.here hx rfl (hb hby at_239) rfl ?_
          exact k
        by_cases hc241_4 : av = c3
        ·
          have k27 : ∀ t, Steps p.tables e below (T21.setTop (mkF m 271 #[.val (.int p1), .val (.int p2), .val (.int p3), .val (.int p4), .val (.int p5), .val (.int p6), .val (.ref j2_0), .val (.int bv), .val (.int av), .val (.int dv), .val (.int cv), .val (.int c3), .val (.int (((p5.toUInt32 >>> ((1 : Int32) &&& 31).toUInt32).toInt32) % (31 : Int32))), .val (.int b4), .val (.int a4), .val (.double (FP.Core.own_pr bv av)), .second, .val (.double (FP.Core.own_pr dv cv)), .second, .val (.double (FP.Core.own_pr bv c3)), .second, .val (.double (FP.Core.own_pr b4 a4)), .second, .unset, .unset, .unset, .unset] [])) t → Steps p.tables e below (s₁.setTop (entryFrame m #[(.int p1), (.int p2), (.int p3), (.int p4), (.int p5), (.int p6)] maxLocals)) t := by
            intro t k
            refine k26 t ?_
            show Steps p.tables e below (T21.setTop (mkF m 241 #[.val (.int p1), .val (.int p2), .val (.int p3), .val (.int p4), .val (.int p5), .val (.int p6), .val (.ref j2_0), .val (.int bv), .val (.int av), .val (.int dv), .val (.int cv), .val (.int c3), .val (.int (((p5.toUInt32 >>> ((1 : Int32) &&& 31).toUInt32).toInt32) % (31 : Int32))), .val (.int b4), .val (.int a4), .val (.double (FP.Core.own_pr bv av)), .second, .val (.double (FP.Core.own_pr dv cv)), .second, .val (.double (FP.Core.own_pr bv c3)), .second, .val (.double (FP.Core.own_pr b4 a4)), .second, .unset, .unset, .unset, .unset] [(.int c3), (.int av)])) _
            refine XS.icmpNo X21.here hx rfl (hb hby at_241) rfl (teq hc241_4).2 ?_
            show Steps p.tables e below (T21.setTop (mkF m 244 #[.val (.int p1), .val (.int p2), .val (.int p3), .val (.int p4), .val (.int p5), .val (.int p6), .val (.ref j2_0), .val (.int bv), .val (.int av), .val (.int dv), .val (.int cv), .val (.int c3), .val (.int (((p5.toUInt32 >>> ((1 : Int32) &&& 31).toUInt32).toInt32) % (31 : Int32))), .val (.int b4), .val (.int a4), .val (.double (FP.Core.own_pr bv av)), .second, .val (.double (FP.Core.own_pr dv cv)), .second, .val (.double (FP.Core.own_pr bv c3)), .second, .val (.double (FP.Core.own_pr b4 a4)), .second, .unset, .unset, .unset, .unset] [])) _
            refine XS.dload X21.here hx rfl (hb hby at_244) rfl ?_
            show Steps p.tables e below (T21.setTop (mkF m 246 #[.val (.int p1), .val (.int p2), .val (.int p3), .val (.int p4), .val (.int p5), .val (.int p6), .val (.ref j2_0), .val (.int bv), .val (.int av), .val (.int dv), .val (.int cv), .val (.int c3), .val (.int (((p5.toUInt32 >>> ((1 : Int32) &&& 31).toUInt32).toInt32) % (31 : Int32))), .val (.int b4), .val (.int a4), .val (.double (FP.Core.own_pr bv av)), .second, .val (.double (FP.Core.own_pr dv cv)), .second, .val (.double (FP.Core.own_pr bv c3)), .second, .val (.double (FP.Core.own_pr b4 a4)), .second, .unset, .unset, .unset, .unset] [(.double (FP.Core.own_pr bv av))])) _
            refine XS.dload X21.here hx rfl (hb hby at_246) rfl ?_
            show Steps p.tables e below (T21.setTop (mkF m 248 #[.val (.int p1), .val (.int p2), .val (.int p3), .val (.int p4), .val (.int p5), .val (.int p6), .val (.ref j2_0), .val (.int bv), .val (.int av), .val (.int dv), .val (.int cv), .val (.int c3), .val (.int (((p5.toUInt32 >>> ((1 : Int32) &&& 31).toUInt32).toInt32) % (31 : Int32))), .val (.int b4), .val (.int a4), .val (.double (FP.Core.own_pr bv av)), .second, .val (.double (FP.Core.own_pr dv cv)), .second, .val (.double (FP.Core.own_pr bv c3)), .second, .val (.double (FP.Core.own_pr b4 a4)), .second, .unset, .unset, .unset, .unset] [(.double (FP.Core.own_pr bv c3)), (.double (FP.Core.own_pr bv av))])) _
            refine XS.dcmpS X21.here hx rfl (hb hby at_248) rfl (v := (cmpValue (FP.dcmp (FP.Core.own_pr bv av) (FP.Core.own_pr bv c3)) .l)) rfl ?_
            show Steps p.tables e below (T21.setTop (mkF m 249 #[.val (.int p1), .val (.int p2), .val (.int p3), .val (.int p4), .val (.int p5), .val (.int p6), .val (.ref j2_0), .val (.int bv), .val (.int av), .val (.int dv), .val (.int cv), .val (.int c3), .val (.int (((p5.toUInt32 >>> ((1 : Int32) &&& 31).toUInt32).toInt32) % (31 : Int32))), .val (.int b4), .val (.int a4), .val (.double (FP.Core.own_pr bv av)), .second, .val (.double (FP.Core.own_pr dv cv)), .second, .val (.double (FP.Core.own_pr bv c3)), .second, .val (.double (FP.Core.own_pr b4 a4)), .second, .unset, .unset, .unset, .unset] [(.int (cmpValue (FP.dcmp (FP.Core.own_pr bv av) (FP.Core.own_pr bv c3)) .l))])) _
            refine XS.ifYes X21.here hx rfl (pc0 := 249) (pc' := 254) rfl (hb hby at_249) rfl ((if0 _ _).trans (teq (own_l3 hok_av hok_c3 hc241_4)).1) (by decide) (by decide) ?_
            show Steps p.tables e below (T21.setTop (mkF m 254 #[.val (.int p1), .val (.int p2), .val (.int p3), .val (.int p4), .val (.int p5), .val (.int p6), .val (.ref j2_0), .val (.int bv), .val (.int av), .val (.int dv), .val (.int cv), .val (.int c3), .val (.int (((p5.toUInt32 >>> ((1 : Int32) &&& 31).toUInt32).toInt32) % (31 : Int32))), .val (.int b4), .val (.int a4), .val (.double (FP.Core.own_pr bv av)), .second, .val (.double (FP.Core.own_pr dv cv)), .second, .val (.double (FP.Core.own_pr bv c3)), .second, .val (.double (FP.Core.own_pr b4 a4)), .second, .unset, .unset, .unset, .unset] [])) _
            refine XS.iload X21.here hx rfl (hb hby at_254) rfl ?_
            show Steps p.tables e below (T21.setTop (mkF m 256 #[.val (.int p1), .val (.int p2), .val (.int p3), .val (.int p4), .val (.int p5), .val (.int p6), .val (.ref j2_0), .val (.int bv), .val (.int av), .val (.int dv), .val (.int cv), .val (.int c3), .val (.int (((p5.toUInt32 >>> ((1 : Int32) &&& 31).toUInt32).toInt32) % (31 : Int32))), .val (.int b4), .val (.int a4), .val (.double (FP.Core.own_pr bv av)), .second, .val (.double (FP.Core.own_pr dv cv)), .second, .val (.double (FP.Core.own_pr bv c3)), .second, .val (.double (FP.Core.own_pr b4 a4)), .second, .unset, .unset, .unset, .unset] [(.int av)])) _
            refine XS.iload X21.here hx rfl (hb hby at_256) rfl ?_
            show Steps p.tables e below (T21.setTop (mkF m 258 #[.val (.int p1), .val (.int p2), .val (.int p3), .val (.int p4), .val (.int p5), .val (.int p6), .val (.ref j2_0), .val (.int bv), .val (.int av), .val (.int dv), .val (.int cv), .val (.int c3), .val (.int (((p5.toUInt32 >>> ((1 : Int32) &&& 31).toUInt32).toInt32) % (31 : Int32))), .val (.int b4), .val (.int a4), .val (.double (FP.Core.own_pr bv av)), .second, .val (.double (FP.Core.own_pr dv cv)), .second, .val (.double (FP.Core.own_pr bv c3)), .second, .val (.double (FP.Core.own_pr b4 a4)), .second, .unset, .unset, .unset, .unset] [(.int c3), (.int av)])) _
            refine XS.icmpYes X21.here hx rfl (pc0 := 258) (pc' := 271) rfl (hb hby at_258) rfl (flt (by rw [hc241_4]; exact Int32.lt_irrefl)).2.2.2 (by decide) (by decide) ?_
            exact k
          exact ⟨T21, _, X21, e21, N21, k27⟩
        ·
          have k28 : ∀ t, Steps p.tables e below (T21.setTop (mkF m 258 #[.val (.int p1), .val (.int p2), .val (.int p3), .val (.int p4), .val (.int p5), .val (.int p6), .val (.ref j2_0), .val (.int bv), .val (.int av), .val (.int dv), .val (.int cv), .val (.int c3), .val (.int (((p5.toUInt32 >>> ((1 : Int32) &&& 31).toUInt32).toInt32) % (31 : Int32))), .val (.int b4), .val (.int a4), .val (.double (FP.Core.own_pr bv av)), .second, .val (.double (FP.Core.own_pr dv cv)), .second, .val (.double (FP.Core.own_pr bv c3)), .second, .val (.double (FP.Core.own_pr b4 a4)), .second, .unset, .unset, .unset, .unset] [(.int c3), (.int av)])) t → Steps p.tables e below (s₁.setTop (entryFrame m #[(.int p1), (.int p2), (.int p3), (.int p4), (.int p5), (.int p6)] maxLocals)) t := by
            intro t k
            refine k26 t ?_
            show Steps p.tables e below (T21.setTop (mkF m 241 #[.val (.int p1), .val (.int p2), .val (.int p3), .val (.int p4), .val (.int p5), .val (.int p6), .val (.ref j2_0), .val (.int bv), .val (.int av), .val (.int dv), .val (.int cv), .val (.int c3), .val (.int (((p5.toUInt32 >>> ((1 : Int32) &&& 31).toUInt32).toInt32) % (31 : Int32))), .val (.int b4), .val (.int a4), .val (.double (FP.Core.own_pr bv av)), .second, .val (.double (FP.Core.own_pr dv cv)), .second, .val (.double (FP.Core.own_pr bv c3)), .second, .val (.double (FP.Core.own_pr b4 a4)), .second, .unset, .unset, .unset, .unset] [(.int c3), (.int av)])) _
            refine XS.icmpYes X21.here hx rfl (pc0 := 241) (pc' := 254) rfl (hb hby at_241) rfl (feq hc241_4).2 (by decide) (by decide) ?_
            show Steps p.tables e below (T21.setTop (mkF m 254 #[.val (.int p1), .val (.int p2), .val (.int p3), .val (.int p4), .val (.int p5), .val (.int p6), .val (.ref j2_0), .val (.int bv), .val (.int av), .val (.int dv), .val (.int cv), .val (.int c3), .val (.int (((p5.toUInt32 >>> ((1 : Int32) &&& 31).toUInt32).toInt32) % (31 : Int32))), .val (.int b4), .val (.int a4), .val (.double (FP.Core.own_pr bv av)), .second, .val (.double (FP.Core.own_pr dv cv)), .second, .val (.double (FP.Core.own_pr bv c3)), .second, .val (.double (FP.Core.own_pr b4 a4)), .second, .unset, .unset, .unset, .unset] [])) _
            refine XS.iload X21.here hx rfl (hb hby at_254) rfl ?_
            show Steps p.tables e below (T21.setTop (mkF m 256 #[.val (.int p1), .val (.int p2), .val (.int p3), .val (.int p4), .val (.int p5), .val (.int p6), .val (.ref j2_0), .val (.int bv), .val (.int av), .val (.int dv), .val (.int cv), .val (.int c3), .val (.int (((p5.toUInt32 >>> ((1 : Int32) &&& 31).toUInt32).toInt32) % (31 : Int32))), .val (.int b4), .val (.int a4), .val (.double (FP.Core.own_pr bv av)), .second, .val (.double (FP.Core.own_pr dv cv)), .second, .val (.double (FP.Core.own_pr bv c3)), .second, .val (.double (FP.Core.own_pr b4 a4)), .second, .unset, .unset, .unset, .unset] [(.int av)])) _
            refine XS.iload X21.here hx rfl (hb hby at_256) rfl ?_
            exact k
          by_cases hc258_5 : c3 < av
          ·
            have k29 : ∀ t, Steps p.tables e below (T21.setTop (mkF m 271 #[.val (.int p1), .val (.int p2), .val (.int p3), .val (.int p4), .val (.int p5), .val (.int p6), .val (.ref j2_0), .val (.int bv), .val (.int av), .val (.int dv), .val (.int cv), .val (.int c3), .val (.int (((p5.toUInt32 >>> ((1 : Int32) &&& 31).toUInt32).toInt32) % (31 : Int32))), .val (.int b4), .val (.int a4), .val (.double (FP.Core.own_pr bv av)), .second, .val (.double (FP.Core.own_pr dv cv)), .second, .val (.double (FP.Core.own_pr bv c3)), .second, .val (.double (FP.Core.own_pr b4 a4)), .second, .unset, .unset, .unset, .unset] [])) t → Steps p.tables e below (s₁.setTop (entryFrame m #[(.int p1), (.int p2), (.int p3), (.int p4), (.int p5), (.int p6)] maxLocals)) t := by
              intro t k
              refine k28 t ?_
              show Steps p.tables e below (T21.setTop (mkF m 258 #[.val (.int p1), .val (.int p2), .val (.int p3), .val (.int p4), .val (.int p5), .val (.int p6), .val (.ref j2_0), .val (.int bv), .val (.int av), .val (.int dv), .val (.int cv), .val (.int c3), .val (.int (((p5.toUInt32 >>> ((1 : Int32) &&& 31).toUInt32).toInt32) % (31 : Int32))), .val (.int b4), .val (.int a4), .val (.double (FP.Core.own_pr bv av)), .second, .val (.double (FP.Core.own_pr dv cv)), .second, .val (.double (FP.Core.own_pr bv c3)), .second, .val (.double (FP.Core.own_pr b4 a4)), .second, .unset, .unset, .unset, .unset] [(.int c3), (.int av)])) _
              refine XS.icmpNo X21.here hx rfl (hb hby at_258) rfl (tlt hc258_5).2.2.2 ?_
              show Steps p.tables e below (T21.setTop (mkF m 261 #[.val (.int p1), .val (.int p2), .val (.int p3), .val (.int p4), .val (.int p5), .val (.int p6), .val (.ref j2_0), .val (.int bv), .val (.int av), .val (.int dv), .val (.int cv), .val (.int c3), .val (.int (((p5.toUInt32 >>> ((1 : Int32) &&& 31).toUInt32).toInt32) % (31 : Int32))), .val (.int b4), .val (.int a4), .val (.double (FP.Core.own_pr bv av)), .second, .val (.double (FP.Core.own_pr dv cv)), .second, .val (.double (FP.Core.own_pr bv c3)), .second, .val (.double (FP.Core.own_pr b4 a4)), .second, .unset, .unset, .unset, .unset] [])) _
              refine XS.dload X21.here hx rfl (hb hby at_261) rfl ?_
              show Steps p.tables e below (T21.setTop (mkF m 263 #[.val (.int p1), .val (.int p2), .val (.int p3), .val (.int p4), .val (.int p5), .val (.int p6), .val (.ref j2_0), .val (.int bv), .val (.int av), .val (.int dv), .val (.int cv), .val (.int c3), .val (.int (((p5.toUInt32 >>> ((1 : Int32) &&& 31).toUInt32).toInt32) % (31 : Int32))), .val (.int b4), .val (.int a4), .val (.double (FP.Core.own_pr bv av)), .second, .val (.double (FP.Core.own_pr dv cv)), .second, .val (.double (FP.Core.own_pr bv c3)), .second, .val (.double (FP.Core.own_pr b4 a4)), .second, .unset, .unset, .unset, .unset] [(.double (FP.Core.own_pr bv av))])) _
              refine XS.dload X21.here hx rfl (hb hby at_263) rfl ?_
              show Steps p.tables e below (T21.setTop (mkF m 265 #[.val (.int p1), .val (.int p2), .val (.int p3), .val (.int p4), .val (.int p5), .val (.int p6), .val (.ref j2_0), .val (.int bv), .val (.int av), .val (.int dv), .val (.int cv), .val (.int c3), .val (.int (((p5.toUInt32 >>> ((1 : Int32) &&& 31).toUInt32).toInt32) % (31 : Int32))), .val (.int b4), .val (.int a4), .val (.double (FP.Core.own_pr bv av)), .second, .val (.double (FP.Core.own_pr dv cv)), .second, .val (.double (FP.Core.own_pr bv c3)), .second, .val (.double (FP.Core.own_pr b4 a4)), .second, .unset, .unset, .unset, .unset] [(.double (FP.Core.own_pr bv c3)), (.double (FP.Core.own_pr bv av))])) _
              refine XS.dcmpS X21.here hx rfl (hb hby at_265) rfl (v := (cmpValue (FP.dcmp (FP.Core.own_pr bv av) (FP.Core.own_pr bv c3)) .l)) rfl ?_
              show Steps p.tables e below (T21.setTop (mkF m 266 #[.val (.int p1), .val (.int p2), .val (.int p3), .val (.int p4), .val (.int p5), .val (.int p6), .val (.ref j2_0), .val (.int bv), .val (.int av), .val (.int dv), .val (.int cv), .val (.int c3), .val (.int (((p5.toUInt32 >>> ((1 : Int32) &&& 31).toUInt32).toInt32) % (31 : Int32))), .val (.int b4), .val (.int a4), .val (.double (FP.Core.own_pr bv av)), .second, .val (.double (FP.Core.own_pr dv cv)), .second, .val (.double (FP.Core.own_pr bv c3)), .second, .val (.double (FP.Core.own_pr b4 a4)), .second, .unset, .unset, .unset, .unset] [(.int (cmpValue (FP.dcmp (FP.Core.own_pr bv av) (FP.Core.own_pr bv c3)) .l))])) _
              refine XS.ifYes X21.here hx rfl (pc0 := 266) (pc' := 271) rfl (hb hby at_266) rfl ((if0 _ _).trans (tlt (own_l4 hok_av hok_c3 hc217_2 hc258_5)).2.2.1) (by decide) (by decide) ?_
              exact k
            exact ⟨T21, _, X21, e21, N21, k29⟩
          ·
            have k30 : ∀ t, Steps p.tables e below (T21.setTop (mkF m 271 #[.val (.int p1), .val (.int p2), .val (.int p3), .val (.int p4), .val (.int p5), .val (.int p6), .val (.ref j2_0), .val (.int bv), .val (.int av), .val (.int dv), .val (.int cv), .val (.int c3), .val (.int (((p5.toUInt32 >>> ((1 : Int32) &&& 31).toUInt32).toInt32) % (31 : Int32))), .val (.int b4), .val (.int a4), .val (.double (FP.Core.own_pr bv av)), .second, .val (.double (FP.Core.own_pr dv cv)), .second, .val (.double (FP.Core.own_pr bv c3)), .second, .val (.double (FP.Core.own_pr b4 a4)), .second, .unset, .unset, .unset, .unset] [])) t → Steps p.tables e below (s₁.setTop (entryFrame m #[(.int p1), (.int p2), (.int p3), (.int p4), (.int p5), (.int p6)] maxLocals)) t := by
              intro t k
              refine k28 t ?_
              show Steps p.tables e below (T21.setTop (mkF m 258 #[.val (.int p1), .val (.int p2), .val (.int p3), .val (.int p4), .val (.int p5), .val (.int p6), .val (.ref j2_0), .val (.int bv), .val (.int av), .val (.int dv), .val (.int cv), .val (.int c3), .val (.int (((p5.toUInt32 >>> ((1 : Int32) &&& 31).toUInt32).toInt32) % (31 : Int32))), .val (.int b4), .val (.int a4), .val (.double (FP.Core.own_pr bv av)), .second, .val (.double (FP.Core.own_pr dv cv)), .second, .val (.double (FP.Core.own_pr bv c3)), .second, .val (.double (FP.Core.own_pr b4 a4)), .second, .unset, .unset, .unset, .unset] [(.int c3), (.int av)])) _
              refine XS.icmpYes X21.here hx rfl (pc0 := 258) (pc' := 271) rfl (hb hby at_258) rfl (flt hc258_5).2.2.2 (by decide) (by decide) ?_
              exact k
            exact ⟨T21, _, X21, e21, N21, k30⟩
    ·
      have k31 : ∀ t, Steps p.tables e below (T21.setTop (mkF m 271 #[.val (.int p1), .val (.int p2), .val (.int p3), .val (.int p4), .val (.int p5), .val (.int p6), .val (.ref j2_0), .val (.int bv), .val (.int av), .val (.int dv), .val (.int cv), .val (.int c3), .val (.int (((p5.toUInt32 >>> ((1 : Int32) &&& 31).toUInt32).toInt32) % (31 : Int32))), .val (.int b4), .val (.int a4), .val (.double (FP.Core.own_pr bv av)), .second, .val (.double (FP.Core.own_pr dv cv)), .second, .val (.double (FP.Core.own_pr bv c3)), .second, .val (.double (FP.Core.own_pr b4 a4)), .second, .unset, .unset, .unset, .unset] [])) t → Steps p.tables e below (s₁.setTop (entryFrame m #[(.int p1), (.int p2), (.int p3), (.int p4), (.int p5), (.int p6)] maxLocals)) t := by
        intro t k
        refine k22 t ?_
        show Steps p.tables e below (T21.setTop (mkF m 217 #[.val (.int p1), .val (.int p2), .val (.int p3), .val (.int p4), .val (.int p5), .val (.int p6), .val (.ref j2_0), .val (.int bv), .val (.int av), .val (.int dv), .val (.int cv), .val (.int c3), .val (.int (((p5.toUInt32 >>> ((1 : Int32) &&& 31).toUInt32).toInt32) % (31 : Int32))), .val (.int b4), .val (.int a4), .val (.double (FP.Core.own_pr bv av)), .second, .val (.double (FP.Core.own_pr dv cv)), .second, .val (.double (FP.Core.own_pr bv c3)), .second, .val (.double (FP.Core.own_pr b4 a4)), .second, .unset, .unset, .unset, .unset] [(.int bv)])) _
        refine XS.ifYes X21.here hx rfl (pc0 := 217) (pc' := 271) rfl (hb hby at_217) rfl ((if0 _ _).trans (flt hc217_2).2.2.2) (by decide) (by decide) ?_
        exact k
      exact ⟨T21, _, X21, e21, N21, k31⟩
  have k32 : ∀ t, Steps p.tables e below (T23.setTop (mkF m 273 #[.val (.int p1), .val (.int p2), .val (.int p3), .val (.int p4), .val (.int p5), .val (.int p6), .val (.ref j2_0), .val (.int bv), .val (.int av), .val (.int dv), .val (.int cv), .val (.int c3), .val (.int (((p5.toUInt32 >>> ((1 : Int32) &&& 31).toUInt32).toInt32) % (31 : Int32))), .val (.int b4), .val (.int a4), .val (.double (FP.Core.own_pr bv av)), .second, .val (.double (FP.Core.own_pr dv cv)), .second, .val (.double (FP.Core.own_pr bv c3)), .second, .val (.double (FP.Core.own_pr b4 a4)), .second, .unset, .unset, .unset, .unset] [(.int bv)])) t → Steps p.tables e below (s₁.setTop (entryFrame m #[(.int p1), (.int p2), (.int p3), (.int p4), (.int p5), (.int p6)] maxLocals)) t := by
    intro t k
    refine k23 t ?_
    show Steps p.tables e below (T23.setTop (mkF m 271 #[.val (.int p1), .val (.int p2), .val (.int p3), .val (.int p4), .val (.int p5), .val (.int p6), .val (.ref j2_0), .val (.int bv), .val (.int av), .val (.int dv), .val (.int cv), .val (.int c3), .val (.int (((p5.toUInt32 >>> ((1 : Int32) &&& 31).toUInt32).toInt32) % (31 : Int32))), .val (.int b4), .val (.int a4), .val (.double (FP.Core.own_pr bv av)), .second, .val (.double (FP.Core.own_pr dv cv)), .second, .val (.double (FP.Core.own_pr bv c3)), .second, .val (.double (FP.Core.own_pr b4 a4)), .second, .unset, .unset, .unset, .unset] [])) _
    refine XS.iload X23.here hx rfl (hb hby at_271) rfl ?_
    exact k
  by_cases hc273_6 : (0 : Int32) < bv
  ·
    have k33 : ∀ t, Steps p.tables e below (T23.setTop (mkF m 278 #[.val (.int p1), .val (.int p2), .val (.int p3), .val (.int p4), .val (.int p5), .val (.int p6), .val (.ref j2_0), .val (.int bv), .val (.int av), .val (.int dv), .val (.int cv), .val (.int c3), .val (.int (((p5.toUInt32 >>> ((1 : Int32) &&& 31).toUInt32).toInt32) % (31 : Int32))), .val (.int b4), .val (.int a4), .val (.double (FP.Core.own_pr bv av)), .second, .val (.double (FP.Core.own_pr dv cv)), .second, .val (.double (FP.Core.own_pr bv c3)), .second, .val (.double (FP.Core.own_pr b4 a4)), .second, .unset, .unset, .unset, .unset] [(.int dv)])) t → Steps p.tables e below (s₁.setTop (entryFrame m #[(.int p1), (.int p2), (.int p3), (.int p4), (.int p5), (.int p6)] maxLocals)) t := by
      intro t k
      refine k32 t ?_
      show Steps p.tables e below (T23.setTop (mkF m 273 #[.val (.int p1), .val (.int p2), .val (.int p3), .val (.int p4), .val (.int p5), .val (.int p6), .val (.ref j2_0), .val (.int bv), .val (.int av), .val (.int dv), .val (.int cv), .val (.int c3), .val (.int (((p5.toUInt32 >>> ((1 : Int32) &&& 31).toUInt32).toInt32) % (31 : Int32))), .val (.int b4), .val (.int a4), .val (.double (FP.Core.own_pr bv av)), .second, .val (.double (FP.Core.own_pr dv cv)), .second, .val (.double (FP.Core.own_pr bv c3)), .second, .val (.double (FP.Core.own_pr b4 a4)), .second, .unset, .unset, .unset, .unset] [(.int bv)])) _
      refine XS.ifNo X23.here hx rfl (hb hby at_273) rfl ((if0 _ _).trans (tlt hc273_6).2.2.2) ?_
      show Steps p.tables e below (T23.setTop (mkF m 276 #[.val (.int p1), .val (.int p2), .val (.int p3), .val (.int p4), .val (.int p5), .val (.int p6), .val (.ref j2_0), .val (.int bv), .val (.int av), .val (.int dv), .val (.int cv), .val (.int c3), .val (.int (((p5.toUInt32 >>> ((1 : Int32) &&& 31).toUInt32).toInt32) % (31 : Int32))), .val (.int b4), .val (.int a4), .val (.double (FP.Core.own_pr bv av)), .second, .val (.double (FP.Core.own_pr dv cv)), .second, .val (.double (FP.Core.own_pr bv c3)), .second, .val (.double (FP.Core.own_pr b4 a4)), .second, .unset, .unset, .unset, .unset] [])) _
      refine XS.iload X23.here hx rfl (hb hby at_276) rfl ?_
      exact k
    by_cases hc278_7 : (0 : Int32) < dv
    ·
      have k34 : ∀ t, Steps p.tables e below (T23.setTop (mkF m 304 #[.val (.int p1), .val (.int p2), .val (.int p3), .val (.int p4), .val (.int p5), .val (.int p6), .val (.ref j2_0), .val (.int bv), .val (.int av), .val (.int dv), .val (.int cv), .val (.int c3), .val (.int (((p5.toUInt32 >>> ((1 : Int32) &&& 31).toUInt32).toInt32) % (31 : Int32))), .val (.int b4), .val (.int a4), .val (.double (FP.Core.own_pr bv av)), .second, .val (.double (FP.Core.own_pr dv cv)), .second, .val (.double (FP.Core.own_pr bv c3)), .second, .val (.double (FP.Core.own_pr b4 a4)), .second, .val (.long ((av.toInt64) * (dv.toInt64))), .second, .val (.long ((cv.toInt64) * (bv.toInt64))), .second] [(.int (lcmpW ((av.toInt64) * (dv.toInt64)) ((cv.toInt64) * (bv.toInt64))))])) t → Steps p.tables e below (s₁.setTop (entryFrame m #[(.int p1), (.int p2), (.int p3), (.int p4), (.int p5), (.int p6)] maxLocals)) t := by
        intro t k
        refine k33 t ?_
        show Steps p.tables e below (T23.setTop (mkF m 278 #[.val (.int p1), .val (.int p2), .val (.int p3), .val (.int p4), .val (.int p5), .val (.int p6), .val (.ref j2_0), .val (.int bv), .val (.int av), .val (.int dv), .val (.int cv), .val (.int c3), .val (.int (((p5.toUInt32 >>> ((1 : Int32) &&& 31).toUInt32).toInt32) % (31 : Int32))), .val (.int b4), .val (.int a4), .val (.double (FP.Core.own_pr bv av)), .second, .val (.double (FP.Core.own_pr dv cv)), .second, .val (.double (FP.Core.own_pr bv c3)), .second, .val (.double (FP.Core.own_pr b4 a4)), .second, .unset, .unset, .unset, .unset] [(.int dv)])) _
        refine XS.ifNo X23.here hx rfl (hb hby at_278) rfl ((if0 _ _).trans (tlt hc278_7).2.2.2) ?_
        show Steps p.tables e below (T23.setTop (mkF m 281 #[.val (.int p1), .val (.int p2), .val (.int p3), .val (.int p4), .val (.int p5), .val (.int p6), .val (.ref j2_0), .val (.int bv), .val (.int av), .val (.int dv), .val (.int cv), .val (.int c3), .val (.int (((p5.toUInt32 >>> ((1 : Int32) &&& 31).toUInt32).toInt32) % (31 : Int32))), .val (.int b4), .val (.int a4), .val (.double (FP.Core.own_pr bv av)), .second, .val (.double (FP.Core.own_pr dv cv)), .second, .val (.double (FP.Core.own_pr bv c3)), .second, .val (.double (FP.Core.own_pr b4 a4)), .second, .unset, .unset, .unset, .unset] [])) _
        refine XS.iload X23.here hx rfl (hb hby at_281) rfl ?_
        show Steps p.tables e below (T23.setTop (mkF m 283 #[.val (.int p1), .val (.int p2), .val (.int p3), .val (.int p4), .val (.int p5), .val (.int p6), .val (.ref j2_0), .val (.int bv), .val (.int av), .val (.int dv), .val (.int cv), .val (.int c3), .val (.int (((p5.toUInt32 >>> ((1 : Int32) &&& 31).toUInt32).toInt32) % (31 : Int32))), .val (.int b4), .val (.int a4), .val (.double (FP.Core.own_pr bv av)), .second, .val (.double (FP.Core.own_pr dv cv)), .second, .val (.double (FP.Core.own_pr bv c3)), .second, .val (.double (FP.Core.own_pr b4 a4)), .second, .unset, .unset, .unset, .unset] [(.int av)])) _
        refine XS.i2l X23.here hx rfl (hb hby at_283) rfl ?_
        show Steps p.tables e below (T23.setTop (mkF m 284 #[.val (.int p1), .val (.int p2), .val (.int p3), .val (.int p4), .val (.int p5), .val (.int p6), .val (.ref j2_0), .val (.int bv), .val (.int av), .val (.int dv), .val (.int cv), .val (.int c3), .val (.int (((p5.toUInt32 >>> ((1 : Int32) &&& 31).toUInt32).toInt32) % (31 : Int32))), .val (.int b4), .val (.int a4), .val (.double (FP.Core.own_pr bv av)), .second, .val (.double (FP.Core.own_pr dv cv)), .second, .val (.double (FP.Core.own_pr bv c3)), .second, .val (.double (FP.Core.own_pr b4 a4)), .second, .unset, .unset, .unset, .unset] [(.long (av.toInt64))])) _
        refine XS.iload X23.here hx rfl (hb hby at_284) rfl ?_
        show Steps p.tables e below (T23.setTop (mkF m 286 #[.val (.int p1), .val (.int p2), .val (.int p3), .val (.int p4), .val (.int p5), .val (.int p6), .val (.ref j2_0), .val (.int bv), .val (.int av), .val (.int dv), .val (.int cv), .val (.int c3), .val (.int (((p5.toUInt32 >>> ((1 : Int32) &&& 31).toUInt32).toInt32) % (31 : Int32))), .val (.int b4), .val (.int a4), .val (.double (FP.Core.own_pr bv av)), .second, .val (.double (FP.Core.own_pr dv cv)), .second, .val (.double (FP.Core.own_pr bv c3)), .second, .val (.double (FP.Core.own_pr b4 a4)), .second, .unset, .unset, .unset, .unset] [(.int dv), (.long (av.toInt64))])) _
        refine XS.i2l X23.here hx rfl (hb hby at_286) rfl ?_
        show Steps p.tables e below (T23.setTop (mkF m 287 #[.val (.int p1), .val (.int p2), .val (.int p3), .val (.int p4), .val (.int p5), .val (.int p6), .val (.ref j2_0), .val (.int bv), .val (.int av), .val (.int dv), .val (.int cv), .val (.int c3), .val (.int (((p5.toUInt32 >>> ((1 : Int32) &&& 31).toUInt32).toInt32) % (31 : Int32))), .val (.int b4), .val (.int a4), .val (.double (FP.Core.own_pr bv av)), .second, .val (.double (FP.Core.own_pr dv cv)), .second, .val (.double (FP.Core.own_pr bv c3)), .second, .val (.double (FP.Core.own_pr b4 a4)), .second, .unset, .unset, .unset, .unset] [(.long (dv.toInt64)), (.long (av.toInt64))])) _
        refine XS.lmul X23.here hx rfl (hb hby at_287) rfl ?_
        show Steps p.tables e below (T23.setTop (mkF m 288 #[.val (.int p1), .val (.int p2), .val (.int p3), .val (.int p4), .val (.int p5), .val (.int p6), .val (.ref j2_0), .val (.int bv), .val (.int av), .val (.int dv), .val (.int cv), .val (.int c3), .val (.int (((p5.toUInt32 >>> ((1 : Int32) &&& 31).toUInt32).toInt32) % (31 : Int32))), .val (.int b4), .val (.int a4), .val (.double (FP.Core.own_pr bv av)), .second, .val (.double (FP.Core.own_pr dv cv)), .second, .val (.double (FP.Core.own_pr bv c3)), .second, .val (.double (FP.Core.own_pr b4 a4)), .second, .unset, .unset, .unset, .unset] [(.long ((av.toInt64) * (dv.toInt64)))])) _
        refine XS.lstore X23.here hx rfl (hb hby at_288) rfl (l' := #[.val (.int p1), .val (.int p2), .val (.int p3), .val (.int p4), .val (.int p5), .val (.int p6), .val (.ref j2_0), .val (.int bv), .val (.int av), .val (.int dv), .val (.int cv), .val (.int c3), .val (.int (((p5.toUInt32 >>> ((1 : Int32) &&& 31).toUInt32).toInt32) % (31 : Int32))), .val (.int b4), .val (.int a4), .val (.double (FP.Core.own_pr bv av)), .second, .val (.double (FP.Core.own_pr dv cv)), .second, .val (.double (FP.Core.own_pr bv c3)), .second, .val (.double (FP.Core.own_pr b4 a4)), .second, .val (.long ((av.toInt64) * (dv.toInt64))), .second, .unset, .unset]) rfl ?_
        show Steps p.tables e below (T23.setTop (mkF m 290 #[.val (.int p1), .val (.int p2), .val (.int p3), .val (.int p4), .val (.int p5), .val (.int p6), .val (.ref j2_0), .val (.int bv), .val (.int av), .val (.int dv), .val (.int cv), .val (.int c3), .val (.int (((p5.toUInt32 >>> ((1 : Int32) &&& 31).toUInt32).toInt32) % (31 : Int32))), .val (.int b4), .val (.int a4), .val (.double (FP.Core.own_pr bv av)), .second, .val (.double (FP.Core.own_pr dv cv)), .second, .val (.double (FP.Core.own_pr bv c3)), .second, .val (.double (FP.Core.own_pr b4 a4)), .second, .val (.long ((av.toInt64) * (dv.toInt64))), .second, .unset, .unset] [])) _
        refine XS.iload X23.here hx rfl (hb hby at_290) rfl ?_
        show Steps p.tables e below (T23.setTop (mkF m 292 #[.val (.int p1), .val (.int p2), .val (.int p3), .val (.int p4), .val (.int p5), .val (.int p6), .val (.ref j2_0), .val (.int bv), .val (.int av), .val (.int dv), .val (.int cv), .val (.int c3), .val (.int (((p5.toUInt32 >>> ((1 : Int32) &&& 31).toUInt32).toInt32) % (31 : Int32))), .val (.int b4), .val (.int a4), .val (.double (FP.Core.own_pr bv av)), .second, .val (.double (FP.Core.own_pr dv cv)), .second, .val (.double (FP.Core.own_pr bv c3)), .second, .val (.double (FP.Core.own_pr b4 a4)), .second, .val (.long ((av.toInt64) * (dv.toInt64))), .second, .unset, .unset] [(.int cv)])) _
        refine XS.i2l X23.here hx rfl (hb hby at_292) rfl ?_
        show Steps p.tables e below (T23.setTop (mkF m 293 #[.val (.int p1), .val (.int p2), .val (.int p3), .val (.int p4), .val (.int p5), .val (.int p6), .val (.ref j2_0), .val (.int bv), .val (.int av), .val (.int dv), .val (.int cv), .val (.int c3), .val (.int (((p5.toUInt32 >>> ((1 : Int32) &&& 31).toUInt32).toInt32) % (31 : Int32))), .val (.int b4), .val (.int a4), .val (.double (FP.Core.own_pr bv av)), .second, .val (.double (FP.Core.own_pr dv cv)), .second, .val (.double (FP.Core.own_pr bv c3)), .second, .val (.double (FP.Core.own_pr b4 a4)), .second, .val (.long ((av.toInt64) * (dv.toInt64))), .second, .unset, .unset] [(.long (cv.toInt64))])) _
        refine XS.iload X23.here hx rfl (hb hby at_293) rfl ?_
        show Steps p.tables e below (T23.setTop (mkF m 295 #[.val (.int p1), .val (.int p2), .val (.int p3), .val (.int p4), .val (.int p5), .val (.int p6), .val (.ref j2_0), .val (.int bv), .val (.int av), .val (.int dv), .val (.int cv), .val (.int c3), .val (.int (((p5.toUInt32 >>> ((1 : Int32) &&& 31).toUInt32).toInt32) % (31 : Int32))), .val (.int b4), .val (.int a4), .val (.double (FP.Core.own_pr bv av)), .second, .val (.double (FP.Core.own_pr dv cv)), .second, .val (.double (FP.Core.own_pr bv c3)), .second, .val (.double (FP.Core.own_pr b4 a4)), .second, .val (.long ((av.toInt64) * (dv.toInt64))), .second, .unset, .unset] [(.int bv), (.long (cv.toInt64))])) _
        refine XS.i2l X23.here hx rfl (hb hby at_295) rfl ?_
        show Steps p.tables e below (T23.setTop (mkF m 296 #[.val (.int p1), .val (.int p2), .val (.int p3), .val (.int p4), .val (.int p5), .val (.int p6), .val (.ref j2_0), .val (.int bv), .val (.int av), .val (.int dv), .val (.int cv), .val (.int c3), .val (.int (((p5.toUInt32 >>> ((1 : Int32) &&& 31).toUInt32).toInt32) % (31 : Int32))), .val (.int b4), .val (.int a4), .val (.double (FP.Core.own_pr bv av)), .second, .val (.double (FP.Core.own_pr dv cv)), .second, .val (.double (FP.Core.own_pr bv c3)), .second, .val (.double (FP.Core.own_pr b4 a4)), .second, .val (.long ((av.toInt64) * (dv.toInt64))), .second, .unset, .unset] [(.long (bv.toInt64)), (.long (cv.toInt64))])) _
        refine XS.lmul X23.here hx rfl (hb hby at_296) rfl ?_
        show Steps p.tables e below (T23.setTop (mkF m 297 #[.val (.int p1), .val (.int p2), .val (.int p3), .val (.int p4), .val (.int p5), .val (.int p6), .val (.ref j2_0), .val (.int bv), .val (.int av), .val (.int dv), .val (.int cv), .val (.int c3), .val (.int (((p5.toUInt32 >>> ((1 : Int32) &&& 31).toUInt32).toInt32) % (31 : Int32))), .val (.int b4), .val (.int a4), .val (.double (FP.Core.own_pr bv av)), .second, .val (.double (FP.Core.own_pr dv cv)), .second, .val (.double (FP.Core.own_pr bv c3)), .second, .val (.double (FP.Core.own_pr b4 a4)), .second, .val (.long ((av.toInt64) * (dv.toInt64))), .second, .unset, .unset] [(.long ((cv.toInt64) * (bv.toInt64)))])) _
        refine XS.lstore X23.here hx rfl (hb hby at_297) rfl (l' := #[.val (.int p1), .val (.int p2), .val (.int p3), .val (.int p4), .val (.int p5), .val (.int p6), .val (.ref j2_0), .val (.int bv), .val (.int av), .val (.int dv), .val (.int cv), .val (.int c3), .val (.int (((p5.toUInt32 >>> ((1 : Int32) &&& 31).toUInt32).toInt32) % (31 : Int32))), .val (.int b4), .val (.int a4), .val (.double (FP.Core.own_pr bv av)), .second, .val (.double (FP.Core.own_pr dv cv)), .second, .val (.double (FP.Core.own_pr bv c3)), .second, .val (.double (FP.Core.own_pr b4 a4)), .second, .val (.long ((av.toInt64) * (dv.toInt64))), .second, .val (.long ((cv.toInt64) * (bv.toInt64))), .second]) rfl ?_
        show Steps p.tables e below (T23.setTop (mkF m 299 #[.val (.int p1), .val (.int p2), .val (.int p3), .val (.int p4), .val (.int p5), .val (.int p6), .val (.ref j2_0), .val (.int bv), .val (.int av), .val (.int dv), .val (.int cv), .val (.int c3), .val (.int (((p5.toUInt32 >>> ((1 : Int32) &&& 31).toUInt32).toInt32) % (31 : Int32))), .val (.int b4), .val (.int a4), .val (.double (FP.Core.own_pr bv av)), .second, .val (.double (FP.Core.own_pr dv cv)), .second, .val (.double (FP.Core.own_pr bv c3)), .second, .val (.double (FP.Core.own_pr b4 a4)), .second, .val (.long ((av.toInt64) * (dv.toInt64))), .second, .val (.long ((cv.toInt64) * (bv.toInt64))), .second] [])) _
        refine XS.lload X23.here hx rfl (hb hby at_299) rfl ?_
        show Steps p.tables e below (T23.setTop (mkF m 301 #[.val (.int p1), .val (.int p2), .val (.int p3), .val (.int p4), .val (.int p5), .val (.int p6), .val (.ref j2_0), .val (.int bv), .val (.int av), .val (.int dv), .val (.int cv), .val (.int c3), .val (.int (((p5.toUInt32 >>> ((1 : Int32) &&& 31).toUInt32).toInt32) % (31 : Int32))), .val (.int b4), .val (.int a4), .val (.double (FP.Core.own_pr bv av)), .second, .val (.double (FP.Core.own_pr dv cv)), .second, .val (.double (FP.Core.own_pr bv c3)), .second, .val (.double (FP.Core.own_pr b4 a4)), .second, .val (.long ((av.toInt64) * (dv.toInt64))), .second, .val (.long ((cv.toInt64) * (bv.toInt64))), .second] [(.long ((av.toInt64) * (dv.toInt64)))])) _
        refine XS.lload X23.here hx rfl (hb hby at_301) rfl ?_
        show Steps p.tables e below (T23.setTop (mkF m 303 #[.val (.int p1), .val (.int p2), .val (.int p3), .val (.int p4), .val (.int p5), .val (.int p6), .val (.ref j2_0), .val (.int bv), .val (.int av), .val (.int dv), .val (.int cv), .val (.int c3), .val (.int (((p5.toUInt32 >>> ((1 : Int32) &&& 31).toUInt32).toInt32) % (31 : Int32))), .val (.int b4), .val (.int a4), .val (.double (FP.Core.own_pr bv av)), .second, .val (.double (FP.Core.own_pr dv cv)), .second, .val (.double (FP.Core.own_pr bv c3)), .second, .val (.double (FP.Core.own_pr b4 a4)), .second, .val (.long ((av.toInt64) * (dv.toInt64))), .second, .val (.long ((cv.toInt64) * (bv.toInt64))), .second] [(.long ((cv.toInt64) * (bv.toInt64))), (.long ((av.toInt64) * (dv.toInt64)))])) _
        refine XS.lcmp X23.here hx rfl (hb hby at_303) rfl ?_
        exact k
      by_cases hc304_8 : (lcmpW ((av.toInt64) * (dv.toInt64)) ((cv.toInt64) * (bv.toInt64))) < (0 : Int32)
      ·
        obtain ⟨fs, hr, hrun, hended, hW, hsame⟩ := X23.leave (v := some (.int (1 : Int32))) (fun h => by rw [Bd.returns] at h; cases h)
        refine ⟨_, _, k34 _ ?_, hrun, hended, _, _, rfl, ?_, ⟨_, rfl⟩, hW, hsame.mono (by decide) (by decide)⟩
        ·
          show Steps p.tables e below (T23.setTop (mkF m 304 #[.val (.int p1), .val (.int p2), .val (.int p3), .val (.int p4), .val (.int p5), .val (.int p6), .val (.ref j2_0), .val (.int bv), .val (.int av), .val (.int dv), .val (.int cv), .val (.int c3), .val (.int (((p5.toUInt32 >>> ((1 : Int32) &&& 31).toUInt32).toInt32) % (31 : Int32))), .val (.int b4), .val (.int a4), .val (.double (FP.Core.own_pr bv av)), .second, .val (.double (FP.Core.own_pr dv cv)), .second, .val (.double (FP.Core.own_pr bv c3)), .second, .val (.double (FP.Core.own_pr b4 a4)), .second, .val (.long ((av.toInt64) * (dv.toInt64))), .second, .val (.long ((cv.toInt64) * (bv.toInt64))), .second] [(.int (lcmpW ((av.toInt64) * (dv.toInt64)) ((cv.toInt64) * (bv.toInt64))))])) _
          refine XS.ifNo X23.here hx rfl (hb hby at_304) rfl ((if0 _ _).trans (tlt hc304_8).2.1) ?_
          show Steps p.tables e below (T23.setTop (mkF m 307 #[.val (.int p1), .val (.int p2), .val (.int p3), .val (.int p4), .val (.int p5), .val (.int p6), .val (.ref j2_0), .val (.int bv), .val (.int av), .val (.int dv), .val (.int cv), .val (.int c3), .val (.int (((p5.toUInt32 >>> ((1 : Int32) &&& 31).toUInt32).toInt32) % (31 : Int32))), .val (.int b4), .val (.int a4), .val (.double (FP.Core.own_pr bv av)), .second, .val (.double (FP.Core.own_pr dv cv)), .second, .val (.double (FP.Core.own_pr bv c3)), .second, .val (.double (FP.Core.own_pr b4 a4)), .second, .val (.long ((av.toInt64) * (dv.toInt64))), .second, .val (.long ((cv.toInt64) * (bv.toInt64))), .second] [])) _
          refine XS.dload X23.here hx rfl (hb hby at_307) rfl ?_
          show Steps p.tables e below (T23.setTop (mkF m 309 #[.val (.int p1), .val (.int p2), .val (.int p3), .val (.int p4), .val (.int p5), .val (.int p6), .val (.ref j2_0), .val (.int bv), .val (.int av), .val (.int dv), .val (.int cv), .val (.int c3), .val (.int (((p5.toUInt32 >>> ((1 : Int32) &&& 31).toUInt32).toInt32) % (31 : Int32))), .val (.int b4), .val (.int a4), .val (.double (FP.Core.own_pr bv av)), .second, .val (.double (FP.Core.own_pr dv cv)), .second, .val (.double (FP.Core.own_pr bv c3)), .second, .val (.double (FP.Core.own_pr b4 a4)), .second, .val (.long ((av.toInt64) * (dv.toInt64))), .second, .val (.long ((cv.toInt64) * (bv.toInt64))), .second] [(.double (FP.Core.own_pr bv av))])) _
          refine XS.dload X23.here hx rfl (hb hby at_309) rfl ?_
          show Steps p.tables e below (T23.setTop (mkF m 311 #[.val (.int p1), .val (.int p2), .val (.int p3), .val (.int p4), .val (.int p5), .val (.int p6), .val (.ref j2_0), .val (.int bv), .val (.int av), .val (.int dv), .val (.int cv), .val (.int c3), .val (.int (((p5.toUInt32 >>> ((1 : Int32) &&& 31).toUInt32).toInt32) % (31 : Int32))), .val (.int b4), .val (.int a4), .val (.double (FP.Core.own_pr bv av)), .second, .val (.double (FP.Core.own_pr dv cv)), .second, .val (.double (FP.Core.own_pr bv c3)), .second, .val (.double (FP.Core.own_pr b4 a4)), .second, .val (.long ((av.toInt64) * (dv.toInt64))), .second, .val (.long ((cv.toInt64) * (bv.toInt64))), .second] [(.double (FP.Core.own_pr dv cv)), (.double (FP.Core.own_pr bv av))])) _
          refine XS.dcmpS X23.here hx rfl (hb hby at_311) rfl (v := (cmpValue (FP.dcmp (FP.Core.own_pr bv av) (FP.Core.own_pr dv cv)) .g)) rfl ?_
          show Steps p.tables e below (T23.setTop (mkF m 312 #[.val (.int p1), .val (.int p2), .val (.int p3), .val (.int p4), .val (.int p5), .val (.int p6), .val (.ref j2_0), .val (.int bv), .val (.int av), .val (.int dv), .val (.int cv), .val (.int c3), .val (.int (((p5.toUInt32 >>> ((1 : Int32) &&& 31).toUInt32).toInt32) % (31 : Int32))), .val (.int b4), .val (.int a4), .val (.double (FP.Core.own_pr bv av)), .second, .val (.double (FP.Core.own_pr dv cv)), .second, .val (.double (FP.Core.own_pr bv c3)), .second, .val (.double (FP.Core.own_pr b4 a4)), .second, .val (.long ((av.toInt64) * (dv.toInt64))), .second, .val (.long ((cv.toInt64) * (bv.toInt64))), .second] [(.int (cmpValue (FP.dcmp (FP.Core.own_pr bv av) (FP.Core.own_pr dv cv)) .g))])) _
          refine XS.ifYes X23.here hx rfl (pc0 := 312) (pc' := 317) rfl (hb hby at_312) rfl ((if0 _ _).trans (flt (own_l5 hok_av hok_cv hc273_6 hc278_7 hc304_8)).2.2.2) (by decide) (by decide) ?_
          show Steps p.tables e below (T23.setTop (mkF m 317 #[.val (.int p1), .val (.int p2), .val (.int p3), .val (.int p4), .val (.int p5), .val (.int p6), .val (.ref j2_0), .val (.int bv), .val (.int av), .val (.int dv), .val (.int cv), .val (.int c3), .val (.int (((p5.toUInt32 >>> ((1 : Int32) &&& 31).toUInt32).toInt32) % (31 : Int32))), .val (.int b4), .val (.int a4), .val (.double (FP.Core.own_pr bv av)), .second, .val (.double (FP.Core.own_pr dv cv)), .second, .val (.double (FP.Core.own_pr bv c3)), .second, .val (.double (FP.Core.own_pr b4 a4)), .second, .val (.long ((av.toInt64) * (dv.toInt64))), .second, .val (.long ((cv.toInt64) * (bv.toInt64))), .second] [])) _
          refine XS.lload X23.here hx rfl (hb hby at_317) rfl ?_
          show Steps p.tables e below (T23.setTop (mkF m 319 #[.val (.int p1), .val (.int p2), .val (.int p3), .val (.int p4), .val (.int p5), .val (.int p6), .val (.ref j2_0), .val (.int bv), .val (.int av), .val (.int dv), .val (.int cv), .val (.int c3), .val (.int (((p5.toUInt32 >>> ((1 : Int32) &&& 31).toUInt32).toInt32) % (31 : Int32))), .val (.int b4), .val (.int a4), .val (.double (FP.Core.own_pr bv av)), .second, .val (.double (FP.Core.own_pr dv cv)), .second, .val (.double (FP.Core.own_pr bv c3)), .second, .val (.double (FP.Core.own_pr b4 a4)), .second, .val (.long ((av.toInt64) * (dv.toInt64))), .second, .val (.long ((cv.toInt64) * (bv.toInt64))), .second] [(.long ((av.toInt64) * (dv.toInt64)))])) _
          refine XS.lload X23.here hx rfl (hb hby at_319) rfl ?_
          show Steps p.tables e below (T23.setTop (mkF m 321 #[.val (.int p1), .val (.int p2), .val (.int p3), .val (.int p4), .val (.int p5), .val (.int p6), .val (.ref j2_0), .val (.int bv), .val (.int av), .val (.int dv), .val (.int cv), .val (.int c3), .val (.int (((p5.toUInt32 >>> ((1 : Int32) &&& 31).toUInt32).toInt32) % (31 : Int32))), .val (.int b4), .val (.int a4), .val (.double (FP.Core.own_pr bv av)), .second, .val (.double (FP.Core.own_pr dv cv)), .second, .val (.double (FP.Core.own_pr bv c3)), .second, .val (.double (FP.Core.own_pr b4 a4)), .second, .val (.long ((av.toInt64) * (dv.toInt64))), .second, .val (.long ((cv.toInt64) * (bv.toInt64))), .second] [(.long ((cv.toInt64) * (bv.toInt64))), (.long ((av.toInt64) * (dv.toInt64)))])) _
          refine XS.lcmp X23.here hx rfl (hb hby at_321) rfl ?_
          show Steps p.tables e below (T23.setTop (mkF m 322 #[.val (.int p1), .val (.int p2), .val (.int p3), .val (.int p4), .val (.int p5), .val (.int p6), .val (.ref j2_0), .val (.int bv), .val (.int av), .val (.int dv), .val (.int cv), .val (.int c3), .val (.int (((p5.toUInt32 >>> ((1 : Int32) &&& 31).toUInt32).toInt32) % (31 : Int32))), .val (.int b4), .val (.int a4), .val (.double (FP.Core.own_pr bv av)), .second, .val (.double (FP.Core.own_pr dv cv)), .second, .val (.double (FP.Core.own_pr bv c3)), .second, .val (.double (FP.Core.own_pr b4 a4)), .second, .val (.long ((av.toInt64) * (dv.toInt64))), .second, .val (.long ((cv.toInt64) * (bv.toInt64))), .second] [(.int (lcmpW ((av.toInt64) * (dv.toInt64)) ((cv.toInt64) * (bv.toInt64))))])) _
          refine XS.ifYes X23.here hx rfl (pc0 := 322) (pc' := 335) rfl (hb hby at_322) rfl ((if0 _ _).trans (feq (Int32.ne_of_lt hc304_8)).2) (by decide) (by decide) ?_
          show Steps p.tables e below (T23.setTop (mkF m 335 #[.val (.int p1), .val (.int p2), .val (.int p3), .val (.int p4), .val (.int p5), .val (.int p6), .val (.ref j2_0), .val (.int bv), .val (.int av), .val (.int dv), .val (.int cv), .val (.int c3), .val (.int (((p5.toUInt32 >>> ((1 : Int32) &&& 31).toUInt32).toInt32) % (31 : Int32))), .val (.int b4), .val (.int a4), .val (.double (FP.Core.own_pr bv av)), .second, .val (.double (FP.Core.own_pr dv cv)), .second, .val (.double (FP.Core.own_pr bv c3)), .second, .val (.double (FP.Core.own_pr b4 a4)), .second, .val (.long ((av.toInt64) * (dv.toInt64))), .second, .val (.long ((cv.toInt64) * (bv.toInt64))), .second] [])) _
          refine XS.lload X23.here hx rfl (hb hby at_335) rfl ?_
          show Steps p.tables e below (T23.setTop (mkF m 337 #[.val (.int p1), .val (.int p2), .val (.int p3), .val (.int p4), .val (.int p5), .val (.int p6), .val (.ref j2_0), .val (.int bv), .val (.int av), .val (.int dv), .val (.int cv), .val (.int c3), .val (.int (((p5.toUInt32 >>> ((1 : Int32) &&& 31).toUInt32).toInt32) % (31 : Int32))), .val (.int b4), .val (.int a4), .val (.double (FP.Core.own_pr bv av)), .second, .val (.double (FP.Core.own_pr dv cv)), .second, .val (.double (FP.Core.own_pr bv c3)), .second, .val (.double (FP.Core.own_pr b4 a4)), .second, .val (.long ((av.toInt64) * (dv.toInt64))), .second, .val (.long ((cv.toInt64) * (bv.toInt64))), .second] [(.long ((av.toInt64) * (dv.toInt64)))])) _
          refine XS.lload X23.here hx rfl (hb hby at_337) rfl ?_
          show Steps p.tables e below (T23.setTop (mkF m 339 #[.val (.int p1), .val (.int p2), .val (.int p3), .val (.int p4), .val (.int p5), .val (.int p6), .val (.ref j2_0), .val (.int bv), .val (.int av), .val (.int dv), .val (.int cv), .val (.int c3), .val (.int (((p5.toUInt32 >>> ((1 : Int32) &&& 31).toUInt32).toInt32) % (31 : Int32))), .val (.int b4), .val (.int a4), .val (.double (FP.Core.own_pr bv av)), .second, .val (.double (FP.Core.own_pr dv cv)), .second, .val (.double (FP.Core.own_pr bv c3)), .second, .val (.double (FP.Core.own_pr b4 a4)), .second, .val (.long ((av.toInt64) * (dv.toInt64))), .second, .val (.long ((cv.toInt64) * (bv.toInt64))), .second] [(.long ((cv.toInt64) * (bv.toInt64))), (.long ((av.toInt64) * (dv.toInt64)))])) _
          refine XS.lcmp X23.here hx rfl (hb hby at_339) rfl ?_
          show Steps p.tables e below (T23.setTop (mkF m 340 #[.val (.int p1), .val (.int p2), .val (.int p3), .val (.int p4), .val (.int p5), .val (.int p6), .val (.ref j2_0), .val (.int bv), .val (.int av), .val (.int dv), .val (.int cv), .val (.int c3), .val (.int (((p5.toUInt32 >>> ((1 : Int32) &&& 31).toUInt32).toInt32) % (31 : Int32))), .val (.int b4), .val (.int a4), .val (.double (FP.Core.own_pr bv av)), .second, .val (.double (FP.Core.own_pr dv cv)), .second, .val (.double (FP.Core.own_pr bv c3)), .second, .val (.double (FP.Core.own_pr b4 a4)), .second, .val (.long ((av.toInt64) * (dv.toInt64))), .second, .val (.long ((cv.toInt64) * (bv.toInt64))), .second] [(.int (lcmpW ((av.toInt64) * (dv.toInt64)) ((cv.toInt64) * (bv.toInt64))))])) _
          refine XS.ifYes X23.here hx rfl (pc0 := 340) (pc' := 353) rfl (hb hby at_340) rfl ((if0 _ _).trans (flt (Int32.lt_asymm hc304_8)).2.2.2) (by decide) (by decide) ?_
          show Steps p.tables e below (T23.setTop (mkF m 353 #[.val (.int p1), .val (.int p2), .val (.int p3), .val (.int p4), .val (.int p5), .val (.int p6), .val (.ref j2_0), .val (.int bv), .val (.int av), .val (.int dv), .val (.int cv), .val (.int c3), .val (.int (((p5.toUInt32 >>> ((1 : Int32) &&& 31).toUInt32).toInt32) % (31 : Int32))), .val (.int b4), .val (.int a4), .val (.double (FP.Core.own_pr bv av)), .second, .val (.double (FP.Core.own_pr dv cv)), .second, .val (.double (FP.Core.own_pr bv c3)), .second, .val (.double (FP.Core.own_pr b4 a4)), .second, .val (.long ((av.toInt64) * (dv.toInt64))), .second, .val (.long ((cv.toInt64) * (bv.toInt64))), .second] [])) _
          refine XS.iconst X23.here hx rfl (hb hby at_353) ?_
          show Steps p.tables e below (T23.setTop (mkF m 354 #[.val (.int p1), .val (.int p2), .val (.int p3), .val (.int p4), .val (.int p5), .val (.int p6), .val (.ref j2_0), .val (.int bv), .val (.int av), .val (.int dv), .val (.int cv), .val (.int c3), .val (.int (((p5.toUInt32 >>> ((1 : Int32) &&& 31).toUInt32).toInt32) % (31 : Int32))), .val (.int b4), .val (.int a4), .val (.double (FP.Core.own_pr bv av)), .second, .val (.double (FP.Core.own_pr dv cv)), .second, .val (.double (FP.Core.own_pr bv c3)), .second, .val (.double (FP.Core.own_pr b4 a4)), .second, .val (.long ((av.toInt64) * (dv.toInt64))), .second, .val (.long ((cv.toInt64) * (bv.toInt64))), .second] [(.int (1 : Int32))])) _
          exact retN X23 hx (t := .boolean) Bd.returns (by simp) (hb hby at_354) hr
        · show Q0_0 Z p1 p2 p3 p4 p5 p6 w_LARGEST w_PRECISION h0 n0 _ T23.heap _
          rw [e23]
          exact ⟨rfl, N23⟩
      ·
        have k35 : ∀ t, Steps p.tables e below (T23.setTop (mkF m 322 #[.val (.int p1), .val (.int p2), .val (.int p3), .val (.int p4), .val (.int p5), .val (.int p6), .val (.ref j2_0), .val (.int bv), .val (.int av), .val (.int dv), .val (.int cv), .val (.int c3), .val (.int (((p5.toUInt32 >>> ((1 : Int32) &&& 31).toUInt32).toInt32) % (31 : Int32))), .val (.int b4), .val (.int a4), .val (.double (FP.Core.own_pr bv av)), .second, .val (.double (FP.Core.own_pr dv cv)), .second, .val (.double (FP.Core.own_pr bv c3)), .second, .val (.double (FP.Core.own_pr b4 a4)), .second, .val (.long ((av.toInt64) * (dv.toInt64))), .second, .val (.long ((cv.toInt64) * (bv.toInt64))), .second] [(.int (lcmpW ((av.toInt64) * (dv.toInt64)) ((cv.toInt64) * (bv.toInt64))))])) t → Steps p.tables e below (s₁.setTop (entryFrame m #[(.int p1), (.int p2), (.int p3), (.int p4), (.int p5), (.int p6)] maxLocals)) t := by
          intro t k
          refine k34 t ?_
          show Steps p.tables e below (T23.setTop (mkF m 304 #[.val (.int p1), .val (.int p2), .val (.int p3), .val (.int p4), .val (.int p5), .val (.int p6), .val (.ref j2_0), .val (.int bv), .val (.int av), .val (.int dv), .val (.int cv), .val (.int c3), .val (.int (((p5.toUInt32 >>> ((1 : Int32) &&& 31).toUInt32).toInt32) % (31 : Int32))), .val (.int b4), .val (.int a4), .val (.double (FP.Core.own_pr bv av)), .second, .val (.double (FP.Core.own_pr dv cv)), .second, .val (.double (FP.Core.own_pr bv c3)), .second, .val (.double (FP.Core.own_pr b4 a4)), .second, .val (.long ((av.toInt64) * (dv.toInt64))), .second, .val (.long ((cv.toInt64) * (bv.toInt64))), .second] [(.int (lcmpW ((av.toInt64) * (dv.toInt64)) ((cv.toInt64) * (bv.toInt64))))])) _
          refine XS.ifYes X23.here hx rfl (pc0 := 304) (pc' := 317) rfl (hb hby at_304) rfl ((if0 _ _).trans (flt hc304_8).2.1) (by decide) (by decide) ?_
          show Steps p.tables e below (T23.setTop (mkF m 317 #[.val (.int p1), .val (.int p2), .val (.int p3), .val (.int p4), .val (.int p5), .val (.int p6), .val (.ref j2_0), .val (.int bv), .val (.int av), .val (.int dv), .val (.int cv), .val (.int c3), .val (.int (((p5.toUInt32 >>> ((1 : Int32) &&& 31).toUInt32).toInt32) % (31 : Int32))), .val (.int b4), .val (.int a4), .val (.double (FP.Core.own_pr bv av)), .second, .val (.double (FP.Core.own_pr dv cv)), .second, .val (.double (FP.Core.own_pr bv c3)), .second, .val (.double (FP.Core.own_pr b4 a4)), .second, .val (.long ((av.toInt64) * (dv.toInt64))), .second, .val (.long ((cv.toInt64) * (bv.toInt64))), .second] [])) _
          refine XS.lload X23.here hx rfl (hb hby at_317) rfl ?_
          show Steps p.tables e below (T23.setTop (mkF m 319 #[.val (.int p1), .val (.int p2), .val (.int p3), .val (.int p4), .val (.int p5), .val (.int p6), .val (.ref j2_0), .val (.int bv), .val (.int av), .val (.int dv), .val (.int cv), .val (.int c3), .val (.int (((p5.toUInt32 >>> ((1 : Int32) &&& 31).toUInt32).toInt32) % (31 : Int32))), .val (.int b4), .val (.int a4), .val (.double (FP.Core.own_pr bv av)), .second, .val (.double (FP.Core.own_pr dv cv)), .second, .val (.double (FP.Core.own_pr bv c3)), .second, .val (.double (FP.Core.own_pr b4 a4)), .second, .val (.long ((av.toInt64) * (dv.toInt64))), .second, .val (.long ((cv.toInt64) * (bv.toInt64))), .second] [(.long ((av.toInt64) * (dv.toInt64)))])) _
          refine XS.lload X23.here hx rfl (hb hby at_319) rfl ?_
          show Steps p.tables e below (T23.setTop (mkF m 321 #[.val (.int p1), .val (.int p2), .val (.int p3), .val (.int p4), .val (.int p5), .val (.int p6), .val (.ref j2_0), .val (.int bv), .val (.int av), .val (.int dv), .val (.int cv), .val (.int c3), .val (.int (((p5.toUInt32 >>> ((1 : Int32) &&& 31).toUInt32).toInt32) % (31 : Int32))), .val (.int b4), .val (.int a4), .val (.double (FP.Core.own_pr bv av)), .second, .val (.double (FP.Core.own_pr dv cv)), .second, .val (.double (FP.Core.own_pr bv c3)), .second, .val (.double (FP.Core.own_pr b4 a4)), .second, .val (.long ((av.toInt64) * (dv.toInt64))), .second, .val (.long ((cv.toInt64) * (bv.toInt64))), .second] [(.long ((cv.toInt64) * (bv.toInt64))), (.long ((av.toInt64) * (dv.toInt64)))])) _
          refine XS.lcmp X23.here hx rfl (hb hby at_321) rfl ?_
          exact k
        by_cases hc322_9 : (lcmpW ((av.toInt64) * (dv.toInt64)) ((cv.toInt64) * (bv.toInt64))) = (0 : Int32)
        ·
          obtain ⟨fs, hr, hrun, hended, hW, hsame⟩ := X23.leave (v := some (.int (1 : Int32))) (fun h => by rw [Bd.returns] at h; cases h)
          refine ⟨_, _, k35 _ ?_, hrun, hended, _, _, rfl, ?_, ⟨_, rfl⟩, hW, hsame.mono (by decide) (by decide)⟩
          ·
            show Steps p.tables e below (T23.setTop (mkF m 322 #[.val (.int p1), .val (.int p2), .val (.int p3), .val (.int p4), .val (.int p5), .val (.int p6), .val (.ref j2_0), .val (.int bv), .val (.int av), .val (.int dv), .val (.int cv), .val (.int c3), .val (.int (((p5.toUInt32 >>> ((1 : Int32) &&& 31).toUInt32).toInt32) % (31 : Int32))), .val (.int b4), .val (.int a4), .val (.double (FP.Core.own_pr bv av)), .second, .val (.double (FP.Core.own_pr dv cv)), .second, .val (.double (FP.Core.own_pr bv c3)), .second, .val (.double (FP.Core.own_pr b4 a4)), .second, .val (.long ((av.toInt64) * (dv.toInt64))), .second, .val (.long ((cv.toInt64) * (bv.toInt64))), .second] [(.int (lcmpW ((av.toInt64) * (dv.toInt64)) ((cv.toInt64) * (bv.toInt64))))])) _
            refine XS.ifNo X23.here hx rfl (hb hby at_322) rfl ((if0 _ _).trans (teq hc322_9).2) ?_
            show Steps p.tables e below (T23.setTop (mkF m 325 #[.val (.int p1), .val (.int p2), .val (.int p3), .val (.int p4), .val (.int p5), .val (.int p6), .val (.ref j2_0), .val (.int bv), .val (.int av), .val (.int dv), .val (.int cv), .val (.int c3), .val (.int (((p5.toUInt32 >>> ((1 : Int32) &&& 31).toUInt32).toInt32) % (31 : Int32))), .val (.int b4), .val (.int a4), .val (.double (FP.Core.own_pr bv av)), .second, .val (.double (FP.Core.own_pr dv cv)), .second, .val (.double (FP.Core.own_pr bv c3)), .second, .val (.double (FP.Core.own_pr b4 a4)), .second, .val (.long ((av.toInt64) * (dv.toInt64))), .second, .val (.long ((cv.toInt64) * (bv.toInt64))), .second] [])) _
            refine XS.dload X23.here hx rfl (hb hby at_325) rfl ?_
            show Steps p.tables e below (T23.setTop (mkF m 327 #[.val (.int p1), .val (.int p2), .val (.int p3), .val (.int p4), .val (.int p5), .val (.int p6), .val (.ref j2_0), .val (.int bv), .val (.int av), .val (.int dv), .val (.int cv), .val (.int c3), .val (.int (((p5.toUInt32 >>> ((1 : Int32) &&& 31).toUInt32).toInt32) % (31 : Int32))), .val (.int b4), .val (.int a4), .val (.double (FP.Core.own_pr bv av)), .second, .val (.double (FP.Core.own_pr dv cv)), .second, .val (.double (FP.Core.own_pr bv c3)), .second, .val (.double (FP.Core.own_pr b4 a4)), .second, .val (.long ((av.toInt64) * (dv.toInt64))), .second, .val (.long ((cv.toInt64) * (bv.toInt64))), .second] [(.double (FP.Core.own_pr bv av))])) _
            refine XS.dload X23.here hx rfl (hb hby at_327) rfl ?_
            show Steps p.tables e below (T23.setTop (mkF m 329 #[.val (.int p1), .val (.int p2), .val (.int p3), .val (.int p4), .val (.int p5), .val (.int p6), .val (.ref j2_0), .val (.int bv), .val (.int av), .val (.int dv), .val (.int cv), .val (.int c3), .val (.int (((p5.toUInt32 >>> ((1 : Int32) &&& 31).toUInt32).toInt32) % (31 : Int32))), .val (.int b4), .val (.int a4), .val (.double (FP.Core.own_pr bv av)), .second, .val (.double (FP.Core.own_pr dv cv)), .second, .val (.double (FP.Core.own_pr bv c3)), .second, .val (.double (FP.Core.own_pr b4 a4)), .second, .val (.long ((av.toInt64) * (dv.toInt64))), .second, .val (.long ((cv.toInt64) * (bv.toInt64))), .second] [(.double (FP.Core.own_pr dv cv)), (.double (FP.Core.own_pr bv av))])) _
            refine XS.dcmpS X23.here hx rfl (hb hby at_329) rfl (v := (cmpValue (FP.dcmp (FP.Core.own_pr bv av) (FP.Core.own_pr dv cv)) .l)) rfl ?_
            show Steps p.tables e below (T23.setTop (mkF m 330 #[.val (.int p1), .val (.int p2), .val (.int p3), .val (.int p4), .val (.int p5), .val (.int p6), .val (.ref j2_0), .val (.int bv), .val (.int av), .val (.int dv), .val (.int cv), .val (.int c3), .val (.int (((p5.toUInt32 >>> ((1 : Int32) &&& 31).toUInt32).toInt32) % (31 : Int32))), .val (.int b4), .val (.int a4), .val (.double (FP.Core.own_pr bv av)), .second, .val (.double (FP.Core.own_pr dv cv)), .second, .val (.double (FP.Core.own_pr bv c3)), .second, .val (.double (FP.Core.own_pr b4 a4)), .second, .val (.long ((av.toInt64) * (dv.toInt64))), .second, .val (.long ((cv.toInt64) * (bv.toInt64))), .second] [(.int (cmpValue (FP.dcmp (FP.Core.own_pr bv av) (FP.Core.own_pr dv cv)) .l))])) _
            refine XS.ifYes X23.here hx rfl (pc0 := 330) (pc' := 335) rfl (hb hby at_330) rfl ((if0 _ _).trans (teq (own_l6 hok_av hok_cv hc273_6 hc278_7 hc322_9)).1) (by decide) (by decide) ?_
            show Steps p.tables e below (T23.setTop (mkF m 335 #[.val (.int p1), .val (.int p2), .val (.int p3), .val (.int p4), .val (.int p5), .val (.int p6), .val (.ref j2_0), .val (.int bv), .val (.int av), .val (.int dv), .val (.int cv), .val (.int c3), .val (.int (((p5.toUInt32 >>> ((1 : Int32) &&& 31).toUInt32).toInt32) % (31 : Int32))), .val (.int b4), .val (.int a4), .val (.double (FP.Core.own_pr bv av)), .second, .val (.double (FP.Core.own_pr dv cv)), .second, .val (.double (FP.Core.own_pr bv c3)), .second, .val (.double (FP.Core.own_pr b4 a4)), .second, .val (.long ((av.toInt64) * (dv.toInt64))), .second, .val (.long ((cv.toInt64) * (bv.toInt64))), .second] [])) _
            refine XS.lload X23.here hx rfl (hb hby at_335) rfl ?_
            show Steps p.tables e below (T23.setTop (mkF m 337 #[.val (.int p1), .val (.int p2), .val (.int p3), .val (.int p4), .val (.int p5), .val (.int p6), .val (.ref j2_0), .val (.int bv), .val (.int av), .val (.int dv), .val (.int cv), .val (.int c3), .val (.int (((p5.toUInt32 >>> ((1 : Int32) &&& 31).toUInt32).toInt32) % (31 : Int32))), .val (.int b4), .val (.int a4), .val (.double (FP.Core.own_pr bv av)), .second, .val (.double (FP.Core.own_pr dv cv)), .second, .val (.double (FP.Core.own_pr bv c3)), .second, .val (.double (FP.Core.own_pr b4 a4)), .second, .val (.long ((av.toInt64) * (dv.toInt64))), .second, .val (.long ((cv.toInt64) * (bv.toInt64))), .second] [(.long ((av.toInt64) * (dv.toInt64)))])) _
            refine XS.lload X23.here hx rfl (hb hby at_337) rfl ?_
            show Steps p.tables e below (T23.setTop (mkF m 339 #[.val (.int p1), .val (.int p2), .val (.int p3), .val (.int p4), .val (.int p5), .val (.int p6), .val (.ref j2_0), .val (.int bv), .val (.int av), .val (.int dv), .val (.int cv), .val (.int c3), .val (.int (((p5.toUInt32 >>> ((1 : Int32) &&& 31).toUInt32).toInt32) % (31 : Int32))), .val (.int b4), .val (.int a4), .val (.double (FP.Core.own_pr bv av)), .second, .val (.double (FP.Core.own_pr dv cv)), .second, .val (.double (FP.Core.own_pr bv c3)), .second, .val (.double (FP.Core.own_pr b4 a4)), .second, .val (.long ((av.toInt64) * (dv.toInt64))), .second, .val (.long ((cv.toInt64) * (bv.toInt64))), .second] [(.long ((cv.toInt64) * (bv.toInt64))), (.long ((av.toInt64) * (dv.toInt64)))])) _
            refine XS.lcmp X23.here hx rfl (hb hby at_339) rfl ?_
            show Steps p.tables e below (T23.setTop (mkF m 340 #[.val (.int p1), .val (.int p2), .val (.int p3), .val (.int p4), .val (.int p5), .val (.int p6), .val (.ref j2_0), .val (.int bv), .val (.int av), .val (.int dv), .val (.int cv), .val (.int c3), .val (.int (((p5.toUInt32 >>> ((1 : Int32) &&& 31).toUInt32).toInt32) % (31 : Int32))), .val (.int b4), .val (.int a4), .val (.double (FP.Core.own_pr bv av)), .second, .val (.double (FP.Core.own_pr dv cv)), .second, .val (.double (FP.Core.own_pr bv c3)), .second, .val (.double (FP.Core.own_pr b4 a4)), .second, .val (.long ((av.toInt64) * (dv.toInt64))), .second, .val (.long ((cv.toInt64) * (bv.toInt64))), .second] [(.int (lcmpW ((av.toInt64) * (dv.toInt64)) ((cv.toInt64) * (bv.toInt64))))])) _
            refine XS.ifYes X23.here hx rfl (pc0 := 340) (pc' := 353) rfl (hb hby at_340) rfl ((if0 _ _).trans (flt (by rw [hc322_9]; exact Int32.lt_irrefl)).2.2.2) (by decide) (by decide) ?_
            show Steps p.tables e below (T23.setTop (mkF m 353 #[.val (.int p1), .val (.int p2), .val (.int p3), .val (.int p4), .val (.int p5), .val (.int p6), .val (.ref j2_0), .val (.int bv), .val (.int av), .val (.int dv), .val (.int cv), .val (.int c3), .val (.int (((p5.toUInt32 >>> ((1 : Int32) &&& 31).toUInt32).toInt32) % (31 : Int32))), .val (.int b4), .val (.int a4), .val (.double (FP.Core.own_pr bv av)), .second, .val (.double (FP.Core.own_pr dv cv)), .second, .val (.double (FP.Core.own_pr bv c3)), .second, .val (.double (FP.Core.own_pr b4 a4)), .second, .val (.long ((av.toInt64) * (dv.toInt64))), .second, .val (.long ((cv.toInt64) * (bv.toInt64))), .second] [])) _
            refine XS.iconst X23.here hx rfl (hb hby at_353) ?_
            show Steps p.tables e below (T23.setTop (mkF m 354 #[.val (.int p1), .val (.int p2), .val (.int p3), .val (.int p4), .val (.int p5), .val (.int p6), .val (.ref j2_0), .val (.int bv), .val (.int av), .val (.int dv), .val (.int cv), .val (.int c3), .val (.int (((p5.toUInt32 >>> ((1 : Int32) &&& 31).toUInt32).toInt32) % (31 : Int32))), .val (.int b4), .val (.int a4), .val (.double (FP.Core.own_pr bv av)), .second, .val (.double (FP.Core.own_pr dv cv)), .second, .val (.double (FP.Core.own_pr bv c3)), .second, .val (.double (FP.Core.own_pr b4 a4)), .second, .val (.long ((av.toInt64) * (dv.toInt64))), .second, .val (.long ((cv.toInt64) * (bv.toInt64))), .second] [(.int (1 : Int32))])) _
            exact retN X23 hx (t := .boolean) Bd.returns (by simp) (hb hby at_354) hr
          · show Q0_0 Z p1 p2 p3 p4 p5 p6 w_LARGEST w_PRECISION h0 n0 _ T23.heap _
            rw [e23]
            exact ⟨rfl, N23⟩
        ·
          have k36 : ∀ t, Steps p.tables e below (T23.setTop (mkF m 340 #[.val (.int p1), .val (.int p2), .val (.int p3), .val (.int p4), .val (.int p5), .val (.int p6), .val (.ref j2_0), .val (.int bv), .val (.int av), .val (.int dv), .val (.int cv), .val (.int c3), .val (.int (((p5.toUInt32 >>> ((1 : Int32) &&& 31).toUInt32).toInt32) % (31 : Int32))), .val (.int b4), .val (.int a4), .val (.double (FP.Core.own_pr bv av)), .second, .val (.double (FP.Core.own_pr dv cv)), .second, .val (.double (FP.Core.own_pr bv c3)), .second, .val (.double (FP.Core.own_pr b4 a4)), .second, .val (.long ((av.toInt64) * (dv.toInt64))), .second, .val (.long ((cv.toInt64) * (bv.toInt64))), .second] [(.int (lcmpW ((av.toInt64) * (dv.toInt64)) ((cv.toInt64) * (bv.toInt64))))])) t → Steps p.tables e below (s₁.setTop (entryFrame m #[(.int p1), (.int p2), (.int p3), (.int p4), (.int p5), (.int p6)] maxLocals)) t := by
            intro t k
            refine k35 t ?_
            show Steps p.tables e below (T23.setTop (mkF m 322 #[.val (.int p1), .val (.int p2), .val (.int p3), .val (.int p4), .val (.int p5), .val (.int p6), .val (.ref j2_0), .val (.int bv), .val (.int av), .val (.int dv), .val (.int cv), .val (.int c3), .val (.int (((p5.toUInt32 >>> ((1 : Int32) &&& 31).toUInt32).toInt32) % (31 : Int32))), .val (.int b4), .val (.int a4), .val (.double (FP.Core.own_pr bv av)), .second, .val (.double (FP.Core.own_pr dv cv)), .second, .val (.double (FP.Core.own_pr bv c3)), .second, .val (.double (FP.Core.own_pr b4 a4)), .second, .val (.long ((av.toInt64) * (dv.toInt64))), .second, .val (.long ((cv.toInt64) * (bv.toInt64))), .second] [(.int (lcmpW ((av.toInt64) * (dv.toInt64)) ((cv.toInt64) * (bv.toInt64))))])) _
            refine XS.ifYes X23.here hx rfl (pc0 := 322) (pc' := 335) rfl (hb hby at_322) rfl ((if0 _ _).trans (feq hc322_9).2) (by decide) (by decide) ?_
            show Steps p.tables e below (T23.setTop (mkF m 335 #[.val (.int p1), .val (.int p2), .val (.int p3), .val (.int p4), .val (.int p5), .val (.int p6), .val (.ref j2_0), .val (.int bv), .val (.int av), .val (.int dv), .val (.int cv), .val (.int c3), .val (.int (((p5.toUInt32 >>> ((1 : Int32) &&& 31).toUInt32).toInt32) % (31 : Int32))), .val (.int b4), .val (.int a4), .val (.double (FP.Core.own_pr bv av)), .second, .val (.double (FP.Core.own_pr dv cv)), .second, .val (.double (FP.Core.own_pr bv c3)), .second, .val (.double (FP.Core.own_pr b4 a4)), .second, .val (.long ((av.toInt64) * (dv.toInt64))), .second, .val (.long ((cv.toInt64) * (bv.toInt64))), .second] [])) _
            refine XS.lload X23.here hx rfl (hb hby at_335) rfl ?_
            show Steps p.tables e below (T23.setTop (mkF m 337 #[.val (.int p1), .val (.int p2), .val (.int p3), .val (.int p4), .val (.int p5), .val (.int p6), .val (.ref j2_0), .val (.int bv), .val (.int av), .val (.int dv), .val (.int cv), .val (.int c3), .val (.int (((p5.toUInt32 >>> ((1 : Int32) &&& 31).toUInt32).toInt32) % (31 : Int32))), .val (.int b4), .val (.int a4), .val (.double (FP.Core.own_pr bv av)), .second, .val (.double (FP.Core.own_pr dv cv)), .second, .val (.double (FP.Core.own_pr bv c3)), .second, .val (.double (FP.Core.own_pr b4 a4)), .second, .val (.long ((av.toInt64) * (dv.toInt64))), .second, .val (.long ((cv.toInt64) * (bv.toInt64))), .second] [(.long ((av.toInt64) * (dv.toInt64)))])) _
            refine XS.lload X23.here hx rfl (hb hby at_337) rfl ?_
            show Steps p.tables e below (T23.setTop (mkF m 339 #[.val (.int p1), .val (.int p2), .val (.int p3), .val (.int p4), .val (.int p5), .val (.int p6), .val (.ref j2_0), .val (.int bv), .val (.int av), .val (.int dv), .val (.int cv), .val (.int c3), .val (.int (((p5.toUInt32 >>> ((1 : Int32) &&& 31).toUInt32).toInt32) % (31 : Int32))), .val (.int b4), .val (.int a4), .val (.double (FP.Core.own_pr bv av)), .second, .val (.double (FP.Core.own_pr dv cv)), .second, .val (.double (FP.Core.own_pr bv c3)), .second, .val (.double (FP.Core.own_pr b4 a4)), .second, .val (.long ((av.toInt64) * (dv.toInt64))), .second, .val (.long ((cv.toInt64) * (bv.toInt64))), .second] [(.long ((cv.toInt64) * (bv.toInt64))), (.long ((av.toInt64) * (dv.toInt64)))])) _
            refine XS.lcmp X23.here hx rfl (hb hby at_339) rfl ?_
            exact k
          by_cases hc340_10 : (0 : Int32) < (lcmpW ((av.toInt64) * (dv.toInt64)) ((cv.toInt64) * (bv.toInt64)))
          ·
            obtain ⟨fs, hr, hrun, hended, hW, hsame⟩ := X23.leave (v := some (.int (1 : Int32))) (fun h => by rw [Bd.returns] at h; cases h)
            refine ⟨_, _, k36 _ ?_, hrun, hended, _, _, rfl, ?_, ⟨_, rfl⟩, hW, hsame.mono (by decide) (by decide)⟩
            ·
              show Steps p.tables e below (T23.setTop (mkF m 340 #[.val (.int p1), .val (.int p2), .val (.int p3), .val (.int p4), .val (.int p5), .val (.int p6), .val (.ref j2_0), .val (.int bv), .val (.int av), .val (.int dv), .val (.int cv), .val (.int c3), .val (.int (((p5.toUInt32 >>> ((1 : Int32) &&& 31).toUInt32).toInt32) % (31 : Int32))), .val (.int b4), .val (.int a4), .val (.double (FP.Core.own_pr bv av)), .second, .val (.double (FP.Core.own_pr dv cv)), .second, .val (.double (FP.Core.own_pr bv c3)), .second, .val (.double (FP.Core.own_pr b4 a4)), .second, .val (.long ((av.toInt64) * (dv.toInt64))), .second, .val (.long ((cv.toInt64) * (bv.toInt64))), .second] [(.int (lcmpW ((av.toInt64) * (dv.toInt64)) ((cv.toInt64) * (bv.toInt64))))])) _
              refine XS.ifNo X23.here hx rfl (hb hby at_340) rfl ((if0 _ _).trans (tlt hc340_10).2.2.2) ?_
              show Steps p.tables e below (T23.setTop (mkF m 343 #[.val (.int p1), .val (.int p2), .val (.int p3), .val (.int p4), .val (.int p5), .val (.int p6), .val (.ref j2_0), .val (.int bv), .val (.int av), .val (.int dv), .val (.int cv), .val (.int c3), .val (.int (((p5.toUInt32 >>> ((1 : Int32) &&& 31).toUInt32).toInt32) % (31 : Int32))), .val (.int b4), .val (.int a4), .val (.double (FP.Core.own_pr bv av)), .second, .val (.double (FP.Core.own_pr dv cv)), .second, .val (.double (FP.Core.own_pr bv c3)), .second, .val (.double (FP.Core.own_pr b4 a4)), .second, .val (.long ((av.toInt64) * (dv.toInt64))), .second, .val (.long ((cv.toInt64) * (bv.toInt64))), .second] [])) _
              refine XS.dload X23.here hx rfl (hb hby at_343) rfl ?_
              show Steps p.tables e below (T23.setTop (mkF m 345 #[.val (.int p1), .val (.int p2), .val (.int p3), .val (.int p4), .val (.int p5), .val (.int p6), .val (.ref j2_0), .val (.int bv), .val (.int av), .val (.int dv), .val (.int cv), .val (.int c3), .val (.int (((p5.toUInt32 >>> ((1 : Int32) &&& 31).toUInt32).toInt32) % (31 : Int32))), .val (.int b4), .val (.int a4), .val (.double (FP.Core.own_pr bv av)), .second, .val (.double (FP.Core.own_pr dv cv)), .second, .val (.double (FP.Core.own_pr bv c3)), .second, .val (.double (FP.Core.own_pr b4 a4)), .second, .val (.long ((av.toInt64) * (dv.toInt64))), .second, .val (.long ((cv.toInt64) * (bv.toInt64))), .second] [(.double (FP.Core.own_pr bv av))])) _
              refine XS.dload X23.here hx rfl (hb hby at_345) rfl ?_
              show Steps p.tables e below (T23.setTop (mkF m 347 #[.val (.int p1), .val (.int p2), .val (.int p3), .val (.int p4), .val (.int p5), .val (.int p6), .val (.ref j2_0), .val (.int bv), .val (.int av), .val (.int dv), .val (.int cv), .val (.int c3), .val (.int (((p5.toUInt32 >>> ((1 : Int32) &&& 31).toUInt32).toInt32) % (31 : Int32))), .val (.int b4), .val (.int a4), .val (.double (FP.Core.own_pr bv av)), .second, .val (.double (FP.Core.own_pr dv cv)), .second, .val (.double (FP.Core.own_pr bv c3)), .second, .val (.double (FP.Core.own_pr b4 a4)), .second, .val (.long ((av.toInt64) * (dv.toInt64))), .second, .val (.long ((cv.toInt64) * (bv.toInt64))), .second] [(.double (FP.Core.own_pr dv cv)), (.double (FP.Core.own_pr bv av))])) _
              refine XS.dcmpS X23.here hx rfl (hb hby at_347) rfl (v := (cmpValue (FP.dcmp (FP.Core.own_pr bv av) (FP.Core.own_pr dv cv)) .l)) rfl ?_
              show Steps p.tables e below (T23.setTop (mkF m 348 #[.val (.int p1), .val (.int p2), .val (.int p3), .val (.int p4), .val (.int p5), .val (.int p6), .val (.ref j2_0), .val (.int bv), .val (.int av), .val (.int dv), .val (.int cv), .val (.int c3), .val (.int (((p5.toUInt32 >>> ((1 : Int32) &&& 31).toUInt32).toInt32) % (31 : Int32))), .val (.int b4), .val (.int a4), .val (.double (FP.Core.own_pr bv av)), .second, .val (.double (FP.Core.own_pr dv cv)), .second, .val (.double (FP.Core.own_pr bv c3)), .second, .val (.double (FP.Core.own_pr b4 a4)), .second, .val (.long ((av.toInt64) * (dv.toInt64))), .second, .val (.long ((cv.toInt64) * (bv.toInt64))), .second] [(.int (cmpValue (FP.dcmp (FP.Core.own_pr bv av) (FP.Core.own_pr dv cv)) .l))])) _
              refine XS.ifYes X23.here hx rfl (pc0 := 348) (pc' := 353) rfl (hb hby at_348) rfl ((if0 _ _).trans (flt (own_l7 hok_av hok_cv hc273_6 hc278_7 hc340_10)).2.1) (by decide) (by decide) ?_
              show Steps p.tables e below (T23.setTop (mkF m 353 #[.val (.int p1), .val (.int p2), .val (.int p3), .val (.int p4), .val (.int p5), .val (.int p6), .val (.ref j2_0), .val (.int bv), .val (.int av), .val (.int dv), .val (.int cv), .val (.int c3), .val (.int (((p5.toUInt32 >>> ((1 : Int32) &&& 31).toUInt32).toInt32) % (31 : Int32))), .val (.int b4), .val (.int a4), .val (.double (FP.Core.own_pr bv av)), .second, .val (.double (FP.Core.own_pr dv cv)), .second, .val (.double (FP.Core.own_pr bv c3)), .second, .val (.double (FP.Core.own_pr b4 a4)), .second, .val (.long ((av.toInt64) * (dv.toInt64))), .second, .val (.long ((cv.toInt64) * (bv.toInt64))), .second] [])) _
              refine XS.iconst X23.here hx rfl (hb hby at_353) ?_
              show Steps p.tables e below (T23.setTop (mkF m 354 #[.val (.int p1), .val (.int p2), .val (.int p3), .val (.int p4), .val (.int p5), .val (.int p6), .val (.ref j2_0), .val (.int bv), .val (.int av), .val (.int dv), .val (.int cv), .val (.int c3), .val (.int (((p5.toUInt32 >>> ((1 : Int32) &&& 31).toUInt32).toInt32) % (31 : Int32))), .val (.int b4), .val (.int a4), .val (.double (FP.Core.own_pr bv av)), .second, .val (.double (FP.Core.own_pr dv cv)), .second, .val (.double (FP.Core.own_pr bv c3)), .second, .val (.double (FP.Core.own_pr b4 a4)), .second, .val (.long ((av.toInt64) * (dv.toInt64))), .second, .val (.long ((cv.toInt64) * (bv.toInt64))), .second] [(.int (1 : Int32))])) _
              exact retN X23 hx (t := .boolean) Bd.returns (by simp) (hb hby at_354) hr
            · show Q0_0 Z p1 p2 p3 p4 p5 p6 w_LARGEST w_PRECISION h0 n0 _ T23.heap _
              rw [e23]
              exact ⟨rfl, N23⟩
          ·
            obtain ⟨fs, hr, hrun, hended, hW, hsame⟩ := X23.leave (v := some (.int (1 : Int32))) (fun h => by rw [Bd.returns] at h; cases h)
            refine ⟨_, _, k36 _ ?_, hrun, hended, _, _, rfl, ?_, ⟨_, rfl⟩, hW, hsame.mono (by decide) (by decide)⟩
            ·
              show Steps p.tables e below (T23.setTop (mkF m 340 #[.val (.int p1), .val (.int p2), .val (.int p3), .val (.int p4), .val (.int p5), .val (.int p6), .val (.ref j2_0), .val (.int bv), .val (.int av), .val (.int dv), .val (.int cv), .val (.int c3), .val (.int (((p5.toUInt32 >>> ((1 : Int32) &&& 31).toUInt32).toInt32) % (31 : Int32))), .val (.int b4), .val (.int a4), .val (.double (FP.Core.own_pr bv av)), .second, .val (.double (FP.Core.own_pr dv cv)), .second, .val (.double (FP.Core.own_pr bv c3)), .second, .val (.double (FP.Core.own_pr b4 a4)), .second, .val (.long ((av.toInt64) * (dv.toInt64))), .second, .val (.long ((cv.toInt64) * (bv.toInt64))), .second] [(.int (lcmpW ((av.toInt64) * (dv.toInt64)) ((cv.toInt64) * (bv.toInt64))))])) _
              refine XS.ifYes X23.here hx rfl (pc0 := 340) (pc' := 353) rfl (hb hby at_340) rfl ((if0 _ _).trans (flt hc340_10).2.2.2) (by decide) (by decide) ?_
              show Steps p.tables e below (T23.setTop (mkF m 353 #[.val (.int p1), .val (.int p2), .val (.int p3), .val (.int p4), .val (.int p5), .val (.int p6), .val (.ref j2_0), .val (.int bv), .val (.int av), .val (.int dv), .val (.int cv), .val (.int c3), .val (.int (((p5.toUInt32 >>> ((1 : Int32) &&& 31).toUInt32).toInt32) % (31 : Int32))), .val (.int b4), .val (.int a4), .val (.double (FP.Core.own_pr bv av)), .second, .val (.double (FP.Core.own_pr dv cv)), .second, .val (.double (FP.Core.own_pr bv c3)), .second, .val (.double (FP.Core.own_pr b4 a4)), .second, .val (.long ((av.toInt64) * (dv.toInt64))), .second, .val (.long ((cv.toInt64) * (bv.toInt64))), .second] [])) _
              refine XS.iconst X23.here hx rfl (hb hby at_353) ?_
              show Steps p.tables e below (T23.setTop (mkF m 354 #[.val (.int p1), .val (.int p2), .val (.int p3), .val (.int p4), .val (.int p5), .val (.int p6), .val (.ref j2_0), .val (.int bv), .val (.int av), .val (.int dv), .val (.int cv), .val (.int c3), .val (.int (((p5.toUInt32 >>> ((1 : Int32) &&& 31).toUInt32).toInt32) % (31 : Int32))), .val (.int b4), .val (.int a4), .val (.double (FP.Core.own_pr bv av)), .second, .val (.double (FP.Core.own_pr dv cv)), .second, .val (.double (FP.Core.own_pr bv c3)), .second, .val (.double (FP.Core.own_pr b4 a4)), .second, .val (.long ((av.toInt64) * (dv.toInt64))), .second, .val (.long ((cv.toInt64) * (bv.toInt64))), .second] [(.int (1 : Int32))])) _
              exact retN X23 hx (t := .boolean) Bd.returns (by simp) (hb hby at_354) hr
            · show Q0_0 Z p1 p2 p3 p4 p5 p6 w_LARGEST w_PRECISION h0 n0 _ T23.heap _
              rw [e23]
              exact ⟨rfl, N23⟩
    ·
      obtain ⟨fs, hr, hrun, hended, hW, hsame⟩ := X23.leave (v := some (.int (1 : Int32))) (fun h => by rw [Bd.returns] at h; cases h)
      refine ⟨_, _, k33 _ ?_, hrun, hended, _, _, rfl, ?_, ⟨_, rfl⟩, hW, hsame.mono (by decide) (by decide)⟩
      ·
        show Steps p.tables e below (T23.setTop (mkF m 278 #[.val (.int p1), .val (.int p2), .val (.int p3), .val (.int p4), .val (.int p5), .val (.int p6), .val (.ref j2_0), .val (.int bv), .val (.int av), .val (.int dv), .val (.int cv), .val (.int c3), .val (.int (((p5.toUInt32 >>> ((1 : Int32) &&& 31).toUInt32).toInt32) % (31 : Int32))), .val (.int b4), .val (.int a4), .val (.double (FP.Core.own_pr bv av)), .second, .val (.double (FP.Core.own_pr dv cv)), .second, .val (.double (FP.Core.own_pr bv c3)), .second, .val (.double (FP.Core.own_pr b4 a4)), .second, .unset, .unset, .unset, .unset] [(.int dv)])) _
        refine XS.ifYes X23.here hx rfl (pc0 := 278) (pc' := 353) rfl (hb hby at_278) rfl ((if0 _ _).trans (flt hc278_7).2.2.2) (by decide) (by decide) ?_
        show Steps p.tables e below (T23.setTop (mkF m 353 #[.val (.int p1), .val (.int p2), .val (.int p3), .val (.int p4), .val (.int p5), .val (.int p6), .val (.ref j2_0), .val (.int bv), .val (.int av), .val (.int dv), .val (.int cv), .val (.int c3), .val (.int (((p5.toUInt32 >>> ((1 : Int32) &&& 31).toUInt32).toInt32) % (31 : Int32))), .val (.int b4), .val (.int a4), .val (.double (FP.Core.own_pr bv av)), .second, .val (.double (FP.Core.own_pr dv cv)), .second, .val (.double (FP.Core.own_pr bv c3)), .second, .val (.double (FP.Core.own_pr b4 a4)), .second, .unset, .unset, .unset, .unset] [])) _
        refine XS.iconst X23.here hx rfl (hb hby at_353) ?_
        show Steps p.tables e below (T23.setTop (mkF m 354 #[.val (.int p1), .val (.int p2), .val (.int p3), .val (.int p4), .val (.int p5), .val (.int p6), .val (.ref j2_0), .val (.int bv), .val (.int av), .val (.int dv), .val (.int cv), .val (.int c3), .val (.int (((p5.toUInt32 >>> ((1 : Int32) &&& 31).toUInt32).toInt32) % (31 : Int32))), .val (.int b4), .val (.int a4), .val (.double (FP.Core.own_pr bv av)), .second, .val (.double (FP.Core.own_pr dv cv)), .second, .val (.double (FP.Core.own_pr bv c3)), .second, .val (.double (FP.Core.own_pr b4 a4)), .second, .unset, .unset, .unset, .unset] [(.int (1 : Int32))])) _
        exact retN X23 hx (t := .boolean) Bd.returns (by simp) (hb hby at_354) hr
      · show Q0_0 Z p1 p2 p3 p4 p5 p6 w_LARGEST w_PRECISION h0 n0 _ T23.heap _
        rw [e23]
        exact ⟨rfl, N23⟩
  ·
    obtain ⟨fs, hr, hrun, hended, hW, hsame⟩ := X23.leave (v := some (.int (1 : Int32))) (fun h => by rw [Bd.returns] at h; cases h)
    refine ⟨_, _, k32 _ ?_, hrun, hended, _, _, rfl, ?_, ⟨_, rfl⟩, hW, hsame.mono (by decide) (by decide)⟩
    ·
      show Steps p.tables e below (T23.setTop (mkF m 273 #[.val (.int p1), .val (.int p2), .val (.int p3), .val (.int p4), .val (.int p5), .val (.int p6), .val (.ref j2_0), .val (.int bv), .val (.int av), .val (.int dv), .val (.int cv), .val (.int c3), .val (.int (((p5.toUInt32 >>> ((1 : Int32) &&& 31).toUInt32).toInt32) % (31 : Int32))), .val (.int b4), .val (.int a4), .val (.double (FP.Core.own_pr bv av)), .second, .val (.double (FP.Core.own_pr dv cv)), .second, .val (.double (FP.Core.own_pr bv c3)), .second, .val (.double (FP.Core.own_pr b4 a4)), .second, .unset, .unset, .unset, .unset] [(.int bv)])) _
      refine XS.ifYes X23.here hx rfl (pc0 := 273) (pc' := 353) rfl (hb hby at_273) rfl ((if0 _ _).trans (flt hc273_6).2.2.2) (by decide) (by decide) ?_
      show Steps p.tables e below (T23.setTop (mkF m 353 #[.val (.int p1), .val (.int p2), .val (.int p3), .val (.int p4), .val (.int p5), .val (.int p6), .val (.ref j2_0), .val (.int bv), .val (.int av), .val (.int dv), .val (.int cv), .val (.int c3), .val (.int (((p5.toUInt32 >>> ((1 : Int32) &&& 31).toUInt32).toInt32) % (31 : Int32))), .val (.int b4), .val (.int a4), .val (.double (FP.Core.own_pr bv av)), .second, .val (.double (FP.Core.own_pr dv cv)), .second, .val (.double (FP.Core.own_pr bv c3)), .second, .val (.double (FP.Core.own_pr b4 a4)), .second, .unset, .unset, .unset, .unset] [])) _
      refine XS.iconst X23.here hx rfl (hb hby at_353) ?_
      show Steps p.tables e below (T23.setTop (mkF m 354 #[.val (.int p1), .val (.int p2), .val (.int p3), .val (.int p4), .val (.int p5), .val (.int p6), .val (.ref j2_0), .val (.int bv), .val (.int av), .val (.int dv), .val (.int cv), .val (.int c3), .val (.int (((p5.toUInt32 >>> ((1 : Int32) &&& 31).toUInt32).toInt32) % (31 : Int32))), .val (.int b4), .val (.int a4), .val (.double (FP.Core.own_pr bv av)), .second, .val (.double (FP.Core.own_pr dv cv)), .second, .val (.double (FP.Core.own_pr bv c3)), .second, .val (.double (FP.Core.own_pr b4 a4)), .second, .unset, .unset, .unset, .unset] [(.int (1 : Int32))])) _
      exact retN X23 hx (t := .boolean) Bd.returns (by simp) (hb hby at_354) hr
    · show Q0_0 Z p1 p2 p3 p4 p5 p6 w_LARGEST w_PRECISION h0 n0 _ T23.heap _
      rw [e23]
      exact ⟨rfl, N23⟩
set_option maxRecDepth 65536 in
set_option maxHeartbeats 40000000 in
theorem comes_1 {Post : Tables → Env → Array Value → State → Outcome → State → Prop} (hpost : ∀ tb e args s v u, (limb_1_1.after args s (.returned v) u = true ∧ limb_1_2.after args s (.returned v) u = true ∧ True) → FrameEnd s (.returned v) u (Jvm.fieldLocs frame_1_writes args s ++ Jvm.arrayLocs frame_1_arrays args s ++ Jvm.staticLocs frame_1_statics s) 16 128 → Post tb e args s (.returned v) u) :
    ArmFor flags0 classFile x code maxLocals ret World_1 tables_1 room_1 Calls_1 rest_1 Pre_1 Post := by
  intro l hfl _ _ p e ha hc hk s m args below hf hA hF happ hP
  obtain ⟨hcalls, hrest, hpre⟩ := hP
  obtain ⟨-, -, -, hnamed, -, -, -, hat⟩ := (Spec.applies_iff hf).mp happ
  obtain ⟨hg, hn⟩ := and_e (Cond.before_iff.mp (show (Jvm.Cond.and given_1 narrow_1).before args s = true from hpre))
  obtain ⟨g1a, g1b⟩ := and_e hg
  obtain ⟨g2a, g2b⟩ := and_e g1b
  obtain ⟨g3a, g3b⟩ := and_e g2b
  obtain ⟨g4a, g4b⟩ := and_e g3b
  obtain ⟨g5a, g5b⟩ := and_e g4b
  obtain ⟨g6a, g6b⟩ := and_e g5b
  obtain ⟨a0w, a1w, a2w, a3w, a4w, a5w, rfl⟩ : ∃ a0w a1w a2w a3w a4w a5w : Value, args = #[a0w, a1w, a2w, a3w, a4w, a5w] := by
    have hs : args.size = 6 := by simpa [Cond.value, given_1] using g1a
    obtain ⟨L⟩ := args
    match L, hs with
    | [a0w, a1w, a2w, a3w, a4w, a5w], _ => exact ⟨a0w, a1w, a2w, a3w, a4w, a5w, rfl⟩
  have hw := fun d (hd : d ∈ tables_1) => atoms_spec (ws := Jvm.Cond.code x code maxLocals ret :: tables_1) hat d (List.mem_cons_of_mem _ hd)
  have hfit : Fit s := fun {y c} hc i hi => by
    obtain ⟨ha, rfl⟩ := Array.getElem?_eq_some_iff.mp hc
    have q := List.all_eq_true.mp ((Array.all_eq_true_iff_forall_mem.mp hF) _ (Array.getElem_mem ha)) i (List.mem_range.mpr hi)
    simpa [Array.getElem?_eq_getElem hi] using q
  obtain ⟨i0, ei0⟩ := is_v g2a
  obtain rfl : a0w = (.int i0) := Option.some.inj ei0
  obtain ⟨i1, ei1⟩ := is_v g3a
  obtain rfl : a1w = (.int i1) := Option.some.inj ei1
  obtain ⟨i2, ei2⟩ := is_v g4a
  obtain rfl : a2w = (.int i2) := Option.some.inj ei2
  obtain ⟨i3, ei3⟩ := is_v g5a
  obtain rfl : a3w = (.int i3) := Option.some.inj ei3
  obtain ⟨i4, ei4⟩ := is_v g6a
  obtain rfl : a4w = (.int i4) := Option.some.inj ei4
  obtain ⟨i5, ei5⟩ := is_v g6b
  obtain rfl : a5w = (.int i5) := Option.some.inj ei5
  obtain ⟨hn0, hm0⟩ := and_e hn
  obtain ⟨w_LARGEST, v_LARGEST⟩ := exa_v hn0
  have S_LARGEST := Sta.start v_LARGEST (Or.inr ⟨(hw _ (List.mem_of_getElem? (i := 1) rfl)), (hw _ (List.mem_of_getElem? (i := 2) rfl))⟩)
  have E_LARGEST := Exa.start v_LARGEST hn0
  obtain ⟨w_PRECISION, v_PRECISION⟩ := exa_v hm0
  have S_PRECISION := Sta.start v_PRECISION (Or.inr ⟨(hw _ (List.mem_of_getElem? (i := 1) rfl)), (hw _ (List.mem_of_getElem? (i := 35) rfl))⟩)
  have E_PRECISION := Exa.start v_PRECISION hm0
  obtain ⟨n, o, h1, h2, h3, _, L, rfl, ⟨rfl, N⟩, hq⟩ := rm0_0 l s _ hw tables_1 i0 i1 i2 i3 i4 i5 w_LARGEST w_PRECISION s.heap s.heap.size (Nat.le_refl _) S_LARGEST S_PRECISION p e ha hc hk s m _ below hf ((Spec.applies_iff_loose hf).mp happ).1 ⟨rfl, State.Warmed39.refl s, rfl⟩ trivial
  refine ⟨n, _, h1, h2, h3, hpost _ _ _ _ _ _ ⟨Cond.after_iff.mpr rfl, Cond.after_iff.mpr (eq_i res_at (Term.int_eval (1)) rfl), trivial⟩ ⟨hq.1, hq.2.1, (hq.2.2.sift fun y hy => Or.inr (N y hy)).mono (by decide) (by decide)⟩⟩
theorem main_1_1 : Claimed_1_1 := comes_1 fun _ _ _ _ _ _ h hF => ⟨h.1, hF⟩
theorem main_1_2 : Claimed_1_2 := comes_1 fun _ _ _ _ _ _ h hF => ⟨h.2.1, hF⟩
end Jvm.Pilot.@@N@@
namespace Jvm.Pilot.@@N@@
open Jvm Jvm.ClassFile Sem Op Lib Jvm.Free Jvm.Stand Jvm.Pilot.@@N@@.Jvm.D
/-! MADE BY PROGRAM (witnessworld.py) out of the Statement's table words and the real class files: 13 classes; the members and pool entries that the words name. The judged class is class 1, her method 3. -/
namespace start1
open Jvm.ClassFile
def u (s : String) : CpInfo := .utf8 (stringToUtf16 s)
/-- a pool by its gaps: so many unusable entries, then the entry; so many at the end -/
def gap : Nat → List CpInfo → List CpInfo
  | 0, r => r
  | n + 1, r => .unusable :: gap n r
def poolList (es : List (Nat × CpInfo)) (last : Nat) : List CpInfo := es.foldr (fun e r => gap e.1 (e.2 :: r)) (gap last [])
def pool (es : List (Nat × CpInfo)) (last : Nat) : Array CpInfo := ⟨poolList es last⟩
def fileOf (pool : Array CpInfo) (this : Nat) (attrs : Array Attribute := #[]) (ms : Array MethodInfo := #[]) (fl : Nat := 33) (sup : Nat := 0) (ifs : Array Nat := #[]) (fds : Array FieldInfo := #[]) : ClassFile where
  minorVersion := 0
  majorVersion := 65
  constantPool := pool
  accessFlags := fl
  thisClass := this
  superClass := sup
  interfaces := ifs
  fields := fds
  methods := ms
  attributes := attrs
def plain (name : String) (sup : Option ClassId) : Class where
  name := name
  kind := .ordinary
  loader := none
  accessFlags := 33
  super := sup
  interfaces := #[]
  cf := none
  fields := #[]
  methods := #[]
  instanceTypes := #[]
  staticTypes := #[]
  resolved := #[]
  callSites := []
  init := .initialized
  statics := none
  mirror := none

def pool0 : Array CpInfo := pool [(5, u "<init>"), (0, u "()V"), (1, .class_ 10), (1, u "java/lang/Object")] 113

def k0c0 : Code := { maxStack := 0, maxLocals := 1, code := object_method_1_code, exceptionTable := #[], attributes := #[] }
def k0m0 : Method := { name := "<init>", desc := "()V", sig := { parameters := [], returnType := none }, accessFlags := 1, code := some k0c0 }
/-- java/lang/Object -/
def k0 : Class := { plain "java/lang/Object" none with
  accessFlags := 33
  interfaces := #[]
  cf := some (fileOf pool0 8 #[] #[{ accessFlags := 1, nameIndex := 5, descriptorIndex := 6, attributes := #[] }] 33 0 #[] #[])
  fields := #[]
  methods := #[k0m0]
  instanceTypes := #[]
  staticTypes := #[]
  resolved := Array.replicate 124 none
  statics := none }

def pool1 : Array CpInfo := pool [(2, .class_ 4), (1, u "java/lang/Object"), (0, u "<init>"), (0, u "()V"), (0, .class_ 8), (0, u "com/example/cotejo/cotejo/optimize/OptimalQuery"), (0, .methodref 7 10), (0, .nameAndType 5 11), (0, u "(ILcom/example/cotejo/cotejo/optimize/Mode;II)V"), (0, .methodref 7 13), (0, .nameAndType 14 15), (0, u "precision"), (0, u "()D"), (0, .fieldref 17 18), (0, .class_ 19), (0, .nameAndType 20 21), (0, u "com/example/cotejo/cotejo/optimize/Mode"), (0, u "PRECISION"), (0, u "Lcom/example/cotejo/cotejo/optimize/Mode;"), (0, .fieldref 17 23), (0, .nameAndType 24 21), (0, u "LARGEST"), (0, .integer 2147483647), (0, .long 2147483647), (1, .methodref 29 30), (0, .class_ 31), (0, .nameAndType 32 33), (0, u "com/example/cotejo/cotejo/optimize/OptimalQueryPrecisionPinLaw"), (0, u "prec"), (0, u "(IILcom/example/cotejo/cotejo/optimize/Mode;)D"), (0, .methodref 29 35), (0, .nameAndType 36 37), (0, u "single"), (0, u "(IID)Z"), (3, u "law"), (0, u "(IIIIII)Z")] 2

def k1m0 : Method := { name := "<init>", desc := "()V", sig := { parameters := [], returnType := none }, accessFlags := 1, code := none }
def k1c1 : Code := { maxStack := 6, maxLocals := 3, code := method_2_code, exceptionTable := #[], attributes := #[] }
def k1m1 : Method := { name := "prec", desc := "(IILcom/example/cotejo/cotejo/optimize/Mode;)D", sig := { parameters := [.int, .int, (.object "com/example/cotejo/cotejo/optimize/Mode")], returnType := some .double }, accessFlags := 10, code := some k1c1 }
def k1c2 : Code := { maxStack := 4, maxLocals := 4, code := method_3_code, exceptionTable := #[], attributes := #[] }
def k1m2 : Method := { name := "single", desc := "(IID)Z", sig := { parameters := [.int, .int, .double], returnType := some .boolean }, accessFlags := 10, code := some k1c2 }
def k1c3 : Code := { maxStack := 6, maxLocals := 27, code := code, exceptionTable := #[], attributes := #[] }
def k1m3 : Method := { name := "law", desc := "(IIIIII)Z", sig := { parameters := [.int, .int, .int, .int, .int, .int], returnType := some .boolean }, accessFlags := 9, code := some k1c3 }
/-- com/example/cotejo/cotejo/optimize/OptimalQueryPrecisionPinLaw -/
def k1 : Class := { plain "com/example/cotejo/cotejo/optimize/OptimalQueryPrecisionPinLaw" (some 0) with
  accessFlags := 49
  interfaces := #[]
  cf := some (fileOf pool1 29 #[] #[{ accessFlags := 1, nameIndex := 5, descriptorIndex := 6, attributes := #[] }, { accessFlags := 10, nameIndex := 32, descriptorIndex := 33, attributes := #[] }, { accessFlags := 10, nameIndex := 36, descriptorIndex := 37, attributes := #[] }, { accessFlags := 9, nameIndex := 41, descriptorIndex := 42, attributes := #[] }] 49 2 #[] #[])
  fields := #[]
  methods := #[k1m0, k1m1, k1m2, k1m3]
  instanceTypes := #[]
  staticTypes := #[]
  resolved := Array.replicate 45 none
  statics := none }

def pool2 : Array CpInfo := pool [(1, .class_ 2), (0, u "java/lang/constant/Constable"), (0, .class_ 4), (0, u "java/lang/Object")] 6

/-- java/lang/constant/Constable -/
def k2 : Class := { plain "java/lang/constant/Constable" (some 0) with
  accessFlags := 1537
  interfaces := #[]
  cf := some (fileOf pool2 1 #[] #[] 1537 3 #[] #[])
  fields := #[]
  methods := #[]
  instanceTypes := #[]
  staticTypes := #[]
  resolved := Array.replicate 11 none
  statics := none }

def pool3 : Array CpInfo := pool [(1, .class_ 2), (0, u "java/lang/Comparable"), (0, .class_ 4), (0, u "java/lang/Object")] 7

/-- java/lang/Comparable -/
def k3 : Class := { plain "java/lang/Comparable" (some 0) with
  accessFlags := 1537
  interfaces := #[]
  cf := some (fileOf pool3 1 #[] #[] 1537 3 #[] #[])
  fields := #[]
  methods := #[]
  instanceTypes := #[]
  staticTypes := #[]
  resolved := Array.replicate 12 none
  statics := none }

def pool4 : Array CpInfo := pool [(1, .class_ 2), (0, u "java/io/Serializable"), (0, .class_ 4), (0, u "java/lang/Object")] 2

/-- java/io/Serializable -/
def k4 : Class := { plain "java/io/Serializable" (some 0) with
  accessFlags := 1537
  interfaces := #[]
  cf := some (fileOf pool4 1 #[] #[] 1537 3 #[] #[])
  fields := #[]
  methods := #[]
  instanceTypes := #[]
  staticTypes := #[]
  resolved := Array.replicate 7 none
  statics := none }

def pool5 : Array CpInfo := pool [(2, .class_ 4), (1, u "java/lang/Enum"), (0, u "name"), (0, u "Ljava/lang/String;"), (2, u "ordinal"), (0, u "I"), (1, .class_ 14), (1, u "java/lang/Object"), (4, u "hash"), (86, .class_ 108), (1, u "java/lang/Enum$EnumDesc"), (2, .class_ 112), (0, u "java/lang/constant/Constable"), (0, .class_ 114), (0, u "java/lang/Comparable"), (0, .class_ 116), (0, u "java/io/Serializable")] 87

/-- java/lang/Enum -/
def k5 : Class := { plain "java/lang/Enum" (some 0) with
  accessFlags := 1057
  interfaces := #[2, 3, 4]
  cf := some (fileOf pool5 2 #[.nestMembers #[106]] #[] 1057 12 #[111, 113, 115] #[{ accessFlags := 18, nameIndex := 5, descriptorIndex := 6, attributes := #[] }, { accessFlags := 18, nameIndex := 9, descriptorIndex := 10, attributes := #[] }, { accessFlags := 2, nameIndex := 19, descriptorIndex := 10, attributes := #[] }])
  fields := #[{ name := "name", type := (.object "java/lang/String"), accessFlags := 18, slot := 0, constantValue := 0 }, { name := "ordinal", type := .int, accessFlags := 18, slot := 1, constantValue := 0 }, { name := "hash", type := .int, accessFlags := 2, slot := 2, constantValue := 0 }]
  methods := #[]
  instanceTypes := #[(.object "java/lang/String"), .int, .int]
  staticTypes := #[]
  resolved := Array.replicate 204 none
  statics := none }

def pool6 : Array CpInfo := pool [(1, .class_ 2), (0, u "com/example/cotejo/cotejo/optimize/Mode"), (2, u "PRECISION"), (0, u "Lcom/example/cotejo/cotejo/optimize/Mode;"), (2, u "LARGEST"), (2, u "$VALUES"), (0, u "[Lcom/example/cotejo/cotejo/optimize/Mode;"), (6, .class_ 22), (1, u "java/lang/Enum")] 41

/-- com/example/cotejo/cotejo/optimize/Mode -/
def k6 : Class := { plain "com/example/cotejo/cotejo/optimize/Mode" (some 5) with
  accessFlags := 16433
  interfaces := #[]
  cf := some (fileOf pool6 1 #[] #[] 16433 20 #[] #[{ accessFlags := 16409, nameIndex := 5, descriptorIndex := 6, attributes := #[] }, { accessFlags := 16409, nameIndex := 9, descriptorIndex := 6, attributes := #[] }, { accessFlags := 4122, nameIndex := 12, descriptorIndex := 13, attributes := #[] }])
  fields := #[{ name := "PRECISION", type := (.object "com/example/cotejo/cotejo/optimize/Mode"), accessFlags := 16409, slot := 0, constantValue := 0 }, { name := "LARGEST", type := (.object "com/example/cotejo/cotejo/optimize/Mode"), accessFlags := 16409, slot := 1, constantValue := 0 }, { name := "$VALUES", type := (.array (.object "com/example/cotejo/cotejo/optimize/Mode")), accessFlags := 4122, slot := 2, constantValue := 0 }]
  methods := #[]
  instanceTypes := #[(.object "java/lang/String"), .int, .int]
  staticTypes := #[(.object "com/example/cotejo/cotejo/optimize/Mode"), (.object "com/example/cotejo/cotejo/optimize/Mode"), (.array (.object "com/example/cotejo/cotejo/optimize/Mode"))]
  resolved := Array.replicate 64 none
  statics := some 0 }

def pool7 : Array CpInfo := pool [(1, .methodref 2 3), (0, .class_ 4), (0, .nameAndType 5 6), (0, u "java/lang/Object"), (0, u "<init>"), (0, u "()V"), (0, .fieldref 8 9), (0, .class_ 10), (0, .nameAndType 11 12), (0, u "com/example/cotejo/cotejo/optimize/OptimalQuery"), (0, u "exhaustivity"), (0, u "I"), (0, .fieldref 8 14), (0, .nameAndType 15 16), (0, u "mode"), (0, u "Lcom/example/cotejo/cotejo/optimize/Mode;"), (0, .fieldref 8 18), (0, .nameAndType 19 12), (0, u "retrieved"), (0, .fieldref 8 21), (0, .nameAndType 22 12), (0, u "relevant"), (0, u "(ILcom/example/cotejo/cotejo/optimize/Mode;II)V"), (8, u "precision"), (0, u "()D")] 5

def k7c0 : Code := { maxStack := 2, maxLocals := 5, code := prog_58_method_1_code, exceptionTable := #[], attributes := #[] }
def k7m0 : Method := { name := "<init>", desc := "(ILcom/example/cotejo/cotejo/optimize/Mode;II)V", sig := { parameters := [.int, (.object "com/example/cotejo/cotejo/optimize/Mode"), .int, .int], returnType := none }, accessFlags := 0, code := some k7c0 }
def k7c1 : Code := { maxStack := 4, maxLocals := 1, code := prog_58_method_6_code, exceptionTable := #[], attributes := #[] }
def k7m1 : Method := { name := "precision", desc := "()D", sig := { parameters := [], returnType := some .double }, accessFlags := 1, code := some k7c1 }
/-- com/example/cotejo/cotejo/optimize/OptimalQuery -/
def k7 : Class := { plain "com/example/cotejo/cotejo/optimize/OptimalQuery" (some 0) with
  accessFlags := 33
  interfaces := #[]
  cf := some (fileOf pool7 8 #[] #[{ accessFlags := 0, nameIndex := 5, descriptorIndex := 23, attributes := #[] }, { accessFlags := 1, nameIndex := 32, descriptorIndex := 33, attributes := #[] }] 33 2 #[] #[{ accessFlags := 18, nameIndex := 11, descriptorIndex := 12, attributes := #[] }, { accessFlags := 18, nameIndex := 15, descriptorIndex := 16, attributes := #[] }, { accessFlags := 18, nameIndex := 19, descriptorIndex := 12, attributes := #[] }, { accessFlags := 18, nameIndex := 22, descriptorIndex := 12, attributes := #[] }])
  fields := #[{ name := "exhaustivity", type := .int, accessFlags := 18, slot := 0, constantValue := 0 }, { name := "mode", type := (.object "com/example/cotejo/cotejo/optimize/Mode"), accessFlags := 18, slot := 1, constantValue := 0 }, { name := "retrieved", type := .int, accessFlags := 18, slot := 2, constantValue := 0 }, { name := "relevant", type := .int, accessFlags := 18, slot := 3, constantValue := 0 }]
  methods := #[k7m0, k7m1]
  instanceTypes := #[.int, (.object "com/example/cotejo/cotejo/optimize/Mode"), .int, .int]
  staticTypes := #[]
  resolved := Array.replicate 39 none
  statics := none }

def pool8 : Array CpInfo := pool [(1, u "java/lang/Cloneable"), (0, .class_ 1), (0, u "java/lang/Object"), (0, .class_ 3)] 3

/-- java/lang/Cloneable -/
def k8 : Class := { plain "java/lang/Cloneable" (some 0) with
  accessFlags := 1537
  interfaces := #[]
  cf := some (fileOf pool8 2 #[] #[] 1537 4 #[] #[])
  fields := #[]
  methods := #[]
  instanceTypes := #[]
  staticTypes := #[]
  resolved := Array.replicate 8 none
  statics := none }

/-- the primitive byte -/
def k9 : Class := { plain "byte" none with kind := .primitive 'B', accessFlags := 0x411 }
/-- [B -/
def k10 : Class := { plain "[B" (some 0) with kind := .array 9 .byte, interfaces := #[8, 4], accessFlags := 1041 }

/-- the primitive int -/
def k11 : Class := { plain "int" none with kind := .primitive 'I', accessFlags := 0x411 }
/-- [I -/
def k12 : Class := { plain "[I" (some 0) with kind := .array 11 .int, interfaces := #[8, 4], accessFlags := 1041 }

def heap : Heap := #[{ cls := 6, slots := #[.ref 2, .ref 1, .null], vm := .statics 6 },
  { cls := 6, slots := #[.null, .int 0, .int 0], vm := .none },
  { cls := 6, slots := #[.null, .int 0, .int 0], vm := .none }]
def classes : Array Class := #[k0, k1, k2, k3, k4, k5, k6, k7, k8, k9, k10, k11, k12]
def interned : List (Array UInt16 × Addr) := []
def slotsUsed : Nat := 9
def theMethod : MethodId := ⟨1, 3⟩
def args0 : Array Value := #[.int 5, .int 6, .int 7, .int 8, .int 9, .int 3]
def aboutOver (below : List Frame) : State where
  vm := { classes := classes, interned := interned.toArray }
  heap := heap
  slotsUsed := slotsUsed
  threads := #[{ frames := .invoking theMethod args0 :: below }]
def below0 : List Frame := [.native { method := ⟨0, 0⟩, args := #[] }]
def about1 : State := aboutOver below0
def p0 : Program := .bare "" "" ""
def e0 : Env := launch0.env 0 0 0
theorem w_frames : about1.frames = Frame.invoking theMethod args0 :: below0 := rfl
set_option maxRecDepth 65536 in
theorem w_args : argsFit about1.vm theMethod args0 = true := by decide +kernel
set_option maxRecDepth 65536 in
theorem w_heap : heapFits about1 = true := by decide +kernel
set_option maxRecDepth 65536 in
theorem w_runnable : about1.curStatus? = some .runnable := by decide +kernel
set_option maxRecDepth 65536 in
theorem w_alone : about1.alone = true := by decide +kernel
set_option maxRecDepth 65536 in
theorem w_named : about1.methodNamed? x = some theMethod := by decide +kernel
set_option maxRecDepth 65536 in
theorem w_hears : about1.hears theMethod below0 = true := by decide +kernel
set_option maxRecDepth 65536 in
theorem w_ripe : about1.ripe theMethod args0 below0 = true := by decide +kernel
theorem w_running : about1.status = .running := rfl
set_option maxRecDepth 65536 in
theorem w_room : about1.hasRoom e0.platform room_1 = true :=
  launch0.hasRoom_least _ room_1 (by decide +kernel) (by decide +kernel) (by decide +kernel) (by decide +kernel) (by decide +kernel) (by decide +kernel)
theorem allAtoms_all (ts : List Jvm.Cond) (a : Array Jvm.Value) (st : Jvm.State) : (allAtoms ts).before a st = ts.all (fun c => c.before a st) := by
  induction ts with
  | nil => rfl
  | cons c t ih =>
    show (Jvm.Cond.and c (allAtoms t)).before a st = _
    rw [Jvm.Cond.before_and, ih, List.all_cons]
def words1 : List Jvm.Cond := Jvm.Cond.code x code maxLocals ret :: tables_1
/-- a 'code' word, met by the world's own term for the bytes: nothing is compared byte by byte -/
theorem code_word {y : MethodName} {bytes : ByteArray} {mx : Nat} {rt : Option FieldType} {a : Array Value} {s : State} {m : MethodId} {meth : Method} {c : Code} (h1 : s.methodNamed? y = some m) (h2 : s.vm.method? m = some meth) (h3 : meth.code = some c) (h4 : c.code = bytes)
    (h5 : (c.maxLocals == mx && c.exceptionTable.isEmpty && decide (c.maxStack ≤ mostOperands) && decide (meth.sig.returnType = rt) && !meth.locks && decide (parseMethodDescriptor y.desc = some meth.sig)) = true) : (Jvm.Cond.code y bytes mx rt).before a s = true := by
  simp only [Bool.and_eq_true, beq_iff_eq, Bool.not_eq_true', decide_eq_true_eq] at h5
  obtain ⟨⟨⟨⟨⟨g1, g2⟩, g3⟩, g4⟩, g5⟩, g6⟩ := h5
  simp [Cond.before, Cond.holds, Cond.value, h1, h2, h3, h4, g1, g2, g3, g4, g5, g6]
def isCode : Jvm.Cond → Bool
  | .code _ _ _ _ => true
  | _ => false
theorem all_split {L : List Jvm.Cond} {P : Jvm.Cond → Bool} (h1 : L.all (fun c => isCode c || P c) = true) (h2 : ∀ c ∈ L.filter isCode, P c = true) : L.all P = true := by
  refine List.all_eq_true.mpr fun c hc => ?_
  have h := List.all_eq_true.mp h1 c hc
  rcases Bool.eq_false_or_eq_true (isCode c) with hi | hi
  · exact h2 c (List.mem_filter.mpr ⟨hc, hi⟩)
  · simpa [hi] using h
set_option maxRecDepth 65536 in
theorem w_c0 : (Jvm.Cond.code x code maxLocals ret).before args0 about1 = true := code_word (m := ⟨1, 3⟩) (meth := k1m3) (c := k1c3) (by decide +kernel) rfl rfl rfl (by decide +kernel)
set_option maxRecDepth 65536 in
theorem w_c1 : (Jvm.Cond.code ({ cls := "com/example/cotejo/cotejo/optimize/OptimalQueryPrecisionPinLaw", name := "prec", desc := "(IILcom/example/cotejo/cotejo/optimize/Mode;)D" } : Jvm.MethodName) method_2_code (3 : Nat) (Option.some Jvm.ClassFile.FieldType.double)).before args0 about1 = true := code_word (m := ⟨1, 1⟩) (meth := k1m1) (c := k1c1) (by decide +kernel) rfl rfl rfl (by decide +kernel)
set_option maxRecDepth 65536 in
theorem w_c2 : (Jvm.Cond.code ({ cls := "com/example/cotejo/cotejo/optimize/OptimalQuery", name := "<init>", desc := "(ILcom/example/cotejo/cotejo/optimize/Mode;II)V" } : Jvm.MethodName) prog_58_method_1_code (5 : Nat) (Option.none : Option Jvm.ClassFile.FieldType)).before args0 about1 = true := code_word (m := ⟨7, 0⟩) (meth := k7m0) (c := k7c0) (by decide +kernel) rfl rfl rfl (by decide +kernel)
set_option maxRecDepth 65536 in
theorem w_c3 : (Jvm.Cond.code ({ cls := "java/lang/Object", name := "<init>", desc := "()V" } : Jvm.MethodName) object_method_1_code (1 : Nat) (Option.none : Option Jvm.ClassFile.FieldType)).before args0 about1 = true := code_word (m := ⟨0, 0⟩) (meth := k0m0) (c := k0c0) (by decide +kernel) rfl rfl rfl (by decide +kernel)
set_option maxRecDepth 65536 in
theorem w_c4 : (Jvm.Cond.code ({ cls := "com/example/cotejo/cotejo/optimize/OptimalQuery", name := "precision", desc := "()D" } : Jvm.MethodName) prog_58_method_6_code (1 : Nat) (Option.some Jvm.ClassFile.FieldType.double)).before args0 about1 = true := code_word (m := ⟨7, 1⟩) (meth := k7m1) (c := k7c1) (by decide +kernel) rfl rfl rfl (by decide +kernel)
set_option maxRecDepth 65536 in
theorem w_c5 : (Jvm.Cond.code ({ cls := "com/example/cotejo/cotejo/optimize/OptimalQueryPrecisionPinLaw", name := "single", desc := "(IID)Z" } : Jvm.MethodName) method_3_code (4 : Nat) (Option.some Jvm.ClassFile.FieldType.boolean)).before args0 about1 = true := code_word (m := ⟨1, 2⟩) (meth := k1m2) (c := k1c2) (by decide +kernel) rfl rfl rfl (by decide +kernel)
def codes1 : List Jvm.Cond := [Jvm.Cond.code x code maxLocals ret, Jvm.Cond.code ({ cls := "com/example/cotejo/cotejo/optimize/OptimalQueryPrecisionPinLaw", name := "prec", desc := "(IILcom/example/cotejo/cotejo/optimize/Mode;)D" } : Jvm.MethodName) method_2_code (3 : Nat) (Option.some Jvm.ClassFile.FieldType.double), Jvm.Cond.code ({ cls := "com/example/cotejo/cotejo/optimize/OptimalQuery", name := "<init>", desc := "(ILcom/example/cotejo/cotejo/optimize/Mode;II)V" } : Jvm.MethodName) prog_58_method_1_code (5 : Nat) (Option.none : Option Jvm.ClassFile.FieldType), Jvm.Cond.code ({ cls := "java/lang/Object", name := "<init>", desc := "()V" } : Jvm.MethodName) object_method_1_code (1 : Nat) (Option.none : Option Jvm.ClassFile.FieldType), Jvm.Cond.code ({ cls := "com/example/cotejo/cotejo/optimize/OptimalQuery", name := "precision", desc := "()D" } : Jvm.MethodName) prog_58_method_6_code (1 : Nat) (Option.some Jvm.ClassFile.FieldType.double), Jvm.Cond.code ({ cls := "com/example/cotejo/cotejo/optimize/OptimalQueryPrecisionPinLaw", name := "single", desc := "(IID)Z" } : Jvm.MethodName) method_3_code (4 : Nat) (Option.some Jvm.ClassFile.FieldType.boolean)]
set_option maxRecDepth 65536 in
theorem codes_eq : words1.filter isCode = codes1 := rfl
theorem w_codes : ∀ c ∈ words1.filter isCode, c.before args0 about1 = true := by
  rw [codes_eq]
  intro c hc
  simp only [codes1, List.mem_cons, List.not_mem_nil, or_false] at hc
  rcases hc with rfl | rfl | rfl | rfl | rfl | rfl
  · exact w_c0
  · exact w_c1
  · exact w_c2
  · exact w_c3
  · exact w_c4
  · exact w_c5
set_option maxRecDepth 65536 in
theorem w_t1 : (words1.take 24).all (fun c => isCode c || c.before args0 about1) = true := by decide +kernel
set_option maxRecDepth 65536 in
theorem w_t2 : (words1.drop 24).all (fun c => isCode c || c.before args0 about1) = true := by decide +kernel
theorem w_tables : (allAtoms (Jvm.Cond.code x code maxLocals ret :: tables_1)).before args0 about1 = true := by
  rw [allAtoms_all]
  show words1.all (fun c => c.before args0 about1) = true
  refine all_split ?_ w_codes
  rw [← List.take_append_drop 24 words1, List.all_append, w_t1, w_t2]
  rfl
set_option maxRecDepth 65536 in
theorem w_case : (Jvm.Cond.and given_1 narrow_1).before args0 about1 = true := by decide +kernel
theorem w_applies : (headSpec (Jvm.Cond.code x code maxLocals ret :: tables_1) room_1).applies x e0.platform about1 = true :=
  (Spec.applies_iff w_frames).mpr ⟨w_running, w_runnable, w_alone, w_named, w_hears, w_ripe, w_room, w_tables⟩
theorem atStart : AtStart classFile x code maxLocals ret World_1 tables_1 room_1 Calls_1 rest_1 Pre_1 launch0 p0 e0 about1 theMethod args0 below0 :=
  ⟨lists_1, trivial, launch0.admits_env _ _ _, launch0.least_env, fairChoices_fair.cas, fairChoices_fair.clock, w_frames, w_args, w_heap, w_applies, trivial, trivial, w_case⟩
end start1
theorem witness_1 : WitnessClaimed_1 := ⟨start1.p0, start1.e0, start1.about1, start1.theMethod, start1.args0, start1.below0, start1.atStart⟩
end Jvm.Pilot.@@N@@

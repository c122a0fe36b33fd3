import JvmDerived
import JvmDerived.Pilot.@@N@@Statement
import JvmDerived.Pilot.@@N@@Code
set_option linter.unusedVariables false
set_option linter.unusedSimpArgs false
namespace Jvm.Pilot.@@N@@
section OwnFP
open Jvm.FP Jvm.FP.Core Jvm.Free.Fl
/-- what x stands for, in units of the least double -/
def own_zv (x : UInt64) : Int := zval b64 (val64 x)
/-- x is finite and stands for a / 2^k -/
def Dy (x : UInt64) (a : Int) (k : Nat) : Prop := DFin x ∧ own_zv x * ((2 ^ k : Nat) : Int) = a * (one64 : Int)
theorem Dy.nn {x : UInt64} {a : Int} {k : Nat} (h : Dy x a k) : NoNaN64 x := (fin64_core.mpr h.1).noNaN
theorem own_pp (k : Nat) : (0 : Int) < ((2 ^ k : Nat) : Int) := Int.natCast_pos.mpr (Nat.two_pow_pos k)
theorem own_up : (0 : Int) < (one64 : Int) := Int.natCast_pos.mpr one64_pos
theorem own_signed_abs (a : Int) : signed (decide (a < 0)) a.natAbs = a := by
  unfold signed
  by_cases h : a < 0
  · simp [h]; omega
  · simp [h]; omega
theorem own_datum (a : Int) (n : Nat) (ha : a.natAbs < 2 ^ 53) (hn : n ≤ 1074) : ∃ V : Datum, Core.fits b64 V ∧ V ≠ .nan ∧ zval b64 V = a * ((2 ^ n : Nat) : Int) := by
  have hq : b64.qmin = -1074 := qmin_b64
  have hqx : b64.qmax = 971 := by decide
  obtain ⟨c', q', hr, hu⟩ := round_exact good_b64 (decide (a < 0)) (c := a.natAbs) (q := (n : Int) - 1074) ha (by rw [hq]; omega) (by rw [hqx]; omega)
  have hV := round_fits good_b64 (.fin (decide (a < 0)) a.natAbs ((n : Int) - 1074))
  rw [hr] at hV
  refine ⟨_, hV, by simp, ?_⟩
  show signed (decide (a < 0)) (inUnits c' q' b64.qmin) = _
  rw [hu]
  unfold inUnits
  rw [signed_mul, own_signed_abs, hq, show (((n : Int) - 1074) - -1074).toNat = n by omega]
theorem own_notinf {a : Int} {n : Nat} {t : Bool} (ha : a.natAbs < 2 ^ 53) (hn : n ≤ 1074) : ¬ zval b64 (.inf t) = a * ((2 ^ n : Nat) : Int) := by
  intro e
  have q := congrArg Int.natAbs e
  rw [show zval b64 (.inf t) = signed t (b64.tails * 2 ^ (b64.exps - 2)) from rfl, natAbs_signed, Int.natAbs_mul, Int.natAbs_natCast] at q
  have l1 : a.natAbs * 2 ^ n < 2 ^ 53 * 2 ^ 1074 := Nat.mul_lt_mul_of_lt_of_le ha (Nat.pow_le_pow_right (by decide) hn) (Nat.two_pow_pos _)
  have l2 : 2 ^ 53 * 2 ^ 1074 < b64.tails * 2 ^ (b64.exps - 2) := by
    rw [tails_b64, show b64.exps - 2 = 2046 by decide, ← Nat.pow_add, ← Nat.pow_add]
    exact Nat.pow_lt_pow_right (by decide) (by decide)
  exact Nat.lt_irrefl _ (Nat.lt_trans l2 (by rw [q]; exact l1))
theorem own_round {s : Bool} {c : Nat} {q e0 a : Int} {k : Nat} (ha : a.natAbs < 2 ^ 53) (hk : k ≤ 1074) (h0 : e0 ≤ -1074) (h0e : e0 ≤ q)
    (h : signed s (inUnits c q e0) * ((2 ^ k : Nat) : Int) = a * ((2 ^ (-e0).toNat : Nat) : Int)) :
    (∃ s' c' q', round b64 (.fin s c q) = .fin s' c' q') ∧ zval b64 (round b64 (.fin s c q)) * ((2 ^ k : Nat) : Int) = a * (one64 : Int) := by
  have hq : b64.qmin = -1074 := qmin_b64
  obtain ⟨V, hV, hVn, hz⟩ := own_datum a (1074 - k) ha (by omega)
  have hs : zval b64 V * ((2 ^ (b64.qmin - e0).toNat : Nat) : Int) = signed s (inUnits c q e0) := by
    apply Int.eq_of_mul_eq_mul_right (a := ((2 ^ k : Nat) : Int)) (Int.ne_of_gt (own_pp k))
    rw [h, hz, hq, Int.mul_assoc, Int.mul_assoc, ← Int.natCast_mul, ← Int.natCast_mul, ← Nat.pow_add, ← Nat.pow_add]
    rw [show 1074 - k + ((-1074 - e0).toNat + k) = (-e0).toNat by omega]
  have le := zval_round_le good_b64 (s := s) (c := c) (q := q) (e0 := e0) hV hVn (by rw [hq]; exact h0) h0e (by rw [hs]; exact Int.le_refl _)
  have ge := zval_round_ge good_b64 (s := s) (c := c) (q := q) (e0 := e0) hV hVn (by rw [hq]; exact h0) h0e (by rw [hs]; exact Int.le_refl _)
  have e : zval b64 (round b64 (.fin s c q)) = a * ((2 ^ (1074 - k) : Nat) : Int) := by rw [← hz]; exact Int.le_antisymm le ge
  refine ⟨?_, by rw [e, Int.mul_assoc, ← Int.natCast_mul, ← Nat.pow_add, show 1074 - k + k = 1074 by omega]; rfl⟩
  cases hc : round b64 (.fin s c q) with
  | nan => exact absurd hc (roundRatio_ne_nan _ _ _ _ _)
  | fin s' c' q' => exact ⟨_, _, _, rfl⟩
  | inf t => rw [hc] at e; exact absurd e (own_notinf ha (by omega))
theorem Dy.add {x y : UInt64} {a b : Int} {k : Nat} (hx : Dy x a k) (hy : Dy y b k) (h : (a + b).natAbs < 2 ^ 53) (hk : k ≤ 1074) : Dy (FP.dadd x y) (a + b) k := by
  obtain ⟨⟨s, c, q, ex⟩, zx⟩ := hx
  obtain ⟨⟨t, d, r, ey⟩, zy⟩ := hy
  have fx := val64_fits x
  have fy := val64_fits y
  unfold own_zv at zx zy
  rw [ex] at fx zx
  rw [ey] at fy zy
  obtain ⟨sg, n, e, hs, he, hv⟩ := sum_units fx fy
  have hd : val64 (FP.dadd x y) = round b64 (.fin sg n e) := by rw [show FP.dadd x y = Core.dadd x y from rfl, val64_dadd, ex, ey, hs]
  obtain ⟨⟨s', c', q', h1⟩, h2⟩ := own_round (s := sg) (c := n) (q := e) (e0 := b64.qmin) (a := a + b) (k := k) h hk (Int.le_of_eq qmin_b64) he (by rw [hv, Int.add_mul, zx, zy, ← Int.add_mul, pow_qmin64])
  exact ⟨⟨s', c', q', hd.trans h1⟩, by unfold own_zv; rw [hd]; exact h2⟩
theorem Dy.sub {x y : UInt64} {a b : Int} {k : Nat} (hx : Dy x a k) (hy : Dy y b k) (h : (a - b).natAbs < 2 ^ 53) (hk : k ≤ 1074) : Dy (FP.dsub x y) (a - b) k := by
  obtain ⟨⟨s, c, q, ex⟩, zx⟩ := hx
  obtain ⟨⟨t, d, r, ey⟩, zy⟩ := hy
  have fx := val64_fits x
  have fy := negate_fits (val64_fits y)
  have zn := zval_negate b64 (val64 y)
  unfold own_zv at zx zy
  rw [ex] at fx zx
  rw [ey] at fy zy zn
  have fy' : Core.fits b64 (.fin (!t) d r) := fy
  have zn' : zval b64 (.fin (!t) d r) = -zval b64 (.fin t d r) := zn
  obtain ⟨sg, n, e, hs, he, hv⟩ := sum_units fx fy'
  have hd : val64 (FP.dsub x y) = round b64 (.fin sg n e) := by
    rw [show FP.dsub x y = Core.dsub x y from rfl, val64_dsub, ex, ey]
    exact congrArg (round b64) hs
  obtain ⟨⟨s', c', q', h1⟩, h2⟩ := own_round (s := sg) (c := n) (q := e) (e0 := b64.qmin) (a := a - b) (k := k) h hk (Int.le_of_eq qmin_b64) he (by rw [hv, zn', Int.add_mul, Int.neg_mul, zx, zy, ← Int.sub_eq_add_neg, ← Int.sub_mul, pow_qmin64])
  exact ⟨⟨s', c', q', hd.trans h1⟩, by unfold own_zv; rw [hd]; exact h2⟩
theorem own_two_qmin : 2 ^ (-(2 * b64.qmin)).toNat = one64 * one64 := by
  rw [show (-(2 * b64.qmin)).toNat = (-b64.qmin).toNat + (-b64.qmin).toNat by rw [qmin_b64]; decide, Nat.pow_add, pow_qmin64]
theorem Dy.mul {x y : UInt64} {a b : Int} {k j : Nat} (hx : Dy x a k) (hy : Dy y b j) (h : (a * b).natAbs < 2 ^ 53) (hk : k + j ≤ 1074) : Dy (FP.dmul x y) (a * b) (k + j) := by
  obtain ⟨⟨s, c, q, ex⟩, zx⟩ := hx
  obtain ⟨⟨t, d, r, ey⟩, zy⟩ := hy
  have fx := val64_fits x
  have fy := val64_fits y
  unfold own_zv at zx zy
  rw [ex] at fx zx
  rw [ey] at fy zy
  obtain ⟨hp, he, hv⟩ := product_units fx fy
  have hd : val64 (FP.dmul x y) = round b64 (.fin (s != t) (c * d) (q + r)) := by rw [show FP.dmul x y = Core.dmul x y from rfl, val64_dmul, ex, ey, hp]
  have hg : signed (s != t) (inUnits (c * d) (q + r) (2 * b64.qmin)) = zval b64 (.fin s c q) * zval b64 (.fin t d r) := by rw [hv, signed_xor]; rfl
  obtain ⟨⟨s', c', q', h1⟩, h2⟩ := own_round (s := s != t) (c := c * d) (q := q + r) (e0 := 2 * b64.qmin) (a := a * b) (k := k + j) h hk (by rw [qmin_b64]; decide) he (by
    rw [hg, own_two_qmin, Nat.pow_add, Int.natCast_mul, Int.natCast_mul]
    rw [show ∀ A B P Q : Int, A * B * (P * Q) = (A * P) * (B * Q) from fun A B P Q => by ac_rfl, zx, zy]
    exact (fun A B P : Int => by ac_rfl : ∀ A B P : Int, A * P * (B * P) = A * B * (P * P)) _ _ _)
  exact ⟨⟨s', c', q', hd.trans h1⟩, by unfold own_zv; rw [hd]; exact h2⟩
theorem own_units {c : Nat} {q r e0 : Int} (hq : b64.qmin ≤ q) (hr : b64.qmin ≤ r) (h1 : e0 ≤ q - r) (h2 : e0 ≤ b64.qmin) :
    inUnits c (q - r) e0 * 2 ^ (r - b64.qmin).toNat = inUnits c q b64.qmin * one64 * 2 ^ (b64.qmin - e0).toNat := by
  unfold inUnits one64
  rw [qmin_b64] at *
  rw [Nat.mul_assoc, ← Nat.pow_add, Nat.mul_assoc, Nat.mul_assoc, ← Nat.pow_add, ← Nat.pow_add]
  rw [show (q - r - e0).toNat + (r - -1074).toNat = (q - -1074).toNat + (1074 + (-1074 - e0).toNat) by omega]
theorem own_ddiv {x y : UInt64} {s t : Bool} {c d : Nat} {q r : Int} (ex : val64 x = .fin s c q) (ey : val64 y = .fin t d r) (hd : d ≠ 0) : val64 (FP.ddiv x y) = roundRatio b64 (s != t) c d (q - r) := by
  rw [show FP.ddiv x y = Core.ddiv x y from rfl, val64_ddiv, ex, ey]
  simp [quotient, hd]
theorem own_div_le {x y : UInt64} {s t : Bool} {c d : Nat} {q r : Int} (ex : val64 x = .fin s c q) (ey : val64 y = .fin t d r) (hd : d ≠ 0) {V : Datum} (hV : Core.fits b64 V) (hn : V ≠ .nan)
    (h : zmag b64 (val64 x) * one64 ≤ zmag b64 V * zmag b64 (val64 y)) : zmag b64 (val64 (FP.ddiv x y)) ≤ zmag b64 V := by
  have fx := val64_fits x
  have fy := val64_fits y
  rw [ex] at fx h
  rw [ey] at fy h
  rw [own_ddiv ex ey hd]
  refine zmag_roundRatio_le good_b64 (e0 := min (q - r) b64.qmin) (Nat.pos_of_ne_zero hd) hV hn (Int.min_le_right _ _) (Int.min_le_left _ _) ?_
  refine Nat.le_of_mul_le_mul_right (c := 2 ^ (r - b64.qmin).toNat) ?_ (Nat.two_pow_pos _)
  rw [own_units fx.2.1 fy.2.1 (Int.min_le_left _ _) (Int.min_le_right _ _)]
  refine Nat.le_trans (Nat.mul_le_mul_right _ h) (Nat.le_of_eq ?_)
  show zmag b64 V * inUnits d r b64.qmin * _ = _
  unfold inUnits
  exact (fun A B P Q : Nat => by ac_rfl : ∀ A B P Q : Nat, A * (B * P) * Q = A * Q * B * P) _ _ _ _
theorem own_div_ge {x y : UInt64} {s t : Bool} {c d : Nat} {q r : Int} (ex : val64 x = .fin s c q) (ey : val64 y = .fin t d r) (hd : d ≠ 0) {V : Datum} (hV : Core.fits b64 V)
    (h : zmag b64 V * zmag b64 (val64 y) ≤ zmag b64 (val64 x) * one64) : zmag b64 V ≤ zmag b64 (val64 (FP.ddiv x y)) := by
  have fx := val64_fits x
  have fy := val64_fits y
  rw [ex] at fx h
  rw [ey] at fy h
  rw [own_ddiv ex ey hd]
  refine zmag_roundRatio_ge good_b64 (e0 := min (q - r) b64.qmin) (Nat.pos_of_ne_zero hd) hV (Int.min_le_right _ _) (Int.min_le_left _ _) ?_
  refine Nat.le_of_mul_le_mul_right (c := 2 ^ (r - b64.qmin).toNat) ?_ (Nat.two_pow_pos _)
  rw [own_units fx.2.1 fy.2.1 (Int.min_le_left _ _) (Int.min_le_right _ _)]
  refine Nat.le_trans (Nat.le_of_eq ?_) (Nat.mul_le_mul_right _ h)
  show _ = zmag b64 V * inUnits d r b64.qmin * _
  unfold inUnits
  exact (fun A B P Q : Nat => by ac_rfl : ∀ A B P Q : Nat, A * Q * B * P = A * (B * P) * Q) _ _ _ _
theorem own_zval_abs (d : Datum) : (zval b64 d).natAbs = zmag b64 d := by unfold zval; exact natAbs_signed _ _
theorem Dy.div {x y : UInt64} {a b m : Int} {k j n : Nat} (hx : Dy x a k) (hy : Dy y b j) (hb : b ≠ 0) (hm : m.natAbs < 2 ^ 53) (hn : n ≤ 1074)
    (h : a * ((2 ^ j : Nat) : Int) * ((2 ^ n : Nat) : Int) = m * b * ((2 ^ k : Nat) : Int)) : Dy (FP.ddiv x y) m n := by
  obtain ⟨⟨s, c, q, ex⟩, zx⟩ := hx
  obtain ⟨⟨t, d, r, ey⟩, zy⟩ := hy
  unfold own_zv at zx zy
  obtain ⟨V, hV, hVn, hz⟩ := own_datum m (1074 - n) hm (by omega)
  have hzn : zval b64 V * ((2 ^ n : Nat) : Int) = m * (one64 : Int) := by rw [hz, Int.mul_assoc, ← Int.natCast_mul, ← Nat.pow_add, show 1074 - n + n = 1074 by omega]; rfl
  have hyn : zval b64 (val64 y) ≠ 0 := fun e => by
    rw [e, Int.zero_mul] at zy
    rcases Int.mul_eq_zero.mp zy.symm with q | q
    · exact hb q
    · exact absurd q (Int.ne_of_gt own_up)
  have hd : d ≠ 0 := fun e => by
    subst e
    rw [ey] at hyn
    exact hyn (by show signed t (inUnits 0 r b64.qmin) = 0; unfold inUnits; rw [Nat.zero_mul, signed_zero])
  have key : zval b64 V * zval b64 (val64 y) = zval b64 (val64 x) * (one64 : Int) := by
    have e1 : (zval b64 V * zval b64 (val64 y)) * (((2 ^ n : Nat) : Int) * ((2 ^ j : Nat) : Int) * ((2 ^ k : Nat) : Int)) = (zval b64 (val64 x) * (one64 : Int)) * (((2 ^ n : Nat) : Int) * ((2 ^ j : Nat) : Int) * ((2 ^ k : Nat) : Int)) := by
      rw [(fun A B P Q R : Int => by ac_rfl : ∀ A B P Q R : Int, A * B * (P * Q * R) = (A * P) * (B * Q) * R), hzn, zy,
        (fun A B P Q R : Int => by ac_rfl : ∀ A B P Q R : Int, A * B * (P * Q * R) = (A * R) * (B * P * Q)) (zval b64 (val64 x)), zx,
        (fun M B U K : Int => by ac_rfl : ∀ M B U K : Int, M * U * (B * U) * K = (M * B * K) * (U * U)), ← h]
      exact (fun A U P Q : Int => by ac_rfl : ∀ A U P Q : Int, A * Q * P * (U * U) = A * U * (U * P * Q)) _ _ _ _
    exact Int.eq_of_mul_eq_mul_right (Int.ne_of_gt (Int.mul_pos (Int.mul_pos (own_pp n) (own_pp j)) (own_pp k))) e1
  have kn : zmag b64 V * zmag b64 (val64 y) = zmag b64 (val64 x) * one64 := by
    have q := congrArg Int.natAbs key
    rw [Int.natAbs_mul, Int.natAbs_mul, own_zval_abs, own_zval_abs, own_zval_abs, Int.natAbs_natCast] at q
    exact q
  have le := own_div_le ex ey hd hV hVn (Nat.le_of_eq kn.symm)
  have ge := own_div_ge ex ey hd hV (Nat.le_of_eq kn)
  have em : zmag b64 (val64 (FP.ddiv x y)) = zmag b64 V := Nat.le_antisymm le ge
  have er := own_ddiv ex ey hd
  have es : sgn (val64 (FP.ddiv x y)) = (s != t) := by rw [er, sgn_roundRatio]
  have prod : zval b64 (val64 (FP.ddiv x y)) * zval b64 (val64 y) = zval b64 (val64 x) * (one64 : Int) := by
    unfold zval
    rw [es, em, ← signed_xor, kn, signed_mul, ex, ey]
    show signed ((s != t) != t) _ * _ = signed s _ * _
    rw [show ((s != t) != t) = s by cases s <;> cases t <;> rfl]
  have eq : zval b64 (val64 (FP.ddiv x y)) = zval b64 V := Int.eq_of_mul_eq_mul_right hyn (prod.trans key.symm)
  refine ⟨?_, by unfold own_zv; rw [eq]; exact hzn⟩
  cases hc : val64 (FP.ddiv x y) with
  | nan => exact absurd (er.symm.trans hc) (roundRatio_ne_nan _ _ _ _ _)
  | fin s' c' q' => exact ⟨_, _, _, hc⟩
  | inf t => rw [hc, hz] at eq; exact absurd eq (own_notinf hm (by omega))
theorem own_ofInt {x : UInt64} {i : Int} (hx : val64 x = round b64 (ofInt i)) (h : i.natAbs < 2 ^ 53) : Dy x i 0 := by
  obtain ⟨⟨s', c', q', h1⟩, h2⟩ := own_round (s := decide (i < 0)) (c := i.natAbs) (q := 0) (e0 := b64.qmin) (a := i) (k := 0) h (by decide) (Int.le_of_eq qmin_b64) (by rw [qmin_b64]; decide) (by
    unfold inUnits
    rw [signed_mul, own_signed_abs, show (0 - b64.qmin) = -b64.qmin by omega, pow_qmin64]; simp)
  exact ⟨⟨s', c', q', hx.trans h1⟩, by unfold own_zv; rw [hx]; exact h2⟩
theorem Dy.i2d (v : Int32) : Dy (FP.i2d v) v.toInt 0 := own_ofInt (val64_i2d v) (by have h1 := Int32.toInt_lt v; have h2 := Int32.le_toInt v; omega)
theorem Dy.l2d {v : Int64} (h : v.toInt.natAbs < 2 ^ 53) : Dy (FP.l2d v) v.toInt 0 := own_ofInt (val64_l2d v) h
theorem Dy.lit {x : UInt64} {a : Int} {k : Nat} (s : Bool) (c : Nat) (q : Int) (h : val64 x = .fin s c q) (h2 : signed s (inUnits c q b64.qmin) * ((2 ^ k : Nat) : Int) = a * (one64 : Int)) : Dy x a k :=
  ⟨⟨s, c, q, h⟩, by unfold own_zv; rw [h]; exact h2⟩
theorem Dy.up {x : UInt64} {a : Int} {k : Nat} (i : Nat) (h : Dy x a k) : Dy x (a * ((2 ^ i : Nat) : Int)) (k + i) :=
  ⟨h.1, by rw [Nat.pow_add, Int.natCast_mul, ← Int.mul_assoc, h.2]; exact (fun A B C : Int => by ac_rfl : ∀ A B C : Int, A * B * C = A * C * B) _ _ _⟩
theorem Dy.cast {x : UInt64} {a b : Int} {k j : Nat} (h : Dy x a k) (e : a = b) (e2 : k = j) : Dy x b j := e ▸ e2 ▸ h
/-- the int that dcmpl and dcmpg push for two numbers -/
def own_ci (a b : Int) : Int32 := if a < b then -1 else if a = b then 0 else 1
theorem own_ci_lt {a b : Int} : own_ci a b < 0 ↔ a < b := by unfold own_ci; split <;> (try split) <;> simp_all <;> omega
theorem own_ci_gt {a b : Int} : 0 < own_ci a b ↔ b < a := by unfold own_ci; split <;> (try split) <;> simp_all <;> omega
theorem own_ci_eq {a b : Int} : own_ci a b = 0 ↔ a = b := by unfold own_ci; split <;> (try split) <;> simp_all <;> omega
theorem own_dcmp {x y : UInt64} (hx : DFin x) (hy : DFin y) : FP.dcmp x y = some (compare (own_zv x) (own_zv y)) := by
  obtain ⟨s, c, q, ex⟩ := hx
  obtain ⟨t, d, r, ey⟩ := hy
  exact order_zval good_b64 (val64_fits x) (val64_fits y) (fun e => by cases ex.symm.trans e) (fun e => by cases ey.symm.trans e)
theorem Dy.dcmp {x y : UInt64} {a b : Int} {k : Nat} (hx : Dy x a k) (hy : Dy y b k) : FP.dcmp x y = some (compare a b) := by
  rw [own_dcmp hx.1 hy.1]
  congr 1
  refine compare_congr ?_ ?_
  · rw [← Int.mul_lt_mul_right (own_pp k), hx.2, hy.2, Int.mul_lt_mul_right own_up]
  · constructor
    · intro e
      have q := hx.2
      rw [e, hy.2] at q
      exact (Int.eq_of_mul_eq_mul_right (Int.ne_of_gt own_up) q).symm
    · intro e
      have q := hx.2
      rw [e, ← hy.2] at q
      exact Int.eq_of_mul_eq_mul_right (Int.ne_of_gt (own_pp k)) q
theorem Dy.cmp {x y : UInt64} {a b : Int} {k : Nat} (hx : Dy x a k) (hy : Dy y b k) (o : Jvm.ClassFile.CmpOp) : Jvm.Op.cmpValue (FP.dcmp x y) o = own_ci a b := by
  rw [hx.dcmp hy]
  unfold own_ci
  show Jvm.Op.cmpValue (some (compareOfLessAndEq a b)) o = _
  unfold compareOfLessAndEq
  by_cases h1 : a < b
  · simp [h1]; cases o <;> rfl
  · by_cases h2 : a = b
    · simp [h2]; cases o <;> rfl
    · simp [h1, h2]; cases o <;> rfl
end OwnFP
end Jvm.Pilot.@@N@@
namespace Jvm.Pilot.@@N@@
open Jvm Jvm.ClassFile Sem Op Lib Jvm.Free Jvm.Stand Jvm.LawKit Jvm.RoadKit Jvm.Free.Fl Bundle Jvm.Pilot.@@N@@.Jvm.D
/-- the run from A ends, and what it leaves meets F -/
def Rn (p : Program) (e : Env) (below : List Frame) (A : State) (F : Outcome → State → Prop) : Prop := ∃ s₂ o, Steps p.tables e below A s₂ ∧ s₂.status = .running ∧ Ended s₂ below o ∧ F o s₂
theorem Rn.st {p : Program} {e : Env} {below : List Frame} {A B : State} {F : Outcome → State → Prop} (h : ∀ t, Steps p.tables e below B t → Steps p.tables e below A t) (r : Rn p e below B F) : Rn p e below A F := by
  obtain ⟨s₂, o, h1, h2⟩ := r
  exact ⟨s₂, o, h _ h1, h2⟩
theorem Rn.ret {p : Program} {l : Launch} {e : Env} {R : Room} {s : State} {m : MethodId} {args : Array Value} {below : List Frame} {meth : Method} {c : Code} {T : State} {locs : List Loc} {cells slots k n : Nat} {A : State} {h : Heap}
    (X : Stand p l e R s m args below meth c T locs cells slots) (hlk : meth.locks = false) {v : Option Value} (hv : meth.sig.returnType = none → v = none) {Q : Option Value → Heap → List Loc → Prop} (eT : T.heap = h)
    (last : ∀ fs, (∀ (f : JFrame) (acts : List Action), f.method = m → f.locked = none → f.entered = [] → (doReturn e (T.setTop f) acts v).1 = T.setFrames fs) → Steps p.tables e below A (T.setFrames fs))
    (q : Q v h locs) (hc : cells ≤ k) (hs : slots ≤ n) : Rn p e below A (fun o U' => ∃ v L, o = .returned v ∧ Q v U'.heap L ∧ FrameEnd s o U' L k n) := by
  obtain ⟨fs, hr, hrun, hended, hW, hsame⟩ := X.leave hv hlk
  refine ⟨_, _, last fs hr, hrun, hended, _, _, rfl, ?_, ⟨_, rfl⟩, hW, hsame.mono hc hs⟩
  show Q v T.heap locs
  rw [eT]; exact q
theorem own_sta_keep {Z : State} {h h' : Heap} {C n d : String} {w : Value} {ws : List Addr} (F : Sta Z h C n d w) (K : Keep h h' ws) (q : ∀ x ∈ ws, ∀ cell : Cell, h[x]? = some cell → cell.vm.isStatics = false) : Sta Z h' C n d w := by
  obtain ⟨cf, i, k, f, st, cell, h1, h2, h3, h4, h5, h6, h7⟩ := F
  refine ⟨cf, i, k, f, st, cell, h1, h2, h3, h4, K.2.1 st cell h5 (fun hm => ?_), h6, h7⟩
  have e := q st hm cell h5
  rw [h6] at e
  exact absurd e (by decide)
theorem own_wadd (a b : Int32) : (a.toInt64 + b.toInt64).toInt = a.toInt + b.toInt := by
  have h1 := Int32.toInt_lt a; have h2 := Int32.le_toInt a; have h3 := Int32.toInt_lt b; have h4 := Int32.le_toInt b
  rw [Int64.toInt_add, Int32.toInt_toInt64, Int32.toInt_toInt64, Int.bmod_eq_of_le (by omega) (by omega)]
theorem own_mulL {a b : Int64} (h : (a.toInt * b.toInt).natAbs < 9223372036854775808) : (a * b).toInt = a.toInt * b.toInt := by
  rw [Int64.toInt_mul, Int.bmod_eq_of_le (by omega) (by omega)]
theorem own_addL {a b : Int64} (h : (a.toInt + b.toInt).natAbs < 9223372036854775808) : (a + b).toInt = a.toInt + b.toInt := by
  rw [Int64.toInt_add, Int.bmod_eq_of_le (by omega) (by omega)]
theorem own_subI {a b : Int32} (h : -2147483648 ≤ a.toInt - b.toInt ∧ a.toInt - b.toInt < 2147483648) : (a - b).toInt = a.toInt - b.toInt := by
  rw [Int32.toInt_sub, Int.bmod_eq_of_le (by omega) (by omega)]
theorem own_addI {a b : Int32} (h : -2147483648 ≤ a.toInt + b.toInt ∧ a.toInt + b.toInt < 2147483648) : (a + b).toInt = a.toInt + b.toInt := by
  rw [Int32.toInt_add, Int.bmod_eq_of_le (by omega) (by omega)]
theorem own_mulI {a b : Int32} (h : (a.toInt * b.toInt).natAbs < 2147483648) : (a * b).toInt = a.toInt * b.toInt := by
  rw [Int32.toInt_mul, Int.bmod_eq_of_le (by omega) (by omega)]
theorem own_masked {a r m : Int32} {d : Int} (hm : 0 ≤ m.toInt) (hd : 0 < d) {k : Int32} (hk : k.toInt = d) (h : (a &&& m) % k = r) : 0 ≤ r.toInt ∧ r.toInt < d := by
  have q := c_and a m hm
  have t := (c_irem (a &&& m) k d hk).1 q.1
  rw [h] at t
  rw [t]
  exact ⟨Int.emod_nonneg _ (Int.ne_of_gt hd), Int.emod_lt_of_pos _ hd⟩
theorem own_eqI {a b : Int32} (h : a.toInt = b.toInt) : a = b := Int32.toInt_inj.mp h
theorem own_neI {a b : Int32} (h : ¬ a.toInt = b.toInt) : ¬ a = b := fun q => h (congrArg Int32.toInt q)
theorem own_bd {j n : Int32} (h : 0 ≤ j.toInt ∧ j.toInt < n.toInt) : ¬ j < 0 ∧ j < n := by
  constructor
  · rw [Int32.lt_iff_toInt_lt]; have : (0 : Int32).toInt = 0 := by decide
    omega
  · rw [Int32.lt_iff_toInt_lt]; exact h.2
theorem own_getH_nil (dv : Value) (n : Nat) : getH [] [] dv n = dv := by simp [getH]
theorem own_pb {a b : Int} {A B : Nat} (ha : a.natAbs ≤ A) (hb : b.natAbs ≤ B) : (a * b).natAbs ≤ A * B := by rw [Int.natAbs_mul]; exact Nat.mul_le_mul ha hb
theorem own_b (a : Int32) : -2147483648 ≤ a.toInt ∧ a.toInt < 2147483648 := ⟨Int32.le_toInt a, Int32.toInt_lt a⟩
theorem own_wsub (a b : Int32) : (a.toInt64 - b.toInt64).toInt = a.toInt - b.toInt := by
  have h1 := Int32.toInt_lt a; have h2 := Int32.le_toInt a; have h3 := Int32.toInt_lt b; have h4 := Int32.le_toInt b
  rw [Int64.toInt_sub, Int32.toInt_toInt64, Int32.toInt_toInt64, Int.bmod_eq_of_le (by omega) (by omega)]
section RSteps
variable {p : Program} {l : Launch} {e : Env} {R : Room} {s : State} {m : MethodId} {args : Array Value} {below : List Frame} {meth : Method} {c : Code} {T : State} {locs : List Loc} {cells slots : Nat} {G : Outcome → State → Prop} {L L' : Array Slot} {S : List Value} {pc pc' : Nat}
theorem R.iloadN (X : Stand p l e R s m args below meth c T locs cells slots) (hx : p.tables.exec = Jvm.exec) {k : Fin 4} {v : Int32} (hd : decode c.code pc = .ok (.iload_n k, 1)) (hl : L[k.val]? = some (.val (.int v))) (hp : pc + 1 = pc') (r : Rn p e below (T.setTop (mkF m pc' L (.int v :: S))) G) : Rn p e below (T.setTop (mkF m pc L (S))) G := by
  subst hp; exact Rn.st (fun t q => XS.iloadN X.here hx rfl hd hl q) r
theorem R.iload (X : Stand p l e R s m args below meth c T locs cells slots) (hx : p.tables.exec = Jvm.exec) {k : Nat} {v : Int32} (hd : decode c.code pc = .ok (.iload k, 2)) (hl : L[k]? = some (.val (.int v))) (hp : pc + 2 = pc') (r : Rn p e below (T.setTop (mkF m pc' L (.int v :: S))) G) : Rn p e below (T.setTop (mkF m pc L (S))) G := by
  subst hp; exact Rn.st (fun t q => XS.iload X.here hx rfl hd hl q) r
theorem R.istoreN (X : Stand p l e R s m args below meth c T locs cells slots) (hx : p.tables.exec = Jvm.exec) {k : Fin 4} {v : Int32} (hd : decode c.code pc = .ok (.istore_n k, 1)) (hl : storeLocals L k.val (.int v) = some L') (hp : pc + 1 = pc') (r : Rn p e below (T.setTop (mkF m pc' L' (S))) G) : Rn p e below (T.setTop (mkF m pc L (.int v :: S))) G := by
  subst hp; exact Rn.st (fun t q => XS.istoreN X.here hx rfl hd rfl hl q) r
theorem R.istore (X : Stand p l e R s m args below meth c T locs cells slots) (hx : p.tables.exec = Jvm.exec) {k : Nat} {v : Int32} (hd : decode c.code pc = .ok (.istore k, 2)) (hl : storeLocals L k (.int v) = some L') (hp : pc + 2 = pc') (r : Rn p e below (T.setTop (mkF m pc' L' (S))) G) : Rn p e below (T.setTop (mkF m pc L (.int v :: S))) G := by
  subst hp; exact Rn.st (fun t q => XS.istore X.here hx rfl hd rfl hl q) r
theorem R.lloadN (X : Stand p l e R s m args below meth c T locs cells slots) (hx : p.tables.exec = Jvm.exec) {k : Fin 4} {v : Int64} (hd : decode c.code pc = .ok (.lload_n k, 1)) (hl : L[k.val]? = some (.val (.long v))) (hp : pc + 1 = pc') (r : Rn p e below (T.setTop (mkF m pc' L (.long v :: S))) G) : Rn p e below (T.setTop (mkF m pc L (S))) G := by
  subst hp; exact Rn.st (fun t q => XS.lloadN X.here hx rfl hd hl q) r
theorem R.lload (X : Stand p l e R s m args below meth c T locs cells slots) (hx : p.tables.exec = Jvm.exec) {k : Nat} {v : Int64} (hd : decode c.code pc = .ok (.lload k, 2)) (hl : L[k]? = some (.val (.long v))) (hp : pc + 2 = pc') (r : Rn p e below (T.setTop (mkF m pc' L (.long v :: S))) G) : Rn p e below (T.setTop (mkF m pc L (S))) G := by
  subst hp; exact Rn.st (fun t q => XS.lload X.here hx rfl hd hl q) r
theorem R.lstoreN (X : Stand p l e R s m args below meth c T locs cells slots) (hx : p.tables.exec = Jvm.exec) {k : Fin 4} {v : Int64} (hd : decode c.code pc = .ok (.lstore_n k, 1)) (hl : storeLocals L k.val (.long v) = some L') (hp : pc + 1 = pc') (r : Rn p e below (T.setTop (mkF m pc' L' (S))) G) : Rn p e below (T.setTop (mkF m pc L (.long v :: S))) G := by
  subst hp; exact Rn.st (fun t q => XS.lstoreN X.here hx rfl hd rfl hl q) r
theorem R.lstore (X : Stand p l e R s m args below meth c T locs cells slots) (hx : p.tables.exec = Jvm.exec) {k : Nat} {v : Int64} (hd : decode c.code pc = .ok (.lstore k, 2)) (hl : storeLocals L k (.long v) = some L') (hp : pc + 2 = pc') (r : Rn p e below (T.setTop (mkF m pc' L' (S))) G) : Rn p e below (T.setTop (mkF m pc L (.long v :: S))) G := by
  subst hp; exact Rn.st (fun t q => XS.lstore X.here hx rfl hd rfl hl q) r
theorem R.dloadN (X : Stand p l e R s m args below meth c T locs cells slots) (hx : p.tables.exec = Jvm.exec) {k : Fin 4} {v : UInt64} (hd : decode c.code pc = .ok (.dload_n k, 1)) (hl : L[k.val]? = some (.val (.double v))) (hp : pc + 1 = pc') (r : Rn p e below (T.setTop (mkF m pc' L (.double v :: S))) G) : Rn p e below (T.setTop (mkF m pc L (S))) G := by
  subst hp; exact Rn.st (fun t q => XS.dloadN X.here hx rfl hd hl q) r
theorem R.dload (X : Stand p l e R s m args below meth c T locs cells slots) (hx : p.tables.exec = Jvm.exec) {k : Nat} {v : UInt64} (hd : decode c.code pc = .ok (.dload k, 2)) (hl : L[k]? = some (.val (.double v))) (hp : pc + 2 = pc') (r : Rn p e below (T.setTop (mkF m pc' L (.double v :: S))) G) : Rn p e below (T.setTop (mkF m pc L (S))) G := by
  subst hp; exact Rn.st (fun t q => XS.dload X.here hx rfl hd hl q) r
theorem R.dstoreN (X : Stand p l e R s m args below meth c T locs cells slots) (hx : p.tables.exec = Jvm.exec) {k : Fin 4} {v : UInt64} (hd : decode c.code pc = .ok (.dstore_n k, 1)) (hl : storeLocals L k.val (.double v) = some L') (hp : pc + 1 = pc') (r : Rn p e below (T.setTop (mkF m pc' L' (S))) G) : Rn p e below (T.setTop (mkF m pc L (.double v :: S))) G := by
  subst hp; exact Rn.st (fun t q => XS.dstoreN X.here hx rfl hd rfl hl q) r
theorem R.dstore (X : Stand p l e R s m args below meth c T locs cells slots) (hx : p.tables.exec = Jvm.exec) {k : Nat} {v : UInt64} (hd : decode c.code pc = .ok (.dstore k, 2)) (hl : storeLocals L k (.double v) = some L') (hp : pc + 2 = pc') (r : Rn p e below (T.setTop (mkF m pc' L' (S))) G) : Rn p e below (T.setTop (mkF m pc L (.double v :: S))) G := by
  subst hp; exact Rn.st (fun t q => XS.dstore X.here hx rfl hd rfl hl q) r
theorem R.aloadN (X : Stand p l e R s m args below meth c T locs cells slots) (hx : p.tables.exec = Jvm.exec) {k : Fin 4} {v : Value} (hd : decode c.code pc = .ok (.aload_n k, 1)) (hl : L[k.val]? = some (.val v)) (hv : v.isRef = true) (hp : pc + 1 = pc') (r : Rn p e below (T.setTop (mkF m pc' L (v :: S))) G) : Rn p e below (T.setTop (mkF m pc L (S))) G := by
  subst hp; exact Rn.st (fun t q => XS.aloadN X.here hx rfl hd hl hv q) r
theorem R.aload (X : Stand p l e R s m args below meth c T locs cells slots) (hx : p.tables.exec = Jvm.exec) {k : Nat} {v : Value} (hd : decode c.code pc = .ok (.aload k, 2)) (hl : L[k]? = some (.val v)) (hv : v.isRef = true) (hp : pc + 2 = pc') (r : Rn p e below (T.setTop (mkF m pc' L (v :: S))) G) : Rn p e below (T.setTop (mkF m pc L (S))) G := by
  subst hp; exact Rn.st (fun t q => XS.aload X.here hx rfl hd hl hv q) r
theorem R.astoreN (X : Stand p l e R s m args below meth c T locs cells slots) (hx : p.tables.exec = Jvm.exec) {k : Fin 4} {v : Value} (hd : decode c.code pc = .ok (.astore_n k, 1)) (hv : v.isRef = true) (hl : storeLocals L k.val v = some L') (hp : pc + 1 = pc') (r : Rn p e below (T.setTop (mkF m pc' L' (S))) G) : Rn p e below (T.setTop (mkF m pc L (v :: S))) G := by
  subst hp; exact Rn.st (fun t q => XS.astoreN X.here hx rfl hd rfl hv hl q) r
theorem R.astore (X : Stand p l e R s m args below meth c T locs cells slots) (hx : p.tables.exec = Jvm.exec) {k : Nat} {v : Value} (hd : decode c.code pc = .ok (.astore k, 2)) (hv : v.isRef = true) (hl : storeLocals L k v = some L') (hp : pc + 2 = pc') (r : Rn p e below (T.setTop (mkF m pc' L' (S))) G) : Rn p e below (T.setTop (mkF m pc L (v :: S))) G := by
  subst hp; exact Rn.st (fun t q => XS.astore X.here hx rfl hd rfl hv hl q) r
theorem R.iconst (X : Stand p l e R s m args below meth c T locs cells slots) (hx : p.tables.exec = Jvm.exec) {i : Int} {v : Int32} (hd : decode c.code pc = .ok (.iconst i, 1)) (hv : Int32.ofInt i = v) (hp : pc + 1 = pc') (r : Rn p e below (T.setTop (mkF m pc' L (.int v :: S))) G) : Rn p e below (T.setTop (mkF m pc L (S))) G := by
  subst hp hv; exact Rn.st (fun t q => XS.iconst X.here hx rfl hd q) r
theorem R.bipush (X : Stand p l e R s m args below meth c T locs cells slots) (hx : p.tables.exec = Jvm.exec) {i : Int} {v : Int32} (hd : decode c.code pc = .ok (.bipush i, 2)) (hv : (Int8.ofInt i).toInt32 = v) (hp : pc + 2 = pc') (r : Rn p e below (T.setTop (mkF m pc' L (.int v :: S))) G) : Rn p e below (T.setTop (mkF m pc L (S))) G := by
  subst hp hv; exact Rn.st (fun t q => XS.bipush X.here hx rfl hd q) r
theorem R.sipush (X : Stand p l e R s m args below meth c T locs cells slots) (hx : p.tables.exec = Jvm.exec) {i : Int} {v : Int32} (hd : decode c.code pc = .ok (.sipush i, 3)) (hv : (Int16.ofInt i).toInt32 = v) (hp : pc + 3 = pc') (r : Rn p e below (T.setTop (mkF m pc' L (.int v :: S))) G) : Rn p e below (T.setTop (mkF m pc L (S))) G := by
  subst hp hv; exact Rn.st (fun t q => XS.sipush X.here hx rfl hd q) r
theorem R.lconst (X : Stand p l e R s m args below meth c T locs cells slots) (hx : p.tables.exec = Jvm.exec) {i : Fin 2} {v : Int64} (hd : decode c.code pc = .ok (.lconst i, 1)) (hv : Int64.ofNat i = v) (hp : pc + 1 = pc') (r : Rn p e below (T.setTop (mkF m pc' L (.long v :: S))) G) : Rn p e below (T.setTop (mkF m pc L (S))) G := by
  subst hp hv; exact Rn.st (fun t q => XS.lconst X.here hx rfl hd q) r
theorem R.dconst0 (X : Stand p l e R s m args below meth c T locs cells slots) (hx : p.tables.exec = Jvm.exec)  (hd : decode c.code pc = .ok (.dconst 0, 1)) (hp : pc + 1 = pc') (r : Rn p e below (T.setTop (mkF m pc' L (.double FP.dconst0 :: S))) G) : Rn p e below (T.setTop (mkF m pc L (S))) G := by
  subst hp; exact Rn.st (fun t q => XS.dconst0 X.here hx rfl hd rfl q) r
theorem R.dconst1 (X : Stand p l e R s m args below meth c T locs cells slots) (hx : p.tables.exec = Jvm.exec)  (hd : decode c.code pc = .ok (.dconst 1, 1)) (hp : pc + 1 = pc') (r : Rn p e below (T.setTop (mkF m pc' L (.double FP.dconst1 :: S))) G) : Rn p e below (T.setTop (mkF m pc L (S))) G := by
  subst hp; exact Rn.st (fun t q => XS.dconst1 X.here hx rfl hd rfl q) r
theorem R.aconstNull (X : Stand p l e R s m args below meth c T locs cells slots) (hx : p.tables.exec = Jvm.exec)  (hd : decode c.code pc = .ok (.aconst_null, 1)) (hp : pc + 1 = pc') (r : Rn p e below (T.setTop (mkF m pc' L (.null :: S))) G) : Rn p e below (T.setTop (mkF m pc L (S))) G := by
  subst hp; exact Rn.st (fun t q => XS.aconstNull X.here hx rfl hd q) r
theorem R.iadd (X : Stand p l e R s m args below meth c T locs cells slots) (hx : p.tables.exec = Jvm.exec) {x y v : Int32} (hd : decode c.code pc = .ok (.iadd, 1)) (hv : x + y = v) (hp : pc + 1 = pc') (r : Rn p e below (T.setTop (mkF m pc' L (.int v :: S))) G) : Rn p e below (T.setTop (mkF m pc L (.int y :: .int x :: S))) G := by
  subst hp hv; exact Rn.st (fun t q => XS.iadd X.here hx rfl hd rfl q) r
theorem R.ladd (X : Stand p l e R s m args below meth c T locs cells slots) (hx : p.tables.exec = Jvm.exec) {x y v : Int64} (hd : decode c.code pc = .ok (.ladd, 1)) (hv : x + y = v) (hp : pc + 1 = pc') (r : Rn p e below (T.setTop (mkF m pc' L (.long v :: S))) G) : Rn p e below (T.setTop (mkF m pc L (.long y :: .long x :: S))) G := by
  subst hp hv; exact Rn.st (fun t q => XS.ladd X.here hx rfl hd rfl q) r
theorem R.isub (X : Stand p l e R s m args below meth c T locs cells slots) (hx : p.tables.exec = Jvm.exec) {x y v : Int32} (hd : decode c.code pc = .ok (.isub, 1)) (hv : x - y = v) (hp : pc + 1 = pc') (r : Rn p e below (T.setTop (mkF m pc' L (.int v :: S))) G) : Rn p e below (T.setTop (mkF m pc L (.int y :: .int x :: S))) G := by
  subst hp hv; exact Rn.st (fun t q => XS.isub X.here hx rfl hd rfl q) r
theorem R.lsub (X : Stand p l e R s m args below meth c T locs cells slots) (hx : p.tables.exec = Jvm.exec) {x y v : Int64} (hd : decode c.code pc = .ok (.lsub, 1)) (hv : x - y = v) (hp : pc + 1 = pc') (r : Rn p e below (T.setTop (mkF m pc' L (.long v :: S))) G) : Rn p e below (T.setTop (mkF m pc L (.long y :: .long x :: S))) G := by
  subst hp hv; exact Rn.st (fun t q => XS.lsub X.here hx rfl hd rfl q) r
theorem R.imul (X : Stand p l e R s m args below meth c T locs cells slots) (hx : p.tables.exec = Jvm.exec) {x y v : Int32} (hd : decode c.code pc = .ok (.imul, 1)) (hv : x * y = v) (hp : pc + 1 = pc') (r : Rn p e below (T.setTop (mkF m pc' L (.int v :: S))) G) : Rn p e below (T.setTop (mkF m pc L (.int y :: .int x :: S))) G := by
  subst hp hv; exact Rn.st (fun t q => XS.imul X.here hx rfl hd rfl q) r
theorem R.lmul (X : Stand p l e R s m args below meth c T locs cells slots) (hx : p.tables.exec = Jvm.exec) {x y v : Int64} (hd : decode c.code pc = .ok (.lmul, 1)) (hv : x * y = v) (hp : pc + 1 = pc') (r : Rn p e below (T.setTop (mkF m pc' L (.long v :: S))) G) : Rn p e below (T.setTop (mkF m pc L (.long y :: .long x :: S))) G := by
  subst hp hv; exact Rn.st (fun t q => XS.lmul X.here hx rfl hd rfl q) r
theorem R.iand (X : Stand p l e R s m args below meth c T locs cells slots) (hx : p.tables.exec = Jvm.exec) {x y v : Int32} (hd : decode c.code pc = .ok (.iand, 1)) (hv : x &&& y = v) (hp : pc + 1 = pc') (r : Rn p e below (T.setTop (mkF m pc' L (.int v :: S))) G) : Rn p e below (T.setTop (mkF m pc L (.int y :: .int x :: S))) G := by
  subst hp hv; exact Rn.st (fun t q => XS.iand X.here hx rfl hd rfl q) r
theorem R.land (X : Stand p l e R s m args below meth c T locs cells slots) (hx : p.tables.exec = Jvm.exec) {x y v : Int64} (hd : decode c.code pc = .ok (.land, 1)) (hv : x &&& y = v) (hp : pc + 1 = pc') (r : Rn p e below (T.setTop (mkF m pc' L (.long v :: S))) G) : Rn p e below (T.setTop (mkF m pc L (.long y :: .long x :: S))) G := by
  subst hp hv; exact Rn.st (fun t q => XS.land X.here hx rfl hd rfl q) r
theorem R.ior (X : Stand p l e R s m args below meth c T locs cells slots) (hx : p.tables.exec = Jvm.exec) {x y v : Int32} (hd : decode c.code pc = .ok (.ior, 1)) (hv : x ||| y = v) (hp : pc + 1 = pc') (r : Rn p e below (T.setTop (mkF m pc' L (.int v :: S))) G) : Rn p e below (T.setTop (mkF m pc L (.int y :: .int x :: S))) G := by
  subst hp hv; exact Rn.st (fun t q => XS.ior X.here hx rfl hd rfl q) r
theorem R.lor (X : Stand p l e R s m args below meth c T locs cells slots) (hx : p.tables.exec = Jvm.exec) {x y v : Int64} (hd : decode c.code pc = .ok (.lor, 1)) (hv : x ||| y = v) (hp : pc + 1 = pc') (r : Rn p e below (T.setTop (mkF m pc' L (.long v :: S))) G) : Rn p e below (T.setTop (mkF m pc L (.long y :: .long x :: S))) G := by
  subst hp hv; exact Rn.st (fun t q => XS.lor X.here hx rfl hd rfl q) r
theorem R.ixor (X : Stand p l e R s m args below meth c T locs cells slots) (hx : p.tables.exec = Jvm.exec) {x y v : Int32} (hd : decode c.code pc = .ok (.ixor, 1)) (hv : x ^^^ y = v) (hp : pc + 1 = pc') (r : Rn p e below (T.setTop (mkF m pc' L (.int v :: S))) G) : Rn p e below (T.setTop (mkF m pc L (.int y :: .int x :: S))) G := by
  subst hp hv; exact Rn.st (fun t q => XS.ixor X.here hx rfl hd rfl q) r
theorem R.lxor (X : Stand p l e R s m args below meth c T locs cells slots) (hx : p.tables.exec = Jvm.exec) {x y v : Int64} (hd : decode c.code pc = .ok (.lxor, 1)) (hv : x ^^^ y = v) (hp : pc + 1 = pc') (r : Rn p e below (T.setTop (mkF m pc' L (.long v :: S))) G) : Rn p e below (T.setTop (mkF m pc L (.long y :: .long x :: S))) G := by
  subst hp hv; exact Rn.st (fun t q => XS.lxor X.here hx rfl hd rfl q) r
theorem R.ineg (X : Stand p l e R s m args below meth c T locs cells slots) (hx : p.tables.exec = Jvm.exec) {x : Int32} (hd : decode c.code pc = .ok (.ineg, 1)) (hp : pc + 1 = pc') (r : Rn p e below (T.setTop (mkF m pc' L (.int (-x) :: S))) G) : Rn p e below (T.setTop (mkF m pc L (.int x :: S))) G := by
  subst hp; exact Rn.st (fun t q => XS.ineg X.here hx rfl hd rfl q) r
theorem R.lneg (X : Stand p l e R s m args below meth c T locs cells slots) (hx : p.tables.exec = Jvm.exec) {x : Int64} (hd : decode c.code pc = .ok (.lneg, 1)) (hp : pc + 1 = pc') (r : Rn p e below (T.setTop (mkF m pc' L (.long (-x) :: S))) G) : Rn p e below (T.setTop (mkF m pc L (.long x :: S))) G := by
  subst hp; exact Rn.st (fun t q => XS.lneg X.here hx rfl hd rfl q) r
theorem R.i2l (X : Stand p l e R s m args below meth c T locs cells slots) (hx : p.tables.exec = Jvm.exec) {x : Int32} (hd : decode c.code pc = .ok (.i2l, 1)) (hp : pc + 1 = pc') (r : Rn p e below (T.setTop (mkF m pc' L (.long (x.toInt64) :: S))) G) : Rn p e below (T.setTop (mkF m pc L (.int x :: S))) G := by
  subst hp; exact Rn.st (fun t q => XS.i2l X.here hx rfl hd rfl q) r
theorem R.l2i (X : Stand p l e R s m args below meth c T locs cells slots) (hx : p.tables.exec = Jvm.exec) {x : Int64} (hd : decode c.code pc = .ok (.l2i, 1)) (hp : pc + 1 = pc') (r : Rn p e below (T.setTop (mkF m pc' L (.int (x.toInt32) :: S))) G) : Rn p e below (T.setTop (mkF m pc L (.long x :: S))) G := by
  subst hp; exact Rn.st (fun t q => XS.l2i X.here hx rfl hd rfl q) r
theorem R.i2b (X : Stand p l e R s m args below meth c T locs cells slots) (hx : p.tables.exec = Jvm.exec) {x : Int32} (hd : decode c.code pc = .ok (.i2b, 1)) (hp : pc + 1 = pc') (r : Rn p e below (T.setTop (mkF m pc' L (.int (x.toInt8.toInt32) :: S))) G) : Rn p e below (T.setTop (mkF m pc L (.int x :: S))) G := by
  subst hp; exact Rn.st (fun t q => XS.i2b X.here hx rfl hd rfl q) r
theorem R.i2s (X : Stand p l e R s m args below meth c T locs cells slots) (hx : p.tables.exec = Jvm.exec) {x : Int32} (hd : decode c.code pc = .ok (.i2s, 1)) (hp : pc + 1 = pc') (r : Rn p e below (T.setTop (mkF m pc' L (.int (x.toInt16.toInt32) :: S))) G) : Rn p e below (T.setTop (mkF m pc L (.int x :: S))) G := by
  subst hp; exact Rn.st (fun t q => XS.i2s X.here hx rfl hd rfl q) r
theorem R.i2c (X : Stand p l e R s m args below meth c T locs cells slots) (hx : p.tables.exec = Jvm.exec) {x : Int32} (hd : decode c.code pc = .ok (.i2c, 1)) (hp : pc + 1 = pc') (r : Rn p e below (T.setTop (mkF m pc' L (.int (x.toUInt32.toUInt16.toUInt32.toInt32) :: S))) G) : Rn p e below (T.setTop (mkF m pc L (.int x :: S))) G := by
  subst hp; exact Rn.st (fun t q => XS.i2c X.here hx rfl hd rfl q) r
theorem R.ishl (X : Stand p l e R s m args below meth c T locs cells slots) (hx : p.tables.exec = Jvm.exec) {x : Int32} {y : Int32} (hd : decode c.code pc = .ok (.ishl, 1)) (hp : pc + 1 = pc') (r : Rn p e below (T.setTop (mkF m pc' L (.int (x <<< (y &&& 31)) :: S))) G) : Rn p e below (T.setTop (mkF m pc L (.int y :: .int x :: S))) G := by
  subst hp; exact Rn.st (fun t q => XS.ishl X.here hx rfl hd rfl q) r
theorem R.ishr (X : Stand p l e R s m args below meth c T locs cells slots) (hx : p.tables.exec = Jvm.exec) {x : Int32} {y : Int32} (hd : decode c.code pc = .ok (.ishr, 1)) (hp : pc + 1 = pc') (r : Rn p e below (T.setTop (mkF m pc' L (.int (x >>> (y &&& 31)) :: S))) G) : Rn p e below (T.setTop (mkF m pc L (.int y :: .int x :: S))) G := by
  subst hp; exact Rn.st (fun t q => XS.ishr X.here hx rfl hd rfl q) r
theorem R.iushr (X : Stand p l e R s m args below meth c T locs cells slots) (hx : p.tables.exec = Jvm.exec) {x : Int32} {y : Int32} (hd : decode c.code pc = .ok (.iushr, 1)) (hp : pc + 1 = pc') (r : Rn p e below (T.setTop (mkF m pc' L (.int ((x.toUInt32 >>> (y &&& 31).toUInt32).toInt32) :: S))) G) : Rn p e below (T.setTop (mkF m pc L (.int y :: .int x :: S))) G := by
  subst hp; exact Rn.st (fun t q => XS.iushr X.here hx rfl hd rfl q) r
theorem R.lshl (X : Stand p l e R s m args below meth c T locs cells slots) (hx : p.tables.exec = Jvm.exec) {x : Int64} {y : Int32} (hd : decode c.code pc = .ok (.lshl, 1)) (hp : pc + 1 = pc') (r : Rn p e below (T.setTop (mkF m pc' L (.long (x <<< (y &&& 63).toInt64) :: S))) G) : Rn p e below (T.setTop (mkF m pc L (.int y :: .long x :: S))) G := by
  subst hp; exact Rn.st (fun t q => XS.lshl X.here hx rfl hd rfl q) r
theorem R.lshr (X : Stand p l e R s m args below meth c T locs cells slots) (hx : p.tables.exec = Jvm.exec) {x : Int64} {y : Int32} (hd : decode c.code pc = .ok (.lshr, 1)) (hp : pc + 1 = pc') (r : Rn p e below (T.setTop (mkF m pc' L (.long (x >>> (y &&& 63).toInt64) :: S))) G) : Rn p e below (T.setTop (mkF m pc L (.int y :: .long x :: S))) G := by
  subst hp; exact Rn.st (fun t q => XS.lshr X.here hx rfl hd rfl q) r
theorem R.lcmp (X : Stand p l e R s m args below meth c T locs cells slots) (hx : p.tables.exec = Jvm.exec) {x y : Int64} (hd : decode c.code pc = .ok (.lcmp, 1)) (hp : pc + 1 = pc') (r : Rn p e below (T.setTop (mkF m pc' L (.int (lcmpW x y) :: S))) G) : Rn p e below (T.setTop (mkF m pc L (.long y :: .long x :: S))) G := by
  subst hp; exact Rn.st (fun t q => XS.lcmp X.here hx rfl hd rfl q) r
theorem R.idiv (X : Stand p l e R s m args below meth c T locs cells slots) (hx : p.tables.exec = Jvm.exec) {x y : Int32} (hd : decode c.code pc = .ok (.idiv, 1)) (hy : y ≠ 0) (hp : pc + 1 = pc') (r : Rn p e below (T.setTop (mkF m pc' L (.int (x / y) :: S))) G) : Rn p e below (T.setTop (mkF m pc L (.int y :: .int x :: S))) G := by
  subst hp; exact Rn.st (fun t q => XS.idiv X.here hx rfl hd rfl hy q) r
theorem R.irem (X : Stand p l e R s m args below meth c T locs cells slots) (hx : p.tables.exec = Jvm.exec) {x y : Int32} (hd : decode c.code pc = .ok (.irem, 1)) (hy : y ≠ 0) (hp : pc + 1 = pc') (r : Rn p e below (T.setTop (mkF m pc' L (.int (x % y) :: S))) G) : Rn p e below (T.setTop (mkF m pc L (.int y :: .int x :: S))) G := by
  subst hp; exact Rn.st (fun t q => iremM X hx rfl hd rfl hy q) r
theorem R.ldiv (X : Stand p l e R s m args below meth c T locs cells slots) (hx : p.tables.exec = Jvm.exec) {x y : Int64} (hd : decode c.code pc = .ok (.ldiv, 1)) (hy : y ≠ 0) (hp : pc + 1 = pc') (r : Rn p e below (T.setTop (mkF m pc' L (.long (x / y) :: S))) G) : Rn p e below (T.setTop (mkF m pc L (.long y :: .long x :: S))) G := by
  subst hp; exact Rn.st (fun t q => XS.ldiv X.here hx rfl hd rfl hy q) r
theorem R.lrem (X : Stand p l e R s m args below meth c T locs cells slots) (hx : p.tables.exec = Jvm.exec) {x y : Int64} (hd : decode c.code pc = .ok (.lrem, 1)) (hy : y ≠ 0) (hp : pc + 1 = pc') (r : Rn p e below (T.setTop (mkF m pc' L (.long (x - (x / y) * y) :: S))) G) : Rn p e below (T.setTop (mkF m pc L (.long y :: .long x :: S))) G := by
  subst hp; exact Rn.st (fun t q => XS.lrem X.here hx rfl hd rfl hy q) r
theorem R.i2d (X : Stand p l e R s m args below meth c T locs cells slots) (hx : p.tables.exec = Jvm.exec) {x : Int32} (hd : decode c.code pc = .ok (.i2d, 1)) (hp : pc + 1 = pc') (r : Rn p e below (T.setTop (mkF m pc' L (.double (FP.i2d x) :: S))) G) : Rn p e below (T.setTop (mkF m pc L (.int x :: S))) G := by
  subst hp; exact Rn.st (fun t q => XS.i2dS X.here hx rfl hd rfl rfl q) r
theorem R.l2d (X : Stand p l e R s m args below meth c T locs cells slots) (hx : p.tables.exec = Jvm.exec) {x : Int64} (hd : decode c.code pc = .ok (.l2d, 1)) (hp : pc + 1 = pc') (r : Rn p e below (T.setTop (mkF m pc' L (.double (FP.l2d x) :: S))) G) : Rn p e below (T.setTop (mkF m pc L (.long x :: S))) G := by
  subst hp; exact Rn.st (fun t q => XS.l2dS X.here hx rfl hd rfl rfl q) r
theorem R.d2i (X : Stand p l e R s m args below meth c T locs cells slots) (hx : p.tables.exec = Jvm.exec) {x : UInt64} (hd : decode c.code pc = .ok (.d2i, 1)) (hp : pc + 1 = pc') (r : Rn p e below (T.setTop (mkF m pc' L (.int (FP.d2i x) :: S))) G) : Rn p e below (T.setTop (mkF m pc L (.double x :: S))) G := by
  subst hp; exact Rn.st (fun t q => XS.d2iS X.here hx rfl hd rfl rfl q) r
theorem R.d2l (X : Stand p l e R s m args below meth c T locs cells slots) (hx : p.tables.exec = Jvm.exec) {x : UInt64} (hd : decode c.code pc = .ok (.d2l, 1)) (hp : pc + 1 = pc') (r : Rn p e below (T.setTop (mkF m pc' L (.long (FP.d2l x) :: S))) G) : Rn p e below (T.setTop (mkF m pc L (.double x :: S))) G := by
  subst hp; exact Rn.st (fun t q => XS.d2lS X.here hx rfl hd rfl rfl q) r
theorem R.dadd (X : Stand p l e R s m args below meth c T locs cells slots) (hx : p.tables.exec = Jvm.exec) {x y : UInt64} (hd : decode c.code pc = .ok (.dadd, 1)) (hn : NoNaN64 (FP.dadd x y)) (hp : pc + 1 = pc') (r : Rn p e below (T.setTop (mkF m pc' L (.double (FP.dadd x y) :: S))) G) : Rn p e below (T.setTop (mkF m pc L (.double y :: .double x :: S))) G := by
  subst hp; exact Rn.st (fun t q => XS.daddS X.here hx rfl hd rfl hn rfl q) r
theorem R.dsub (X : Stand p l e R s m args below meth c T locs cells slots) (hx : p.tables.exec = Jvm.exec) {x y : UInt64} (hd : decode c.code pc = .ok (.dsub, 1)) (hn : NoNaN64 (FP.dsub x y)) (hp : pc + 1 = pc') (r : Rn p e below (T.setTop (mkF m pc' L (.double (FP.dsub x y) :: S))) G) : Rn p e below (T.setTop (mkF m pc L (.double y :: .double x :: S))) G := by
  subst hp; exact Rn.st (fun t q => XS.dsubS X.here hx rfl hd rfl hn rfl q) r
theorem R.dmul (X : Stand p l e R s m args below meth c T locs cells slots) (hx : p.tables.exec = Jvm.exec) {x y : UInt64} (hd : decode c.code pc = .ok (.dmul, 1)) (hn : NoNaN64 (FP.dmul x y)) (hp : pc + 1 = pc') (r : Rn p e below (T.setTop (mkF m pc' L (.double (FP.dmul x y) :: S))) G) : Rn p e below (T.setTop (mkF m pc L (.double y :: .double x :: S))) G := by
  subst hp; exact Rn.st (fun t q => XS.dmulS X.here hx rfl hd rfl hn rfl q) r
theorem R.ddiv (X : Stand p l e R s m args below meth c T locs cells slots) (hx : p.tables.exec = Jvm.exec) {x y : UInt64} (hd : decode c.code pc = .ok (.ddiv, 1)) (hn : NoNaN64 (FP.ddiv x y)) (hp : pc + 1 = pc') (r : Rn p e below (T.setTop (mkF m pc' L (.double (FP.ddiv x y) :: S))) G) : Rn p e below (T.setTop (mkF m pc L (.double y :: .double x :: S))) G := by
  subst hp; exact Rn.st (fun t q => XS.ddivS X.here hx rfl hd rfl hn rfl q) r
theorem R.dneg (X : Stand p l e R s m args below meth c T locs cells slots) (hx : p.tables.exec = Jvm.exec) {x : UInt64} (hd : decode c.code pc = .ok (.dneg, 1)) (hp : pc + 1 = pc') (r : Rn p e below (T.setTop (mkF m pc' L (.double (FP.dneg x) :: S))) G) : Rn p e below (T.setTop (mkF m pc L (.double x :: S))) G := by
  subst hp; exact Rn.st (fun t q => XS.dnegS X.here hx rfl hd rfl rfl q) r
theorem R.dcmp (X : Stand p l e R s m args below meth c T locs cells slots) (hx : p.tables.exec = Jvm.exec) {o : CmpOp} {x y : UInt64} {v : Int32} (hd : decode c.code pc = .ok (.dcmp o, 1)) (hv : cmpValue (FP.dcmp x y) o = v) (hp : pc + 1 = pc') (r : Rn p e below (T.setTop (mkF m pc' L (.int v :: S))) G) : Rn p e below (T.setTop (mkF m pc L (.double y :: .double x :: S))) G := by
  subst hp; exact Rn.st (fun t q => XS.dcmpS X.here hx rfl hd rfl hv q) r
theorem R.iinc (X : Stand p l e R s m args below meth c T locs cells slots) (hx : p.tables.exec = Jvm.exec) {k : Nat} {cst : Int} {x : Int32} (hd : decode c.code pc = .ok (.iinc k cst, 3)) (hl : L[k]? = some (.val (.int x))) (hl' : storeLocals L k (.int (x + Int32.ofInt cst)) = some L') (hp : pc + 3 = pc') (r : Rn p e below (T.setTop (mkF m pc' L' (S))) G) : Rn p e below (T.setTop (mkF m pc L (S))) G := by
  subst hp; exact Rn.st (fun t q => XS.iinc X.here hx rfl hd hl hl' q) r
theorem R.dup (X : Stand p l e R s m args below meth c T locs cells slots) (hx : p.tables.exec = Jvm.exec) {x : Value} (hd : decode c.code pc = .ok (.dup, 1)) (hc : x.category = 1) (hp : pc + 1 = pc') (r : Rn p e below (T.setTop (mkF m pc' L (x :: x :: S))) G) : Rn p e below (T.setTop (mkF m pc L (x :: S))) G := by
  subst hp; exact Rn.st (fun t q => XS.dup X.here hx rfl hd rfl hc q) r
theorem R.dupX1 (X : Stand p l e R s m args below meth c T locs cells slots) (hx : p.tables.exec = Jvm.exec) {x y : Value} (hd : decode c.code pc = .ok (.dup_x1, 1)) (hc : x.category = 1) (hc' : y.category = 1) (hp : pc + 1 = pc') (r : Rn p e below (T.setTop (mkF m pc' L (x :: y :: x :: S))) G) : Rn p e below (T.setTop (mkF m pc L (x :: y :: S))) G := by
  subst hp; exact Rn.st (fun t q => XS.dupX1 X.here hx rfl hd rfl hc hc' q) r
theorem R.dup2 (X : Stand p l e R s m args below meth c T locs cells slots) (hx : p.tables.exec = Jvm.exec) {x y : Value} (hd : decode c.code pc = .ok (.dup2, 1)) (hc : x.category = 1) (hc' : y.category = 1) (hp : pc + 1 = pc') (r : Rn p e below (T.setTop (mkF m pc' L (x :: y :: x :: y :: S))) G) : Rn p e below (T.setTop (mkF m pc L (x :: y :: S))) G := by
  subst hp; exact Rn.st (fun t q => Jvm.Free.XT.dup2 X.here hx rfl hd rfl hc hc' q) r
theorem R.pop (X : Stand p l e R s m args below meth c T locs cells slots) (hx : p.tables.exec = Jvm.exec) {x : Value} (hd : decode c.code pc = .ok (.pop, 1)) (hc : x.category = 1) (hp : pc + 1 = pc') (r : Rn p e below (T.setTop (mkF m pc' L (S))) G) : Rn p e below (T.setTop (mkF m pc L (x :: S))) G := by
  subst hp; exact Rn.st (fun t q => XS.pop X.here hx rfl hd rfl hc q) r
theorem R.ifYes (X : Stand p l e R s m args below meth c T locs cells slots) (hx : p.tables.exec = Jvm.exec) {cd : ClassFile.Cond} {x : Int32} {o : Int} (hd : decode c.code pc = .ok (.ifCond cd o, 3)) (hc : if_icmp.holds cd x 0 = true) (ho : 0 ≤ (pc : Int) + o) (hp : ((pc : Int) + o).toNat = pc') (r : Rn p e below (T.setTop (mkF m pc' L S)) G) : Rn p e below (T.setTop (mkF m pc L (.int x :: S))) G :=
  Rn.st (fun t q => XS.ifYes X.here hx rfl rfl hd rfl ((if0 _ _).trans hc) ho hp q) r
theorem R.ifNo (X : Stand p l e R s m args below meth c T locs cells slots) (hx : p.tables.exec = Jvm.exec) {cd : ClassFile.Cond} {x : Int32} {o : Int} (hd : decode c.code pc = .ok (.ifCond cd o, 3)) (hc : if_icmp.holds cd x 0 = false) (hp : pc + 3 = pc') (r : Rn p e below (T.setTop (mkF m pc' L (S))) G) : Rn p e below (T.setTop (mkF m pc L (.int x :: S))) G := by
  subst hp; exact Rn.st (fun t q => XS.ifNo X.here hx rfl hd rfl ((if0 _ _).trans hc) q) r
theorem R.icmpYes (X : Stand p l e R s m args below meth c T locs cells slots) (hx : p.tables.exec = Jvm.exec) {cd : ClassFile.Cond} {x y : Int32} {o : Int} (hd : decode c.code pc = .ok (.if_icmp cd o, 3)) (hc : if_icmp.holds cd x y = true) (ho : 0 ≤ (pc : Int) + o) (hp : ((pc : Int) + o).toNat = pc') (r : Rn p e below (T.setTop (mkF m pc' L S)) G) : Rn p e below (T.setTop (mkF m pc L (.int y :: .int x :: S))) G :=
  Rn.st (fun t q => XS.icmpYes X.here hx rfl rfl hd rfl hc ho hp q) r
theorem R.icmpNo (X : Stand p l e R s m args below meth c T locs cells slots) (hx : p.tables.exec = Jvm.exec) {cd : ClassFile.Cond} {x y : Int32} {o : Int} (hd : decode c.code pc = .ok (.if_icmp cd o, 3)) (hc : if_icmp.holds cd x y = false) (hp : pc + 3 = pc') (r : Rn p e below (T.setTop (mkF m pc' L (S))) G) : Rn p e below (T.setTop (mkF m pc L (.int y :: .int x :: S))) G := by
  subst hp; exact Rn.st (fun t q => XS.icmpNo X.here hx rfl hd rfl hc q) r
theorem R.goto (X : Stand p l e R s m args below meth c T locs cells slots) (hx : p.tables.exec = Jvm.exec)  {o : Int} (hd : decode c.code pc = .ok (.goto o, 3)) (ho : 0 ≤ (pc : Int) + o) (hp : ((pc : Int) + o).toNat = pc') (r : Rn p e below (T.setTop (mkF m pc' L S)) G) : Rn p e below (T.setTop (mkF m pc L (S))) G :=
  Rn.st (fun t q => XS.goto X.here hx rfl rfl hd ho hp q) r
theorem R.ifnullYes (X : Stand p l e R s m args below meth c T locs cells slots) (hx : p.tables.exec = Jvm.exec)  {o : Int} (hd : decode c.code pc = .ok (.ifnull o, 3)) (ho : 0 ≤ (pc : Int) + o) (hp : ((pc : Int) + o).toNat = pc') (r : Rn p e below (T.setTop (mkF m pc' L S)) G) : Rn p e below (T.setTop (mkF m pc L (.null :: S))) G :=
  Rn.st (fun t q => XS.ifnullYes X.here hx rfl rfl hd rfl ho hp q) r
theorem R.ifnullNo (X : Stand p l e R s m args below meth c T locs cells slots) (hx : p.tables.exec = Jvm.exec) {b : Addr} {o : Int} (hd : decode c.code pc = .ok (.ifnull o, 3)) (hp : pc + 3 = pc') (r : Rn p e below (T.setTop (mkF m pc' L (S))) G) : Rn p e below (T.setTop (mkF m pc L (.ref b :: S))) G := by
  subst hp; exact Rn.st (fun t q => XS.ifnullNo X.here hx rfl hd rfl q) r
theorem R.ifnonnullYes (X : Stand p l e R s m args below meth c T locs cells slots) (hx : p.tables.exec = Jvm.exec) {b : Addr} {o : Int} (hd : decode c.code pc = .ok (.ifnonnull o, 3)) (ho : 0 ≤ (pc : Int) + o) (hp : ((pc : Int) + o).toNat = pc') (r : Rn p e below (T.setTop (mkF m pc' L S)) G) : Rn p e below (T.setTop (mkF m pc L (.ref b :: S))) G :=
  Rn.st (fun t q => XS.ifnonnullYes X.here hx rfl rfl hd rfl ho hp q) r
theorem R.ifnonnullNo (X : Stand p l e R s m args below meth c T locs cells slots) (hx : p.tables.exec = Jvm.exec)  {o : Int} (hd : decode c.code pc = .ok (.ifnonnull o, 3)) (hp : pc + 3 = pc') (r : Rn p e below (T.setTop (mkF m pc' L (S))) G) : Rn p e below (T.setTop (mkF m pc L (.null :: S))) G := by
  subst hp; exact Rn.st (fun t q => XS.ifnonnullNo X.here hx rfl hd rfl q) r
end RSteps
section RBig
variable {p : Program} {l : Launch} {e : Env} {R : Room} {s : State} {m : MethodId} {args : Array Value} {below : List Frame} {meth : Method} {c : Code} {T : State} {locs : List Loc} {cells slots : Nat} {G : Outcome → State → Prop} {L L' : Array Slot} {S : List Value} {pc pc' : Nat} {Z : State} {a0 : Array Value} {h : Heap} {a : Addr} {own : String} {index : Nat}
theorem R.getF (X : Stand p l e R s m args below meth c T locs cells slots) (hx : p.tables.exec = Jvm.exec) (hZ : Z.Warmed39 s.vm) {R0 O n d host : String} (hown : s.vm.findClass own = some m.cls) (w : (Jvm.Cond.fieldLink own index R0 n d).before a0 Z = true ∨ (Jvm.Cond.fieldLinkNest own index R0 n d host).before a0 Z = true) (via : Via Z R0 O n d) (eT : T.heap = h) {v : Value} (F : Fld Z h a O n d v)
    (hd : decode c.code pc = .ok (.getfield index, 3)) (hp : pc + 3 = pc') (K : ∀ T', Stand p l e R s m args below meth c T' locs cells slots → T'.heap = h → Rn p e below (T'.setTop (mkF m pc' L (v :: S))) G) : Rn p e below (T.setTop (mkF m pc L (.ref a :: S))) G := by
  subst hp
  obtain ⟨T', X', e', st⟩ := getF X hx hZ hown w via eT F (g := mkF m pc L (.ref a :: S)) rfl rfl hd
  exact Rn.st st (K T' X' e')
theorem R.getS (X : Stand p l e R s m args below meth c T locs cells slots) (hx : p.tables.exec = Jvm.exec) (hZ : Z.Warmed39 s.vm) {R0 O n d host : String} (hown : s.vm.findClass own = some m.cls) (w : (Jvm.Cond.fieldLink own index R0 n d).before a0 Z = true ∨ (Jvm.Cond.fieldLinkNest own index R0 n d host).before a0 Z = true) (via : Via Z R0 O n d) (eT : T.heap = h) {v : Value} (F : Sta Z h O n d v)
    (hd : decode c.code pc = .ok (.getstatic index, 3)) (hp : pc + 3 = pc') (K : ∀ T', Stand p l e R s m args below meth c T' locs cells slots → T'.heap = h → Rn p e below (T'.setTop (mkF m pc' L (v :: S))) G) : Rn p e below (T.setTop (mkF m pc L S)) G := by
  subst hp
  obtain ⟨T', X', e', st⟩ := getS2 X hx hZ hown w via eT F (g := mkF m pc L S) rfl hd
  exact Rn.st st (K T' X' e')
theorem R.putF (X : Stand p l e R s m args below meth c T locs cells slots) (hx : p.tables.exec = Jvm.exec) (hZ : Z.Warmed39 s.vm) {R0 O n d host C : String} {kk : Nat} {ty : FieldType} (hown : s.vm.findClass own = some m.cls) (w : (Jvm.Cond.fieldLink own index R0 n d).before a0 Z = true ∨ (Jvm.Cond.fieldLinkNest own index R0 n d host).before a0 Z = true) (via : Via Z R0 O n d) (eT : T.heap = h) {v old : Value} (F : Fld Z h a O n d old) (E : Exa Z h a C)
    (Ly : (Jvm.Cond.lays C O n d).before a0 Z = true ∨ ((Jvm.Cond.laysFinal C O n d).before a0 Z = true ∧ own = O ∧ meth.name = "<init>")) (wi : (Jvm.Cond.instantiable C kk).before a0 Z = true) (hty : parseFieldDescriptor d = some ty) (hn : narrow ty v = v) (hf : fits ty v = true)
    (hd : decode c.code pc = .ok (.putfield index, 3)) (hp : pc + 3 = pc') (K : ∀ T' h', Stand p l e R s m args below meth c T' (locs ++ [⟨a, Jvm.RoadKit.slotOf Z O n d⟩]) cells slots → T'.heap = h' → Wr h h' a (Jvm.RoadKit.slotOf Z O n d) v → Rn p e below (T'.setTop (mkF m pc' L S)) G) : Rn p e below (T.setTop (mkF m pc L (v :: .ref a :: S))) G := by
  subst hp
  obtain ⟨T', h', X', e', W', st⟩ := putF X hx hZ hown w via eT F E Ly wi hty hn hf (g := mkF m pc L (v :: .ref a :: S)) rfl rfl hd
  exact Rn.st st (K T' h' X' e' W')
theorem R.newO (X : Stand p l e R s m args below meth c T locs cells slots) (hx : p.tables.exec = Jvm.exec) (hZ : Z.Warmed39 s.vm) {C : String} {n : Nat} (hown : s.vm.findClass own = some m.cls) (w : (Jvm.Cond.classLink own index C).before a0 Z = true) (wi : (Jvm.Cond.instantiable C n).before a0 Z = true) (wz : (Jvm.Cond.initialized C).before a0 Z = true) (eT : T.heap = h)
    (hd : decode c.code pc = .ok (.new index, 3)) (hp : pc + 3 = pc') (hc : cells + 1 ≤ R.cells) (hl : slots + n ≤ R.slots)
    (K : ∀ T' h' b, b = h.size → Stand p l e R s m args below meth c T' locs (cells + 1) (slots + n) → T'.heap = h' → Ext h h' → Exa Z h' b C → (∀ {O nm d : String} {ty : FieldType}, Laid Z a0 C O nm d → parseFieldDescriptor d = some ty → Fld Z h' b O nm d (defaultValue ty)) → Rn p e below (T'.setTop (mkF m pc' L (.ref b :: S))) G) : Rn p e below (T.setTop (mkF m pc L S)) G := by
  subst hp
  obtain ⟨T', h', X', e', E', A', D', -, st⟩ := newO X hx hZ hown w wi wz eT (g := mkF m pc L S) rfl hd hc hl
  exact Rn.st st (K T' h' _ rfl X' e' E' A' D')
theorem R.newP (X : Stand p l e R s m args below meth c T locs cells slots) (hx : p.tables.exec = Jvm.exec) (hZ : Z.Warmed39 s.vm) {aty : ArrayType} {ty : FieldType} (hty : newarray.typeOf aty = ty) (w : (Jvm.Cond.arrayClass ty).before a0 Z = true) (eT : T.heap = h) {n : Int32} (hn : ¬ n < 0) {cap : Nat} (hcap : n.toNatClampNeg ≤ cap) (hb : cap * 8 ≤ 536870912) {ad : String} (had : "[" ++ ty.toString = ad)
    (hd : decode c.code pc = .ok (.newarray aty, 2)) (hp : pc + 2 = pc') (hc : cells + 1 ≤ R.cells) (hl : slots + cap ≤ R.slots)
    (K : ∀ T' h' b k, b = h.size → Stand p l e R s m args below meth c T' locs (cells + 1) (slots + cap) → T'.heap = h' → Ext h h' → Exa Z h' b ad → Arh Z h' b k ty n [] [] (defaultValue ty) → Rn p e below (T'.setTop (mkF m pc' L (.ref b :: S))) G) : Rn p e below (T.setTop (mkF m pc L (.int n :: S))) G := by
  subst hp hty
  obtain ⟨T', h', k, X', e', E', A', EE, st⟩ := newPE X hx hZ w eT (g := mkF m pc L (.int n :: S)) rfl hd rfl hn hcap hb hc hl had
  exact Rn.st st (K T' h' _ k rfl X' e' E' EE (Arv.new A' hn).arh)
section Arr
variable {k : ClassId} {z : Int32} {hs : List (Int32 × Value)} {vs : List Value} {dv : Value} {j : Int32}
theorem R.alen (X : Stand p l e R s m args below meth c T locs cells slots) (hx : p.tables.exec = Jvm.exec) (hZ : Z.Warmed39 s.vm) (eT : T.heap = h) {ty : FieldType} (F : Arh Z h a k ty z hs vs dv) (hd : decode c.code pc = .ok (.arraylength, 1)) (hp : pc + 1 = pc') (r : Rn p e below (T.setTop (mkF m pc' L (.int z :: S))) G) : Rn p e below (T.setTop (mkF m pc L (.ref a :: S))) G := by
  subst hp
  obtain ⟨cl, Ar, qA, SA, NA, HA, GA⟩ := F
  exact Rn.st (fun t q => X.arraylength hx (by rw [eT]; exact Ar.1) (State.isArrayOf_alike hZ.alike Ar.2.1) (g := mkF m pc L (.ref a :: S)) rfl rfl hd _ (by rw [len_of SA NA]; exact q)) r
theorem R.daload (X : Stand p l e R s m args below meth c T locs cells slots) (hx : p.tables.exec = Jvm.exec) (hZ : Z.Warmed39 s.vm) (eT : T.heap = h) (F : Arh Z h a k .double z hs vs dv) (hb : ¬ j < 0 ∧ j < z) {v : Value} (hv : getH hs vs dv j.toNatClampNeg = v) (hd : decode c.code pc = .ok (.daload, 1)) (hp : pc + 1 = pc') (r : Rn p e below (T.setTop (mkF m pc' L (v :: S))) G) : Rn p e below (T.setTop (mkF m pc L (.int j :: .ref a :: S))) G := by
  subst hp
  obtain ⟨cl, Ar, qA, SA, NA, HA, GA⟩ := F
  have hin := inb_of SA hb
  exact Rn.st (fun t q => X.daload hx (by rw [eT]; exact Ar.1) (State.isArrayOf_alike hZ.alike Ar.2.1) Ar.2.2 hin (atH HA hin hv) (g := mkF m pc L (.int j :: .ref a :: S)) rfl rfl hd _ q) r
theorem R.iaload (X : Stand p l e R s m args below meth c T locs cells slots) (hx : p.tables.exec = Jvm.exec) (hZ : Z.Warmed39 s.vm) (eT : T.heap = h) (F : Arh Z h a k .int z hs vs dv) (hb : ¬ j < 0 ∧ j < z) {v : Value} (hv : getH hs vs dv j.toNatClampNeg = v) (hd : decode c.code pc = .ok (.iaload, 1)) (hp : pc + 1 = pc') (r : Rn p e below (T.setTop (mkF m pc' L (v :: S))) G) : Rn p e below (T.setTop (mkF m pc L (.int j :: .ref a :: S))) G := by
  subst hp
  obtain ⟨cl, Ar, qA, SA, NA, HA, GA⟩ := F
  have hin := inb_of SA hb
  exact Rn.st (fun t q => X.iaload hx (by rw [eT]; exact Ar.1) (State.isArrayOf_alike hZ.alike Ar.2.1) Ar.2.2 hin (atH HA hin hv) (g := mkF m pc L (.int j :: .ref a :: S)) rfl rfl hd _ q) r
theorem R.baloadZ (X : Stand p l e R s m args below meth c T locs cells slots) (hx : p.tables.exec = Jvm.exec) (hZ : Z.Warmed39 s.vm) (eT : T.heap = h) (F : Arh Z h a k .boolean z hs vs dv) (hb : ¬ j < 0 ∧ j < z) {v : Value} (hv : getH hs vs dv j.toNatClampNeg = v) (hd : decode c.code pc = .ok (.baload, 1)) (hp : pc + 1 = pc') (r : Rn p e below (T.setTop (mkF m pc' L (v :: S))) G) : Rn p e below (T.setTop (mkF m pc L (.int j :: .ref a :: S))) G := by
  subst hp
  obtain ⟨cl, Ar, qA, SA, NA, HA, GA⟩ := F
  have hin := inb_of SA hb
  exact Rn.st (fun t q => X.baloadBooleans hx (by rw [eT]; exact Ar.1) (State.isArrayOf_alike hZ.alike Ar.2.1) Ar.2.2 hin (atH HA hin hv) (g := mkF m pc L (.int j :: .ref a :: S)) rfl rfl hd _ q) r
theorem R.dastore (X : Stand p l e R s m args below meth c T locs cells slots) (hx : p.tables.exec = Jvm.exec) (hZ : Z.Warmed39 s.vm) (eT : T.heap = h) (F : Arh Z h a k .double z hs vs dv) (hb : ¬ j < 0 ∧ j < z) {x : UInt64} (hd : decode c.code pc = .ok (.dastore, 1)) (hp : pc + 1 = pc')
    (K : ∀ T' h', Stand p l e R s m args below meth c T' (locs ++ [⟨a, j.toNatClampNeg⟩]) cells slots → T'.heap = h' → Wr h h' a j.toNatClampNeg (.double x) → Arh Z h' a k .double z ((j, .double x) :: hs) vs dv → Rn p e below (T'.setTop (mkF m pc' L S)) G) : Rn p e below (T.setTop (mkF m pc L (.double x :: .int j :: .ref a :: S))) G := by
  subst hp
  obtain ⟨cl, Ar, qA, SA, NA, HA, GA⟩ := F
  have hin := inb_of SA hb
  obtain ⟨T', h', X', e', W', st⟩ := stD X hx hZ eT Ar (j := j) hin (g := mkF m pc L (.double x :: .int j :: .ref a :: S)) rfl rfl hd
  exact Rn.st st (K T' h' X' e' W' (Arh.push Ar qA SA NA HA GA rfl W' hin))
theorem R.iastore (X : Stand p l e R s m args below meth c T locs cells slots) (hx : p.tables.exec = Jvm.exec) (hZ : Z.Warmed39 s.vm) (eT : T.heap = h) (F : Arh Z h a k .int z hs vs dv) (hb : ¬ j < 0 ∧ j < z) {x : Int32} (hd : decode c.code pc = .ok (.iastore, 1)) (hp : pc + 1 = pc')
    (K : ∀ T' h', Stand p l e R s m args below meth c T' (locs ++ [⟨a, j.toNatClampNeg⟩]) cells slots → T'.heap = h' → Wr h h' a j.toNatClampNeg (.int x) → Arh Z h' a k .int z ((j, .int x) :: hs) vs dv → Rn p e below (T'.setTop (mkF m pc' L S)) G) : Rn p e below (T.setTop (mkF m pc L (.int x :: .int j :: .ref a :: S))) G := by
  subst hp
  obtain ⟨cl, Ar, qA, SA, NA, HA, GA⟩ := F
  have hin := inb_of SA hb
  obtain ⟨T', h', X', e', W', st⟩ := stI X hx hZ eT Ar (j := j) hin (g := mkF m pc L (.int x :: .int j :: .ref a :: S)) rfl rfl hd
  exact Rn.st st (K T' h' X' e' W' (Arh.push Ar qA SA NA HA GA rfl W' hin))
theorem R.bastoreZ (X : Stand p l e R s m args below meth c T locs cells slots) (hx : p.tables.exec = Jvm.exec) (hZ : Z.Warmed39 s.vm) (eT : T.heap = h) (F : Arh Z h a k .boolean z hs vs dv) (hb : ¬ j < 0 ∧ j < z) {x : Int32} (hn : nar .boolean x = x) (hd : decode c.code pc = .ok (.bastore, 1)) (hp : pc + 1 = pc')
    (K : ∀ T' h', Stand p l e R s m args below meth c T' (locs ++ [⟨a, j.toNatClampNeg⟩]) cells slots → T'.heap = h' → Wr h h' a j.toNatClampNeg (.int x) → Arh Z h' a k .boolean z ((j, .int x) :: hs) vs dv → Rn p e below (T'.setTop (mkF m pc' L S)) G) : Rn p e below (T.setTop (mkF m pc L (.int x :: .int j :: .ref a :: S))) G := by
  subst hp
  obtain ⟨cl, Ar, qA, SA, NA, HA, GA⟩ := F
  have hin := inb_of SA hb
  obtain ⟨T', h', X', e', W', st⟩ := stZ X hx hZ eT Ar (j := j) hin (g := mkF m pc L (.int x :: .int j :: .ref a :: S)) rfl rfl hd
  rw [hn] at W'
  exact Rn.st st (K T' h' X' e' W' (Arh.push Ar qA SA NA HA GA (by have q := fits_nar_bool x; rw [hn] at q; exact q) W' hin))
end Arr
theorem R.ldc2D (X : Stand p l e R s m args below meth c T locs cells slots) (hx : p.tables.exec = Jvm.exec) (hZ : Z.Warmed39 s.vm) {b : UInt64} (hown : s.vm.findClass own = some m.cls) (w : (Jvm.Cond.constantDouble own index b).before a0 Z = true) (hd : decode c.code pc = .ok (.ldc2_w index, 3)) (hp : pc + 3 = pc') (r : Rn p e below (T.setTop (mkF m pc' L (.double b :: S))) G) : Rn p e below (T.setTop (mkF m pc L S)) G := by
  subst hp; exact Rn.st (fun t q => X.ldc2DoubleC hx hown (mvT hZ w) (g := mkF m pc L S) rfl hd _ q) r
theorem R.ldc2J (X : Stand p l e R s m args below meth c T locs cells slots) (hx : p.tables.exec = Jvm.exec) (hZ : Z.Warmed39 s.vm) {b : Int64} (hown : s.vm.findClass own = some m.cls) (w : (Jvm.Cond.constantLong own index b).before a0 Z = true) (hd : decode c.code pc = .ok (.ldc2_w index, 3)) (hp : pc + 3 = pc') (r : Rn p e below (T.setTop (mkF m pc' L (.long b :: S))) G) : Rn p e below (T.setTop (mkF m pc L S)) G := by
  subst hp; exact Rn.st (fun t q => X.ldc2Long hx hown (mvT hZ w) (g := mkF m pc L S) rfl hd _ q) r
theorem R.ldcI (X : Stand p l e R s m args below meth c T locs cells slots) (hx : p.tables.exec = Jvm.exec) (hZ : Z.Warmed39 s.vm) {b : Int32} (hown : s.vm.findClass own = some m.cls) (w : (Jvm.Cond.constant own index b).before a0 Z = true) (hd : decode c.code pc = .ok (.ldc index, 2)) (hp : pc + 2 = pc') (r : Rn p e below (T.setTop (mkF m pc' L (.int b :: S))) G) : Rn p e below (T.setTop (mkF m pc L S)) G := by
  subst hp; exact Rn.st (fun t q => X.ldcInt hx hown (mvT hZ w) (g := mkF m pc L S) rfl hd _ q) r
theorem R.castY (X : Stand p l e R s m args below meth c T locs cells slots) (hx : p.tables.exec = Jvm.exec) (hZ : Z.Warmed39 s.vm) {C : String} (hown : s.vm.findClass own = some m.cls) (w : (Jvm.Cond.classLink own index C).before a0 Z = true) (eT : T.heap = h) (F : Ins Z h a C true) (hd : decode c.code pc = .ok (.checkcast index, 3)) (hp : pc + 3 = pc')
    (K : ∀ T', Stand p l e R s m args below meth c T' locs cells slots → T'.heap = h → Rn p e below (T'.setTop (mkF m pc' L (.ref a :: S))) G) : Rn p e below (T.setTop (mkF m pc L (.ref a :: S))) G := by
  subst hp
  obtain ⟨T', X', e', st⟩ := castY X hx hZ hown w eT F (g := mkF m pc L (.ref a :: S)) rfl rfl hd
  exact Rn.st st (K T' X' e')
theorem R.instY (X : Stand p l e R s m args below meth c T locs cells slots) (hx : p.tables.exec = Jvm.exec) (hZ : Z.Warmed39 s.vm) {C : String} (hown : s.vm.findClass own = some m.cls) (w : (Jvm.Cond.classLink own index C).before a0 Z = true) (eT : T.heap = h) (F : Ins Z h a C true) (hd : decode c.code pc = .ok (.instanceof index, 3)) (hp : pc + 3 = pc')
    (K : ∀ T', Stand p l e R s m args below meth c T' locs cells slots → T'.heap = h → Rn p e below (T'.setTop (mkF m pc' L (.int 1 :: S))) G) : Rn p e below (T.setTop (mkF m pc L (.ref a :: S))) G := by
  subst hp
  obtain ⟨T', X', e', st⟩ := instY X hx hZ hown w eT F (g := mkF m pc L (.ref a :: S)) rfl rfl hd
  exact Rn.st st (K T' X' e')
theorem R.instNo (X : Stand p l e R s m args below meth c T locs cells slots) (hx : p.tables.exec = Jvm.exec) (hZ : Z.Warmed39 s.vm) {C C' : String} (hown : s.vm.findClass own = some m.cls) (w : (Jvm.Cond.classLink own index C').before a0 Z = true) (eT : T.heap = h) (E : Exa Z h a C) (F : ∃ c t, Z.vm.findClass C = some c ∧ Z.vm.findClass C' = some t ∧ Z.vm.assignable c t = false) (hd : decode c.code pc = .ok (.instanceof index, 3)) (hp : pc + 3 = pc')
    (K : ∀ T', Stand p l e R s m args below meth c T' locs cells slots → T'.heap = h → Rn p e below (T'.setTop (mkF m pc' L (.int 0 :: S))) G) : Rn p e below (T.setTop (mkF m pc L (.ref a :: S))) G := by
  subst hp
  obtain ⟨T', X', e', st⟩ := instNo X hx hZ hown w eT E F (g := mkF m pc L (.ref a :: S)) rfl rfl hd
  exact Rn.st st (K T' X' e')
theorem R.initO (X : Stand p l e R s m args below meth c T locs cells slots) (hx : p.tables.exec = Jvm.exec) (hZ : Z.Warmed39 s.vm) (hown : s.vm.findClass own = some m.cls) (w1 : (Jvm.Cond.methodLink own index Lib.objectInit).before a0 Z = true) (w2 : (Jvm.Cond.instanceMethod Lib.objectInit).before a0 Z = true) (w3 : (Jvm.Cond.code Lib.objectInit ⟨#[0xb1]⟩ 1 none).before a0 Z = true) (eT : T.heap = h) (hsize : L.size = c.maxLocals)
    (hd : decode c.code pc = .ok (.invokespecial index, 3)) (hp : pc + 3 = pc') (hf : 1 ≤ R.frames) {W : Nat} (hW : (S.map fun v => v.category).sum ≤ W) (hl : W + 12 ≤ R.locals)
    (K : ∀ T', Stand p l e R s m args below meth c T' locs cells slots → T'.heap = h → Rn p e below (T'.setTop (mkF m pc' L S)) G) : Rn p e below (T.setTop (mkF m pc L (.ref a :: S))) G := by
  subst hp
  obtain ⟨T', X', e', st⟩ := initO X hx hZ hown w1 w2 w3 eT (g := mkF m pc L (.ref a :: S)) rfl hsize rfl hd hf (W := W) (by show 2 * 0 + _ ≤ W; rw [Nat.mul_zero, Nat.zero_add]; exact hW) hl
  exact Rn.st st (K T' X' e')
section Calls
variable {y : MethodName} {bytes : ByteArray} {maxL : Nat} {ret : Option FieldType} {rm : Room} {as' : List Value} {Q : Option Value → Heap → List Loc → Prop} {S0 : List Value} {W : Nat}
theorem R.callS (X : Stand p l e R s m args below meth c T locs cells slots) (hx : p.tables.exec = Jvm.exec) (hZ : Z.Warmed39 s.vm) (hown : s.vm.findClass own = some m.cls) (w1 : (Jvm.Cond.methodLink own index y).before a0 Z = true) (w2 : (Jvm.Cond.static y).before a0 Z = true) (w3 : (Jvm.Cond.initialized y.cls).before a0 Z = true) (w4 : (Jvm.Cond.code y bytes maxL ret).before a0 Z = true) (hy : y.cls ≠ "java/lang/invoke/MethodHandle" ∧ y.cls ≠ "java/lang/invoke/VarHandle") (eT : T.heap = h)
    (hM : MetFree l y (head1 [Jvm.Cond.code y bytes maxL ret] rm) (fun a U => a = as'.toArray ∧ Z.Warmed39 U.vm ∧ U.heap = h) (fun _ _ _ _ _ => True) (fun _ U o U' => ∃ v L, o = .returned v ∧ Q v U'.heap L ∧ FrameEnd U o U' L rm.cells rm.slots))
    (hf : rm.frames + 1 ≤ R.frames) (hW : (S.map fun v => v.category).sum ≤ W) (hl : W + (maxL + 11) + rm.locals ≤ R.locals) (hsize : L.size = c.maxLocals) (hlen : ∀ sig, parseMethodDescriptor y.desc = some sig → as'.length = sig.parameters.length) (hst : S0 = as'.reverse ++ S) (hd : decode c.code pc = .ok (.invokestatic index, 3)) (hp : pc + 3 = pc') (hc : cells + rm.cells ≤ R.cells) (hs : slots + rm.slots ≤ R.slots)
    (K : ∀ v T' L1, Stand p l e R s m args below meth c T' (locs ++ L1) (cells + rm.cells) (slots + rm.slots) → Q v T'.heap L1 → Rn p e below (T'.setTop (mkF m pc' L (v.toList ++ S))) G) : Rn p e below (T.setTop (mkF m pc L S0)) G := by
  subst hp
  obtain ⟨v, vm1, ⟨T', L2, k', n'⟩, -, X', ⟨Lc, hQ, l1, y1, z1⟩, st⟩ := Jvm.LawKit.callS X hx (y := y) hown (mvT hZ w1) (mvT hZ w2) (mvT hZ w3) (mvT hZ w4) hy (backOf (W := W) hM hZ w4 w3 hf hl) (g := mkF m pc L S0) rfl hsize (argsL := as') (rest := S) hlen hst (by show 2 * 0 + _ ≤ W; rw [Nat.mul_zero, Nat.zero_add]; exact hW) hd (fun _ _ => ⟨rfl, eT, hc, hs⟩)
  dsimp only [Pt.U, Pt.locs, Pt.cells, Pt.slots] at X' l1 y1 z1 st hQ
  subst l1 y1 z1
  exact Rn.st st (K v T' Lc X' hQ)
theorem R.special (X : Stand p l e R s m args below meth c T locs cells slots) (hx : p.tables.exec = Jvm.exec) (hZ : Z.Warmed39 s.vm) (hy1 : y.name = "<init>") (hown : s.vm.findClass own = some m.cls) (w1 : (Jvm.Cond.methodLink own index y).before a0 Z = true) (w2 : (Jvm.Cond.instanceMethod y).before a0 Z = true) (w3 : (Jvm.Cond.initialized y.cls).before a0 Z = true) (w4 : (Jvm.Cond.code y bytes maxL none).before a0 Z = true) (hy : y.cls ≠ "java/lang/invoke/MethodHandle" ∧ y.cls ≠ "java/lang/invoke/VarHandle") (eT : T.heap = h)
    (hM : MetFree l y (head1 [Jvm.Cond.code y bytes maxL none] rm) (fun u U => u = (.ref a :: as').toArray ∧ Z.Warmed39 U.vm ∧ U.heap = h) (fun _ _ _ _ _ => True) (fun _ U o U' => ∃ v L, o = .returned v ∧ Q v U'.heap L ∧ FrameEnd U o U' L rm.cells rm.slots))
    (hf : rm.frames + 1 ≤ R.frames) (hW : (S.map fun v => v.category).sum ≤ W) (hl : W + (maxL + 11) + rm.locals ≤ R.locals) (hsize : L.size = c.maxLocals) (hlen : ∀ sig, parseMethodDescriptor y.desc = some sig → as'.length = sig.parameters.length) (hst : S0 = as'.reverse ++ .ref a :: S) (hd : decode c.code pc = .ok (.invokespecial index, 3)) (hp : pc + 3 = pc') (hc : cells + rm.cells ≤ R.cells) (hs : slots + rm.slots ≤ R.slots)
    (K : ∀ v T' L1, Stand p l e R s m args below meth c T' (locs ++ L1) (cells + rm.cells) (slots + rm.slots) → Q v T'.heap L1 → Rn p e below (T'.setTop (mkF m pc' L (v.toList ++ S))) G) : Rn p e below (T.setTop (mkF m pc L S0)) G := by
  subst hp
  obtain ⟨v, vm1, ⟨T', L2, k', n'⟩, -, X', ⟨Lc, hQ, l1, y1, z1⟩, st⟩ := X.specialBack hx (y := y) hy1 hown (mvT hZ w1) (mvT hZ w2) (mvT hZ w4) hy (backOf (W := W) hM hZ w4 w3 hf hl) (g := mkF m pc L S0) rfl hsize (Steps.refl _) (a := a) (argsL := as') (rest := S) hlen hst (by show 2 * 0 + _ ≤ W; rw [Nat.mul_zero, Nat.zero_add]; exact hW) hd (fun _ _ => ⟨rfl, eT, hc, hs⟩)
  dsimp only [Pt.U, Pt.locs, Pt.cells, Pt.slots] at X' l1 y1 z1 st hQ
  subst l1 y1 z1
  exact Rn.st (fun t q => st.trans q) (K v T' Lc X' hQ)
theorem R.virtual (X : Stand p l e R s m args below meth c T locs cells slots) (hx : p.tables.exec = Jvm.exec) (hZ : Z.Warmed39 s.vm) {C : String} {z : MethodName} (hown : s.vm.findClass own = some m.cls) (w1 : (Jvm.Cond.methodLink own index y).before a0 Z = true) (w2 : (Jvm.Cond.declares y).before a0 Z = true) (hnf : NotFace s y) (w5 : (Jvm.Cond.selects C y z).before a0 Z = true) (w6 : (Jvm.Cond.instanceMethod z).before a0 Z = true) (w3 : (Jvm.Cond.initialized z.cls).before a0 Z = true) (w4 : (Jvm.Cond.code z bytes maxL ret).before a0 Z = true) (hy : y.cls ≠ "java/lang/invoke/MethodHandle" ∧ y.cls ≠ "java/lang/invoke/VarHandle") (eT : T.heap = h) (E : Exa Z h a C)
    (hM : MetFree l z (head1 [Jvm.Cond.code z bytes maxL ret] rm) (fun u U => u = (.ref a :: as').toArray ∧ Z.Warmed39 U.vm ∧ U.heap = h) (fun _ _ _ _ _ => True) (fun _ U o U' => ∃ v L, o = .returned v ∧ Q v U'.heap L ∧ FrameEnd U o U' L rm.cells rm.slots))
    (hf : rm.frames + 1 ≤ R.frames) (hW : (S.map fun v => v.category).sum ≤ W) (hl : W + (maxL + 11) + rm.locals ≤ R.locals) (hsize : L.size = c.maxLocals) (hlen : ∀ sig, parseMethodDescriptor y.desc = some sig → as'.length = sig.parameters.length) (hst : S0 = as'.reverse ++ .ref a :: S) (hd : decode c.code pc = .ok (.invokevirtual index, 3)) (hp : pc + 3 = pc') (hc : cells + rm.cells ≤ R.cells) (hs : slots + rm.slots ≤ R.slots)
    (K : ∀ v T' L1, Stand p l e R s m args below meth c T' (locs ++ L1) (cells + rm.cells) (slots + rm.slots) → Q v T'.heap L1 → Rn p e below (T'.setTop (mkF m pc' L (v.toList ++ S))) G) : Rn p e below (T.setTop (mkF m pc L S0)) G := by
  subst hp
  obtain ⟨cq, kq, qa, qb, qc⟩ := isOf hZ eT E
  obtain ⟨v, vm1, ⟨T', L2, k', n'⟩, -, X', ⟨Lc, hQ, l1, y1, z1⟩, st⟩ := X.virtualBack hx (y := y) (z := z) hown (mvT hZ w1) (mvT hZ w2) hnf (mvT hZ w5) (mvT hZ w6) hy (backOf (W := W) hM hZ w4 w3 hf hl) qa qc (g := mkF m pc L S0) rfl hsize (Steps.refl _) (argsL := as') (rest := S) hlen hst (by show 2 * 0 + _ ≤ W; rw [Nat.mul_zero, Nat.zero_add]; exact hW) hd (fun _ _ => ⟨rfl, eT, hc, hs⟩)
  dsimp only [Pt.U, Pt.locs, Pt.cells, Pt.slots] at X' l1 y1 z1 st hQ
  subst l1 y1 z1
  exact Rn.st (fun t q => st.trans q) (K v T' Lc X' hQ)
end Calls
end RBig
section OwnDiv
open Jvm.FP Jvm.FP.Core
theorem own_divN {x y : UInt64} (hx : DFin x) (hy : DFin y) (hp : 0 < own_zv y) : ∃ s c d q r, val64 x = .fin s c q ∧ val64 y = .fin false d r ∧ d ≠ 0 ∧ own_zv x = signed s (zmag b64 (val64 x)) ∧ own_zv y = (zmag b64 (val64 y) : Int) ∧ own_zv (FP.ddiv x y) = signed s (zmag b64 (val64 (FP.ddiv x y))) ∧ val64 (FP.ddiv x y) ≠ .nan := by
  obtain ⟨s, c, q, ex⟩ := hx
  obtain ⟨t, d, r, ey⟩ := hy
  have ey' : own_zv y = signed t (zmag b64 (val64 y)) := by unfold own_zv zval; rw [ey]; rfl
  have ht : t = false := by
    cases t with
    | false => rfl
    | true => rw [ey'] at hp; unfold signed at hp; simp at hp; omega
  subst ht
  have hd : d ≠ 0 := fun e => by
    subst e
    rw [ey', ey] at hp
    simp [signed, zmag, inUnits] at hp
  have er := own_ddiv ex ey hd
  have es : sgn (val64 (FP.ddiv x y)) = s := by rw [er, sgn_roundRatio]; cases s <;> rfl
  refine ⟨s, c, d, q, r, ex, ey, hd, by unfold own_zv zval; rw [ex]; rfl, by rw [ey']; rfl, by unfold own_zv zval; rw [es], fun e => absurd (er.symm.trans e) (roundRatio_ne_nan _ _ _ _ _)⟩
theorem own_abs_nn {V : Datum} (h : 0 ≤ zval b64 V) : (zmag b64 V : Int) = zval b64 V := by rw [← own_zval_abs]; omega
theorem own_abs_np {V : Datum} (h : zval b64 V ≤ 0) : (zmag b64 V : Int) = -zval b64 V := by rw [← own_zval_abs]; omega
theorem own_dlo {x y : UInt64} (hx : DFin x) (hy : DFin y) (hp : 0 < own_zv y) {V : Datum} (hV : Core.fits b64 V) (hn : V ≠ .nan) (h : zval b64 V * own_zv y ≤ own_zv x * (one64 : Int)) : zval b64 V ≤ own_zv (FP.ddiv x y) := by
  obtain ⟨s, c, d, q, r, ex, ey, hd, zx, zy, zq, -⟩ := own_divN hx hy hp
  rw [zq]; rw [zx, zy] at h; rw [zy] at hp
  cases s with
  | false =>
    show zval b64 V ≤ (zmag b64 (val64 (FP.ddiv x y)) : Int)
    have h' : zval b64 V * (zmag b64 (val64 y) : Int) ≤ (zmag b64 (val64 x) : Int) * (one64 : Int) := h
    by_cases hv : zval b64 V ≤ 0
    · omega
    · rw [← own_abs_nn (by omega)] at h' ⊢
      exact Int.ofNat_le.mpr (own_div_ge ex ey hd hV (Int.ofNat_le.mp (by rw [Int.natCast_mul, Int.natCast_mul]; exact h')))
  | true =>
    show zval b64 V ≤ -(zmag b64 (val64 (FP.ddiv x y)) : Int)
    have h' : zval b64 V * (zmag b64 (val64 y) : Int) ≤ -(zmag b64 (val64 x) : Int) * (one64 : Int) := h
    have hv : zval b64 V ≤ 0 := by
      rcases Int.lt_or_le 0 (zval b64 V) with g | g
      · exfalso
        have p1 := Int.mul_pos g hp
        have p2 : 0 ≤ (zmag b64 (val64 x) : Int) * (one64 : Int) := Int.mul_nonneg (by omega) (by omega)
        rw [Int.neg_mul] at h'
        omega
      · exact g
    have e := own_abs_np hv
    have q1 : (zmag b64 (val64 x) : Int) * (one64 : Int) ≤ (zmag b64 V : Int) * (zmag b64 (val64 y) : Int) := by rw [e, Int.neg_mul]; rw [Int.neg_mul] at h'; omega
    have q2 := Int.ofNat_le.mpr (own_div_le ex ey hd hV hn (Int.ofNat_le.mp (by rw [Int.natCast_mul, Int.natCast_mul]; exact q1)))
    omega
theorem own_dhi {x y : UInt64} (hx : DFin x) (hy : DFin y) (hp : 0 < own_zv y) {V : Datum} (hV : Core.fits b64 V) (hn : V ≠ .nan) (h : own_zv x * (one64 : Int) ≤ zval b64 V * own_zv y) : own_zv (FP.ddiv x y) ≤ zval b64 V := by
  obtain ⟨s, c, d, q, r, ex, ey, hd, zx, zy, zq, -⟩ := own_divN hx hy hp
  rw [zq]; rw [zx, zy] at h; rw [zy] at hp
  cases s with
  | false =>
    show (zmag b64 (val64 (FP.ddiv x y)) : Int) ≤ zval b64 V
    have h' : (zmag b64 (val64 x) : Int) * (one64 : Int) ≤ zval b64 V * (zmag b64 (val64 y) : Int) := h
    have hv : 0 ≤ zval b64 V := by
      rcases Int.lt_or_le (zval b64 V) 0 with g | g
      · exfalso
        have p1 := Int.mul_neg_of_neg_of_pos g hp
        have p2 : 0 ≤ (zmag b64 (val64 x) : Int) * (one64 : Int) := Int.mul_nonneg (by omega) (by omega)
        omega
      · exact g
    rw [← own_abs_nn hv] at h' ⊢
    exact Int.ofNat_le.mpr (own_div_le ex ey hd hV hn (Int.ofNat_le.mp (by rw [Int.natCast_mul, Int.natCast_mul]; exact h')))
  | true =>
    show -(zmag b64 (val64 (FP.ddiv x y)) : Int) ≤ zval b64 V
    have h' : -(zmag b64 (val64 x) : Int) * (one64 : Int) ≤ zval b64 V * (zmag b64 (val64 y) : Int) := h
    by_cases hv : 0 ≤ zval b64 V
    · omega
    · have e := own_abs_np (V := V) (by omega)
      have q1 : (zmag b64 V : Int) * (zmag b64 (val64 y) : Int) ≤ (zmag b64 (val64 x) : Int) * (one64 : Int) := by rw [e, Int.neg_mul]; rw [Int.neg_mul] at h'; omega
      have q2 := Int.ofNat_le.mpr (own_div_ge ex ey hd hV (Int.ofNat_le.mp (by rw [Int.natCast_mul, Int.natCast_mul]; exact q1)))
      omega
theorem own_ac1 (V B U K : Int) : V * (B * U) * K = V * K * B * U := by ac_rfl
theorem own_ac4 (A U K : Int) : A * U * K = A * K * U := by ac_rfl
theorem own_ac2 (R U B : Int) : R * U * B * U = R * B * (U * U) := by ac_rfl
theorem own_ac3 (A U K : Int) : A * U * U * K = A * K * (U * U) := by ac_rfl
/-- the quotient of two whole numbers lies above every r / 2^k that the true quotient lies above -/
theorem own_qlo {x y : UInt64} {a b r : Int} {k : Nat} (hx : Dy x a 0) (hy : Dy y b 0) (hb : 0 < b) (hr : r.natAbs < 2 ^ 53) (hk : k ≤ 1074) (h : r * b ≤ a * ((2 ^ k : Nat) : Int)) : r * (one64 : Int) ≤ own_zv (FP.ddiv x y) * ((2 ^ k : Nat) : Int) := by
  obtain ⟨V, hV, hn, hz⟩ := own_datum r (1074 - k) hr (by omega)
  have zx : own_zv x = a * (one64 : Int) := by have := hx.2; simpa using this
  have zy : own_zv y = b * (one64 : Int) := by have := hy.2; simpa using this
  have hp : 0 < own_zv y := by rw [zy]; exact Int.mul_pos hb own_up
  have e : zval b64 V * ((2 ^ k : Nat) : Int) = r * (one64 : Int) := by rw [hz, Int.mul_assoc, ← Int.natCast_mul, ← Nat.pow_add, show 1074 - k + k = 1074 by omega]; rfl
  have q := own_dlo hx.1 hy.1 hp hV hn (by
    refine Int.le_of_mul_le_mul_right (a := ((2 ^ k : Nat) : Int)) ?_ (own_pp k)
    rw [zx, zy, own_ac1 (zval b64 V), e,
      own_ac2 r, own_ac3 a]
    exact Int.mul_le_mul_of_nonneg_right h (Int.mul_nonneg (Int.le_of_lt own_up) (Int.le_of_lt own_up)))
  rw [← e]
  exact Int.mul_le_mul_of_nonneg_right q (Int.le_of_lt (own_pp k))
theorem own_qhi {x y : UInt64} {a b r : Int} {k : Nat} (hx : Dy x a 0) (hy : Dy y b 0) (hb : 0 < b) (hr : r.natAbs < 2 ^ 53) (hk : k ≤ 1074) (h : a * ((2 ^ k : Nat) : Int) ≤ r * b) : own_zv (FP.ddiv x y) * ((2 ^ k : Nat) : Int) ≤ r * (one64 : Int) := by
  obtain ⟨V, hV, hn, hz⟩ := own_datum r (1074 - k) hr (by omega)
  have zx : own_zv x = a * (one64 : Int) := by have := hx.2; simpa using this
  have zy : own_zv y = b * (one64 : Int) := by have := hy.2; simpa using this
  have hp : 0 < own_zv y := by rw [zy]; exact Int.mul_pos hb own_up
  have e : zval b64 V * ((2 ^ k : Nat) : Int) = r * (one64 : Int) := by rw [hz, Int.mul_assoc, ← Int.natCast_mul, ← Nat.pow_add, show 1074 - k + k = 1074 by omega]; rfl
  have q := own_dhi hx.1 hy.1 hp hV hn (by
    refine Int.le_of_mul_le_mul_right (a := ((2 ^ k : Nat) : Int)) ?_ (own_pp k)
    rw [zx, zy, own_ac1 (zval b64 V), e,
      own_ac2 r, own_ac3 a]
    exact Int.mul_le_mul_of_nonneg_right h (Int.mul_nonneg (Int.le_of_lt own_up) (Int.le_of_lt own_up)))
  rw [← e]
  exact Int.mul_le_mul_of_nonneg_right q (Int.le_of_lt (own_pp k))
theorem own_qnan {x y : UInt64} {a b : Int} (hx : Dy x a 0) (hy : Dy y b 0) (hb : 0 < b) : val64 (FP.ddiv x y) ≠ .nan := by
  have zy : own_zv y = b * (one64 : Int) := by have := hy.2; simpa using this
  obtain ⟨s, c, d, q, r, ex, ey, hd, zx, zy, zq, hn⟩ := own_divN hx.1 hy.1 (by rw [zy]; exact Int.mul_pos hb own_up)
  exact hn
theorem own_cmpz {x y : UInt64} (hx : val64 x ≠ .nan) (hy : val64 y ≠ .nan) (o : Jvm.ClassFile.CmpOp) : cmpValue (FP.dcmp x y) o = own_ci (own_zv x) (own_zv y) := by
  rw [show FP.dcmp x y = some (compare (own_zv x) (own_zv y)) from order_zval good_b64 (val64_fits x) (val64_fits y) hx hy]
  unfold own_ci
  show cmpValue (some (compareOfLessAndEq (own_zv x) (own_zv y))) o = _
  unfold compareOfLessAndEq
  by_cases h1 : own_zv x < own_zv y
  · simp [h1]; cases o <;> rfl
  · by_cases h2 : own_zv x = own_zv y
    · simp [h2]; cases o <;> rfl
    · simp [h1, h2]; cases o <;> rfl
theorem own_nnv {x : UInt64} (h : val64 x ≠ .nan) : Jvm.Free.Fl.NoNaN64 x := Jvm.Free.Fl.val64_no.mpr h
theorem Dy.ne {x : UInt64} {a : Int} {k : Nat} (h : Dy x a k) : val64 x ≠ .nan := by obtain ⟨⟨s, c, q, e⟩, -⟩ := h; rw [e]; simp
theorem Dy.zv0 {x : UInt64} {a : Int} (h : Dy x a 0) : own_zv x = a * (one64 : Int) := by have := h.2; simpa using this
theorem own_div_same {x y x' y' : UInt64} {s t : Bool} {c d c' d' : Nat} {q r q' r' : Int} (ex : val64 x = .fin s c q) (ey : val64 y = .fin t d r) (ex' : val64 x' = .fin s c' q') (ey' : val64 y' = .fin t d' r') (hd : d ≠ 0) (hd' : d' ≠ 0)
    (h : zmag b64 (val64 x) * zmag b64 (val64 y') = zmag b64 (val64 x') * zmag b64 (val64 y)) : val64 (FP.ddiv x y) = val64 (FP.ddiv x' y') := by
  have fx := val64_fits x
  have fy := val64_fits y
  have fx' := val64_fits x'
  have fy' := val64_fits y'
  rw [ex] at fx h
  rw [ey] at fy h
  rw [ex'] at fx' h
  rw [ey'] at fy' h
  rw [own_ddiv ex ey hd, own_ddiv ex' ey' hd']
  refine roundRatio_congr (Nat.pos_of_ne_zero hd) (Nat.pos_of_ne_zero hd') ?_
  have g1 := fx.2.1
  have g2 := fy.2.1
  have g3 := fx'.2.1
  have g4 := fy'.2.1
  have h' : c * 2 ^ (q - b64.qmin).toNat * (d' * 2 ^ (r' - b64.qmin).toNat) = c' * 2 ^ (q' - b64.qmin).toNat * (d * 2 ^ (r - b64.qmin).toNat) := h
  rw [show c * 2 ^ (q - b64.qmin).toNat * (d' * 2 ^ (r' - b64.qmin).toNat) = (c * d') * (2 ^ (q - b64.qmin).toNat * 2 ^ (r' - b64.qmin).toNat) by ac_rfl, show c' * 2 ^ (q' - b64.qmin).toNat * (d * 2 ^ (r - b64.qmin).toNat) = (c' * d) * (2 ^ (q' - b64.qmin).toNat * 2 ^ (r - b64.qmin).toNat) by ac_rfl, ← Nat.pow_add, ← Nat.pow_add] at h'
  obtain ⟨mm, e1, e2⟩ : ∃ mm : Nat, (q - b64.qmin).toNat + (r' - b64.qmin).toNat = (q - r - (q' - r')).toNat + mm ∧ (q' - b64.qmin).toNat + (r - b64.qmin).toNat = (q' - r' - (q - r)).toNat + mm := ⟨min ((q - b64.qmin).toNat + (r' - b64.qmin).toNat) ((q' - b64.qmin).toNat + (r - b64.qmin).toNat), by omega, by omega⟩
  rw [e1, e2, Nat.pow_add, Nat.pow_add, ← Nat.mul_assoc, ← Nat.mul_assoc] at h'
  exact Nat.eq_of_mul_eq_mul_right (Nat.two_pow_pos mm) h'
theorem own_i2d_shape {v : Int32} (h : 0 ≤ v.toInt) : ∃ c q, val64 (FP.i2d v) = .fin false c q ∧ (0 < v.toInt → c ≠ 0) ∧ (zmag b64 (val64 (FP.i2d v)) : Int) = v.toInt * (one64 : Int) := by
  obtain ⟨c, q, e⟩ := l2d_shape v.toInt64
  have e : val64 (FP.i2d v) = .fin (decide (v.toInt64.toInt < 0)) c q := by rw [Jvm.RoadKit.i2d_w]; exact e
  rw [Int32.toInt_toInt64, show decide (v.toInt < 0) = false by simp; omega] at e
  have z := (Dy.i2d v).zv0
  have z2 : own_zv (FP.i2d v) = (zmag b64 (val64 (FP.i2d v)) : Int) := by unfold own_zv zval; rw [e]; rfl
  refine ⟨c, q, e, fun hp hc => ?_, by rw [← z2]; exact z⟩
  subst hc
  rw [z2, e] at z
  have p := Int.mul_pos hp own_up
  rw [← z] at p
  simp [zmag, inUnits] at p
/-- the share of a in n -/
def own_sh (a n : Int32) : UInt64 := FP.ddiv (FP.i2d a) (FP.i2d n)
theorem own_sh_ne {a n : Int32} (hn : 0 < n.toInt) : val64 (own_sh a n) ≠ .nan := own_qnan (Dy.i2d a) (Dy.i2d n) hn
theorem own_sh_0 {a n : Int32} (h : a.toInt = 0) (hn : 0 < n.toInt) : own_zv (own_sh a n) = 0 := by
  have q := ((Dy.i2d a).div (Dy.i2d n) (m := 0) (n := 0) (by omega) (by decide) (by decide) (by rw [h]; simp)).zv0
  rw [Int.zero_mul] at q; exact q
theorem own_sh_1 {a n : Int32} (h : a.toInt = n.toInt) (hn : 0 < n.toInt) : own_zv (own_sh a n) = (one64 : Int) := by
  have q := ((Dy.i2d a).div (Dy.i2d n) (m := 1) (n := 0) (by omega) (by decide) (by decide) (by rw [h]; omega)).zv0
  rw [Int.one_mul] at q; exact q
theorem own_sh_mid {a n : Int32} (h : 0 < a.toInt) (hn : a.toInt < n.toInt) : 0 < own_zv (own_sh a n) ∧ own_zv (own_sh a n) < (one64 : Int) := by
  have b1 := Int32.toInt_lt n
  have u := own_up
  have l := own_qlo (r := 1) (k := 31) (Dy.i2d a) (Dy.i2d n) (by omega) (by decide) (by decide) (by omega)
  have g := own_qhi (r := 2147483647) (k := 31) (Dy.i2d a) (Dy.i2d n) (by omega) (by decide) (by decide) (by omega)
  unfold own_sh
  generalize own_zv (FP.ddiv (FP.i2d a) (FP.i2d n)) = z at l g
  generalize (one64 : Int) = U at u l g
  omega
theorem own_sh_lt {a b n : Int32} (h0 : 0 ≤ a.toInt) (hab : a.toInt < b.toInt) (hb : b.toInt ≤ n.toInt) : own_zv (own_sh a n) < own_zv (own_sh b n) := by
  have b1 := Int32.toInt_lt n
  have u := own_up
  generalize hA : a.toInt = A at *
  generalize hB : b.toInt = B at *
  generalize hN : n.toInt = N at *
  have hN0 : 0 < N := by omega
  have f1 : A * 8589934592 < (A * 8589934592 / N + 1) * N := Int.lt_ediv_add_one_mul_self _ hN0
  have f2 : (A * 8589934592 + 8589934592) / N * N ≤ A * 8589934592 + 8589934592 := Int.ediv_mul_le _ (by omega)
  have f3 : A * 8589934592 / N + 4 ≤ (A * 8589934592 + 8589934592) / N := by
    rw [← Int.add_mul_ediv_right _ _ (Int.ne_of_gt hN0)]
    exact Int.ediv_le_ediv hN0 (by omega)
  have f4 : 0 ≤ A * 8589934592 / N := Int.ediv_nonneg (by omega) (by omega)
  have f5 : (A * 8589934592 + 8589934592) / N ≤ 8589934592 := by
    have : (A * 8589934592 + 8589934592) / N < 8589934593 := Int.ediv_lt_of_lt_mul hN0 (by omega)
    omega
  generalize A * 8589934592 / N = r1 at *
  generalize (A * 8589934592 + 8589934592) / N = r2 at *
  have g := own_qhi (r := r1 + 1) (k := 33) (Dy.i2d a) (Dy.i2d n) (by omega) (by omega) (by decide) (by rw [hA, hN]; show A * 8589934592 ≤ (r1 + 1) * N; omega)
  have l := own_qlo (r := r2) (k := 33) (Dy.i2d b) (Dy.i2d n) (by omega) (by omega) (by decide) (by rw [hB, hN]; show r2 * N ≤ B * 8589934592; omega)
  have m : (r1 + 1) * (one64 : Int) < r2 * (one64 : Int) := Int.mul_lt_mul_of_pos_right (by omega) u
  unfold own_sh
  generalize own_zv (FP.ddiv (FP.i2d a) (FP.i2d n)) = z1 at *
  generalize own_zv (FP.ddiv (FP.i2d b) (FP.i2d n)) = z2 at *
  have g' : z1 * 8589934592 ≤ (r1 + 1) * (one64 : Int) := g
  have l' : r2 * (one64 : Int) ≤ z2 * 8589934592 := l
  omega
theorem own_sh_dbl {a n a2 n2 : Int32} (h0 : 0 ≤ a.toInt) (hn : 0 < n.toInt) (ha : a2.toInt = 2 * a.toInt) (hn2 : n2.toInt = 2 * n.toInt) : own_zv (own_sh a2 n2) = own_zv (own_sh a n) := by
  obtain ⟨c, q, ex, -, zx⟩ := own_i2d_shape (v := a) h0
  obtain ⟨d, r, ey, nd, zy⟩ := own_i2d_shape (v := n) (by omega)
  obtain ⟨c', q', ex', -, zx'⟩ := own_i2d_shape (v := a2) (by omega)
  obtain ⟨d', r', ey', nd', zy'⟩ := own_i2d_shape (v := n2) (by omega)
  have e := own_div_same ex' ey' ex ey (nd' (by omega)) (nd hn) (by
    apply Int.ofNat.inj
    show ((zmag b64 (val64 (FP.i2d a2)) * zmag b64 (val64 (FP.i2d n)) : Nat) : Int) = ((zmag b64 (val64 (FP.i2d a)) * zmag b64 (val64 (FP.i2d n2)) : Nat) : Int)
    rw [Int.natCast_mul, Int.natCast_mul, zx, zy, zx', zy', ha, hn2]
    generalize (one64 : Int) = U
    ac_rfl)
  unfold own_sh own_zv
  rw [e]
end OwnDiv
theorem own_0 : Dy FP.dconst0 0 0 := Dy.lit false 0 (-1074) (by decide +kernel) (by decide +kernel)
theorem own_1 : Dy FP.dconst1 1 0 := Dy.lit false 4503599627370496 (-52) (by decide +kernel) (by decide +kernel)
theorem own_z0 : own_zv FP.dconst0 = 0 := by have := own_0.zv0; rw [Int.zero_mul] at this; exact this
theorem own_z1 : own_zv FP.dconst1 = (Jvm.FP.Core.one64 : Int) := by have := own_1.zv0; rw [Int.one_mul] at this; exact this
theorem own_runs {a r : Int32} (h : (a &&& (2147483647 : Int32)) = r) : 0 ≤ r.toInt := by rw [← h]; exact (c_and a 2147483647 (by decide)).1
theorem own_div1 {i : Int32} (h : 0 ≤ i.toInt) : (i.toInt64 + (1 : Int64)).toInt = i.toInt + 1 := by
  have b := own_b i
  rw [own_addL] <;> rw [Int32.toInt_toInt64, show (1 : Int64).toInt = 1 by decide]; omega
theorem own_dnz {i : Int32} (h : 0 ≤ i.toInt) : (i.toInt64 + (1 : Int64)) ≠ (0 : Int64) := fun e => by
  have q := own_div1 h
  rw [e] at q
  have : (0 : Int64).toInt = 0 := by decide
  omega
theorem own_conv {p i r : Int32} (h0 : 0 ≤ i.toInt) (h : ((p.toInt64 &&& (2147483647 : Int64)) - ((p.toInt64 &&& (2147483647 : Int64)) / (i.toInt64 + (1 : Int64))) * (i.toInt64 + (1 : Int64))).toInt32 = r) : 0 ≤ r.toInt ∧ r.toInt ≤ i.toInt := by
  have b := own_b i
  have x0 := (c_andSL p.toInt64 (2147483647 : Int64)).2.2 (by decide)
  have q := (c_lrem (p.toInt64 &&& (2147483647 : Int64)) (i.toInt64 + (1 : Int64)) (i.toInt + 1) (own_div1 h0)).1 x0
  have l1 := Int.emod_nonneg (p.toInt64 &&& (2147483647 : Int64)).toInt (show i.toInt + 1 ≠ 0 by omega)
  have l2 := Int.emod_lt_of_pos (p.toInt64 &&& (2147483647 : Int64)).toInt (show 0 < i.toInt + 1 by omega)
  rw [← h, Int64.toInt_toInt32, q, Int.bmod_eq_of_le (by omega) (by omega)]
  omega
theorem own_nz {i : Int32} (h : 0 ≤ i.toInt) (hz : ¬ i = (0 : Int32)) : 0 < i.toInt := by
  have : i.toInt ≠ 0 := fun e => hz (Int32.toInt_inj.mp (e.trans (by decide)))
  omega
theorem own_ieq {a b : Int32} : a = b ↔ a.toInt = b.toInt := Int32.toInt_inj.symm
theorem own_ilt {a b : Int32} : a < b ↔ a.toInt < b.toInt := Int32.lt_iff_toInt_lt
theorem own_two {a n : Int32} (h0 : 0 ≤ a.toInt) (h1 : a.toInt ≤ n.toInt) (h : ¬ (1073741823 : Int32) < n) : ((2 : Int32) * a).toInt = 2 * a.toInt := by
  rw [own_ilt] at h
  have e : (1073741823 : Int32).toInt = 1073741823 := by decide
  have e2 : (2 : Int32).toInt = 2 := by decide
  rw [own_mulI] <;> rw [e2]; omega
theorem own_0eq {a : Int32} : a = (0 : Int32) ↔ a.toInt = 0 := by rw [own_ieq]; exact Iff.rfl
theorem d2_0 : decode jdk_30_method_1_code 0 = .ok (.aload_n 0, 1) := by decide +kernel
theorem d2_1 : decode jdk_30_method_1_code 1 = .ok (.invokespecial 1, 3) := by decide +kernel
theorem d2_4 : decode jdk_30_method_1_code 4 = .ok (.return_, 1) := by decide +kernel
theorem pn_0 : plainName "java/lang/Record" = true := by first | (simp [plainName, overriddenIn]; done) | decide +kernel
theorem ef_2 (m : MethodId) (x0 : Addr) : entryFrame m #[(.ref x0)] 1 = mkF m 0 #[.val (.ref x0)] [] := by first | (simp [entryFrame, mkF, argsToLocals, Value.category]; done) | rfl
def Q2 (Z : State) (a0 : Addr) (h0 : Heap) (n0 : Nat) (vQ : Option Value) (hQ_ : Heap) (LQ : List Loc) : Prop := vQ = none ∧ Fr n0 LQ ∧ hQ_ = h0
def Fn2 (Z : State) (a0 : Addr) (h0 : Heap) (n0 : Nat) (sQ : State) (oQ : Outcome) (UQ : State) : Prop := ∃ vQ LQ, oQ = .returned vQ ∧ Q2 Z a0 h0 n0 vQ UQ.heap LQ ∧ FrameEnd sQ oQ UQ LQ ({ frames := 1, cells := 0, slots := 0, locals := 12 } : Room).cells ({ frames := 1, cells := 0, slots := 0, locals := 12 } : Room).slots
set_option maxRecDepth 65536 in
set_option maxHeartbeats 40000000 in
theorem rm2 (l : Launch) (Z : State) (aZ : Array Value) (hw : ∀ d ∈ tables_1, d.before aZ Z = true) (ws : List Jvm.Cond) (a0 : Addr) (h0 : Heap) (n0 : Nat) (Z0 : n0 ≤ h0.size) :
    MetFree l (⟨"java/lang/Record", "<init>", "()V"⟩ : MethodName) (head1 (Jvm.Cond.code (⟨"java/lang/Record", "<init>", "()V"⟩ : MethodName) jdk_30_method_1_code 1 none :: ws) ({ frames := 1, cells := 0, slots := 0, locals := 12 } : Room)) (fun aQ UQ => aQ = #[(.ref a0)] ∧ Z.Warmed39 UQ.vm ∧ UQ.heap = h0) (fun _ _ _ _ _ => True) (fun _ UQ oQ UR => ∃ vQ LQ, oQ = .returned vQ ∧ Q2 Z a0 h0 n0 vQ UR.heap LQ ∧ FrameEnd UQ oQ UR LQ ({ frames := 1, cells := 0, slots := 0, locals := 12 } : Room).cells ({ frames := 1, cells := 0, slots := 0, locals := 12 } : Room).slots) := by
  refine MetFree.of_bodySF (plainFor_of_name pn_0) hisR ?_
  intro p e s m args below meth c s₁ Bd hml0 hP hK
  obtain ⟨rfl, hZ, hh⟩ := hP
  have hx := Bd.exec
  have hby := Bd.bytes
  have hml : c.maxLocals = 1 := hml0
  have hown : s.vm.findClass "java/lang/Record" = some m.cls := findClass_of_methodNamed Bd.named
  have hnm := (name_of_methodNamed Bd.named Bd.method).1
  have X0 : Stand p l e ({ frames := 1, cells := 0, slots := 0, locals := 12 } : Room) s m #[(.ref a0)] below meth c s₁ [] 0 0 := Stand.of_body Bd
  have e0 : s₁.heap = h0 := by rw [← hh, Bd.state]; rfl
  have N0 := Fr.nil n0
  have K0 : Keep h0 h0 [] := Keep.refl _ _
  have w_13 := hw _ (List.mem_of_getElem? (i := 13) rfl)
  have w_14 := hw _ (List.mem_of_getElem? (i := 14) rfl)
  have w_15 := hw _ (List.mem_of_getElem? (i := 15) rfl)
  have first_ : Rn p e below (s₁.setTop (mkF m 0 #[.val (.ref a0)] [])) (Fn2 Z a0 h0 n0 s) := by
    generalize hG : (Fn2 Z a0 h0 n0 s) = G
    refine R.aloadN X0 hx (hb hby d2_0) rfl rfl (pc' := 1) rfl ?_
    refine R.initO X0 hx hZ hown w_13 w_14 w_15 e0 (by rw [hml]; rfl) (hb hby d2_1) (pc' := 4) rfl (by decide) (W := 0) (Nat.le_of_eq rfl) (by decide) ?_; intro T1 X1 e1
    rw [← hG]
    exact Rn.ret X1 (BodyLoose.notSynchronized Bd) (v := none) (fun _ => rfl) (Q := Q2 Z a0 h0 n0) e1 (fun fs hr => X1.returnOut hx Bd.returns (hb hby d2_4) hr) ⟨rfl, N0, rfl⟩ (by decide) (by decide)
  exact (Rn.st (fun t k => castTop (ef_2 m a0) k) first_ : Rn p e below (s₁.setTop (entryFrame m #[(.ref a0)] 1)) (Fn2 Z a0 h0 n0 s))
theorem d1_0 : decode prog_15_method_1_code 0 = .ok (.aload_n 0, 1) := by decide +kernel
theorem d1_1 : decode prog_15_method_1_code 1 = .ok (.invokespecial 1, 3) := by decide +kernel
theorem pd_0 : parseMethodDescriptor "()V" = some ⟨[], none⟩ := by decide +kernel
abbrev mY0 : MethodName := (⟨"java/lang/Record", "<init>", "()V"⟩ : MethodName)
theorem d1_4 : decode prog_15_method_1_code 4 = .ok (.aload_n 0, 1) := by decide +kernel
theorem d1_5 : decode prog_15_method_1_code 5 = .ok (.iload_n 1, 1) := by decide +kernel
theorem d1_6 : decode prog_15_method_1_code 6 = .ok (.putfield 7, 3) := by decide +kernel
theorem d1_9 : decode prog_15_method_1_code 9 = .ok (.aload_n 0, 1) := by decide +kernel
theorem d1_10 : decode prog_15_method_1_code 10 = .ok (.lload_n 2, 1) := by decide +kernel
theorem d1_11 : decode prog_15_method_1_code 11 = .ok (.putfield 13, 3) := by decide +kernel
theorem d1_14 : decode prog_15_method_1_code 14 = .ok (.aload_n 0, 1) := by decide +kernel
theorem d1_15 : decode prog_15_method_1_code 15 = .ok (.iload 4, 2) := by decide +kernel
theorem d1_17 : decode prog_15_method_1_code 17 = .ok (.putfield 17, 3) := by decide +kernel
theorem d1_20 : decode prog_15_method_1_code 20 = .ok (.return_, 1) := by decide +kernel
theorem pn_1 : plainName "com/example/upupa/upupa/feedback/IterationTally" = true := by first | (simp [plainName, overriddenIn]; done) | decide +kernel
theorem ef_1 (m : MethodId) (x0 : Addr) (x1 : Int32) (x2 : Int64) (x3 : Int32) : entryFrame m #[(.ref x0), (.int x1), (.long x2), (.int x3)] 5 = mkF m 0 #[.val (.ref x0), .val (.int x1), .val (.long x2), .second, .val (.int x3)] [] := by first | (simp [entryFrame, mkF, argsToLocals, Value.category]; done) | rfl
def Q1 (Z : State) (a0 : Addr) (p1 : Int32) (q2 : Int64) (p3 : Int32) (h0 : Heap) (n0 : Nat) (vQ : Option Value) (hQ_ : Heap) (LQ : List Loc) : Prop := vQ = none ∧ Fr n0 LQ ∧ Keep h0 hQ_ [a0] ∧ (Exa Z hQ_ a0 "com/example/upupa/upupa/feedback/IterationTally") ∧ (Fld Z hQ_ a0 "com/example/upupa/upupa/feedback/IterationTally" "runs" "I" (.int p1)) ∧ (Fld Z hQ_ a0 "com/example/upupa/upupa/feedback/IterationTally" "iterations" "J" (.long q2)) ∧ (Fld Z hQ_ a0 "com/example/upupa/upupa/feedback/IterationTally" "converged" "I" (.int p3))
def Fn1 (Z : State) (a0 : Addr) (p1 : Int32) (q2 : Int64) (p3 : Int32) (h0 : Heap) (n0 : Nat) (sQ : State) (oQ : Outcome) (UQ : State) : Prop := ∃ vQ LQ, oQ = .returned vQ ∧ Q1 Z a0 p1 q2 p3 h0 n0 vQ UQ.heap LQ ∧ FrameEnd sQ oQ UQ LQ ({ frames := 2, cells := 0, slots := 0, locals := 24 } : Room).cells ({ frames := 2, cells := 0, slots := 0, locals := 24 } : Room).slots
set_option maxRecDepth 65536 in
set_option maxHeartbeats 40000000 in
theorem rm1 (l : Launch) (Z : State) (aZ : Array Value) (hw : ∀ d ∈ tables_1, d.before aZ Z = true) (ws : List Jvm.Cond) (a0 : Addr) (p1 : Int32) (q2 : Int64) (p3 : Int32) (h0 : Heap) (n0 : Nat) (Z0 : n0 ≤ h0.size) (E_a0 : Exa Z h0 a0 "com/example/upupa/upupa/feedback/IterationTally") (F_runs_a0 : Fld Z h0 a0 "com/example/upupa/upupa/feedback/IterationTally" "runs" "I" (.int (0 : Int32))) (F_iterations_a0 : Fld Z h0 a0 "com/example/upupa/upupa/feedback/IterationTally" "iterations" "J" (.long (0 : Int64))) (F_converged_a0 : Fld Z h0 a0 "com/example/upupa/upupa/feedback/IterationTally" "converged" "I" (.int (0 : Int32))) (g_a0 : n0 ≤ a0) :
    MetFree l (⟨"com/example/upupa/upupa/feedback/IterationTally", "<init>", "(IJI)V"⟩ : MethodName) (head1 (Jvm.Cond.code (⟨"com/example/upupa/upupa/feedback/IterationTally", "<init>", "(IJI)V"⟩ : MethodName) prog_15_method_1_code 5 none :: ws) ({ frames := 2, cells := 0, slots := 0, locals := 24 } : Room)) (fun aQ UQ => aQ = #[(.ref a0), (.int p1), (.long q2), (.int p3)] ∧ Z.Warmed39 UQ.vm ∧ UQ.heap = h0) (fun _ _ _ _ _ => True) (fun _ UQ oQ UR => ∃ vQ LQ, oQ = .returned vQ ∧ Q1 Z a0 p1 q2 p3 h0 n0 vQ UR.heap LQ ∧ FrameEnd UQ oQ UR LQ ({ frames := 2, cells := 0, slots := 0, locals := 24 } : Room).cells ({ frames := 2, cells := 0, slots := 0, locals := 24 } : Room).slots) := by
  refine MetFree.of_bodySF (plainFor_of_name pn_1) hisR ?_
  intro p e s m args below meth c s₁ Bd hml0 hP hK
  obtain ⟨rfl, hZ, hh⟩ := hP
  have hx := Bd.exec
  have hby := Bd.bytes
  have hml : c.maxLocals = 5 := hml0
  have hown : s.vm.findClass "com/example/upupa/upupa/feedback/IterationTally" = some m.cls := findClass_of_methodNamed Bd.named
  have hnm := (name_of_methodNamed Bd.named Bd.method).1
  have X0 : Stand p l e ({ frames := 2, cells := 0, slots := 0, locals := 24 } : Room) s m #[(.ref a0), (.int p1), (.long q2), (.int p3)] below meth c s₁ [] 0 0 := Stand.of_body Bd
  have e0 : s₁.heap = h0 := by rw [← hh, Bd.state]; rfl
  have N0 := Fr.nil n0
  have K0 : Keep h0 h0 [a0] := Keep.refl _ _
  have w_3 := hw _ (List.mem_of_getElem? (i := 3) rfl)
  have w_8 := hw _ (List.mem_of_getElem? (i := 8) rfl)
  have w_9 := hw _ (List.mem_of_getElem? (i := 9) rfl)
  have w_11 := hw _ (List.mem_of_getElem? (i := 11) rfl)
  have w_12 := hw _ (List.mem_of_getElem? (i := 12) rfl)
  have w_16 := hw _ (List.mem_of_getElem? (i := 16) rfl)
  have w_17 := hw _ (List.mem_of_getElem? (i := 17) rfl)
  have w_18 := hw _ (List.mem_of_getElem? (i := 18) rfl)
  have w_19 := hw _ (List.mem_of_getElem? (i := 19) rfl)
  have w_20 := hw _ (List.mem_of_getElem? (i := 20) rfl)
  have w_21 := hw _ (List.mem_of_getElem? (i := 21) rfl)
  have first_ : Rn p e below (s₁.setTop (mkF m 0 #[.val (.ref a0), .val (.int p1), .val (.long q2), .second, .val (.int p3)] [])) (Fn1 Z a0 p1 q2 p3 h0 n0 s) := by
    generalize hG : (Fn1 Z a0 p1 q2 p3 h0 n0 s) = G
    refine R.aloadN X0 hx (hb hby d1_0) rfl rfl (pc' := 1) rfl ?_
    refine R.special X0 hx hZ (y := mY0) rfl hown w_8 w_9 w_11 w_12 (by decide) e0 (rm2 l Z aZ hw [] a0 h0 n0 Z0 ) (by decide) (W := 0) (Nat.le_of_eq rfl) (by decide) (by rw [hml]; rfl) (lenOf pd_0 rfl) rfl (hb hby d1_1) (pc' := 4) rfl (by decide) (by decide) ?_; intro v1 T1 L1 X1 hQ1
    obtain ⟨rfl, N1q, e1⟩ := hQ1
    have N1 := Fr.app N0 N1q
    refine R.aloadN X1 hx (hb hby d1_4) rfl rfl (pc' := 5) rfl ?_
    refine R.iloadN X1 hx (hb hby d1_5) rfl (pc' := 6) rfl ?_
    refine R.putF X1 hx hZ hown (host := "") (Or.inl w_16) Via.refl e1 F_runs_a0 E_a0 (Or.inr ⟨w_17, rfl, hnm⟩) w_3 (ty := .int) (by decide) rfl rfl (hb hby d1_6) (pc' := 9) rfl ?_; intro T2 h2 X2 e2 W2
    have E_a0 := E_a0.wr W2
    have F_iterations_a0 := F_iterations_a0.other W2 (Or.inr (slot_ne (Or.inr w_19) (Or.inr w_17) (by decide) (t := .long) (t' := .int) (by decide) (by decide)))
    have F_converged_a0 := F_converged_a0.other W2 (Or.inr (slot_ne (Or.inr w_21) (Or.inr w_17) (by decide) (t := .int) (t' := .int) (by decide) (by decide)))
    have F_runs_a0 : Fld Z h2 a0 "com/example/upupa/upupa/feedback/IterationTally" "runs" "I" (.int p1) := F_runs_a0.same W2
    have N2 := Fr.snoc X2 N1 g_a0
    have K2 : Keep h0 h2 [a0] := K0.wr W2 (Or.inl (List.mem_of_getElem? (i := 0) rfl))
    have Z2 : n0 ≤ h2.size := Nat.le_trans Z0 (Keep.of_wr W2).1
    refine R.aloadN X2 hx (hb hby d1_9) rfl rfl (pc' := 10) rfl ?_
    refine R.lloadN X2 hx (hb hby d1_10) rfl (pc' := 11) rfl ?_
    refine R.putF X2 hx hZ hown (host := "") (Or.inl w_18) Via.refl e2 F_iterations_a0 E_a0 (Or.inr ⟨w_19, rfl, hnm⟩) w_3 (ty := .long) (by decide) rfl rfl (hb hby d1_11) (pc' := 14) rfl ?_; intro T3 h3 X3 e3 W3
    have E_a0 := E_a0.wr W3
    have F_converged_a0 := F_converged_a0.other W3 (Or.inr (slot_ne (Or.inr w_21) (Or.inr w_19) (by decide) (t := .int) (t' := .long) (by decide) (by decide)))
    have F_runs_a0 := F_runs_a0.other W3 (Or.inr (slot_ne (Or.inr w_17) (Or.inr w_19) (by decide) (t := .int) (t' := .long) (by decide) (by decide)))
    have F_iterations_a0 : Fld Z h3 a0 "com/example/upupa/upupa/feedback/IterationTally" "iterations" "J" (.long q2) := F_iterations_a0.same W3
    have N3 := Fr.snoc X3 N2 g_a0
    have K3 : Keep h0 h3 [a0] := K2.wr W3 (Or.inl (List.mem_of_getElem? (i := 0) rfl))
    have Z3 : n0 ≤ h3.size := Nat.le_trans Z2 (Keep.of_wr W3).1
    refine R.aloadN X3 hx (hb hby d1_14) rfl rfl (pc' := 15) rfl ?_
    refine R.iload X3 hx (hb hby d1_15) rfl (pc' := 17) rfl ?_
    refine R.putF X3 hx hZ hown (host := "") (Or.inl w_20) Via.refl e3 F_converged_a0 E_a0 (Or.inr ⟨w_21, rfl, hnm⟩) w_3 (ty := .int) (by decide) rfl rfl (hb hby d1_17) (pc' := 20) rfl ?_; intro T4 h4 X4 e4 W4
    have E_a0 := E_a0.wr W4
    have F_runs_a0 := F_runs_a0.other W4 (Or.inr (slot_ne (Or.inr w_17) (Or.inr w_21) (by decide) (t := .int) (t' := .int) (by decide) (by decide)))
    have F_iterations_a0 := F_iterations_a0.other W4 (Or.inr (slot_ne (Or.inr w_19) (Or.inr w_21) (by decide) (t := .long) (t' := .int) (by decide) (by decide)))
    have F_converged_a0 : Fld Z h4 a0 "com/example/upupa/upupa/feedback/IterationTally" "converged" "I" (.int p3) := F_converged_a0.same W4
    have N4 := Fr.snoc X4 N3 g_a0
    have K4 : Keep h0 h4 [a0] := K3.wr W4 (Or.inl (List.mem_of_getElem? (i := 0) rfl))
    have Z4 : n0 ≤ h4.size := Nat.le_trans Z3 (Keep.of_wr W4).1
    rw [← hG]
    exact Rn.ret X4 (BodyLoose.notSynchronized Bd) (v := none) (fun _ => rfl) (Q := Q1 Z a0 p1 q2 p3 h0 n0) e4 (fun fs hr => X4.returnOut hx Bd.returns (hb hby d1_20) hr) ⟨rfl, N4, K4, E_a0, F_runs_a0, F_iterations_a0, F_converged_a0⟩ (by decide) (by decide)
  exact (Rn.st (fun t k => castTop (ef_1 m a0 p1 q2 p3) k) first_ : Rn p e below (s₁.setTop (entryFrame m #[(.ref a0), (.int p1), (.long q2), (.int p3)] 5)) (Fn1 Z a0 p1 q2 p3 h0 n0 s))
theorem d4_0 : decode prog_15_method_5_code 0 = .ok (.aload_n 0, 1) := by decide +kernel
theorem d4_1 : decode prog_15_method_5_code 1 = .ok (.getfield 7, 3) := by decide +kernel
theorem d4_4 : decode prog_15_method_5_code 4 = .ok (.ifCond .ne 9, 3) := by decide +kernel
theorem d4_7 : decode prog_15_method_5_code 7 = .ok (.ldc2_w 25, 3) := by decide +kernel
theorem d4_10 : decode prog_15_method_5_code 10 = .ok (.goto 14, 3) := by decide +kernel
theorem d4_24 : decode prog_15_method_5_code 24 = .ok (.dreturn, 1) := by decide +kernel
theorem ef_z (m : MethodId) (x0 : Addr) : entryFrame m #[(.ref x0)] 1 = mkF m 0 #[.val (.ref x0)] [] := by first | (simp [entryFrame, mkF, argsToLocals, Value.category]; done) | rfl
def Qz (Z : State) (a0 : Addr) (v : Int32) (h0 : Heap) (n0 : Nat) (vQ : Option Value) (hQ_ : Heap) (LQ : List Loc) : Prop := vQ = some (.double (9221120237041090560 : UInt64)) ∧ Fr n0 LQ ∧ hQ_ = h0
def Fnz (Z : State) (a0 : Addr) (v : Int32) (h0 : Heap) (n0 : Nat) (sQ : State) (oQ : Outcome) (UQ : State) : Prop := ∃ vQ LQ, oQ = .returned vQ ∧ Qz Z a0 v h0 n0 vQ UQ.heap LQ ∧ FrameEnd sQ oQ UQ LQ ({ frames := 0, cells := 0, slots := 0, locals := 0 } : Room).cells ({ frames := 0, cells := 0, slots := 0, locals := 0 } : Room).slots
set_option maxRecDepth 65536 in
set_option maxHeartbeats 40000000 in
theorem rmz (l : Launch) (Z : State) (aZ : Array Value) (hw : ∀ d ∈ tables_1, d.before aZ Z = true) (ws : List Jvm.Cond) (a0 : Addr) (v : Int32) (h0 : Heap) (n0 : Nat) (Z0 : n0 ≤ h0.size) (F_runs_a0 : Fld Z h0 a0 "com/example/upupa/upupa/feedback/IterationTally" "runs" "I" (.int v)) (hz : v = (0 : Int32)) :
    MetFree l (⟨"com/example/upupa/upupa/feedback/IterationTally", "convergedShare", "()D"⟩ : MethodName) (head1 (Jvm.Cond.code (⟨"com/example/upupa/upupa/feedback/IterationTally", "convergedShare", "()D"⟩ : MethodName) prog_15_method_5_code 1 (some .double) :: ws) ({ frames := 0, cells := 0, slots := 0, locals := 0 } : Room)) (fun aQ UQ => aQ = #[(.ref a0)] ∧ Z.Warmed39 UQ.vm ∧ UQ.heap = h0) (fun _ _ _ _ _ => True) (fun _ UQ oQ UR => ∃ vQ LQ, oQ = .returned vQ ∧ Qz Z a0 v h0 n0 vQ UR.heap LQ ∧ FrameEnd UQ oQ UR LQ ({ frames := 0, cells := 0, slots := 0, locals := 0 } : Room).cells ({ frames := 0, cells := 0, slots := 0, locals := 0 } : Room).slots) := by
  refine MetFree.of_bodySF (plainFor_of_name pn_1) hisR ?_
  intro p e s m args below meth c s₁ Bd hml0 hP hK
  obtain ⟨rfl, hZ, hh⟩ := hP
  have hx := Bd.exec
  have hby := Bd.bytes
  have hml : c.maxLocals = 1 := hml0
  have hown : s.vm.findClass "com/example/upupa/upupa/feedback/IterationTally" = some m.cls := findClass_of_methodNamed Bd.named
  have hnm := (name_of_methodNamed Bd.named Bd.method).1
  have X0 : Stand p l e ({ frames := 0, cells := 0, slots := 0, locals := 0 } : Room) s m #[(.ref a0)] below meth c s₁ [] 0 0 := Stand.of_body Bd
  have e0 : s₁.heap = h0 := by rw [← hh, Bd.state]; rfl
  have N0 := Fr.nil n0
  have K0 : Keep h0 h0 [] := Keep.refl _ _
  have w_16 := hw _ (List.mem_of_getElem? (i := 16) rfl)
  have w_27 := hw _ (List.mem_of_getElem? (i := 27) rfl)
  have first_ : Rn p e below (s₁.setTop (mkF m 0 #[.val (.ref a0)] [])) (Fnz Z a0 v h0 n0 s) := by
    generalize hG : (Fnz Z a0 v h0 n0 s) = G
    refine R.aloadN X0 hx (hb hby d4_0) rfl rfl (pc' := 1) rfl ?_
    refine R.getF X0 hx hZ hown (host := "") (Or.inl w_16) Via.refl e0 F_runs_a0 (hb hby d4_1) (pc' := 4) rfl ?_; intro T1 X1 e1
    refine R.ifNo X1 hx (hb hby d4_4) (teq (hz : v = (0 : Int32))).2 (pc' := 7) rfl ?_
    refine R.ldc2D X1 hx hZ hown w_27 (hb hby d4_7) (pc' := 10) rfl ?_
    refine R.goto X1 hx (hb hby d4_10) (by decide) (pc' := 24) (by decide) ?_
    rw [← hG]
    exact Rn.ret X1 (BodyLoose.notSynchronized Bd) (v := some (.double (9221120237041090560 : UInt64))) (fun h => by rw [Bd.returns] at h; cases h) (Q := Qz Z a0 v h0 n0) e1 (fun fs hr => retOut X1 hx (t := .double) Bd.returns rfl (Or.inr (Or.inr (Or.inl ⟨rfl, rfl, _, rfl⟩))) (hb hby d4_24) hr) ⟨rfl, N0, rfl⟩ (by decide) (by decide)
  exact (Rn.st (fun t k => castTop (ef_z m a0) k) first_ : Rn p e below (s₁.setTop (entryFrame m #[(.ref a0)] 1)) (Fnz Z a0 v h0 n0 s))
theorem d4_13 : decode prog_15_method_5_code 13 = .ok (.aload_n 0, 1) := by decide +kernel
theorem d4_14 : decode prog_15_method_5_code 14 = .ok (.getfield 17, 3) := by decide +kernel
theorem d4_17 : decode prog_15_method_5_code 17 = .ok (.i2d, 1) := by decide +kernel
theorem d4_18 : decode prog_15_method_5_code 18 = .ok (.aload_n 0, 1) := by decide +kernel
theorem d4_19 : decode prog_15_method_5_code 19 = .ok (.getfield 7, 3) := by decide +kernel
theorem d4_22 : decode prog_15_method_5_code 22 = .ok (.i2d, 1) := by decide +kernel
theorem d4_23 : decode prog_15_method_5_code 23 = .ok (.ddiv, 1) := by decide +kernel
theorem ef_d (m : MethodId) (x0 : Addr) : entryFrame m #[(.ref x0)] 1 = mkF m 0 #[.val (.ref x0)] [] := by first | (simp [entryFrame, mkF, argsToLocals, Value.category]; done) | rfl
def Qd (Z : State) (a0 : Addr) (v : Int32) (u : Int32) (h0 : Heap) (n0 : Nat) (vQ : Option Value) (hQ_ : Heap) (LQ : List Loc) : Prop := vQ = some (.double (own_sh u v)) ∧ Fr n0 LQ ∧ hQ_ = h0
def Fnd (Z : State) (a0 : Addr) (v : Int32) (u : Int32) (h0 : Heap) (n0 : Nat) (sQ : State) (oQ : Outcome) (UQ : State) : Prop := ∃ vQ LQ, oQ = .returned vQ ∧ Qd Z a0 v u h0 n0 vQ UQ.heap LQ ∧ FrameEnd sQ oQ UQ LQ ({ frames := 0, cells := 0, slots := 0, locals := 0 } : Room).cells ({ frames := 0, cells := 0, slots := 0, locals := 0 } : Room).slots
set_option maxRecDepth 65536 in
set_option maxHeartbeats 40000000 in
theorem rmd (l : Launch) (Z : State) (aZ : Array Value) (hw : ∀ d ∈ tables_1, d.before aZ Z = true) (ws : List Jvm.Cond) (a0 : Addr) (v : Int32) (u : Int32) (h0 : Heap) (n0 : Nat) (Z0 : n0 ≤ h0.size) (F_runs_a0 : Fld Z h0 a0 "com/example/upupa/upupa/feedback/IterationTally" "runs" "I" (.int v)) (F_converged_a0 : Fld Z h0 a0 "com/example/upupa/upupa/feedback/IterationTally" "converged" "I" (.int u)) (hz : ¬ v = (0 : Int32)) (nn : NoNaN64 (FP.ddiv (FP.i2d u) (FP.i2d v))) :
    MetFree l (⟨"com/example/upupa/upupa/feedback/IterationTally", "convergedShare", "()D"⟩ : MethodName) (head1 (Jvm.Cond.code (⟨"com/example/upupa/upupa/feedback/IterationTally", "convergedShare", "()D"⟩ : MethodName) prog_15_method_5_code 1 (some .double) :: ws) ({ frames := 0, cells := 0, slots := 0, locals := 0 } : Room)) (fun aQ UQ => aQ = #[(.ref a0)] ∧ Z.Warmed39 UQ.vm ∧ UQ.heap = h0) (fun _ _ _ _ _ => True) (fun _ UQ oQ UR => ∃ vQ LQ, oQ = .returned vQ ∧ Qd Z a0 v u h0 n0 vQ UR.heap LQ ∧ FrameEnd UQ oQ UR LQ ({ frames := 0, cells := 0, slots := 0, locals := 0 } : Room).cells ({ frames := 0, cells := 0, slots := 0, locals := 0 } : Room).slots) := by
  refine MetFree.of_bodySF (plainFor_of_name pn_1) hisR ?_
  intro p e s m args below meth c s₁ Bd hml0 hP hK
  obtain ⟨rfl, hZ, hh⟩ := hP
  have hx := Bd.exec
  have hby := Bd.bytes
  have hml : c.maxLocals = 1 := hml0
  have hown : s.vm.findClass "com/example/upupa/upupa/feedback/IterationTally" = some m.cls := findClass_of_methodNamed Bd.named
  have hnm := (name_of_methodNamed Bd.named Bd.method).1
  have X0 : Stand p l e ({ frames := 0, cells := 0, slots := 0, locals := 0 } : Room) s m #[(.ref a0)] below meth c s₁ [] 0 0 := Stand.of_body Bd
  have e0 : s₁.heap = h0 := by rw [← hh, Bd.state]; rfl
  have N0 := Fr.nil n0
  have K0 : Keep h0 h0 [] := Keep.refl _ _
  have w_16 := hw _ (List.mem_of_getElem? (i := 16) rfl)
  have w_20 := hw _ (List.mem_of_getElem? (i := 20) rfl)
  have first_ : Rn p e below (s₁.setTop (mkF m 0 #[.val (.ref a0)] [])) (Fnd Z a0 v u h0 n0 s) := by
    generalize hG : (Fnd Z a0 v u h0 n0 s) = G
    refine R.aloadN X0 hx (hb hby d4_0) rfl rfl (pc' := 1) rfl ?_
    refine R.getF X0 hx hZ hown (host := "") (Or.inl w_16) Via.refl e0 F_runs_a0 (hb hby d4_1) (pc' := 4) rfl ?_; intro T1 X1 e1
    refine R.ifYes X1 hx (hb hby d4_4) (feq (hz : ¬ (v = (0 : Int32)))).2 (by decide) (pc' := 13) (by decide) ?_
    refine R.aloadN X1 hx (hb hby d4_13) rfl rfl (pc' := 14) rfl ?_
    refine R.getF X1 hx hZ hown (host := "") (Or.inl w_20) Via.refl e1 F_converged_a0 (hb hby d4_14) (pc' := 17) rfl ?_; intro T2 X2 e2
    refine R.i2d X2 hx (hb hby d4_17) (pc' := 18) rfl ?_
    refine R.aloadN X2 hx (hb hby d4_18) rfl rfl (pc' := 19) rfl ?_
    refine R.getF X2 hx hZ hown (host := "") (Or.inl w_16) Via.refl e2 F_runs_a0 (hb hby d4_19) (pc' := 22) rfl ?_; intro T3 X3 e3
    refine R.i2d X3 hx (hb hby d4_22) (pc' := 23) rfl ?_
    refine R.ddiv X3 hx (hb hby d4_23) (nn : NoNaN64 (FP.ddiv (FP.i2d u) (FP.i2d v))) (pc' := 24) rfl ?_
    rw [← hG]
    exact Rn.ret X3 (BodyLoose.notSynchronized Bd) (v := some (.double (FP.ddiv (FP.i2d u) (FP.i2d v)))) (fun h => by rw [Bd.returns] at h; cases h) (Q := Qd Z a0 v u h0 n0) e3 (fun fs hr => retOut X3 hx (t := .double) Bd.returns rfl (Or.inr (Or.inr (Or.inl ⟨rfl, rfl, _, rfl⟩))) (hb hby d4_24) hr) ⟨rfl, N0, rfl⟩ (by decide) (by decide)
  exact (Rn.st (fun t k => castTop (ef_d m a0) k) first_ : Rn p e below (s₁.setTop (entryFrame m #[(.ref a0)] 1)) (Fnd Z a0 v u h0 n0 s))
theorem pd_1 : parseMethodDescriptor "(IJI)V" = some ⟨[.int, .long, .int], none⟩ := by decide +kernel
abbrev mY1 : MethodName := (⟨"com/example/upupa/upupa/feedback/IterationTally", "<init>", "(IJI)V"⟩ : MethodName)
theorem pd_2 : parseMethodDescriptor "()D" = some ⟨[], some .double⟩ := by decide +kernel
abbrev mY2 : MethodName := (⟨"com/example/upupa/upupa/feedback/IterationTally", "convergedShare", "()D"⟩ : MethodName)
theorem pn_2 : plainName "com/example/upupa/upupa/feedback/IterationTallyConvergedSharePinLaw" = true := by first | (simp [plainName, overriddenIn]; done) | decide +kernel
theorem ef_0 (m : MethodId) (x0 : Int32) (x1 : Int64) (x2 : Int32) (x3 : Int32) : entryFrame m #[(.int x0), (.long x1), (.int x2), (.int x3)] maxLocals = mkF m 0 #[.val (.int x0), .val (.long x1), .second, .val (.int x2), .val (.int x3), .unset, .unset, .unset, .unset, .unset, .unset, .unset, .unset, .unset, .unset, .unset, .unset, .unset] [] := by first | (simp [entryFrame, mkF, argsToLocals, Value.category, maxLocals]; done) | rfl
def Q0 (Z : State) (p0 : Int32) (q1 : Int64) (p2 : Int32) (p3 : Int32) (h0 : Heap) (n0 : Nat) (vQ : Option Value) (hQ_ : Heap) (LQ : List Loc) : Prop := vQ = some (.int 1) ∧ Fr n0 LQ
def Fn0 (Z : State) (p0 : Int32) (q1 : Int64) (p2 : Int32) (p3 : Int32) (h0 : Heap) (n0 : Nat) (sQ : State) (oQ : Outcome) (UQ : State) : Prop := ∃ vQ LQ, oQ = .returned vQ ∧ Q0 Z p0 q1 p2 p3 h0 n0 vQ UQ.heap LQ ∧ FrameEnd sQ oQ UQ LQ room_1.cells room_1.slots
set_option maxRecDepth 65536 in
set_option maxHeartbeats 40000000 in
theorem rm0 (l : Launch) (Z : State) (aZ : Array Value) (hw : ∀ d ∈ tables_1, d.before aZ Z = true) (ws : List Jvm.Cond) (p0 : Int32) (q1 : Int64) (p2 : Int32) (p3 : Int32) (h0 : Heap) (n0 : Nat) (Z0 : n0 ≤ h0.size) :
    MetFree l x (head1 (Jvm.Cond.code x code maxLocals ret :: ws) room_1) (fun aQ UQ => aQ = #[(.int p0), (.long q1), (.int p2), (.int p3)] ∧ Z.Warmed39 UQ.vm ∧ UQ.heap = h0) (fun _ _ _ _ _ => True) (fun _ UQ oQ UR => ∃ vQ LQ, oQ = .returned vQ ∧ Q0 Z p0 q1 p2 p3 h0 n0 vQ UR.heap LQ ∧ FrameEnd UQ oQ UR LQ room_1.cells room_1.slots) := by
  refine MetFree.of_bodySF (plainFor_of_name pn_2) hisR ?_
  intro p e s m args below meth c s₁ Bd hml0 hP hK
  obtain ⟨rfl, hZ, hh⟩ := hP
  have hx := Bd.exec
  have hby := Bd.bytes
  have hml : c.maxLocals = 18 := hml0
  have hown : s.vm.findClass "com/example/upupa/upupa/feedback/IterationTallyConvergedSharePinLaw" = some m.cls := findClass_of_methodNamed Bd.named
  have hnm := (name_of_methodNamed Bd.named Bd.method).1
  have X0 : Stand p l e room_1 s m #[(.int p0), (.long q1), (.int p2), (.int p3)] below meth c s₁ [] 0 0 := Stand.of_body Bd
  have e0 : s₁.heap = h0 := by rw [← hh, Bd.state]; rfl
  have N0 := Fr.nil n0
  have K0 : Keep h0 h0 [] := Keep.refl _ _
  have w_0 := hw _ (List.mem_of_getElem? (i := 0) rfl)
  have w_1 := hw _ (List.mem_of_getElem? (i := 1) rfl)
  have w_2 := hw _ (List.mem_of_getElem? (i := 2) rfl)
  have w_3 := hw _ (List.mem_of_getElem? (i := 3) rfl)
  have w_4 := hw _ (List.mem_of_getElem? (i := 4) rfl)
  have w_5 := hw _ (List.mem_of_getElem? (i := 5) rfl)
  have w_6 := hw _ (List.mem_of_getElem? (i := 6) rfl)
  have w_7 := hw _ (List.mem_of_getElem? (i := 7) rfl)
  have w_17 := hw _ (List.mem_of_getElem? (i := 17) rfl)
  have w_19 := hw _ (List.mem_of_getElem? (i := 19) rfl)
  have w_21 := hw _ (List.mem_of_getElem? (i := 21) rfl)
  have w_22 := hw _ (List.mem_of_getElem? (i := 22) rfl)
  have w_23 := hw _ (List.mem_of_getElem? (i := 23) rfl)
  have w_24 := hw _ (List.mem_of_getElem? (i := 24) rfl)
  have w_25 := hw _ (List.mem_of_getElem? (i := 25) rfl)
  have w_26 := hw _ (List.mem_of_getElem? (i := 26) rfl)
  have w_28 := hw _ (List.mem_of_getElem? (i := 28) rfl)
  have w_29 := hw _ (List.mem_of_getElem? (i := 29) rfl)
  have first_ : Rn p e below (s₁.setTop (mkF m 0 #[.val (.int p0), .val (.long q1), .second, .val (.int p2), .val (.int p3), .unset, .unset, .unset, .unset, .unset, .unset, .unset, .unset, .unset, .unset, .unset, .unset, .unset] [])) (Fn0 Z p0 q1 p2 p3 h0 n0 s) := by
    generalize hG : (Fn0 Z p0 q1 p2 p3 h0 n0 s) = G
    refine R.iloadN X0 hx (hb hby at_0) rfl (pc' := 1) rfl ?_
    refine R.ldcI X0 hx hZ hown w_0 (hb hby at_1) (pc' := 3) rfl ?_
    refine R.iand X0 hx (hb hby at_3) rfl (pc' := 4) rfl ?_
    show Rn p e below (s₁.setTop (mkF m 4 #[.val (.int p0), .val (.long q1), .second, .val (.int p2), .val (.int p3), .unset, .unset, .unset, .unset, .unset, .unset, .unset, .unset, .unset, .unset, .unset, .unset, .unset] [(.int (p0 &&& (2147483647 : Int32)))])) G
    generalize hi1 : (p0 &&& (2147483647 : Int32)) = i1
    refine R.istore X0 hx (hb hby at_4) (L' := #[.val (.int p0), .val (.long q1), .second, .val (.int p2), .val (.int p3), .val (.int i1), .unset, .unset, .unset, .unset, .unset, .unset, .unset, .unset, .unset, .unset, .unset, .unset]) rfl (pc' := 6) rfl ?_
    have hr0 := own_runs hi1
    refine R.iloadN X0 hx (hb hby at_6) rfl (pc' := 7) rfl ?_
    refine R.i2l X0 hx (hb hby at_7) (pc' := 8) rfl ?_
    refine R.ldc2J X0 hx hZ hown w_1 (hb hby at_8) (pc' := 11) rfl ?_
    refine R.land X0 hx (hb hby at_11) rfl (pc' := 12) rfl ?_
    refine R.iload X0 hx (hb hby at_12) rfl (pc' := 14) rfl ?_
    refine R.i2l X0 hx (hb hby at_14) (pc' := 15) rfl ?_
    refine R.lconst X0 hx (hb hby at_15) (v := (1 : Int64)) (by decide) (pc' := 16) rfl ?_
    refine R.ladd X0 hx (hb hby at_16) rfl (pc' := 17) rfl ?_
    refine R.lrem X0 hx (hb hby at_17) (own_dnz hr0 : ((i1.toInt64) + (1 : Int64)) ≠ (0 : Int64)) (pc' := 18) rfl ?_
    refine R.l2i X0 hx (hb hby at_18) (pc' := 19) rfl ?_
    show Rn p e below (s₁.setTop (mkF m 19 #[.val (.int p0), .val (.long q1), .second, .val (.int p2), .val (.int p3), .val (.int i1), .unset, .unset, .unset, .unset, .unset, .unset, .unset, .unset, .unset, .unset, .unset, .unset] [(.int ((((p2.toInt64) &&& (2147483647 : Int64)) - (((p2.toInt64) &&& (2147483647 : Int64)) / ((i1.toInt64) + (1 : Int64))) * ((i1.toInt64) + (1 : Int64))).toInt32))])) G
    generalize hi2 : ((((p2.toInt64) &&& (2147483647 : Int64)) - (((p2.toInt64) &&& (2147483647 : Int64)) / ((i1.toInt64) + (1 : Int64))) * ((i1.toInt64) + (1 : Int64))).toInt32) = i2
    refine R.istore X0 hx (hb hby at_19) (L' := #[.val (.int p0), .val (.long q1), .second, .val (.int p2), .val (.int p3), .val (.int i1), .val (.int i2), .unset, .unset, .unset, .unset, .unset, .unset, .unset, .unset, .unset, .unset, .unset]) rfl (pc' := 21) rfl ?_
    refine R.iload X0 hx (hb hby at_21) rfl (pc' := 23) rfl ?_
    refine R.i2l X0 hx (hb hby at_23) (pc' := 24) rfl ?_
    refine R.ldc2J X0 hx hZ hown w_1 (hb hby at_24) (pc' := 27) rfl ?_
    refine R.land X0 hx (hb hby at_27) rfl (pc' := 28) rfl ?_
    refine R.iload X0 hx (hb hby at_28) rfl (pc' := 30) rfl ?_
    refine R.i2l X0 hx (hb hby at_30) (pc' := 31) rfl ?_
    refine R.lconst X0 hx (hb hby at_31) (v := (1 : Int64)) (by decide) (pc' := 32) rfl ?_
    refine R.ladd X0 hx (hb hby at_32) rfl (pc' := 33) rfl ?_
    refine R.lrem X0 hx (hb hby at_33) (own_dnz hr0 : ((i1.toInt64) + (1 : Int64)) ≠ (0 : Int64)) (pc' := 34) rfl ?_
    refine R.l2i X0 hx (hb hby at_34) (pc' := 35) rfl ?_
    show Rn p e below (s₁.setTop (mkF m 35 #[.val (.int p0), .val (.long q1), .second, .val (.int p2), .val (.int p3), .val (.int i1), .val (.int i2), .unset, .unset, .unset, .unset, .unset, .unset, .unset, .unset, .unset, .unset, .unset] [(.int ((((p3.toInt64) &&& (2147483647 : Int64)) - (((p3.toInt64) &&& (2147483647 : Int64)) / ((i1.toInt64) + (1 : Int64))) * ((i1.toInt64) + (1 : Int64))).toInt32))])) G
    generalize hi3 : ((((p3.toInt64) &&& (2147483647 : Int64)) - (((p3.toInt64) &&& (2147483647 : Int64)) / ((i1.toInt64) + (1 : Int64))) * ((i1.toInt64) + (1 : Int64))).toInt32) = i3
    refine R.istore X0 hx (hb hby at_35) (L' := #[.val (.int p0), .val (.long q1), .second, .val (.int p2), .val (.int p3), .val (.int i1), .val (.int i2), .val (.int i3), .unset, .unset, .unset, .unset, .unset, .unset, .unset, .unset, .unset, .unset]) rfl (pc' := 37) rfl ?_
    have hA := own_conv hr0 hi2
    have hB := own_conv hr0 hi3
    refine R.newO X0 hx hZ hown w_2 w_3 w_4 e0 (hb hby at_37) (pc' := 40) rfl (by decide) (by decide) ?_; intro T4 h4 b4 g4 X4 e4 E4 A4 D4
    have g_b4 : n0 ≤ b4 := Nat.le_trans Z0 (Nat.le_of_eq g4.symm)
    have sz_b4 : h0.size ≤ b4 := Nat.le_trans K0.1 (Nat.le_of_eq g4.symm)
    have K4 : Keep h0 h4 [] := K0.ext E4
    have Z4 : n0 ≤ h4.size := Nat.le_trans Z0 E4.1
    have E_b4 := A4
    have F_runs_b4 : Fld Z h4 b4 "com/example/upupa/upupa/feedback/IterationTally" "runs" "I" (.int (0 : Int32)) := D4 (Or.inr w_17) (ty := .int) (by decide)
    have F_iterations_b4 : Fld Z h4 b4 "com/example/upupa/upupa/feedback/IterationTally" "iterations" "J" (.long (0 : Int64)) := D4 (Or.inr w_19) (ty := .long) (by decide)
    have F_converged_b4 : Fld Z h4 b4 "com/example/upupa/upupa/feedback/IterationTally" "converged" "I" (.int (0 : Int32)) := D4 (Or.inr w_21) (ty := .int) (by decide)
    refine R.dup X4 hx (hb hby at_40) rfl (pc' := 41) rfl ?_
    refine R.iload X4 hx (hb hby at_41) rfl (pc' := 43) rfl ?_
    refine R.lloadN X4 hx (hb hby at_43) rfl (pc' := 44) rfl ?_
    refine R.iload X4 hx (hb hby at_44) rfl (pc' := 46) rfl ?_
    refine R.special X4 hx hZ (y := mY1) rfl hown w_5 w_6 w_4 w_7 (by decide) e4 (rm1 l Z aZ hw [] b4 i1 q1 i2 h4 n0 Z4 E_b4 F_runs_b4 F_iterations_b4 F_converged_b4 g_b4) (by decide) (W := 1) (Nat.le_of_eq rfl) (by decide) (by rw [hml]; rfl) (lenOf pd_1 rfl) rfl (hb hby at_46) (pc' := 49) rfl (by decide) (by decide) ?_; intro v5 T5 L5 X5 hQ5
    obtain ⟨rfl, N5q, Kc5, P5_0, P5_1, P5_2, P5_3⟩ := hQ5
    have N5 := Fr.app N0 N5q
    generalize e5 : T5.heap = h5 at Kc5 P5_0 P5_1 P5_2 P5_3
    have K5 : Keep h0 h5 [] := K4.trans Kc5 ((allS (Or.inr sz_b4) all0))
    have Z5 : n0 ≤ h5.size := Nat.le_trans Z4 Kc5.1
    have E_b4 : Exa Z h5 b4 "com/example/upupa/upupa/feedback/IterationTally" := P5_0
    have F_runs_b4 : Fld Z h5 b4 "com/example/upupa/upupa/feedback/IterationTally" "runs" "I" (.int i1) := P5_1
    have F_iterations_b4 : Fld Z h5 b4 "com/example/upupa/upupa/feedback/IterationTally" "iterations" "J" (.long q1) := P5_2
    have F_converged_b4 : Fld Z h5 b4 "com/example/upupa/upupa/feedback/IterationTally" "converged" "I" (.int i2) := P5_3
    refine R.astore X5 hx (hb hby at_49) rfl (L' := #[.val (.int p0), .val (.long q1), .second, .val (.int p2), .val (.int p3), .val (.int i1), .val (.int i2), .val (.int i3), .val (.ref b4), .unset, .unset, .unset, .unset, .unset, .unset, .unset, .unset, .unset]) rfl (pc' := 51) rfl ?_
    by_cases hz : i1 = (0 : Int32)
    · refine R.aload X5 hx (hb hby at_51) rfl rfl (pc' := 53) rfl ?_
      refine R.virtual X5 hx hZ (y := mY2) (z := mY2) hown w_22 w_23 (notFace_of_selects (args := #[]) (mvT hZ w_25)) w_25 w_24 w_4 w_26 (by decide) e5 E_b4 (rmz l Z aZ hw [] b4 i1 h5 n0 Z5 F_runs_b4 (hz)) (by decide) (W := 0) (Nat.le_of_eq rfl) (by decide) (by rw [hml]; rfl) (lenOf pd_2 rfl) rfl (hb hby at_53) (pc' := 56) rfl (by decide) (by decide) ?_; intro v6 T6 L6 X6 hQ6
      obtain ⟨rfl, N6q, e6⟩ := hQ6
      have N6 := Fr.app N5 N6q
      show Rn p e below (T6.setTop (mkF m 56 #[.val (.int p0), .val (.long q1), .second, .val (.int p2), .val (.int p3), .val (.int i1), .val (.int i2), .val (.int i3), .val (.ref b4), .unset, .unset, .unset, .unset, .unset, .unset, .unset, .unset, .unset] [(.double (9221120237041090560 : UInt64))])) G
      generalize hr7 : (9221120237041090560 : UInt64) = r7
      refine R.dstore X6 hx (hb hby at_56) (L' := #[.val (.int p0), .val (.long q1), .second, .val (.int p2), .val (.int p3), .val (.int i1), .val (.int i2), .val (.int i3), .val (.ref b4), .val (.double r7), .second, .unset, .unset, .unset, .unset, .unset, .unset, .unset]) rfl (pc' := 58) rfl ?_
      refine R.iload X6 hx (hb hby at_58) rfl (pc' := 60) rfl ?_
      refine R.ifNo X6 hx (hb hby at_60) (teq (hz : i1 = (0 : Int32))).2 (pc' := 63) rfl ?_
      refine R.dload X6 hx (hb hby at_63) rfl (pc' := 65) rfl ?_
      refine R.dload X6 hx (hb hby at_65) rfl (pc' := 67) rfl ?_
      refine R.dcmp X6 hx (hb hby at_67) (by rw [← hr7]; decide +kernel : cmpValue (FP.dcmp r7 r7) .l = (-1 : Int32)) (pc' := 68) rfl ?_
      refine R.ifNo X6 hx (hb hby at_68) (feq (by decide : ¬ ((-1 : Int32) = (0 : Int32)))).1 (pc' := 71) rfl ?_
      refine R.iconst X6 hx (hb hby at_71) (v := (1 : Int32)) (by decide) (pc' := 72) rfl ?_
      refine R.goto X6 hx (hb hby at_72) (by decide) (pc' := 76) (by decide) ?_
      rw [← hG]
      exact Rn.ret X6 (BodyLoose.notSynchronized Bd) (v := some (.int (1 : Int32))) (fun h => by rw [Bd.returns] at h; cases h) (Q := Q0 Z p0 q1 p2 p3 h0 n0) e6 (fun fs hr => retN X6 hx (t := .boolean) Bd.returns (by simp) (hb hby at_76) hr) ⟨rfl, N6⟩ (by decide) (by decide)
    · refine R.aload X5 hx (hb hby at_51) rfl rfl (pc' := 53) rfl ?_
      refine R.virtual X5 hx hZ (y := mY2) (z := mY2) hown w_22 w_23 (notFace_of_selects (args := #[]) (mvT hZ w_25)) w_25 w_24 w_4 w_26 (by decide) e5 E_b4 (rmd l Z aZ hw [] b4 i1 i2 h5 n0 Z5 F_runs_b4 F_converged_b4 (hz) (own_nnv (own_sh_ne (own_nz hr0 hz)))) (by decide) (W := 0) (Nat.le_of_eq rfl) (by decide) (by rw [hml]; rfl) (lenOf pd_2 rfl) rfl (hb hby at_53) (pc' := 56) rfl (by decide) (by decide) ?_; intro v8 T8 L8 X8 hQ8
      obtain ⟨rfl, N8q, e8⟩ := hQ8
      have N8 := Fr.app N5 N8q
      show Rn p e below (T8.setTop (mkF m 56 #[.val (.int p0), .val (.long q1), .second, .val (.int p2), .val (.int p3), .val (.int i1), .val (.int i2), .val (.int i3), .val (.ref b4), .unset, .unset, .unset, .unset, .unset, .unset, .unset, .unset, .unset] [(.double (own_sh i2 i1))])) G
      generalize hr9 : (own_sh i2 i1) = r9
      refine R.dstore X8 hx (hb hby at_56) (L' := #[.val (.int p0), .val (.long q1), .second, .val (.int p2), .val (.int p3), .val (.int i1), .val (.int i2), .val (.int i3), .val (.ref b4), .val (.double r9), .second, .unset, .unset, .unset, .unset, .unset, .unset, .unset]) rfl (pc' := 58) rfl ?_
      have hN := own_nz hr0 hz
      have n1 : Jvm.FP.Core.val64 r9 ≠ .nan := hr9 ▸ own_sh_ne hN
      refine R.iload X8 hx (hb hby at_58) rfl (pc' := 60) rfl ?_
      refine R.ifYes X8 hx (hb hby at_60) (feq (hz : ¬ (i1 = (0 : Int32)))).2 (by decide) (pc' := 77) (by decide) ?_
      have J144 : Rn p e below (T8.setTop (mkF m 144 #[.val (.int p0), .val (.long q1), .second, .val (.int p2), .val (.int p3), .val (.int i1), .val (.int i2), .val (.int i3), .val (.ref b4), .val (.double r9), .second, .val (.int (1 : Int32)), .unset, .unset, .unset, .unset, .unset, .unset] [])) G := by
        refine R.newO X8 hx hZ hown w_2 w_3 w_4 e8 (hb hby at_144) (pc' := 147) rfl (by decide) (by decide) ?_; intro T10 h10 b10 g10 X10 e10 E10 A10 D10
        have g_b10 : n0 ≤ b10 := Nat.le_trans Z5 (Nat.le_of_eq g10.symm)
        have sz_b10 : h0.size ≤ b10 := Nat.le_trans K5.1 (Nat.le_of_eq g10.symm)
        have ne_b4_b10 : b4 ≠ b10 := Nat.ne_of_lt (Nat.lt_of_lt_of_le E_b4.lt (Nat.le_of_eq g10.symm))
        have K10 : Keep h0 h10 [] := K5.ext E10
        have Z10 : n0 ≤ h10.size := Nat.le_trans Z5 E10.1
        have E_b4 := E_b4.ext E10
        have F_runs_b4 := F_runs_b4.ext E10
        have F_iterations_b4 := F_iterations_b4.ext E10
        have F_converged_b4 := F_converged_b4.ext E10
        have E_b10 := A10
        have F_runs_b10 : Fld Z h10 b10 "com/example/upupa/upupa/feedback/IterationTally" "runs" "I" (.int (0 : Int32)) := D10 (Or.inr w_17) (ty := .int) (by decide)
        have F_iterations_b10 : Fld Z h10 b10 "com/example/upupa/upupa/feedback/IterationTally" "iterations" "J" (.long (0 : Int64)) := D10 (Or.inr w_19) (ty := .long) (by decide)
        have F_converged_b10 : Fld Z h10 b10 "com/example/upupa/upupa/feedback/IterationTally" "converged" "I" (.int (0 : Int32)) := D10 (Or.inr w_21) (ty := .int) (by decide)
        refine R.dup X10 hx (hb hby at_147) rfl (pc' := 148) rfl ?_
        refine R.iload X10 hx (hb hby at_148) rfl (pc' := 150) rfl ?_
        refine R.lloadN X10 hx (hb hby at_150) rfl (pc' := 151) rfl ?_
        refine R.ldc2J X10 hx hZ hown w_28 (hb hby at_151) (pc' := 154) rfl ?_
        refine R.lxor X10 hx (hb hby at_154) rfl (pc' := 155) rfl ?_
        refine R.iload X10 hx (hb hby at_155) rfl (pc' := 157) rfl ?_
        refine R.special X10 hx hZ (y := mY1) rfl hown w_5 w_6 w_4 w_7 (by decide) e10 (rm1 l Z aZ hw [] b10 i1 (q1 ^^^ (-1 : Int64)) i3 h10 n0 Z10 E_b10 F_runs_b10 F_iterations_b10 F_converged_b10 g_b10) (by decide) (W := 1) (Nat.le_of_eq rfl) (by decide) (by rw [hml]; rfl) (lenOf pd_1 rfl) rfl (hb hby at_157) (pc' := 160) rfl (by decide) (by decide) ?_; intro v11 T11 L11 X11 hQ11
        obtain ⟨rfl, N11q, Kc11, P11_0, P11_1, P11_2, P11_3⟩ := hQ11
        have N11 := Fr.app N8 N11q
        generalize e11 : T11.heap = h11 at Kc11 P11_0 P11_1 P11_2 P11_3
        have K11 : Keep h0 h11 [] := K10.trans Kc11 ((allS (Or.inr sz_b10) all0))
        have Z11 : n0 ≤ h11.size := Nat.le_trans Z10 Kc11.1
        have E_b4 := E_b4.keep Kc11
        have F_runs_b4 := F_runs_b4.keep Kc11 (ninS ne_b4_b10 nin0)
        have F_iterations_b4 := F_iterations_b4.keep Kc11 (ninS ne_b4_b10 nin0)
        have F_converged_b4 := F_converged_b4.keep Kc11 (ninS ne_b4_b10 nin0)
        have E_b10 : Exa Z h11 b10 "com/example/upupa/upupa/feedback/IterationTally" := P11_0
        have F_runs_b10 : Fld Z h11 b10 "com/example/upupa/upupa/feedback/IterationTally" "runs" "I" (.int i1) := P11_1
        have F_iterations_b10 : Fld Z h11 b10 "com/example/upupa/upupa/feedback/IterationTally" "iterations" "J" (.long (q1 ^^^ (-1 : Int64))) := P11_2
        have F_converged_b10 : Fld Z h11 b10 "com/example/upupa/upupa/feedback/IterationTally" "converged" "I" (.int i3) := P11_3
        refine R.astore X11 hx (hb hby at_160) rfl (L' := #[.val (.int p0), .val (.long q1), .second, .val (.int p2), .val (.int p3), .val (.int i1), .val (.int i2), .val (.int i3), .val (.ref b4), .val (.double r9), .second, .val (.int (1 : Int32)), .val (.ref b10), .unset, .unset, .unset, .unset, .unset]) rfl (pc' := 162) rfl ?_
        refine R.aload X11 hx (hb hby at_162) rfl rfl (pc' := 164) rfl ?_
        refine R.virtual X11 hx hZ (y := mY2) (z := mY2) hown w_22 w_23 (notFace_of_selects (args := #[]) (mvT hZ w_25)) w_25 w_24 w_4 w_26 (by decide) e11 E_b10 (rmd l Z aZ hw [] b10 i1 i3 h11 n0 Z11 F_runs_b10 F_converged_b10 (hz) (own_nnv (own_sh_ne (own_nz hr0 hz)))) (by decide) (W := 0) (Nat.le_of_eq rfl) (by decide) (by rw [hml]; rfl) (lenOf pd_2 rfl) rfl (hb hby at_164) (pc' := 167) rfl (by decide) (by decide) ?_; intro v12 T12 L12 X12 hQ12
        obtain ⟨rfl, N12q, e12⟩ := hQ12
        have N12 := Fr.app N11 N12q
        show Rn p e below (T12.setTop (mkF m 167 #[.val (.int p0), .val (.long q1), .second, .val (.int p2), .val (.int p3), .val (.int i1), .val (.int i2), .val (.int i3), .val (.ref b4), .val (.double r9), .second, .val (.int (1 : Int32)), .val (.ref b10), .unset, .unset, .unset, .unset, .unset] [(.double (own_sh i3 i1))])) G
        generalize hr13 : (own_sh i3 i1) = r13
        refine R.dstore X12 hx (hb hby at_167) (L' := #[.val (.int p0), .val (.long q1), .second, .val (.int p2), .val (.int p3), .val (.int i1), .val (.int i2), .val (.int i3), .val (.ref b4), .val (.double r9), .second, .val (.int (1 : Int32)), .val (.ref b10), .val (.double r13), .second, .unset, .unset, .unset]) rfl (pc' := 169) rfl ?_
        have n2 : Jvm.FP.Core.val64 r13 ≠ .nan := hr13 ▸ own_sh_ne hN
        have J237 : Rn p e below (T12.setTop (mkF m 237 #[.val (.int p0), .val (.long q1), .second, .val (.int p2), .val (.int p3), .val (.int i1), .val (.int i2), .val (.int i3), .val (.ref b4), .val (.double r9), .second, .val (.int (1 : Int32)), .val (.ref b10), .val (.double r13), .second, .unset, .unset, .unset] [])) G := by
          refine R.iload X12 hx (hb hby at_237) rfl (pc' := 239) rfl ?_
          refine R.ldcI X12 hx hZ hown w_29 (hb hby at_239) (pc' := 241) rfl ?_
          by_cases hc241 : (1073741823 : Int32) < i1
          · refine R.icmpYes X12 hx (hb hby at_241) (tlt hc241).2.2.1 (by decide) (pc' := 293) (by decide) ?_
            refine R.iload X12 hx (hb hby at_293) rfl (pc' := 295) rfl ?_
            rw [← hG]
            exact Rn.ret X12 (BodyLoose.notSynchronized Bd) (v := some (.int (1 : Int32))) (fun h => by rw [Bd.returns] at h; cases h) (Q := Q0 Z p0 q1 p2 p3 h0 n0) e12 (fun fs hr => retN X12 hx (t := .boolean) Bd.returns (by simp) (hb hby at_295) hr) ⟨rfl, N12⟩ (by decide) (by decide)
          · refine R.icmpNo X12 hx (hb hby at_241) (flt hc241).2.2.1 (pc' := 244) rfl ?_
            have d1 := own_two hA.1 hA.2 hc241
            have d2 := own_two (n := i1) hr0 (Int.le_refl _) hc241
            have hz2 : ¬ ((2 : Int32) * i1) = (0 : Int32) := fun e => by rw [own_0eq] at e; omega
            refine R.newO X12 hx hZ hown w_2 w_3 w_4 e12 (hb hby at_244) (pc' := 247) rfl (by decide) (by decide) ?_; intro T14 h14 b14 g14 X14 e14 E14 A14 D14
            have g_b14 : n0 ≤ b14 := Nat.le_trans Z11 (Nat.le_of_eq g14.symm)
            have sz_b14 : h0.size ≤ b14 := Nat.le_trans K11.1 (Nat.le_of_eq g14.symm)
            have ne_b4_b14 : b4 ≠ b14 := Nat.ne_of_lt (Nat.lt_of_lt_of_le E_b4.lt (Nat.le_of_eq g14.symm))
            have ne_b10_b14 : b10 ≠ b14 := Nat.ne_of_lt (Nat.lt_of_lt_of_le E_b10.lt (Nat.le_of_eq g14.symm))
            have K14 : Keep h0 h14 [] := K11.ext E14
            have Z14 : n0 ≤ h14.size := Nat.le_trans Z11 E14.1
            have E_b4 := E_b4.ext E14
            have F_runs_b4 := F_runs_b4.ext E14
            have F_iterations_b4 := F_iterations_b4.ext E14
            have F_converged_b4 := F_converged_b4.ext E14
            have E_b10 := E_b10.ext E14
            have F_runs_b10 := F_runs_b10.ext E14
            have F_iterations_b10 := F_iterations_b10.ext E14
            have F_converged_b10 := F_converged_b10.ext E14
            have E_b14 := A14
            have F_runs_b14 : Fld Z h14 b14 "com/example/upupa/upupa/feedback/IterationTally" "runs" "I" (.int (0 : Int32)) := D14 (Or.inr w_17) (ty := .int) (by decide)
            have F_iterations_b14 : Fld Z h14 b14 "com/example/upupa/upupa/feedback/IterationTally" "iterations" "J" (.long (0 : Int64)) := D14 (Or.inr w_19) (ty := .long) (by decide)
            have F_converged_b14 : Fld Z h14 b14 "com/example/upupa/upupa/feedback/IterationTally" "converged" "I" (.int (0 : Int32)) := D14 (Or.inr w_21) (ty := .int) (by decide)
            refine R.dup X14 hx (hb hby at_247) rfl (pc' := 248) rfl ?_
            refine R.iconst X14 hx (hb hby at_248) (v := (2 : Int32)) (by decide) (pc' := 249) rfl ?_
            refine R.iload X14 hx (hb hby at_249) rfl (pc' := 251) rfl ?_
            refine R.imul X14 hx (hb hby at_251) rfl (pc' := 252) rfl ?_
            refine R.lloadN X14 hx (hb hby at_252) rfl (pc' := 253) rfl ?_
            refine R.ldc2J X14 hx hZ hown w_28 (hb hby at_253) (pc' := 256) rfl ?_
            refine R.lxor X14 hx (hb hby at_256) rfl (pc' := 257) rfl ?_
            refine R.iconst X14 hx (hb hby at_257) (v := (2 : Int32)) (by decide) (pc' := 258) rfl ?_
            refine R.iload X14 hx (hb hby at_258) rfl (pc' := 260) rfl ?_
            refine R.imul X14 hx (hb hby at_260) rfl (pc' := 261) rfl ?_
            refine R.special X14 hx hZ (y := mY1) rfl hown w_5 w_6 w_4 w_7 (by decide) e14 (rm1 l Z aZ hw [] b14 ((2 : Int32) * i1) (q1 ^^^ (-1 : Int64)) ((2 : Int32) * i2) h14 n0 Z14 E_b14 F_runs_b14 F_iterations_b14 F_converged_b14 g_b14) (by decide) (W := 1) (Nat.le_of_eq rfl) (by decide) (by rw [hml]; rfl) (lenOf pd_1 rfl) rfl (hb hby at_261) (pc' := 264) rfl (by decide) (by decide) ?_; intro v15 T15 L15 X15 hQ15
            obtain ⟨rfl, N15q, Kc15, P15_0, P15_1, P15_2, P15_3⟩ := hQ15
            have N15 := Fr.app N12 N15q
            generalize e15 : T15.heap = h15 at Kc15 P15_0 P15_1 P15_2 P15_3
            have K15 : Keep h0 h15 [] := K14.trans Kc15 ((allS (Or.inr sz_b14) all0))
            have Z15 : n0 ≤ h15.size := Nat.le_trans Z14 Kc15.1
            have E_b4 := E_b4.keep Kc15
            have F_runs_b4 := F_runs_b4.keep Kc15 (ninS ne_b4_b14 nin0)
            have F_iterations_b4 := F_iterations_b4.keep Kc15 (ninS ne_b4_b14 nin0)
            have F_converged_b4 := F_converged_b4.keep Kc15 (ninS ne_b4_b14 nin0)
            have E_b10 := E_b10.keep Kc15
            have F_runs_b10 := F_runs_b10.keep Kc15 (ninS ne_b10_b14 nin0)
            have F_iterations_b10 := F_iterations_b10.keep Kc15 (ninS ne_b10_b14 nin0)
            have F_converged_b10 := F_converged_b10.keep Kc15 (ninS ne_b10_b14 nin0)
            have E_b14 : Exa Z h15 b14 "com/example/upupa/upupa/feedback/IterationTally" := P15_0
            have F_runs_b14 : Fld Z h15 b14 "com/example/upupa/upupa/feedback/IterationTally" "runs" "I" (.int ((2 : Int32) * i1)) := P15_1
            have F_iterations_b14 : Fld Z h15 b14 "com/example/upupa/upupa/feedback/IterationTally" "iterations" "J" (.long (q1 ^^^ (-1 : Int64))) := P15_2
            have F_converged_b14 : Fld Z h15 b14 "com/example/upupa/upupa/feedback/IterationTally" "converged" "I" (.int ((2 : Int32) * i2)) := P15_3
            refine R.astore X15 hx (hb hby at_264) rfl (L' := #[.val (.int p0), .val (.long q1), .second, .val (.int p2), .val (.int p3), .val (.int i1), .val (.int i2), .val (.int i3), .val (.ref b4), .val (.double r9), .second, .val (.int (1 : Int32)), .val (.ref b10), .val (.double r13), .second, .val (.ref b14), .unset, .unset]) rfl (pc' := 266) rfl ?_
            refine R.aload X15 hx (hb hby at_266) rfl rfl (pc' := 268) rfl ?_
            refine R.virtual X15 hx hZ (y := mY2) (z := mY2) hown w_22 w_23 (notFace_of_selects (args := #[]) (mvT hZ w_25)) w_25 w_24 w_4 w_26 (by decide) e15 E_b14 (rmd l Z aZ hw [] b14 ((2 : Int32) * i1) ((2 : Int32) * i2) h15 n0 Z15 F_runs_b14 F_converged_b14 (hz2) (own_nnv (own_sh_ne (by omega)))) (by decide) (W := 0) (Nat.le_of_eq rfl) (by decide) (by rw [hml]; rfl) (lenOf pd_2 rfl) rfl (hb hby at_268) (pc' := 271) rfl (by decide) (by decide) ?_; intro v16 T16 L16 X16 hQ16
            obtain ⟨rfl, N16q, e16⟩ := hQ16
            have N16 := Fr.app N15 N16q
            show Rn p e below (T16.setTop (mkF m 271 #[.val (.int p0), .val (.long q1), .second, .val (.int p2), .val (.int p3), .val (.int i1), .val (.int i2), .val (.int i3), .val (.ref b4), .val (.double r9), .second, .val (.int (1 : Int32)), .val (.ref b10), .val (.double r13), .second, .val (.ref b14), .unset, .unset] [(.double (own_sh ((2 : Int32) * i2) ((2 : Int32) * i1)))])) G
            generalize hr17 : (own_sh ((2 : Int32) * i2) ((2 : Int32) * i1)) = r17
            refine R.dstore X16 hx (hb hby at_271) (L' := #[.val (.int p0), .val (.long q1), .second, .val (.int p2), .val (.int p3), .val (.int i1), .val (.int i2), .val (.int i3), .val (.ref b4), .val (.double r9), .second, .val (.int (1 : Int32)), .val (.ref b10), .val (.double r13), .second, .val (.ref b14), .val (.double r17), .second]) rfl (pc' := 273) rfl ?_
            have n3 : Jvm.FP.Core.val64 r17 ≠ .nan := hr17 ▸ own_sh_ne (by omega)
            refine R.iload X16 hx (hb hby at_273) rfl (pc' := 275) rfl ?_
            refine R.ifNo X16 hx (hb hby at_275) (feq (by decide : ¬ ((1 : Int32) = (0 : Int32)))).1 (pc' := 278) rfl ?_
            refine R.dload X16 hx (hb hby at_278) rfl (pc' := 280) rfl ?_
            refine R.dload X16 hx (hb hby at_280) rfl (pc' := 282) rfl ?_
            refine R.dcmp X16 hx (hb hby at_282) (own_cmpz n3 n1 _ : cmpValue (FP.dcmp r17 r9) .l = (own_ci (own_zv r17) (own_zv r9))) (pc' := 283) rfl ?_
            refine R.ifNo X16 hx (hb hby at_283) (teq (own_ci_eq.mpr (by rw [← hr17, ← hr9]; exact own_sh_dbl hA.1 hN d1 d2) : (own_ci (own_zv r17) (own_zv r9)) = (0 : Int32))).2 (pc' := 286) rfl ?_
            refine R.iconst X16 hx (hb hby at_286) (v := (1 : Int32)) (by decide) (pc' := 287) rfl ?_
            refine R.goto X16 hx (hb hby at_287) (by decide) (pc' := 291) (by decide) ?_
            refine R.istore X16 hx (hb hby at_291) (L' := #[.val (.int p0), .val (.long q1), .second, .val (.int p2), .val (.int p3), .val (.int i1), .val (.int i2), .val (.int i3), .val (.ref b4), .val (.double r9), .second, .val (.int (1 : Int32)), .val (.ref b10), .val (.double r13), .second, .val (.ref b14), .val (.double r17), .second]) rfl (pc' := 293) rfl ?_
            refine R.iload X16 hx (hb hby at_293) rfl (pc' := 295) rfl ?_
            rw [← hG]
            exact Rn.ret X16 (BodyLoose.notSynchronized Bd) (v := some (.int (1 : Int32))) (fun h => by rw [Bd.returns] at h; cases h) (Q := Q0 Z p0 q1 p2 p3 h0 n0) e16 (fun fs hr => retN X16 hx (t := .boolean) Bd.returns (by simp) (hb hby at_295) hr) ⟨rfl, N16⟩ (by decide) (by decide)
        refine R.iload X12 hx (hb hby at_169) rfl (pc' := 171) rfl ?_
        refine R.ifNo X12 hx (hb hby at_171) (feq (by decide : ¬ ((1 : Int32) = (0 : Int32)))).1 (pc' := 174) rfl ?_
        refine R.iload X12 hx (hb hby at_174) rfl (pc' := 176) rfl ?_
        refine R.iload X12 hx (hb hby at_176) rfl (pc' := 178) rfl ?_
        by_cases hc178 : i2 < i3
        · refine R.icmpNo X12 hx (hb hby at_178) (tlt hc178).2.1 (pc' := 181) rfl ?_
          refine R.iconst X12 hx (hb hby at_181) (v := (1 : Int32)) (by decide) (pc' := 182) rfl ?_
          refine R.goto X12 hx (hb hby at_182) (by decide) (pc' := 186) (by decide) ?_
          refine R.dload X12 hx (hb hby at_186) rfl (pc' := 188) rfl ?_
          refine R.dload X12 hx (hb hby at_188) rfl (pc' := 190) rfl ?_
          refine R.dcmp X12 hx (hb hby at_190) (own_cmpz n1 n2 _ : cmpValue (FP.dcmp r9 r13) .g = (own_ci (own_zv r9) (own_zv r13))) (pc' := 191) rfl ?_
          refine R.ifNo X12 hx (hb hby at_191) (tlt (own_ci_lt.mpr (by rw [← hr9, ← hr13]; exact own_sh_lt hA.1 (own_ilt.mp hc178) hB.2) : (own_ci (own_zv r9) (own_zv r13)) < (0 : Int32))).2.1 (pc' := 194) rfl ?_
          refine R.iconst X12 hx (hb hby at_194) (v := (1 : Int32)) (by decide) (pc' := 195) rfl ?_
          refine R.goto X12 hx (hb hby at_195) (by decide) (pc' := 199) (by decide) ?_
          refine R.icmpNo X12 hx (hb hby at_199) (teq (by decide : (1 : Int32) = (1 : Int32))).2 (pc' := 202) rfl ?_
          refine R.iload X12 hx (hb hby at_202) rfl (pc' := 204) rfl ?_
          refine R.iload X12 hx (hb hby at_204) rfl (pc' := 206) rfl ?_
          refine R.icmpYes X12 hx (hb hby at_206) (feq (fun e => by rw [own_ilt] at hc178; rw [own_ieq] at e; omega : ¬ (i2 = i3))).2 (by decide) (pc' := 213) (by decide) ?_
          refine R.iconst X12 hx (hb hby at_213) (v := (0 : Int32)) (by decide) (pc' := 214) rfl ?_
          refine R.dload X12 hx (hb hby at_214) rfl (pc' := 216) rfl ?_
          refine R.dload X12 hx (hb hby at_216) rfl (pc' := 218) rfl ?_
          refine R.dcmp X12 hx (hb hby at_218) (own_cmpz n1 n2 _ : cmpValue (FP.dcmp r9 r13) .l = (own_ci (own_zv r9) (own_zv r13))) (pc' := 219) rfl ?_
          refine R.ifYes X12 hx (hb hby at_219) (feq (fun q => by have q' := own_ci_eq.mp q; rw [← hr9, ← hr13] at q'; have g := own_sh_lt (a := i2) (b := i3) (n := i1) hA.1 (own_ilt.mp hc178) hB.2; omega : ¬ ((own_ci (own_zv r9) (own_zv r13)) = (0 : Int32)))).2 (by decide) (pc' := 226) (by decide) ?_
          refine R.iconst X12 hx (hb hby at_226) (v := (0 : Int32)) (by decide) (pc' := 227) rfl ?_
          refine R.icmpNo X12 hx (hb hby at_227) (teq (by decide : (0 : Int32) = (0 : Int32))).2 (pc' := 230) rfl ?_
          refine R.iconst X12 hx (hb hby at_230) (v := (1 : Int32)) (by decide) (pc' := 231) rfl ?_
          refine R.goto X12 hx (hb hby at_231) (by decide) (pc' := 235) (by decide) ?_
          refine R.istore X12 hx (hb hby at_235) (L' := #[.val (.int p0), .val (.long q1), .second, .val (.int p2), .val (.int p3), .val (.int i1), .val (.int i2), .val (.int i3), .val (.ref b4), .val (.double r9), .second, .val (.int (1 : Int32)), .val (.ref b10), .val (.double r13), .second, .unset, .unset, .unset]) rfl (pc' := 237) rfl ?_
          exact J237
        · refine R.icmpYes X12 hx (hb hby at_178) (flt hc178).2.1 (by decide) (pc' := 185) (by decide) ?_
          refine R.iconst X12 hx (hb hby at_185) (v := (0 : Int32)) (by decide) (pc' := 186) rfl ?_
          refine R.dload X12 hx (hb hby at_186) rfl (pc' := 188) rfl ?_
          refine R.dload X12 hx (hb hby at_188) rfl (pc' := 190) rfl ?_
          refine R.dcmp X12 hx (hb hby at_190) (own_cmpz n1 n2 _ : cmpValue (FP.dcmp r9 r13) .g = (own_ci (own_zv r9) (own_zv r13))) (pc' := 191) rfl ?_
          refine R.ifYes X12 hx (hb hby at_191) (flt (fun q => by have q' := own_ci_lt.mp q; rw [own_ilt] at hc178; rw [← hr9, ← hr13] at q'; exact (Decidable.em (i2.toInt = i3.toInt)).elim (fun e => by rw [own_ieq.mpr e] at q'; omega) (fun e => by have g := own_sh_lt (a := i3) (b := i2) (n := i1) hB.1 (by omega) hA.2; omega) : ¬ ((own_ci (own_zv r9) (own_zv r13)) < (0 : Int32)))).2.1 (by decide) (pc' := 198) (by decide) ?_
          refine R.iconst X12 hx (hb hby at_198) (v := (0 : Int32)) (by decide) (pc' := 199) rfl ?_
          refine R.icmpNo X12 hx (hb hby at_199) (teq (by decide : (0 : Int32) = (0 : Int32))).2 (pc' := 202) rfl ?_
          refine R.iload X12 hx (hb hby at_202) rfl (pc' := 204) rfl ?_
          refine R.iload X12 hx (hb hby at_204) rfl (pc' := 206) rfl ?_
          by_cases hc206 : i2 = i3
          · refine R.icmpNo X12 hx (hb hby at_206) (teq hc206).2 (pc' := 209) rfl ?_
            refine R.iconst X12 hx (hb hby at_209) (v := (1 : Int32)) (by decide) (pc' := 210) rfl ?_
            refine R.goto X12 hx (hb hby at_210) (by decide) (pc' := 214) (by decide) ?_
            refine R.dload X12 hx (hb hby at_214) rfl (pc' := 216) rfl ?_
            refine R.dload X12 hx (hb hby at_216) rfl (pc' := 218) rfl ?_
            refine R.dcmp X12 hx (hb hby at_218) (own_cmpz n1 n2 _ : cmpValue (FP.dcmp r9 r13) .l = (own_ci (own_zv r9) (own_zv r13))) (pc' := 219) rfl ?_
            refine R.ifNo X12 hx (hb hby at_219) (teq (own_ci_eq.mpr (by rw [← hr9, ← hr13, hc206]) : (own_ci (own_zv r9) (own_zv r13)) = (0 : Int32))).2 (pc' := 222) rfl ?_
            refine R.iconst X12 hx (hb hby at_222) (v := (1 : Int32)) (by decide) (pc' := 223) rfl ?_
            refine R.goto X12 hx (hb hby at_223) (by decide) (pc' := 227) (by decide) ?_
            refine R.icmpNo X12 hx (hb hby at_227) (teq (by decide : (1 : Int32) = (1 : Int32))).2 (pc' := 230) rfl ?_
            refine R.iconst X12 hx (hb hby at_230) (v := (1 : Int32)) (by decide) (pc' := 231) rfl ?_
            refine R.goto X12 hx (hb hby at_231) (by decide) (pc' := 235) (by decide) ?_
            refine R.istore X12 hx (hb hby at_235) (L' := #[.val (.int p0), .val (.long q1), .second, .val (.int p2), .val (.int p3), .val (.int i1), .val (.int i2), .val (.int i3), .val (.ref b4), .val (.double r9), .second, .val (.int (1 : Int32)), .val (.ref b10), .val (.double r13), .second, .unset, .unset, .unset]) rfl (pc' := 237) rfl ?_
            exact J237
          · refine R.icmpYes X12 hx (hb hby at_206) (feq hc206).2 (by decide) (pc' := 213) (by decide) ?_
            refine R.iconst X12 hx (hb hby at_213) (v := (0 : Int32)) (by decide) (pc' := 214) rfl ?_
            refine R.dload X12 hx (hb hby at_214) rfl (pc' := 216) rfl ?_
            refine R.dload X12 hx (hb hby at_216) rfl (pc' := 218) rfl ?_
            refine R.dcmp X12 hx (hb hby at_218) (own_cmpz n1 n2 _ : cmpValue (FP.dcmp r9 r13) .l = (own_ci (own_zv r9) (own_zv r13))) (pc' := 219) rfl ?_
            refine R.ifYes X12 hx (hb hby at_219) (feq (fun q => by have q' := own_ci_eq.mp q; rw [← hr9, ← hr13] at q'; rw [own_ilt] at hc178; rw [own_ieq] at hc206; have g := own_sh_lt (a := i3) (b := i2) (n := i1) hB.1 (by omega) hA.2; omega : ¬ ((own_ci (own_zv r9) (own_zv r13)) = (0 : Int32)))).2 (by decide) (pc' := 226) (by decide) ?_
            refine R.iconst X12 hx (hb hby at_226) (v := (0 : Int32)) (by decide) (pc' := 227) rfl ?_
            refine R.icmpNo X12 hx (hb hby at_227) (teq (by decide : (0 : Int32) = (0 : Int32))).2 (pc' := 230) rfl ?_
            refine R.iconst X12 hx (hb hby at_230) (v := (1 : Int32)) (by decide) (pc' := 231) rfl ?_
            refine R.goto X12 hx (hb hby at_231) (by decide) (pc' := 235) (by decide) ?_
            refine R.istore X12 hx (hb hby at_235) (L' := #[.val (.int p0), .val (.long q1), .second, .val (.int p2), .val (.int p3), .val (.int i1), .val (.int i2), .val (.int i3), .val (.ref b4), .val (.double r9), .second, .val (.int (1 : Int32)), .val (.ref b10), .val (.double r13), .second, .unset, .unset, .unset]) rfl (pc' := 237) rfl ?_
            exact J237
      refine R.iload X8 hx (hb hby at_77) rfl (pc' := 79) rfl ?_
      by_cases hc79 : i2 = (0 : Int32)
      · refine R.ifNo X8 hx (hb hby at_79) (teq hc79).2 (pc' := 82) rfl ?_
        refine R.dload X8 hx (hb hby at_82) rfl (pc' := 84) rfl ?_
        refine R.dconst0 X8 hx (hb hby at_84) (pc' := 85) rfl ?_
        refine R.dcmp X8 hx (hb hby at_85) (own_cmpz n1 own_0.ne _ : cmpValue (FP.dcmp r9 FP.dconst0) .l = (own_ci (own_zv r9) (own_zv FP.dconst0))) (pc' := 86) rfl ?_
        refine R.ifNo X8 hx (hb hby at_86) (teq (own_ci_eq.mpr (by rw [own_z0, ← hr9]; exact own_sh_0 (own_0eq.mp hc79) hN) : (own_ci (own_zv r9) (own_zv FP.dconst0)) = (0 : Int32))).2 (pc' := 89) rfl ?_
        refine R.iconst X8 hx (hb hby at_89) (v := (1 : Int32)) (by decide) (pc' := 90) rfl ?_
        refine R.goto X8 hx (hb hby at_90) (by decide) (pc' := 94) (by decide) ?_
        refine R.istore X8 hx (hb hby at_94) (L' := #[.val (.int p0), .val (.long q1), .second, .val (.int p2), .val (.int p3), .val (.int i1), .val (.int i2), .val (.int i3), .val (.ref b4), .val (.double r9), .second, .val (.int (1 : Int32)), .unset, .unset, .unset, .unset, .unset, .unset]) rfl (pc' := 96) rfl ?_
        refine R.goto X8 hx (hb hby at_96) (by decide) (pc' := 144) (by decide) ?_
        exact J144
      · refine R.ifYes X8 hx (hb hby at_79) (feq hc79).2 (by decide) (pc' := 99) (by decide) ?_
        refine R.iload X8 hx (hb hby at_99) rfl (pc' := 101) rfl ?_
        refine R.iload X8 hx (hb hby at_101) rfl (pc' := 103) rfl ?_
        by_cases hc103 : i2 = i1
        · refine R.icmpNo X8 hx (hb hby at_103) (teq hc103).2 (pc' := 106) rfl ?_
          refine R.dload X8 hx (hb hby at_106) rfl (pc' := 108) rfl ?_
          refine R.dconst1 X8 hx (hb hby at_108) (pc' := 109) rfl ?_
          refine R.dcmp X8 hx (hb hby at_109) (own_cmpz n1 own_1.ne _ : cmpValue (FP.dcmp r9 FP.dconst1) .l = (own_ci (own_zv r9) (own_zv FP.dconst1))) (pc' := 110) rfl ?_
          refine R.ifNo X8 hx (hb hby at_110) (teq (own_ci_eq.mpr (by rw [own_z1, ← hr9]; exact own_sh_1 (own_ieq.mp hc103) hN) : (own_ci (own_zv r9) (own_zv FP.dconst1)) = (0 : Int32))).2 (pc' := 113) rfl ?_
          refine R.iconst X8 hx (hb hby at_113) (v := (1 : Int32)) (by decide) (pc' := 114) rfl ?_
          refine R.goto X8 hx (hb hby at_114) (by decide) (pc' := 118) (by decide) ?_
          refine R.istore X8 hx (hb hby at_118) (L' := #[.val (.int p0), .val (.long q1), .second, .val (.int p2), .val (.int p3), .val (.int i1), .val (.int i2), .val (.int i3), .val (.ref b4), .val (.double r9), .second, .val (.int (1 : Int32)), .unset, .unset, .unset, .unset, .unset, .unset]) rfl (pc' := 120) rfl ?_
          refine R.goto X8 hx (hb hby at_120) (by decide) (pc' := 144) (by decide) ?_
          exact J144
        · refine R.icmpYes X8 hx (hb hby at_103) (feq hc103).2 (by decide) (pc' := 123) (by decide) ?_
          have hm := own_sh_mid (a := i2) (n := i1) (by have q : ¬ i2.toInt = 0 := fun e => hc79 (own_0eq.mpr e); omega) (by have q : ¬ i2.toInt = i1.toInt := fun e => hc103 (own_ieq.mpr e); omega)
          rw [hr9] at hm
          refine R.dconst0 X8 hx (hb hby at_123) (pc' := 124) rfl ?_
          refine R.dload X8 hx (hb hby at_124) rfl (pc' := 126) rfl ?_
          refine R.dcmp X8 hx (hb hby at_126) (own_cmpz own_0.ne n1 _ : cmpValue (FP.dcmp FP.dconst0 r9) .g = (own_ci (own_zv FP.dconst0) (own_zv r9))) (pc' := 127) rfl ?_
          refine R.ifNo X8 hx (hb hby at_127) (tlt (own_ci_lt.mpr (by rw [own_z0]; exact hm.1) : (own_ci (own_zv FP.dconst0) (own_zv r9)) < (0 : Int32))).2.1 (pc' := 130) rfl ?_
          refine R.dload X8 hx (hb hby at_130) rfl (pc' := 132) rfl ?_
          refine R.dconst1 X8 hx (hb hby at_132) (pc' := 133) rfl ?_
          refine R.dcmp X8 hx (hb hby at_133) (own_cmpz n1 own_1.ne _ : cmpValue (FP.dcmp r9 FP.dconst1) .g = (own_ci (own_zv r9) (own_zv FP.dconst1))) (pc' := 134) rfl ?_
          refine R.ifNo X8 hx (hb hby at_134) (tlt (own_ci_lt.mpr (by rw [own_z1]; exact hm.2) : (own_ci (own_zv r9) (own_zv FP.dconst1)) < (0 : Int32))).2.1 (pc' := 137) rfl ?_
          refine R.iconst X8 hx (hb hby at_137) (v := (1 : Int32)) (by decide) (pc' := 138) rfl ?_
          refine R.goto X8 hx (hb hby at_138) (by decide) (pc' := 142) (by decide) ?_
          refine R.istore X8 hx (hb hby at_142) (L' := #[.val (.int p0), .val (.long q1), .second, .val (.int p2), .val (.int p3), .val (.int i1), .val (.int i2), .val (.int i3), .val (.ref b4), .val (.double r9), .second, .val (.int (1 : Int32)), .unset, .unset, .unset, .unset, .unset, .unset]) rfl (pc' := 144) rfl ?_
          exact J144
  exact (Rn.st (fun t k => castTop (ef_0 m p0 q1 p2 p3) k) first_ : Rn p e below (s₁.setTop (entryFrame m #[(.int p0), (.long q1), (.int p2), (.int p3)] maxLocals)) (Fn0 Z p0 q1 p2 p3 h0 n0 s))
set_option maxRecDepth 65536 in
set_option maxHeartbeats 40000000 in
theorem comes_1 {Post : Tables → Env → Array Value → State → Outcome → State → Prop} (hpost : ∀ tb e args s v u, (limb_1_1.after args s (.returned v) u = true ∧ limb_1_2.after args s (.returned v) u = true ∧ True) → FrameEnd s (.returned v) u (Jvm.fieldLocs frame_1_writes args s ++ Jvm.arrayLocs frame_1_arrays args s ++ Jvm.staticLocs frame_1_statics s) 16 128 → Post tb e args s (.returned v) u) :
    ArmFor flags0 classFile x code maxLocals ret World_1 tables_1 room_1 Calls_1 rest_1 Pre_1 Post := by
  intro l hfl _ _ p e ha hc hk s m args below hf hA hF happ hP
  obtain ⟨hcalls, hrest, hpre⟩ := hP
  obtain ⟨-, -, -, hnamed, -, -, -, hat⟩ := (Spec.applies_iff hf).mp happ
  obtain ⟨hg, hn⟩ := and_e (Cond.before_iff.mp (show (Jvm.Cond.and given_1 narrow_1).before args s = true from hpre))
  obtain ⟨g1, g2⟩ := and_e hg
  obtain ⟨g3, g4⟩ := and_e g2
  obtain ⟨g5, g6⟩ := and_e g4
  obtain ⟨g7, g8⟩ := and_e g6
  obtain ⟨w0, w1, w2, w3, rfl⟩ : ∃ w0 w1 w2 w3 : Value, args = #[w0, w1, w2, w3] := by
    have hs : args.size = 4 := by simpa [Cond.value, given_1] using g1
    obtain ⟨L⟩ := args
    match L, hs with
    | [w0, w1, w2, w3], _ => exact ⟨w0, w1, w2, w3, rfl⟩
  have hw := fun d (hd : d ∈ tables_1) => atoms_spec (ws := Jvm.Cond.code x code maxLocals ret :: tables_1) hat d (List.mem_cons_of_mem _ hd)
  obtain ⟨i0, ei0⟩ := is_v g3
  obtain rfl : w0 = (.int i0) := Option.some.inj ei0
  obtain ⟨i1, ei1⟩ := isL_v g5
  obtain rfl : w1 = (.long i1) := Option.some.inj ei1
  obtain ⟨i2, ei2⟩ := is_v g7
  obtain rfl : w2 = (.int i2) := Option.some.inj ei2
  obtain ⟨i3, ei3⟩ := is_v g8
  obtain rfl : w3 = (.int i3) := Option.some.inj ei3
  obtain ⟨n, o, h1, h2, h3, _, L, rfl, ⟨rfl, N⟩, hq⟩ := rm0 l s _ hw tables_1 i0 i1 i2 i3 s.heap s.heap.size (Nat.le_refl _) p e ha hc hk s m _ below hf ((Spec.applies_iff_loose hf).mp happ).1 ⟨rfl, State.Warmed39.refl s, rfl⟩ trivial
  refine ⟨n, _, h1, h2, h3, hpost _ _ _ _ _ _ ⟨Cond.after_iff.mpr rfl, Cond.after_iff.mpr (eq_i res_at (Term.int_eval (1)) rfl), trivial⟩ ⟨hq.1, hq.2.1, (hq.2.2.sift fun y hy => Or.inr (N y hy)).mono (by decide) (by decide)⟩⟩
theorem main_1_1 : Claimed_1_1 := comes_1 fun _ _ _ _ _ _ h hF => ⟨h.1, hF⟩
theorem main_1_2 : Claimed_1_2 := comes_1 fun _ _ _ _ _ _ h hF => ⟨h.2.1, hF⟩
end Jvm.Pilot.@@N@@
namespace Jvm.Pilot.@@N@@
open Jvm Jvm.ClassFile Sem Op Lib Jvm.Free Jvm.Stand Jvm.Pilot.@@N@@.Jvm.D
/-! MADE BY PROGRAM (witnessworld.py) out of the Statement's table words and the real class files: 10 classes; the members and pool entries that the words name. The judged class is class 1, her method 1. -/
namespace start1
open Jvm.ClassFile
def u (s : String) : CpInfo := .utf8 (stringToUtf16 s)
/-- a pool by its gaps: so many unusable entries, then the entry; so many at the end -/
def gap : Nat → List CpInfo → List CpInfo
  | 0, r => r
  | n + 1, r => .unusable :: gap n r
def poolList (es : List (Nat × CpInfo)) (last : Nat) : List CpInfo := es.foldr (fun e r => gap e.1 (e.2 :: r)) (gap last [])
def pool (es : List (Nat × CpInfo)) (last : Nat) : Array CpInfo := ⟨poolList es last⟩
def fileOf (pool : Array CpInfo) (this : Nat) (attrs : Array Attribute := #[]) (ms : Array MethodInfo := #[]) (fl : Nat := 33) (sup : Nat := 0) (ifs : Array Nat := #[]) (fds : Array FieldInfo := #[]) : ClassFile where
  minorVersion := 0
  majorVersion := 65
  constantPool := pool
  accessFlags := fl
  thisClass := this
  superClass := sup
  interfaces := ifs
  fields := fds
  methods := ms
  attributes := attrs
def plain (name : String) (sup : Option ClassId) : Class where
  name := name
  kind := .ordinary
  loader := none
  accessFlags := 33
  super := sup
  interfaces := #[]
  cf := none
  fields := #[]
  methods := #[]
  instanceTypes := #[]
  staticTypes := #[]
  resolved := #[]
  callSites := []
  init := .initialized
  statics := none
  mirror := none

def pool0 : Array CpInfo := pool [(5, u "<init>"), (0, u "()V"), (1, .class_ 10), (1, u "java/lang/Object")] 113

def k0c0 : Code := { maxStack := 0, maxLocals := 1, code := object_method_1_code, exceptionTable := #[], attributes := #[] }
def k0m0 : Method := { name := "<init>", desc := "()V", sig := { parameters := [], returnType := none }, accessFlags := 1, code := some k0c0 }
/-- java/lang/Object -/
def k0 : Class := { plain "java/lang/Object" none with
  accessFlags := 33
  interfaces := #[]
  cf := some (fileOf pool0 8 #[] #[{ accessFlags := 1, nameIndex := 5, descriptorIndex := 6, attributes := #[] }] 33 0 #[] #[])
  fields := #[]
  methods := #[k0m0]
  instanceTypes := #[]
  staticTypes := #[]
  resolved := Array.replicate 124 none
  statics := none }

def pool1 : Array CpInfo := pool [(2, .class_ 4), (1, u "java/lang/Object"), (0, u "<init>"), (0, u "()V"), (0, .integer 2147483647), (0, .long 2147483647), (1, .class_ 11), (0, u "com/example/upupa/upupa/feedback/IterationTally"), (0, .methodref 10 13), (0, .nameAndType 5 14), (0, u "(IJI)V"), (0, .methodref 10 16), (0, .nameAndType 17 18), (0, u "convergedShare"), (0, u "()D"), (0, .long 18446744073709551615), (1, .integer 1073741823), (0, .class_ 23), (0, u "com/example/upupa/upupa/feedback/IterationTallyConvergedSharePinLaw"), (2, u "law"), (0, u "(IJII)Z")] 3

def k1m0 : Method := { name := "<init>", desc := "()V", sig := { parameters := [], returnType := none }, accessFlags := 1, code := none }
def k1c1 : Code := { maxStack := 7, maxLocals := 18, code := code, exceptionTable := #[], attributes := #[] }
def k1m1 : Method := { name := "law", desc := "(IJII)Z", sig := { parameters := [.int, .long, .int, .int], returnType := some .boolean }, accessFlags := 9, code := some k1c1 }
/-- com/example/upupa/upupa/feedback/IterationTallyConvergedSharePinLaw -/
def k1 : Class := { plain "com/example/upupa/upupa/feedback/IterationTallyConvergedSharePinLaw" (some 0) with
  accessFlags := 49
  interfaces := #[]
  cf := some (fileOf pool1 22 #[] #[{ accessFlags := 1, nameIndex := 5, descriptorIndex := 6, attributes := #[] }, { accessFlags := 9, nameIndex := 26, descriptorIndex := 27, attributes := #[] }] 49 2 #[] #[])
  fields := #[]
  methods := #[k1m0, k1m1]
  instanceTypes := #[]
  staticTypes := #[]
  resolved := Array.replicate 31 none
  statics := none }

def pool2 : Array CpInfo := pool [(1, .methodref 2 3), (0, .class_ 4), (0, .nameAndType 5 6), (0, u "java/lang/Object"), (0, u "<init>"), (0, u "()V"), (0, .class_ 8), (0, u "java/lang/Record")] 13

def k2c0 : Code := { maxStack := 1, maxLocals := 1, code := jdk_30_method_1_code, exceptionTable := #[], attributes := #[] }
def k2m0 : Method := { name := "<init>", desc := "()V", sig := { parameters := [], returnType := none }, accessFlags := 4, code := some k2c0 }
/-- java/lang/Record -/
def k2 : Class := { plain "java/lang/Record" (some 0) with
  accessFlags := 1057
  interfaces := #[]
  cf := some (fileOf pool2 7 #[] #[{ accessFlags := 4, nameIndex := 5, descriptorIndex := 6, attributes := #[] }] 1057 2 #[] #[])
  fields := #[]
  methods := #[k2m0]
  instanceTypes := #[]
  staticTypes := #[]
  resolved := Array.replicate 22 none
  statics := none }

def pool3 : Array CpInfo := pool [(1, .methodref 2 3), (0, .class_ 4), (0, .nameAndType 5 6), (0, u "java/lang/Record"), (0, u "<init>"), (0, u "()V"), (0, .fieldref 8 9), (0, .class_ 10), (0, .nameAndType 11 12), (0, u "com/example/upupa/upupa/feedback/IterationTally"), (0, u "runs"), (0, u "I"), (0, .fieldref 8 14), (0, .nameAndType 15 16), (0, u "iterations"), (0, u "J"), (0, .fieldref 8 18), (0, .nameAndType 19 12), (0, u "converged"), (2, u "(IJI)V"), (2, .double 9221120237041090560), (15, u "NONE"), (0, u "Lcom/example/upupa/upupa/feedback/IterationTally;"), (9, u "()D"), (0, u "convergedShare")] 27

def k3c0 : Code := { maxStack := 3, maxLocals := 5, code := prog_15_method_1_code, exceptionTable := #[], attributes := #[] }
def k3m0 : Method := { name := "<init>", desc := "(IJI)V", sig := { parameters := [.int, .long, .int], returnType := none }, accessFlags := 1, code := some k3c0 }
def k3c1 : Code := { maxStack := 4, maxLocals := 1, code := prog_15_method_5_code, exceptionTable := #[], attributes := #[] }
def k3m1 : Method := { name := "convergedShare", desc := "()D", sig := { parameters := [], returnType := some .double }, accessFlags := 1, code := some k3c1 }
/-- com/example/upupa/upupa/feedback/IterationTally -/
def k3 : Class := { plain "com/example/upupa/upupa/feedback/IterationTally" (some 2) with
  accessFlags := 49
  interfaces := #[]
  cf := some (fileOf pool3 8 #[] #[{ accessFlags := 1, nameIndex := 5, descriptorIndex := 22, attributes := #[] }, { accessFlags := 1, nameIndex := 53, descriptorIndex := 52, attributes := #[] }] 49 2 #[] #[{ accessFlags := 18, nameIndex := 11, descriptorIndex := 12, attributes := #[] }, { accessFlags := 18, nameIndex := 15, descriptorIndex := 16, attributes := #[] }, { accessFlags := 18, nameIndex := 19, descriptorIndex := 12, attributes := #[] }, { accessFlags := 25, nameIndex := 41, descriptorIndex := 42, attributes := #[] }])
  fields := #[{ name := "runs", type := .int, accessFlags := 18, slot := 0, constantValue := 0 }, { name := "iterations", type := .long, accessFlags := 18, slot := 1, constantValue := 0 }, { name := "converged", type := .int, accessFlags := 18, slot := 2, constantValue := 0 }, { name := "NONE", type := (.object "com/example/upupa/upupa/feedback/IterationTally"), accessFlags := 25, slot := 0, constantValue := 0 }]
  methods := #[k3m0, k3m1]
  instanceTypes := #[.int, .long, .int]
  staticTypes := #[(.object "com/example/upupa/upupa/feedback/IterationTally")]
  resolved := Array.replicate 81 none
  statics := none }

def pool4 : Array CpInfo := pool [(1, u "java/lang/Cloneable"), (0, .class_ 1), (0, u "java/lang/Object"), (0, .class_ 3)] 3

/-- java/lang/Cloneable -/
def k4 : Class := { plain "java/lang/Cloneable" (some 0) with
  accessFlags := 1537
  interfaces := #[]
  cf := some (fileOf pool4 2 #[] #[] 1537 4 #[] #[])
  fields := #[]
  methods := #[]
  instanceTypes := #[]
  staticTypes := #[]
  resolved := Array.replicate 8 none
  statics := none }

def pool5 : Array CpInfo := pool [(1, u "java/io/Serializable"), (0, .class_ 1), (0, u "java/lang/Object"), (0, .class_ 3)] 3

/-- java/io/Serializable -/
def k5 : Class := { plain "java/io/Serializable" (some 0) with
  accessFlags := 1537
  interfaces := #[]
  cf := some (fileOf pool5 2 #[] #[] 1537 4 #[] #[])
  fields := #[]
  methods := #[]
  instanceTypes := #[]
  staticTypes := #[]
  resolved := Array.replicate 8 none
  statics := none }

/-- the primitive byte -/
def k6 : Class := { plain "byte" none with kind := .primitive 'B', accessFlags := 0x411 }
/-- [B -/
def k7 : Class := { plain "[B" (some 0) with kind := .array 6 .byte, interfaces := #[4, 5], accessFlags := 1041 }

/-- the primitive int -/
def k8 : Class := { plain "int" none with kind := .primitive 'I', accessFlags := 0x411 }
/-- [I -/
def k9 : Class := { plain "[I" (some 0) with kind := .array 8 .int, interfaces := #[4, 5], accessFlags := 1041 }

def heap : Heap := #[]
def classes : Array Class := #[k0, k1, k2, k3, k4, k5, k6, k7, k8, k9]
def interned : List (Array UInt16 × Addr) := []
def slotsUsed : Nat := 0
def theMethod : MethodId := ⟨1, 1⟩
def args0 : Array Value := #[.int 5, .long 7, .int 5, .int 5]
def aboutOver (below : List Frame) : State where
  vm := { classes := classes, interned := interned.toArray }
  heap := heap
  slotsUsed := slotsUsed
  threads := #[{ frames := .invoking theMethod args0 :: below }]
def below0 : List Frame := [.native { method := ⟨0, 0⟩, args := #[] }]
def about1 : State := aboutOver below0
def p0 : Program := .bare "" "" ""
def e0 : Env := launch0.env 0 0 0
theorem w_frames : about1.frames = Frame.invoking theMethod args0 :: below0 := rfl
set_option maxRecDepth 65536 in
theorem w_args : argsFit about1.vm theMethod args0 = true := by decide +kernel
set_option maxRecDepth 65536 in
theorem w_heap : heapFits about1 = true := by decide +kernel
set_option maxRecDepth 65536 in
theorem w_runnable : about1.curStatus? = some .runnable := by decide +kernel
set_option maxRecDepth 65536 in
theorem w_alone : about1.alone = true := by decide +kernel
set_option maxRecDepth 65536 in
theorem w_named : about1.methodNamed? x = some theMethod := by decide +kernel
set_option maxRecDepth 65536 in
theorem w_hears : about1.hears theMethod below0 = true := by decide +kernel
set_option maxRecDepth 65536 in
theorem w_ripe : about1.ripe theMethod args0 below0 = true := by decide +kernel
theorem w_running : about1.status = .running := rfl
set_option maxRecDepth 65536 in
theorem w_room : about1.hasRoom e0.platform room_1 = true :=
  launch0.hasRoom_least _ room_1 (by decide +kernel) (by decide +kernel) (by decide +kernel) (by decide +kernel) (by decide +kernel) (by decide +kernel)
theorem allAtoms_all (ts : List Jvm.Cond) (a : Array Jvm.Value) (st : Jvm.State) : (allAtoms ts).before a st = ts.all (fun c => c.before a st) := by
  induction ts with
  | nil => rfl
  | cons c t ih =>
    show (Jvm.Cond.and c (allAtoms t)).before a st = _
    rw [Jvm.Cond.before_and, ih, List.all_cons]
def words1 : List Jvm.Cond := Jvm.Cond.code x code maxLocals ret :: tables_1
/-- a 'code' word, met by the world's own term for the bytes: nothing is compared byte by byte -/
theorem code_word {y : MethodName} {bytes : ByteArray} {mx : Nat} {rt : Option FieldType} {a : Array Value} {s : State} {m : MethodId} {meth : Method} {c : Code} (h1 : s.methodNamed? y = some m) (h2 : s.vm.method? m = some meth) (h3 : meth.code = some c) (h4 : c.code = bytes)
    (h5 : (c.maxLocals == mx && c.exceptionTable.isEmpty && decide (c.maxStack ≤ mostOperands) && decide (meth.sig.returnType = rt) && !meth.locks && decide (parseMethodDescriptor y.desc = some meth.sig)) = true) : (Jvm.Cond.code y bytes mx rt).before a s = true := by
  simp only [Bool.and_eq_true, beq_iff_eq, Bool.not_eq_true', decide_eq_true_eq] at h5
  obtain ⟨⟨⟨⟨⟨g1, g2⟩, g3⟩, g4⟩, g5⟩, g6⟩ := h5
  simp [Cond.before, Cond.holds, Cond.value, h1, h2, h3, h4, g1, g2, g3, g4, g5, g6]
def isCode : Jvm.Cond → Bool
  | .code _ _ _ _ => true
  | _ => false
theorem all_split {L : List Jvm.Cond} {P : Jvm.Cond → Bool} (h1 : L.all (fun c => isCode c || P c) = true) (h2 : ∀ c ∈ L.filter isCode, P c = true) : L.all P = true := by
  refine List.all_eq_true.mpr fun c hc => ?_
  have h := List.all_eq_true.mp h1 c hc
  rcases Bool.eq_false_or_eq_true (isCode c) with hi | hi
  · exact h2 c (List.mem_filter.mpr ⟨hc, hi⟩)
  · simpa [hi] using h
set_option maxRecDepth 65536 in
theorem w_c0 : (Jvm.Cond.code x code maxLocals ret).before args0 about1 = true := code_word (m := ⟨1, 1⟩) (meth := k1m1) (c := k1c1) (by decide +kernel) rfl rfl rfl (by decide +kernel)
set_option maxRecDepth 65536 in
theorem w_c1 : (Jvm.Cond.code ({ cls := "com/example/upupa/upupa/feedback/IterationTally", name := "<init>", desc := "(IJI)V" } : Jvm.MethodName) prog_15_method_1_code (5 : Nat) (Option.none : Option Jvm.ClassFile.FieldType)).before args0 about1 = true := code_word (m := ⟨3, 0⟩) (meth := k3m0) (c := k3c0) (by decide +kernel) rfl rfl rfl (by decide +kernel)
set_option maxRecDepth 65536 in
theorem w_c2 : (Jvm.Cond.code ({ cls := "java/lang/Record", name := "<init>", desc := "()V" } : Jvm.MethodName) jdk_30_method_1_code (1 : Nat) (Option.none : Option Jvm.ClassFile.FieldType)).before args0 about1 = true := code_word (m := ⟨2, 0⟩) (meth := k2m0) (c := k2c0) (by decide +kernel) rfl rfl rfl (by decide +kernel)
set_option maxRecDepth 65536 in
theorem w_c3 : (Jvm.Cond.code ({ cls := "java/lang/Object", name := "<init>", desc := "()V" } : Jvm.MethodName) object_method_1_code (1 : Nat) (Option.none : Option Jvm.ClassFile.FieldType)).before args0 about1 = true := code_word (m := ⟨0, 0⟩) (meth := k0m0) (c := k0c0) (by decide +kernel) rfl rfl rfl (by decide +kernel)
set_option maxRecDepth 65536 in
theorem w_c4 : (Jvm.Cond.code ({ cls := "com/example/upupa/upupa/feedback/IterationTally", name := "convergedShare", desc := "()D" } : Jvm.MethodName) prog_15_method_5_code (1 : Nat) (Option.some Jvm.ClassFile.FieldType.double)).before args0 about1 = true := code_word (m := ⟨3, 1⟩) (meth := k3m1) (c := k3c1) (by decide +kernel) rfl rfl rfl (by decide +kernel)
def codes1 : List Jvm.Cond := [Jvm.Cond.code x code maxLocals ret, Jvm.Cond.code ({ cls := "com/example/upupa/upupa/feedback/IterationTally", name := "<init>", desc := "(IJI)V" } : Jvm.MethodName) prog_15_method_1_code (5 : Nat) (Option.none : Option Jvm.ClassFile.FieldType), Jvm.Cond.code ({ cls := "java/lang/Record", name := "<init>", desc := "()V" } : Jvm.MethodName) jdk_30_method_1_code (1 : Nat) (Option.none : Option Jvm.ClassFile.FieldType), Jvm.Cond.code ({ cls := "java/lang/Object", name := "<init>", desc := "()V" } : Jvm.MethodName) object_method_1_code (1 : Nat) (Option.none : Option Jvm.ClassFile.FieldType), Jvm.Cond.code ({ cls := "com/example/upupa/upupa/feedback/IterationTally", name := "convergedShare", desc := "()D" } : Jvm.MethodName) prog_15_method_5_code (1 : Nat) (Option.some Jvm.ClassFile.FieldType.double)]
set_option maxRecDepth 65536 in
theorem codes_eq : words1.filter isCode = codes1 := rfl
theorem w_codes : ∀ c ∈ words1.filter isCode, c.before args0 about1 = true := by
  rw [codes_eq]
  intro c hc
  simp only [codes1, List.mem_cons, List.not_mem_nil, or_false] at hc
  rcases hc with rfl | rfl | rfl | rfl | rfl
  · exact w_c0
  · exact w_c1
  · exact w_c2
  · exact w_c3
  · exact w_c4
set_option maxRecDepth 65536 in
theorem w_t1 : (words1.take 24).all (fun c => isCode c || c.before args0 about1) = true := by decide +kernel
set_option maxRecDepth 65536 in
theorem w_t2 : (words1.drop 24).all (fun c => isCode c || c.before args0 about1) = true := by decide +kernel
theorem w_tables : (allAtoms (Jvm.Cond.code x code maxLocals ret :: tables_1)).before args0 about1 = true := by
  rw [allAtoms_all]
  show words1.all (fun c => c.before args0 about1) = true
  refine all_split ?_ w_codes
  rw [← List.take_append_drop 24 words1, List.all_append, w_t1, w_t2]
  rfl
set_option maxRecDepth 65536 in
theorem w_case : (Jvm.Cond.and given_1 narrow_1).before args0 about1 = true := by decide +kernel
theorem w_applies : (headSpec (Jvm.Cond.code x code maxLocals ret :: tables_1) room_1).applies x e0.platform about1 = true :=
  (Spec.applies_iff w_frames).mpr ⟨w_running, w_runnable, w_alone, w_named, w_hears, w_ripe, w_room, w_tables⟩
theorem atStart : AtStart classFile x code maxLocals ret World_1 tables_1 room_1 Calls_1 rest_1 Pre_1 launch0 p0 e0 about1 theMethod args0 below0 :=
  ⟨lists_1, trivial, launch0.admits_env _ _ _, launch0.least_env, fairChoices_fair.cas, fairChoices_fair.clock, w_frames, w_args, w_heap, w_applies, trivial, trivial, w_case⟩
end start1
theorem witness_1 : WitnessClaimed_1 := ⟨start1.p0, start1.e0, start1.about1, start1.theMethod, start1.args0, start1.below0, start1.atStart⟩
end Jvm.Pilot.@@N@@

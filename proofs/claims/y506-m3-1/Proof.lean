import JvmDerived
import JvmDerived.Pilot.@@N@@Statement
import JvmDerived.Pilot.@@N@@Code
set_option linter.unusedVariables false
set_option linter.unusedSimpArgs false
namespace Jvm.Pilot.@@N@@
section OwnFP
open Jvm.FP Jvm.FP.Core Jvm.Free.Fl
/-- what x stands for, in units of the least double -/
def own_zv (x : UInt64) : Int := zval b64 (val64 x)
/-- x is finite and stands for a / 2^k -/
def Dy (x : UInt64) (a : Int) (k : Nat) : Prop := DFin x ∧ own_zv x * ((2 ^ k : Nat) : Int) = a * (one64 : Int)
theorem Dy.nn {x : UInt64} {a : Int} {k : Nat} (h : Dy x a k) : NoNaN64 x := (fin64_core.mpr h.1).noNaN
theorem own_pp (k : Nat) : (0 : Int) < ((2 ^ k : Nat) : Int) := Int.natCast_pos.mpr (Nat.two_pow_pos k)
theorem own_up : (0 : Int) < (one64 : Int) := Int.natCast_pos.mpr one64_pos
theorem own_signed_abs (a : Int) : signed (decide (a < 0)) a.natAbs = a := by
  unfold signed
  by_cases h : a < 0
  · simp [h]; omega
  · simp [h]; omega
theorem own_datum (a : Int) (n : Nat) (ha : a.natAbs < 2 ^ 53) (hn : n ≤ 1074) : ∃ V : Datum, Core.fits b64 V ∧ V ≠ .nan ∧ zval b64 V = a * ((2 ^ n : Nat) : Int) := by
  have hq : b64.qmin = -1074 := qmin_b64
  have hqx : b64.qmax = 971 := by decide
  obtain ⟨c', q', hr, hu⟩ := round_exact good_b64 (decide (a < 0)) (c := a.natAbs) (q := (n : Int) - 1074) ha (by rw [hq]; omega) (by rw [hqx]; omega)
  have hV := round_fits good_b64 (.fin (decide (a < 0)) a.natAbs ((n : Int) - 1074))
  rw [hr] at hV
  refine ⟨_, hV, by simp, ?_⟩
  show signed (decide (a < 0)) (inUnits c' q' b64.qmin) = _
  rw [hu]
  unfold inUnits
  rw [signed_mul, own_signed_abs, hq, show (((n : Int) - 1074) - -1074).toNat = n by omega]
theorem own_notinf {a : Int} {n : Nat} {t : Bool} (ha : a.natAbs < 2 ^ 53) (hn : n ≤ 1074) : ¬ zval b64 (.inf t) = a * ((2 ^ n : Nat) : Int) := by
  intro e
  have q := congrArg Int.natAbs e
  rw [show zval b64 (.inf t) = signed t (b64.tails * 2 ^ (b64.exps - 2)) from rfl, natAbs_signed, Int.natAbs_mul, Int.natAbs_natCast] at q
  have l1 : a.natAbs * 2 ^ n < 2 ^ 53 * 2 ^ 1074 := Nat.mul_lt_mul_of_lt_of_le ha (Nat.pow_le_pow_right (by decide) hn) (Nat.two_pow_pos _)
  have l2 : 2 ^ 53 * 2 ^ 1074 < b64.tails * 2 ^ (b64.exps - 2) := by
    rw [tails_b64, show b64.exps - 2 = 2046 by decide, ← Nat.pow_add, ← Nat.pow_add]
    exact Nat.pow_lt_pow_right (by decide) (by decide)
  exact Nat.lt_irrefl _ (Nat.lt_trans l2 (by rw [q]; exact l1))
theorem own_round {s : Bool} {c : Nat} {q e0 a : Int} {k : Nat} (ha : a.natAbs < 2 ^ 53) (hk : k ≤ 1074) (h0 : e0 ≤ -1074) (h0e : e0 ≤ q)
    (h : signed s (inUnits c q e0) * ((2 ^ k : Nat) : Int) = a * ((2 ^ (-e0).toNat : Nat) : Int)) :
    (∃ s' c' q', round b64 (.fin s c q) = .fin s' c' q') ∧ zval b64 (round b64 (.fin s c q)) * ((2 ^ k : Nat) : Int) = a * (one64 : Int) := by
  have hq : b64.qmin = -1074 := qmin_b64
  obtain ⟨V, hV, hVn, hz⟩ := own_datum a (1074 - k) ha (by omega)
  have hs : zval b64 V * ((2 ^ (b64.qmin - e0).toNat : Nat) : Int) = signed s (inUnits c q e0) := by
    apply Int.eq_of_mul_eq_mul_right (a := ((2 ^ k : Nat) : Int)) (Int.ne_of_gt (own_pp k))
    rw [h, hz, hq, Int.mul_assoc, Int.mul_assoc, ← Int.natCast_mul, ← Int.natCast_mul, ← Nat.pow_add, ← Nat.pow_add]
    rw [show 1074 - k + ((-1074 - e0).toNat + k) = (-e0).toNat by omega]
  have le := zval_round_le good_b64 (s := s) (c := c) (q := q) (e0 := e0) hV hVn (by rw [hq]; exact h0) h0e (by rw [hs]; exact Int.le_refl _)
  have ge := zval_round_ge good_b64 (s := s) (c := c) (q := q) (e0 := e0) hV hVn (by rw [hq]; exact h0) h0e (by rw [hs]; exact Int.le_refl _)
  have e : zval b64 (round b64 (.fin s c q)) = a * ((2 ^ (1074 - k) : Nat) : Int) := by rw [← hz]; exact Int.le_antisymm le ge
  refine ⟨?_, by rw [e, Int.mul_assoc, ← Int.natCast_mul, ← Nat.pow_add, show 1074 - k + k = 1074 by omega]; rfl⟩
  cases hc : round b64 (.fin s c q) with
  | nan => exact absurd hc (roundRatio_ne_nan _ _ _ _ _)
  | fin s' c' q' => exact ⟨_, _, _, rfl⟩
  | inf t => rw [hc] at e; exact absurd e (own_notinf ha (by omega))
theorem Dy.add {x y : UInt64} {a b : Int} {k : Nat} (hx : Dy x a k) (hy : Dy y b k) (h : (a + b).natAbs < 2 ^ 53) (hk : k ≤ 1074) : Dy (FP.dadd x y) (a + b) k := by
  obtain ⟨⟨s, c, q, ex⟩, zx⟩ := hx
  obtain ⟨⟨t, d, r, ey⟩, zy⟩ := hy
  have fx := val64_fits x
  have fy := val64_fits y
  unfold own_zv at zx zy
  rw [ex] at fx zx
  rw [ey] at fy zy
  obtain ⟨sg, n, e, hs, he, hv⟩ := sum_units fx fy
  have hd : val64 (FP.dadd x y) = round b64 (.fin sg n e) := by rw [show FP.dadd x y = Core.dadd x y from rfl, val64_dadd, ex, ey, hs]
  obtain ⟨⟨s', c', q', h1⟩, h2⟩ := own_round (s := sg) (c := n) (q := e) (e0 := b64.qmin) (a := a + b) (k := k) h hk (Int.le_of_eq qmin_b64) he (by rw [hv, Int.add_mul, zx, zy, ← Int.add_mul, pow_qmin64])
  exact ⟨⟨s', c', q', hd.trans h1⟩, by unfold own_zv; rw [hd]; exact h2⟩
theorem Dy.sub {x y : UInt64} {a b : Int} {k : Nat} (hx : Dy x a k) (hy : Dy y b k) (h : (a - b).natAbs < 2 ^ 53) (hk : k ≤ 1074) : Dy (FP.dsub x y) (a - b) k := by
  obtain ⟨⟨s, c, q, ex⟩, zx⟩ := hx
  obtain ⟨⟨t, d, r, ey⟩, zy⟩ := hy
  have fx := val64_fits x
  have fy := negate_fits (val64_fits y)
  have zn := zval_negate b64 (val64 y)
  unfold own_zv at zx zy
  rw [ex] at fx zx
  rw [ey] at fy zy zn
  have fy' : Core.fits b64 (.fin (!t) d r) := fy
  have zn' : zval b64 (.fin (!t) d r) = -zval b64 (.fin t d r) := zn
  obtain ⟨sg, n, e, hs, he, hv⟩ := sum_units fx fy'
  have hd : val64 (FP.dsub x y) = round b64 (.fin sg n e) := by
    rw [show FP.dsub x y = Core.dsub x y from rfl, val64_dsub, ex, ey]
    exact congrArg (round b64) hs
  obtain ⟨⟨s', c', q', h1⟩, h2⟩ := own_round (s := sg) (c := n) (q := e) (e0 := b64.qmin) (a := a - b) (k := k) h hk (Int.le_of_eq qmin_b64) he (by rw [hv, zn', Int.add_mul, Int.neg_mul, zx, zy, ← Int.sub_eq_add_neg, ← Int.sub_mul, pow_qmin64])
  exact ⟨⟨s', c', q', hd.trans h1⟩, by unfold own_zv; rw [hd]; exact h2⟩
theorem own_two_qmin : 2 ^ (-(2 * b64.qmin)).toNat = one64 * one64 := by
  rw [show (-(2 * b64.qmin)).toNat = (-b64.qmin).toNat + (-b64.qmin).toNat by rw [qmin_b64]; decide, Nat.pow_add, pow_qmin64]
theorem Dy.mul {x y : UInt64} {a b : Int} {k j : Nat} (hx : Dy x a k) (hy : Dy y b j) (h : (a * b).natAbs < 2 ^ 53) (hk : k + j ≤ 1074) : Dy (FP.dmul x y) (a * b) (k + j) := by
  obtain ⟨⟨s, c, q, ex⟩, zx⟩ := hx
  obtain ⟨⟨t, d, r, ey⟩, zy⟩ := hy
  have fx := val64_fits x
  have fy := val64_fits y
  unfold own_zv at zx zy
  rw [ex] at fx zx
  rw [ey] at fy zy
  obtain ⟨hp, he, hv⟩ := product_units fx fy
  have hd : val64 (FP.dmul x y) = round b64 (.fin (s != t) (c * d) (q + r)) := by rw [show FP.dmul x y = Core.dmul x y from rfl, val64_dmul, ex, ey, hp]
  have hg : signed (s != t) (inUnits (c * d) (q + r) (2 * b64.qmin)) = zval b64 (.fin s c q) * zval b64 (.fin t d r) := by rw [hv, signed_xor]; rfl
  obtain ⟨⟨s', c', q', h1⟩, h2⟩ := own_round (s := s != t) (c := c * d) (q := q + r) (e0 := 2 * b64.qmin) (a := a * b) (k := k + j) h hk (by rw [qmin_b64]; decide) he (by
    rw [hg, own_two_qmin, Nat.pow_add, Int.natCast_mul, Int.natCast_mul]
    rw [show ∀ A B P Q : Int, A * B * (P * Q) = (A * P) * (B * Q) from fun A B P Q => by ac_rfl, zx, zy]
    exact (fun A B P : Int => by ac_rfl : ∀ A B P : Int, A * P * (B * P) = A * B * (P * P)) _ _ _)
  exact ⟨⟨s', c', q', hd.trans h1⟩, by unfold own_zv; rw [hd]; exact h2⟩
theorem own_units {c : Nat} {q r e0 : Int} (hq : b64.qmin ≤ q) (hr : b64.qmin ≤ r) (h1 : e0 ≤ q - r) (h2 : e0 ≤ b64.qmin) :
    inUnits c (q - r) e0 * 2 ^ (r - b64.qmin).toNat = inUnits c q b64.qmin * one64 * 2 ^ (b64.qmin - e0).toNat := by
  unfold inUnits one64
  rw [qmin_b64] at *
  rw [Nat.mul_assoc, ← Nat.pow_add, Nat.mul_assoc, Nat.mul_assoc, ← Nat.pow_add, ← Nat.pow_add]
  rw [show (q - r - e0).toNat + (r - -1074).toNat = (q - -1074).toNat + (1074 + (-1074 - e0).toNat) by omega]
theorem own_ddiv {x y : UInt64} {s t : Bool} {c d : Nat} {q r : Int} (ex : val64 x = .fin s c q) (ey : val64 y = .fin t d r) (hd : d ≠ 0) : val64 (FP.ddiv x y) = roundRatio b64 (s != t) c d (q - r) := by
  rw [show FP.ddiv x y = Core.ddiv x y from rfl, val64_ddiv, ex, ey]
  simp [quotient, hd]
theorem own_div_le {x y : UInt64} {s t : Bool} {c d : Nat} {q r : Int} (ex : val64 x = .fin s c q) (ey : val64 y = .fin t d r) (hd : d ≠ 0) {V : Datum} (hV : Core.fits b64 V) (hn : V ≠ .nan)
    (h : zmag b64 (val64 x) * one64 ≤ zmag b64 V * zmag b64 (val64 y)) : zmag b64 (val64 (FP.ddiv x y)) ≤ zmag b64 V := by
  have fx := val64_fits x
  have fy := val64_fits y
  rw [ex] at fx h
  rw [ey] at fy h
  rw [own_ddiv ex ey hd]
  refine zmag_roundRatio_le good_b64 (e0 := min (q - r) b64.qmin) (Nat.pos_of_ne_zero hd) hV hn (Int.min_le_right _ _) (Int.min_le_left _ _) ?_
  refine Nat.le_of_mul_le_mul_right (c := 2 ^ (r - b64.qmin).toNat) ?_ (Nat.two_pow_pos _)
  rw [own_units fx.2.1 fy.2.1 (Int.min_le_left _ _) (Int.min_le_right _ _)]
  refine Nat.le_trans (Nat.mul_le_mul_right _ h) (Nat.le_of_eq ?_)
  show zmag b64 V * inUnits d r b64.qmin * _ = _
  unfold inUnits
  exact (fun A B P Q : Nat => by ac_rfl : ∀ A B P Q : Nat, A * (B * P) * Q = A * Q * B * P) _ _ _ _
theorem own_div_ge {x y : UInt64} {s t : Bool} {c d : Nat} {q r : Int} (ex : val64 x = .fin s c q) (ey : val64 y = .fin t d r) (hd : d ≠ 0) {V : Datum} (hV : Core.fits b64 V)
    (h : zmag b64 V * zmag b64 (val64 y) ≤ zmag b64 (val64 x) * one64) : zmag b64 V ≤ zmag b64 (val64 (FP.ddiv x y)) := by
  have fx := val64_fits x
  have fy := val64_fits y
  rw [ex] at fx h
  rw [ey] at fy h
  rw [own_ddiv ex ey hd]
  refine zmag_roundRatio_ge good_b64 (e0 := min (q - r) b64.qmin) (Nat.pos_of_ne_zero hd) hV (Int.min_le_right _ _) (Int.min_le_left _ _) ?_
  refine Nat.le_of_mul_le_mul_right (c := 2 ^ (r - b64.qmin).toNat) ?_ (Nat.two_pow_pos _)
  rw [own_units fx.2.1 fy.2.1 (Int.min_le_left _ _) (Int.min_le_right _ _)]
  refine Nat.le_trans (Nat.le_of_eq ?_) (Nat.mul_le_mul_right _ h)
  show _ = zmag b64 V * inUnits d r b64.qmin * _
  unfold inUnits
  exact (fun A B P Q : Nat => by ac_rfl : ∀ A B P Q : Nat, A * Q * B * P = A * (B * P) * Q) _ _ _ _
theorem own_zval_abs (d : Datum) : (zval b64 d).natAbs = zmag b64 d := by unfold zval; exact natAbs_signed _ _
theorem Dy.div {x y : UInt64} {a b m : Int} {k j n : Nat} (hx : Dy x a k) (hy : Dy y b j) (hb : b ≠ 0) (hm : m.natAbs < 2 ^ 53) (hn : n ≤ 1074)
    (h : a * ((2 ^ j : Nat) : Int) * ((2 ^ n : Nat) : Int) = m * b * ((2 ^ k : Nat) : Int)) : Dy (FP.ddiv x y) m n := by
  obtain ⟨⟨s, c, q, ex⟩, zx⟩ := hx
  obtain ⟨⟨t, d, r, ey⟩, zy⟩ := hy
  unfold own_zv at zx zy
  obtain ⟨V, hV, hVn, hz⟩ := own_datum m (1074 - n) hm (by omega)
  have hzn : zval b64 V * ((2 ^ n : Nat) : Int) = m * (one64 : Int) := by rw [hz, Int.mul_assoc, ← Int.natCast_mul, ← Nat.pow_add, show 1074 - n + n = 1074 by omega]; rfl
  have hyn : zval b64 (val64 y) ≠ 0 := fun e => by
    rw [e, Int.zero_mul] at zy
    rcases Int.mul_eq_zero.mp zy.symm with q | q
    · exact hb q
    · exact absurd q (Int.ne_of_gt own_up)
  have hd : d ≠ 0 := fun e => by
    subst e
    rw [ey] at hyn
    exact hyn (by show signed t (inUnits 0 r b64.qmin) = 0; unfold inUnits; rw [Nat.zero_mul, signed_zero])
  have key : zval b64 V * zval b64 (val64 y) = zval b64 (val64 x) * (one64 : Int) := by
    have e1 : (zval b64 V * zval b64 (val64 y)) * (((2 ^ n : Nat) : Int) * ((2 ^ j : Nat) : Int) * ((2 ^ k : Nat) : Int)) = (zval b64 (val64 x) * (one64 : Int)) * (((2 ^ n : Nat) : Int) * ((2 ^ j : Nat) : Int) * ((2 ^ k : Nat) : Int)) := by
      rw [(fun A B P Q R : Int => by ac_rfl : ∀ A B P Q R : Int, A * B * (P * Q * R) = (A * P) * (B * Q) * R), hzn, zy,
        (fun A B P Q R : Int => by ac_rfl : ∀ A B P Q R : Int, A * B * (P * Q * R) = (A * R) * (B * P * Q)) (zval b64 (val64 x)), zx,
        (fun M B U K : Int => by ac_rfl : ∀ M B U K : Int, M * U * (B * U) * K = (M * B * K) * (U * U)), ← h]
      exact (fun A U P Q : Int => by ac_rfl : ∀ A U P Q : Int, A * Q * P * (U * U) = A * U * (U * P * Q)) _ _ _ _
    exact Int.eq_of_mul_eq_mul_right (Int.ne_of_gt (Int.mul_pos (Int.mul_pos (own_pp n) (own_pp j)) (own_pp k))) e1
  have kn : zmag b64 V * zmag b64 (val64 y) = zmag b64 (val64 x) * one64 := by
    have q := congrArg Int.natAbs key
    rw [Int.natAbs_mul, Int.natAbs_mul, own_zval_abs, own_zval_abs, own_zval_abs, Int.natAbs_natCast] at q
    exact q
  have le := own_div_le ex ey hd hV hVn (Nat.le_of_eq kn.symm)
  have ge := own_div_ge ex ey hd hV (Nat.le_of_eq kn)
  have em : zmag b64 (val64 (FP.ddiv x y)) = zmag b64 V := Nat.le_antisymm le ge
  have er := own_ddiv ex ey hd
  have es : sgn (val64 (FP.ddiv x y)) = (s != t) := by rw [er, sgn_roundRatio]
  have prod : zval b64 (val64 (FP.ddiv x y)) * zval b64 (val64 y) = zval b64 (val64 x) * (one64 : Int) := by
    unfold zval
    rw [es, em, ← signed_xor, kn, signed_mul, ex, ey]
    show signed ((s != t) != t) _ * _ = signed s _ * _
    rw [show ((s != t) != t) = s by cases s <;> cases t <;> rfl]
  have eq : zval b64 (val64 (FP.ddiv x y)) = zval b64 V := Int.eq_of_mul_eq_mul_right hyn (prod.trans key.symm)
  refine ⟨?_, by unfold own_zv; rw [eq]; exact hzn⟩
  cases hc : val64 (FP.ddiv x y) with
  | nan => exact absurd (er.symm.trans hc) (roundRatio_ne_nan _ _ _ _ _)
  | fin s' c' q' => exact ⟨_, _, _, hc⟩
  | inf t => rw [hc, hz] at eq; exact absurd eq (own_notinf hm (by omega))
theorem own_ofInt {x : UInt64} {i : Int} (hx : val64 x = round b64 (ofInt i)) (h : i.natAbs < 2 ^ 53) : Dy x i 0 := by
  obtain ⟨⟨s', c', q', h1⟩, h2⟩ := own_round (s := decide (i < 0)) (c := i.natAbs) (q := 0) (e0 := b64.qmin) (a := i) (k := 0) h (by decide) (Int.le_of_eq qmin_b64) (by rw [qmin_b64]; decide) (by
    unfold inUnits
    rw [signed_mul, own_signed_abs, show (0 - b64.qmin) = -b64.qmin by omega, pow_qmin64]; simp)
  exact ⟨⟨s', c', q', hx.trans h1⟩, by unfold own_zv; rw [hx]; exact h2⟩
theorem Dy.i2d (v : Int32) : Dy (FP.i2d v) v.toInt 0 := own_ofInt (val64_i2d v) (by have h1 := Int32.toInt_lt v; have h2 := Int32.le_toInt v; omega)
theorem Dy.l2d {v : Int64} (h : v.toInt.natAbs < 2 ^ 53) : Dy (FP.l2d v) v.toInt 0 := own_ofInt (val64_l2d v) h
theorem Dy.lit {x : UInt64} {a : Int} {k : Nat} (s : Bool) (c : Nat) (q : Int) (h : val64 x = .fin s c q) (h2 : signed s (inUnits c q b64.qmin) * ((2 ^ k : Nat) : Int) = a * (one64 : Int)) : Dy x a k :=
  ⟨⟨s, c, q, h⟩, by unfold own_zv; rw [h]; exact h2⟩
theorem Dy.up {x : UInt64} {a : Int} {k : Nat} (i : Nat) (h : Dy x a k) : Dy x (a * ((2 ^ i : Nat) : Int)) (k + i) :=
  ⟨h.1, by rw [Nat.pow_add, Int.natCast_mul, ← Int.mul_assoc, h.2]; exact (fun A B C : Int => by ac_rfl : ∀ A B C : Int, A * B * C = A * C * B) _ _ _⟩
theorem Dy.cast {x : UInt64} {a b : Int} {k j : Nat} (h : Dy x a k) (e : a = b) (e2 : k = j) : Dy x b j := e ▸ e2 ▸ h
/-- the int that dcmpl and dcmpg push for two numbers -/
def own_ci (a b : Int) : Int32 := if a < b then -1 else if a = b then 0 else 1
theorem own_ci_lt {a b : Int} : own_ci a b < 0 ↔ a < b := by unfold own_ci; split <;> (try split) <;> simp_all <;> omega
theorem own_ci_gt {a b : Int} : 0 < own_ci a b ↔ b < a := by unfold own_ci; split <;> (try split) <;> simp_all <;> omega
theorem own_ci_eq {a b : Int} : own_ci a b = 0 ↔ a = b := by unfold own_ci; split <;> (try split) <;> simp_all <;> omega
theorem own_dcmp {x y : UInt64} (hx : DFin x) (hy : DFin y) : FP.dcmp x y = some (compare (own_zv x) (own_zv y)) := by
  obtain ⟨s, c, q, ex⟩ := hx
  obtain ⟨t, d, r, ey⟩ := hy
  exact order_zval good_b64 (val64_fits x) (val64_fits y) (fun e => by cases ex.symm.trans e) (fun e => by cases ey.symm.trans e)
theorem Dy.dcmp {x y : UInt64} {a b : Int} {k : Nat} (hx : Dy x a k) (hy : Dy y b k) : FP.dcmp x y = some (compare a b) := by
  rw [own_dcmp hx.1 hy.1]
  congr 1
  refine compare_congr ?_ ?_
  · rw [← Int.mul_lt_mul_right (own_pp k), hx.2, hy.2, Int.mul_lt_mul_right own_up]
  · constructor
    · intro e
      have q := hx.2
      rw [e, hy.2] at q
      exact (Int.eq_of_mul_eq_mul_right (Int.ne_of_gt own_up) q).symm
    · intro e
      have q := hx.2
      rw [e, ← hy.2] at q
      exact Int.eq_of_mul_eq_mul_right (Int.ne_of_gt (own_pp k)) q
theorem Dy.cmp {x y : UInt64} {a b : Int} {k : Nat} (hx : Dy x a k) (hy : Dy y b k) (o : Jvm.ClassFile.CmpOp) : Jvm.Op.cmpValue (FP.dcmp x y) o = own_ci a b := by
  rw [hx.dcmp hy]
  unfold own_ci
  show Jvm.Op.cmpValue (some (compareOfLessAndEq a b)) o = _
  unfold compareOfLessAndEq
  by_cases h1 : a < b
  · simp [h1]; cases o <;> rfl
  · by_cases h2 : a = b
    · simp [h2]; cases o <;> rfl
    · simp [h1, h2]; cases o <;> rfl
end OwnFP
end Jvm.Pilot.@@N@@
namespace Jvm.Pilot.@@N@@
open Jvm Jvm.ClassFile Sem Op Lib Jvm.Free Jvm.Stand Jvm.LawKit Jvm.RoadKit Jvm.Free.Fl Bundle Jvm.Pilot.@@N@@.Jvm.D
/-- the run from A ends, and what it leaves meets F -/
def Rn (p : Program) (e : Env) (below : List Frame) (A : State) (F : Outcome → State → Prop) : Prop := ∃ s₂ o, Steps p.tables e below A s₂ ∧ s₂.status = .running ∧ Ended s₂ below o ∧ F o s₂
theorem Rn.st {p : Program} {e : Env} {below : List Frame} {A B : State} {F : Outcome → State → Prop} (h : ∀ t, Steps p.tables e below B t → Steps p.tables e below A t) (r : Rn p e below B F) : Rn p e below A F := by
  obtain ⟨s₂, o, h1, h2⟩ := r
  exact ⟨s₂, o, h _ h1, h2⟩
theorem Rn.ret {p : Program} {l : Launch} {e : Env} {R : Room} {s : State} {m : MethodId} {args : Array Value} {below : List Frame} {meth : Method} {c : Code} {T : State} {locs : List Loc} {cells slots k n : Nat} {A : State} {h : Heap}
    (X : Stand p l e R s m args below meth c T locs cells slots) (hlk : meth.locks = false) {v : Option Value} (hv : meth.sig.returnType = none → v = none) {Q : Option Value → Heap → List Loc → Prop} (eT : T.heap = h)
    (last : ∀ fs, (∀ (f : JFrame) (acts : List Action), f.method = m → f.locked = none → f.entered = [] → (doReturn e (T.setTop f) acts v).1 = T.setFrames fs) → Steps p.tables e below A (T.setFrames fs))
    (q : Q v h locs) (hc : cells ≤ k) (hs : slots ≤ n) : Rn p e below A (fun o U' => ∃ v L, o = .returned v ∧ Q v U'.heap L ∧ FrameEnd s o U' L k n) := by
  obtain ⟨fs, hr, hrun, hended, hW, hsame⟩ := X.leave hv hlk
  refine ⟨_, _, last fs hr, hrun, hended, _, _, rfl, ?_, ⟨_, rfl⟩, hW, hsame.mono hc hs⟩
  show Q v T.heap locs
  rw [eT]; exact q
theorem own_sta_keep {Z : State} {h h' : Heap} {C n d : String} {w : Value} {ws : List Addr} (F : Sta Z h C n d w) (K : Keep h h' ws) (q : ∀ x ∈ ws, ∀ cell : Cell, h[x]? = some cell → cell.vm.isStatics = false) : Sta Z h' C n d w := by
  obtain ⟨cf, i, k, f, st, cell, h1, h2, h3, h4, h5, h6, h7⟩ := F
  refine ⟨cf, i, k, f, st, cell, h1, h2, h3, h4, K.2.1 st cell h5 (fun hm => ?_), h6, h7⟩
  have e := q st hm cell h5
  rw [h6] at e
  exact absurd e (by decide)
theorem own_wadd (a b : Int32) : (a.toInt64 + b.toInt64).toInt = a.toInt + b.toInt := by
  have h1 := Int32.toInt_lt a; have h2 := Int32.le_toInt a; have h3 := Int32.toInt_lt b; have h4 := Int32.le_toInt b
  rw [Int64.toInt_add, Int32.toInt_toInt64, Int32.toInt_toInt64, Int.bmod_eq_of_le (by omega) (by omega)]
theorem own_mulL {a b : Int64} (h : (a.toInt * b.toInt).natAbs < 9223372036854775808) : (a * b).toInt = a.toInt * b.toInt := by
  rw [Int64.toInt_mul, Int.bmod_eq_of_le (by omega) (by omega)]
theorem own_addL {a b : Int64} (h : (a.toInt + b.toInt).natAbs < 9223372036854775808) : (a + b).toInt = a.toInt + b.toInt := by
  rw [Int64.toInt_add, Int.bmod_eq_of_le (by omega) (by omega)]
theorem own_subI {a b : Int32} (h : -2147483648 ≤ a.toInt - b.toInt ∧ a.toInt - b.toInt < 2147483648) : (a - b).toInt = a.toInt - b.toInt := by
  rw [Int32.toInt_sub, Int.bmod_eq_of_le (by omega) (by omega)]
theorem own_addI {a b : Int32} (h : -2147483648 ≤ a.toInt + b.toInt ∧ a.toInt + b.toInt < 2147483648) : (a + b).toInt = a.toInt + b.toInt := by
  rw [Int32.toInt_add, Int.bmod_eq_of_le (by omega) (by omega)]
theorem own_mulI {a b : Int32} (h : (a.toInt * b.toInt).natAbs < 2147483648) : (a * b).toInt = a.toInt * b.toInt := by
  rw [Int32.toInt_mul, Int.bmod_eq_of_le (by omega) (by omega)]
theorem own_masked {a r m : Int32} {d : Int} (hm : 0 ≤ m.toInt) (hd : 0 < d) {k : Int32} (hk : k.toInt = d) (h : (a &&& m) % k = r) : 0 ≤ r.toInt ∧ r.toInt < d := by
  have q := c_and a m hm
  have t := (c_irem (a &&& m) k d hk).1 q.1
  rw [h] at t
  rw [t]
  exact ⟨Int.emod_nonneg _ (Int.ne_of_gt hd), Int.emod_lt_of_pos _ hd⟩
theorem own_eqI {a b : Int32} (h : a.toInt = b.toInt) : a = b := Int32.toInt_inj.mp h
theorem own_neI {a b : Int32} (h : ¬ a.toInt = b.toInt) : ¬ a = b := fun q => h (congrArg Int32.toInt q)
theorem own_bd {j n : Int32} (h : 0 ≤ j.toInt ∧ j.toInt < n.toInt) : ¬ j < 0 ∧ j < n := by
  constructor
  · rw [Int32.lt_iff_toInt_lt]; have : (0 : Int32).toInt = 0 := by decide
    omega
  · rw [Int32.lt_iff_toInt_lt]; exact h.2
theorem own_getH_nil (dv : Value) (n : Nat) : getH [] [] dv n = dv := by simp [getH]
theorem own_pb {a b : Int} {A B : Nat} (ha : a.natAbs ≤ A) (hb : b.natAbs ≤ B) : (a * b).natAbs ≤ A * B := by rw [Int.natAbs_mul]; exact Nat.mul_le_mul ha hb
theorem own_b (a : Int32) : -2147483648 ≤ a.toInt ∧ a.toInt < 2147483648 := ⟨Int32.le_toInt a, Int32.toInt_lt a⟩
theorem own_wsub (a b : Int32) : (a.toInt64 - b.toInt64).toInt = a.toInt - b.toInt := by
  have h1 := Int32.toInt_lt a; have h2 := Int32.le_toInt a; have h3 := Int32.toInt_lt b; have h4 := Int32.le_toInt b
  rw [Int64.toInt_sub, Int32.toInt_toInt64, Int32.toInt_toInt64, Int.bmod_eq_of_le (by omega) (by omega)]
section RSteps
variable {p : Program} {l : Launch} {e : Env} {R : Room} {s : State} {m : MethodId} {args : Array Value} {below : List Frame} {meth : Method} {c : Code} {T : State} {locs : List Loc} {cells slots : Nat} {G : Outcome → State → Prop} {L L' : Array Slot} {S : List Value} {pc pc' : Nat}
theorem R.iloadN (X : Stand p l e R s m args below meth c T locs cells slots) (hx : p.tables.exec = Jvm.exec) {k : Fin 4} {v : Int32} (hd : decode c.code pc = .ok (.iload_n k, 1)) (hl : L[k.val]? = some (.val (.int v))) (hp : pc + 1 = pc') (r : Rn p e below (T.setTop (mkF m pc' L (.int v :: S))) G) : Rn p e below (T.setTop (mkF m pc L (S))) G := by
  subst hp; exact Rn.st (fun t q => XS.iloadN X.here hx rfl hd hl q) r
theorem R.iload (X : Stand p l e R s m args below meth c T locs cells slots) (hx : p.tables.exec = Jvm.exec) {k : Nat} {v : Int32} (hd : decode c.code pc = .ok (.iload k, 2)) (hl : L[k]? = some (.val (.int v))) (hp : pc + 2 = pc') (r : Rn p e below (T.setTop (mkF m pc' L (.int v :: S))) G) : Rn p e below (T.setTop (mkF m pc L (S))) G := by
  subst hp; exact Rn.st (fun t q => XS.iload X.here hx rfl hd hl q) r
theorem R.istoreN (X : Stand p l e R s m args below meth c T locs cells slots) (hx : p.tables.exec = Jvm.exec) {k : Fin 4} {v : Int32} (hd : decode c.code pc = .ok (.istore_n k, 1)) (hl : storeLocals L k.val (.int v) = some L') (hp : pc + 1 = pc') (r : Rn p e below (T.setTop (mkF m pc' L' (S))) G) : Rn p e below (T.setTop (mkF m pc L (.int v :: S))) G := by
  subst hp; exact Rn.st (fun t q => XS.istoreN X.here hx rfl hd rfl hl q) r
theorem R.istore (X : Stand p l e R s m args below meth c T locs cells slots) (hx : p.tables.exec = Jvm.exec) {k : Nat} {v : Int32} (hd : decode c.code pc = .ok (.istore k, 2)) (hl : storeLocals L k (.int v) = some L') (hp : pc + 2 = pc') (r : Rn p e below (T.setTop (mkF m pc' L' (S))) G) : Rn p e below (T.setTop (mkF m pc L (.int v :: S))) G := by
  subst hp; exact Rn.st (fun t q => XS.istore X.here hx rfl hd rfl hl q) r
theorem R.lloadN (X : Stand p l e R s m args below meth c T locs cells slots) (hx : p.tables.exec = Jvm.exec) {k : Fin 4} {v : Int64} (hd : decode c.code pc = .ok (.lload_n k, 1)) (hl : L[k.val]? = some (.val (.long v))) (hp : pc + 1 = pc') (r : Rn p e below (T.setTop (mkF m pc' L (.long v :: S))) G) : Rn p e below (T.setTop (mkF m pc L (S))) G := by
  subst hp; exact Rn.st (fun t q => XS.lloadN X.here hx rfl hd hl q) r
theorem R.lload (X : Stand p l e R s m args below meth c T locs cells slots) (hx : p.tables.exec = Jvm.exec) {k : Nat} {v : Int64} (hd : decode c.code pc = .ok (.lload k, 2)) (hl : L[k]? = some (.val (.long v))) (hp : pc + 2 = pc') (r : Rn p e below (T.setTop (mkF m pc' L (.long v :: S))) G) : Rn p e below (T.setTop (mkF m pc L (S))) G := by
  subst hp; exact Rn.st (fun t q => XS.lload X.here hx rfl hd hl q) r
theorem R.lstoreN (X : Stand p l e R s m args below meth c T locs cells slots) (hx : p.tables.exec = Jvm.exec) {k : Fin 4} {v : Int64} (hd : decode c.code pc = .ok (.lstore_n k, 1)) (hl : storeLocals L k.val (.long v) = some L') (hp : pc + 1 = pc') (r : Rn p e below (T.setTop (mkF m pc' L' (S))) G) : Rn p e below (T.setTop (mkF m pc L (.long v :: S))) G := by
  subst hp; exact Rn.st (fun t q => XS.lstoreN X.here hx rfl hd rfl hl q) r
theorem R.lstore (X : Stand p l e R s m args below meth c T locs cells slots) (hx : p.tables.exec = Jvm.exec) {k : Nat} {v : Int64} (hd : decode c.code pc = .ok (.lstore k, 2)) (hl : storeLocals L k (.long v) = some L') (hp : pc + 2 = pc') (r : Rn p e below (T.setTop (mkF m pc' L' (S))) G) : Rn p e below (T.setTop (mkF m pc L (.long v :: S))) G := by
  subst hp; exact Rn.st (fun t q => XS.lstore X.here hx rfl hd rfl hl q) r
theorem R.dloadN (X : Stand p l e R s m args below meth c T locs cells slots) (hx : p.tables.exec = Jvm.exec) {k : Fin 4} {v : UInt64} (hd : decode c.code pc = .ok (.dload_n k, 1)) (hl : L[k.val]? = some (.val (.double v))) (hp : pc + 1 = pc') (r : Rn p e below (T.setTop (mkF m pc' L (.double v :: S))) G) : Rn p e below (T.setTop (mkF m pc L (S))) G := by
  subst hp; exact Rn.st (fun t q => XS.dloadN X.here hx rfl hd hl q) r
theorem R.dload (X : Stand p l e R s m args below meth c T locs cells slots) (hx : p.tables.exec = Jvm.exec) {k : Nat} {v : UInt64} (hd : decode c.code pc = .ok (.dload k, 2)) (hl : L[k]? = some (.val (.double v))) (hp : pc + 2 = pc') (r : Rn p e below (T.setTop (mkF m pc' L (.double v :: S))) G) : Rn p e below (T.setTop (mkF m pc L (S))) G := by
  subst hp; exact Rn.st (fun t q => XS.dload X.here hx rfl hd hl q) r
theorem R.dstoreN (X : Stand p l e R s m args below meth c T locs cells slots) (hx : p.tables.exec = Jvm.exec) {k : Fin 4} {v : UInt64} (hd : decode c.code pc = .ok (.dstore_n k, 1)) (hl : storeLocals L k.val (.double v) = some L') (hp : pc + 1 = pc') (r : Rn p e below (T.setTop (mkF m pc' L' (S))) G) : Rn p e below (T.setTop (mkF m pc L (.double v :: S))) G := by
  subst hp; exact Rn.st (fun t q => XS.dstoreN X.here hx rfl hd rfl hl q) r
theorem R.dstore (X : Stand p l e R s m args below meth c T locs cells slots) (hx : p.tables.exec = Jvm.exec) {k : Nat} {v : UInt64} (hd : decode c.code pc = .ok (.dstore k, 2)) (hl : storeLocals L k (.double v) = some L') (hp : pc + 2 = pc') (r : Rn p e below (T.setTop (mkF m pc' L' (S))) G) : Rn p e below (T.setTop (mkF m pc L (.double v :: S))) G := by
  subst hp; exact Rn.st (fun t q => XS.dstore X.here hx rfl hd rfl hl q) r
theorem R.aloadN (X : Stand p l e R s m args below meth c T locs cells slots) (hx : p.tables.exec = Jvm.exec) {k : Fin 4} {v : Value} (hd : decode c.code pc = .ok (.aload_n k, 1)) (hl : L[k.val]? = some (.val v)) (hv : v.isRef = true) (hp : pc + 1 = pc') (r : Rn p e below (T.setTop (mkF m pc' L (v :: S))) G) : Rn p e below (T.setTop (mkF m pc L (S))) G := by
  subst hp; exact Rn.st (fun t q => XS.aloadN X.here hx rfl hd hl hv q) r
theorem R.aload (X : Stand p l e R s m args below meth c T locs cells slots) (hx : p.tables.exec = Jvm.exec) {k : Nat} {v : Value} (hd : decode c.code pc = .ok (.aload k, 2)) (hl : L[k]? = some (.val v)) (hv : v.isRef = true) (hp : pc + 2 = pc') (r : Rn p e below (T.setTop (mkF m pc' L (v :: S))) G) : Rn p e below (T.setTop (mkF m pc L (S))) G := by
  subst hp; exact Rn.st (fun t q => XS.aload X.here hx rfl hd hl hv q) r
theorem R.astoreN (X : Stand p l e R s m args below meth c T locs cells slots) (hx : p.tables.exec = Jvm.exec) {k : Fin 4} {v : Value} (hd : decode c.code pc = .ok (.astore_n k, 1)) (hv : v.isRef = true) (hl : storeLocals L k.val v = some L') (hp : pc + 1 = pc') (r : Rn p e below (T.setTop (mkF m pc' L' (S))) G) : Rn p e below (T.setTop (mkF m pc L (v :: S))) G := by
  subst hp; exact Rn.st (fun t q => XS.astoreN X.here hx rfl hd rfl hv hl q) r
theorem R.astore (X : Stand p l e R s m args below meth c T locs cells slots) (hx : p.tables.exec = Jvm.exec) {k : Nat} {v : Value} (hd : decode c.code pc = .ok (.astore k, 2)) (hv : v.isRef = true) (hl : storeLocals L k v = some L') (hp : pc + 2 = pc') (r : Rn p e below (T.setTop (mkF m pc' L' (S))) G) : Rn p e below (T.setTop (mkF m pc L (v :: S))) G := by
  subst hp; exact Rn.st (fun t q => XS.astore X.here hx rfl hd rfl hv hl q) r
theorem R.iconst (X : Stand p l e R s m args below meth c T locs cells slots) (hx : p.tables.exec = Jvm.exec) {i : Int} {v : Int32} (hd : decode c.code pc = .ok (.iconst i, 1)) (hv : Int32.ofInt i = v) (hp : pc + 1 = pc') (r : Rn p e below (T.setTop (mkF m pc' L (.int v :: S))) G) : Rn p e below (T.setTop (mkF m pc L (S))) G := by
  subst hp hv; exact Rn.st (fun t q => XS.iconst X.here hx rfl hd q) r
theorem R.bipush (X : Stand p l e R s m args below meth c T locs cells slots) (hx : p.tables.exec = Jvm.exec) {i : Int} {v : Int32} (hd : decode c.code pc = .ok (.bipush i, 2)) (hv : (Int8.ofInt i).toInt32 = v) (hp : pc + 2 = pc') (r : Rn p e below (T.setTop (mkF m pc' L (.int v :: S))) G) : Rn p e below (T.setTop (mkF m pc L (S))) G := by
  subst hp hv; exact Rn.st (fun t q => XS.bipush X.here hx rfl hd q) r
theorem R.sipush (X : Stand p l e R s m args below meth c T locs cells slots) (hx : p.tables.exec = Jvm.exec) {i : Int} {v : Int32} (hd : decode c.code pc = .ok (.sipush i, 3)) (hv : (Int16.ofInt i).toInt32 = v) (hp : pc + 3 = pc') (r : Rn p e below (T.setTop (mkF m pc' L (.int v :: S))) G) : Rn p e below (T.setTop (mkF m pc L (S))) G := by
  subst hp hv; exact Rn.st (fun t q => XS.sipush X.here hx rfl hd q) r
theorem R.lconst (X : Stand p l e R s m args below meth c T locs cells slots) (hx : p.tables.exec = Jvm.exec) {i : Fin 2} {v : Int64} (hd : decode c.code pc = .ok (.lconst i, 1)) (hv : Int64.ofNat i = v) (hp : pc + 1 = pc') (r : Rn p e below (T.setTop (mkF m pc' L (.long v :: S))) G) : Rn p e below (T.setTop (mkF m pc L (S))) G := by
  subst hp hv; exact Rn.st (fun t q => XS.lconst X.here hx rfl hd q) r
theorem R.dconst0 (X : Stand p l e R s m args below meth c T locs cells slots) (hx : p.tables.exec = Jvm.exec)  (hd : decode c.code pc = .ok (.dconst 0, 1)) (hp : pc + 1 = pc') (r : Rn p e below (T.setTop (mkF m pc' L (.double FP.dconst0 :: S))) G) : Rn p e below (T.setTop (mkF m pc L (S))) G := by
  subst hp; exact Rn.st (fun t q => XS.dconst0 X.here hx rfl hd rfl q) r
theorem R.dconst1 (X : Stand p l e R s m args below meth c T locs cells slots) (hx : p.tables.exec = Jvm.exec)  (hd : decode c.code pc = .ok (.dconst 1, 1)) (hp : pc + 1 = pc') (r : Rn p e below (T.setTop (mkF m pc' L (.double FP.dconst1 :: S))) G) : Rn p e below (T.setTop (mkF m pc L (S))) G := by
  subst hp; exact Rn.st (fun t q => XS.dconst1 X.here hx rfl hd rfl q) r
theorem R.aconstNull (X : Stand p l e R s m args below meth c T locs cells slots) (hx : p.tables.exec = Jvm.exec)  (hd : decode c.code pc = .ok (.aconst_null, 1)) (hp : pc + 1 = pc') (r : Rn p e below (T.setTop (mkF m pc' L (.null :: S))) G) : Rn p e below (T.setTop (mkF m pc L (S))) G := by
  subst hp; exact Rn.st (fun t q => XS.aconstNull X.here hx rfl hd q) r
theorem R.iadd (X : Stand p l e R s m args below meth c T locs cells slots) (hx : p.tables.exec = Jvm.exec) {x y v : Int32} (hd : decode c.code pc = .ok (.iadd, 1)) (hv : x + y = v) (hp : pc + 1 = pc') (r : Rn p e below (T.setTop (mkF m pc' L (.int v :: S))) G) : Rn p e below (T.setTop (mkF m pc L (.int y :: .int x :: S))) G := by
  subst hp hv; exact Rn.st (fun t q => XS.iadd X.here hx rfl hd rfl q) r
theorem R.ladd (X : Stand p l e R s m args below meth c T locs cells slots) (hx : p.tables.exec = Jvm.exec) {x y v : Int64} (hd : decode c.code pc = .ok (.ladd, 1)) (hv : x + y = v) (hp : pc + 1 = pc') (r : Rn p e below (T.setTop (mkF m pc' L (.long v :: S))) G) : Rn p e below (T.setTop (mkF m pc L (.long y :: .long x :: S))) G := by
  subst hp hv; exact Rn.st (fun t q => XS.ladd X.here hx rfl hd rfl q) r
theorem R.isub (X : Stand p l e R s m args below meth c T locs cells slots) (hx : p.tables.exec = Jvm.exec) {x y v : Int32} (hd : decode c.code pc = .ok (.isub, 1)) (hv : x - y = v) (hp : pc + 1 = pc') (r : Rn p e below (T.setTop (mkF m pc' L (.int v :: S))) G) : Rn p e below (T.setTop (mkF m pc L (.int y :: .int x :: S))) G := by
  subst hp hv; exact Rn.st (fun t q => XS.isub X.here hx rfl hd rfl q) r
theorem R.lsub (X : Stand p l e R s m args below meth c T locs cells slots) (hx : p.tables.exec = Jvm.exec) {x y v : Int64} (hd : decode c.code pc = .ok (.lsub, 1)) (hv : x - y = v) (hp : pc + 1 = pc') (r : Rn p e below (T.setTop (mkF m pc' L (.long v :: S))) G) : Rn p e below (T.setTop (mkF m pc L (.long y :: .long x :: S))) G := by
  subst hp hv; exact Rn.st (fun t q => XS.lsub X.here hx rfl hd rfl q) r
theorem R.imul (X : Stand p l e R s m args below meth c T locs cells slots) (hx : p.tables.exec = Jvm.exec) {x y v : Int32} (hd : decode c.code pc = .ok (.imul, 1)) (hv : x * y = v) (hp : pc + 1 = pc') (r : Rn p e below (T.setTop (mkF m pc' L (.int v :: S))) G) : Rn p e below (T.setTop (mkF m pc L (.int y :: .int x :: S))) G := by
  subst hp hv; exact Rn.st (fun t q => XS.imul X.here hx rfl hd rfl q) r
theorem R.lmul (X : Stand p l e R s m args below meth c T locs cells slots) (hx : p.tables.exec = Jvm.exec) {x y v : Int64} (hd : decode c.code pc = .ok (.lmul, 1)) (hv : x * y = v) (hp : pc + 1 = pc') (r : Rn p e below (T.setTop (mkF m pc' L (.long v :: S))) G) : Rn p e below (T.setTop (mkF m pc L (.long y :: .long x :: S))) G := by
  subst hp hv; exact Rn.st (fun t q => XS.lmul X.here hx rfl hd rfl q) r
theorem R.iand (X : Stand p l e R s m args below meth c T locs cells slots) (hx : p.tables.exec = Jvm.exec) {x y v : Int32} (hd : decode c.code pc = .ok (.iand, 1)) (hv : x &&& y = v) (hp : pc + 1 = pc') (r : Rn p e below (T.setTop (mkF m pc' L (.int v :: S))) G) : Rn p e below (T.setTop (mkF m pc L (.int y :: .int x :: S))) G := by
  subst hp hv; exact Rn.st (fun t q => XS.iand X.here hx rfl hd rfl q) r
theorem R.land (X : Stand p l e R s m args below meth c T locs cells slots) (hx : p.tables.exec = Jvm.exec) {x y v : Int64} (hd : decode c.code pc = .ok (.land, 1)) (hv : x &&& y = v) (hp : pc + 1 = pc') (r : Rn p e below (T.setTop (mkF m pc' L (.long v :: S))) G) : Rn p e below (T.setTop (mkF m pc L (.long y :: .long x :: S))) G := by
  subst hp hv; exact Rn.st (fun t q => XS.land X.here hx rfl hd rfl q) r
theorem R.ior (X : Stand p l e R s m args below meth c T locs cells slots) (hx : p.tables.exec = Jvm.exec) {x y v : Int32} (hd : decode c.code pc = .ok (.ior, 1)) (hv : x ||| y = v) (hp : pc + 1 = pc') (r : Rn p e below (T.setTop (mkF m pc' L (.int v :: S))) G) : Rn p e below (T.setTop (mkF m pc L (.int y :: .int x :: S))) G := by
  subst hp hv; exact Rn.st (fun t q => XS.ior X.here hx rfl hd rfl q) r
theorem R.lor (X : Stand p l e R s m args below meth c T locs cells slots) (hx : p.tables.exec = Jvm.exec) {x y v : Int64} (hd : decode c.code pc = .ok (.lor, 1)) (hv : x ||| y = v) (hp : pc + 1 = pc') (r : Rn p e below (T.setTop (mkF m pc' L (.long v :: S))) G) : Rn p e below (T.setTop (mkF m pc L (.long y :: .long x :: S))) G := by
  subst hp hv; exact Rn.st (fun t q => XS.lor X.here hx rfl hd rfl q) r
theorem R.ixor (X : Stand p l e R s m args below meth c T locs cells slots) (hx : p.tables.exec = Jvm.exec) {x y v : Int32} (hd : decode c.code pc = .ok (.ixor, 1)) (hv : x ^^^ y = v) (hp : pc + 1 = pc') (r : Rn p e below (T.setTop (mkF m pc' L (.int v :: S))) G) : Rn p e below (T.setTop (mkF m pc L (.int y :: .int x :: S))) G := by
  subst hp hv; exact Rn.st (fun t q => XS.ixor X.here hx rfl hd rfl q) r
theorem R.lxor (X : Stand p l e R s m args below meth c T locs cells slots) (hx : p.tables.exec = Jvm.exec) {x y v : Int64} (hd : decode c.code pc = .ok (.lxor, 1)) (hv : x ^^^ y = v) (hp : pc + 1 = pc') (r : Rn p e below (T.setTop (mkF m pc' L (.long v :: S))) G) : Rn p e below (T.setTop (mkF m pc L (.long y :: .long x :: S))) G := by
  subst hp hv; exact Rn.st (fun t q => XS.lxor X.here hx rfl hd rfl q) r
theorem R.ineg (X : Stand p l e R s m args below meth c T locs cells slots) (hx : p.tables.exec = Jvm.exec) {x : Int32} (hd : decode c.code pc = .ok (.ineg, 1)) (hp : pc + 1 = pc') (r : Rn p e below (T.setTop (mkF m pc' L (.int (-x) :: S))) G) : Rn p e below (T.setTop (mkF m pc L (.int x :: S))) G := by
  subst hp; exact Rn.st (fun t q => XS.ineg X.here hx rfl hd rfl q) r
theorem R.lneg (X : Stand p l e R s m args below meth c T locs cells slots) (hx : p.tables.exec = Jvm.exec) {x : Int64} (hd : decode c.code pc = .ok (.lneg, 1)) (hp : pc + 1 = pc') (r : Rn p e below (T.setTop (mkF m pc' L (.long (-x) :: S))) G) : Rn p e below (T.setTop (mkF m pc L (.long x :: S))) G := by
  subst hp; exact Rn.st (fun t q => XS.lneg X.here hx rfl hd rfl q) r
theorem R.i2l (X : Stand p l e R s m args below meth c T locs cells slots) (hx : p.tables.exec = Jvm.exec) {x : Int32} (hd : decode c.code pc = .ok (.i2l, 1)) (hp : pc + 1 = pc') (r : Rn p e below (T.setTop (mkF m pc' L (.long (x.toInt64) :: S))) G) : Rn p e below (T.setTop (mkF m pc L (.int x :: S))) G := by
  subst hp; exact Rn.st (fun t q => XS.i2l X.here hx rfl hd rfl q) r
theorem R.l2i (X : Stand p l e R s m args below meth c T locs cells slots) (hx : p.tables.exec = Jvm.exec) {x : Int64} (hd : decode c.code pc = .ok (.l2i, 1)) (hp : pc + 1 = pc') (r : Rn p e below (T.setTop (mkF m pc' L (.int (x.toInt32) :: S))) G) : Rn p e below (T.setTop (mkF m pc L (.long x :: S))) G := by
  subst hp; exact Rn.st (fun t q => XS.l2i X.here hx rfl hd rfl q) r
theorem R.i2b (X : Stand p l e R s m args below meth c T locs cells slots) (hx : p.tables.exec = Jvm.exec) {x : Int32} (hd : decode c.code pc = .ok (.i2b, 1)) (hp : pc + 1 = pc') (r : Rn p e below (T.setTop (mkF m pc' L (.int (x.toInt8.toInt32) :: S))) G) : Rn p e below (T.setTop (mkF m pc L (.int x :: S))) G := by
  subst hp; exact Rn.st (fun t q => XS.i2b X.here hx rfl hd rfl q) r
theorem R.i2s (X : Stand p l e R s m args below meth c T locs cells slots) (hx : p.tables.exec = Jvm.exec) {x : Int32} (hd : decode c.code pc = .ok (.i2s, 1)) (hp : pc + 1 = pc') (r : Rn p e below (T.setTop (mkF m pc' L (.int (x.toInt16.toInt32) :: S))) G) : Rn p e below (T.setTop (mkF m pc L (.int x :: S))) G := by
  subst hp; exact Rn.st (fun t q => XS.i2s X.here hx rfl hd rfl q) r
theorem R.i2c (X : Stand p l e R s m args below meth c T locs cells slots) (hx : p.tables.exec = Jvm.exec) {x : Int32} (hd : decode c.code pc = .ok (.i2c, 1)) (hp : pc + 1 = pc') (r : Rn p e below (T.setTop (mkF m pc' L (.int (x.toUInt32.toUInt16.toUInt32.toInt32) :: S))) G) : Rn p e below (T.setTop (mkF m pc L (.int x :: S))) G := by
  subst hp; exact Rn.st (fun t q => XS.i2c X.here hx rfl hd rfl q) r
theorem R.ishl (X : Stand p l e R s m args below meth c T locs cells slots) (hx : p.tables.exec = Jvm.exec) {x : Int32} {y : Int32} (hd : decode c.code pc = .ok (.ishl, 1)) (hp : pc + 1 = pc') (r : Rn p e below (T.setTop (mkF m pc' L (.int (x <<< (y &&& 31)) :: S))) G) : Rn p e below (T.setTop (mkF m pc L (.int y :: .int x :: S))) G := by
  subst hp; exact Rn.st (fun t q => XS.ishl X.here hx rfl hd rfl q) r
theorem R.ishr (X : Stand p l e R s m args below meth c T locs cells slots) (hx : p.tables.exec = Jvm.exec) {x : Int32} {y : Int32} (hd : decode c.code pc = .ok (.ishr, 1)) (hp : pc + 1 = pc') (r : Rn p e below (T.setTop (mkF m pc' L (.int (x >>> (y &&& 31)) :: S))) G) : Rn p e below (T.setTop (mkF m pc L (.int y :: .int x :: S))) G := by
  subst hp; exact Rn.st (fun t q => XS.ishr X.here hx rfl hd rfl q) r
theorem R.iushr (X : Stand p l e R s m args below meth c T locs cells slots) (hx : p.tables.exec = Jvm.exec) {x : Int32} {y : Int32} (hd : decode c.code pc = .ok (.iushr, 1)) (hp : pc + 1 = pc') (r : Rn p e below (T.setTop (mkF m pc' L (.int ((x.toUInt32 >>> (y &&& 31).toUInt32).toInt32) :: S))) G) : Rn p e below (T.setTop (mkF m pc L (.int y :: .int x :: S))) G := by
  subst hp; exact Rn.st (fun t q => XS.iushr X.here hx rfl hd rfl q) r
theorem R.lshl (X : Stand p l e R s m args below meth c T locs cells slots) (hx : p.tables.exec = Jvm.exec) {x : Int64} {y : Int32} (hd : decode c.code pc = .ok (.lshl, 1)) (hp : pc + 1 = pc') (r : Rn p e below (T.setTop (mkF m pc' L (.long (x <<< (y &&& 63).toInt64) :: S))) G) : Rn p e below (T.setTop (mkF m pc L (.int y :: .long x :: S))) G := by
  subst hp; exact Rn.st (fun t q => XS.lshl X.here hx rfl hd rfl q) r
theorem R.lshr (X : Stand p l e R s m args below meth c T locs cells slots) (hx : p.tables.exec = Jvm.exec) {x : Int64} {y : Int32} (hd : decode c.code pc = .ok (.lshr, 1)) (hp : pc + 1 = pc') (r : Rn p e below (T.setTop (mkF m pc' L (.long (x >>> (y &&& 63).toInt64) :: S))) G) : Rn p e below (T.setTop (mkF m pc L (.int y :: .long x :: S))) G := by
  subst hp; exact Rn.st (fun t q => XS.lshr X.here hx rfl hd rfl q) r
theorem R.lcmp (X : Stand p l e R s m args below meth c T locs cells slots) (hx : p.tables.exec = Jvm.exec) {x y : Int64} (hd : decode c.code pc = .ok (.lcmp, 1)) (hp : pc + 1 = pc') (r : Rn p e below (T.setTop (mkF m pc' L (.int (lcmpW x y) :: S))) G) : Rn p e below (T.setTop (mkF m pc L (.long y :: .long x :: S))) G := by
  subst hp; exact Rn.st (fun t q => XS.lcmp X.here hx rfl hd rfl q) r
theorem R.idiv (X : Stand p l e R s m args below meth c T locs cells slots) (hx : p.tables.exec = Jvm.exec) {x y : Int32} (hd : decode c.code pc = .ok (.idiv, 1)) (hy : y ≠ 0) (hp : pc + 1 = pc') (r : Rn p e below (T.setTop (mkF m pc' L (.int (x / y) :: S))) G) : Rn p e below (T.setTop (mkF m pc L (.int y :: .int x :: S))) G := by
  subst hp; exact Rn.st (fun t q => XS.idiv X.here hx rfl hd rfl hy q) r
theorem R.irem (X : Stand p l e R s m args below meth c T locs cells slots) (hx : p.tables.exec = Jvm.exec) {x y : Int32} (hd : decode c.code pc = .ok (.irem, 1)) (hy : y ≠ 0) (hp : pc + 1 = pc') (r : Rn p e below (T.setTop (mkF m pc' L (.int (x % y) :: S))) G) : Rn p e below (T.setTop (mkF m pc L (.int y :: .int x :: S))) G := by
  subst hp; exact Rn.st (fun t q => iremM X hx rfl hd rfl hy q) r
theorem R.ldiv (X : Stand p l e R s m args below meth c T locs cells slots) (hx : p.tables.exec = Jvm.exec) {x y : Int64} (hd : decode c.code pc = .ok (.ldiv, 1)) (hy : y ≠ 0) (hp : pc + 1 = pc') (r : Rn p e below (T.setTop (mkF m pc' L (.long (x / y) :: S))) G) : Rn p e below (T.setTop (mkF m pc L (.long y :: .long x :: S))) G := by
  subst hp; exact Rn.st (fun t q => XS.ldiv X.here hx rfl hd rfl hy q) r
theorem R.lrem (X : Stand p l e R s m args below meth c T locs cells slots) (hx : p.tables.exec = Jvm.exec) {x y : Int64} (hd : decode c.code pc = .ok (.lrem, 1)) (hy : y ≠ 0) (hp : pc + 1 = pc') (r : Rn p e below (T.setTop (mkF m pc' L (.long (x - (x / y) * y) :: S))) G) : Rn p e below (T.setTop (mkF m pc L (.long y :: .long x :: S))) G := by
  subst hp; exact Rn.st (fun t q => XS.lrem X.here hx rfl hd rfl hy q) r
theorem R.i2d (X : Stand p l e R s m args below meth c T locs cells slots) (hx : p.tables.exec = Jvm.exec) {x : Int32} (hd : decode c.code pc = .ok (.i2d, 1)) (hp : pc + 1 = pc') (r : Rn p e below (T.setTop (mkF m pc' L (.double (FP.i2d x) :: S))) G) : Rn p e below (T.setTop (mkF m pc L (.int x :: S))) G := by
  subst hp; exact Rn.st (fun t q => XS.i2dS X.here hx rfl hd rfl rfl q) r
theorem R.l2d (X : Stand p l e R s m args below meth c T locs cells slots) (hx : p.tables.exec = Jvm.exec) {x : Int64} (hd : decode c.code pc = .ok (.l2d, 1)) (hp : pc + 1 = pc') (r : Rn p e below (T.setTop (mkF m pc' L (.double (FP.l2d x) :: S))) G) : Rn p e below (T.setTop (mkF m pc L (.long x :: S))) G := by
  subst hp; exact Rn.st (fun t q => XS.l2dS X.here hx rfl hd rfl rfl q) r
theorem R.d2i (X : Stand p l e R s m args below meth c T locs cells slots) (hx : p.tables.exec = Jvm.exec) {x : UInt64} (hd : decode c.code pc = .ok (.d2i, 1)) (hp : pc + 1 = pc') (r : Rn p e below (T.setTop (mkF m pc' L (.int (FP.d2i x) :: S))) G) : Rn p e below (T.setTop (mkF m pc L (.double x :: S))) G := by
  subst hp; exact Rn.st (fun t q => XS.d2iS X.here hx rfl hd rfl rfl q) r
theorem R.d2l (X : Stand p l e R s m args below meth c T locs cells slots) (hx : p.tables.exec = Jvm.exec) {x : UInt64} (hd : decode c.code pc = .ok (.d2l, 1)) (hp : pc + 1 = pc') (r : Rn p e below (T.setTop (mkF m pc' L (.long (FP.d2l x) :: S))) G) : Rn p e below (T.setTop (mkF m pc L (.double x :: S))) G := by
  subst hp; exact Rn.st (fun t q => XS.d2lS X.here hx rfl hd rfl rfl q) r
theorem R.dadd (X : Stand p l e R s m args below meth c T locs cells slots) (hx : p.tables.exec = Jvm.exec) {x y : UInt64} (hd : decode c.code pc = .ok (.dadd, 1)) (hn : NoNaN64 (FP.dadd x y)) (hp : pc + 1 = pc') (r : Rn p e below (T.setTop (mkF m pc' L (.double (FP.dadd x y) :: S))) G) : Rn p e below (T.setTop (mkF m pc L (.double y :: .double x :: S))) G := by
  subst hp; exact Rn.st (fun t q => XS.daddS X.here hx rfl hd rfl hn rfl q) r
theorem R.dsub (X : Stand p l e R s m args below meth c T locs cells slots) (hx : p.tables.exec = Jvm.exec) {x y : UInt64} (hd : decode c.code pc = .ok (.dsub, 1)) (hn : NoNaN64 (FP.dsub x y)) (hp : pc + 1 = pc') (r : Rn p e below (T.setTop (mkF m pc' L (.double (FP.dsub x y) :: S))) G) : Rn p e below (T.setTop (mkF m pc L (.double y :: .double x :: S))) G := by
  subst hp; exact Rn.st (fun t q => XS.dsubS X.here hx rfl hd rfl hn rfl q) r
theorem R.dmul (X : Stand p l e R s m args below meth c T locs cells slots) (hx : p.tables.exec = Jvm.exec) {x y : UInt64} (hd : decode c.code pc = .ok (.dmul, 1)) (hn : NoNaN64 (FP.dmul x y)) (hp : pc + 1 = pc') (r : Rn p e below (T.setTop (mkF m pc' L (.double (FP.dmul x y) :: S))) G) : Rn p e below (T.setTop (mkF m pc L (.double y :: .double x :: S))) G := by
  subst hp; exact Rn.st (fun t q => XS.dmulS X.here hx rfl hd rfl hn rfl q) r
theorem R.ddiv (X : Stand p l e R s m args below meth c T locs cells slots) (hx : p.tables.exec = Jvm.exec) {x y : UInt64} (hd : decode c.code pc = .ok (.ddiv, 1)) (hn : NoNaN64 (FP.ddiv x y)) (hp : pc + 1 = pc') (r : Rn p e below (T.setTop (mkF m pc' L (.double (FP.ddiv x y) :: S))) G) : Rn p e below (T.setTop (mkF m pc L (.double y :: .double x :: S))) G := by
  subst hp; exact Rn.st (fun t q => XS.ddivS X.here hx rfl hd rfl hn rfl q) r
theorem R.dneg (X : Stand p l e R s m args below meth c T locs cells slots) (hx : p.tables.exec = Jvm.exec) {x : UInt64} (hd : decode c.code pc = .ok (.dneg, 1)) (hp : pc + 1 = pc') (r : Rn p e below (T.setTop (mkF m pc' L (.double (FP.dneg x) :: S))) G) : Rn p e below (T.setTop (mkF m pc L (.double x :: S))) G := by
  subst hp; exact Rn.st (fun t q => XS.dnegS X.here hx rfl hd rfl rfl q) r
theorem R.dcmp (X : Stand p l e R s m args below meth c T locs cells slots) (hx : p.tables.exec = Jvm.exec) {o : CmpOp} {x y : UInt64} {v : Int32} (hd : decode c.code pc = .ok (.dcmp o, 1)) (hv : cmpValue (FP.dcmp x y) o = v) (hp : pc + 1 = pc') (r : Rn p e below (T.setTop (mkF m pc' L (.int v :: S))) G) : Rn p e below (T.setTop (mkF m pc L (.double y :: .double x :: S))) G := by
  subst hp; exact Rn.st (fun t q => XS.dcmpS X.here hx rfl hd rfl hv q) r
theorem R.iinc (X : Stand p l e R s m args below meth c T locs cells slots) (hx : p.tables.exec = Jvm.exec) {k : Nat} {cst : Int} {x : Int32} (hd : decode c.code pc = .ok (.iinc k cst, 3)) (hl : L[k]? = some (.val (.int x))) (hl' : storeLocals L k (.int (x + Int32.ofInt cst)) = some L') (hp : pc + 3 = pc') (r : Rn p e below (T.setTop (mkF m pc' L' (S))) G) : Rn p e below (T.setTop (mkF m pc L (S))) G := by
  subst hp; exact Rn.st (fun t q => XS.iinc X.here hx rfl hd hl hl' q) r
theorem R.dup (X : Stand p l e R s m args below meth c T locs cells slots) (hx : p.tables.exec = Jvm.exec) {x : Value} (hd : decode c.code pc = .ok (.dup, 1)) (hc : x.category = 1) (hp : pc + 1 = pc') (r : Rn p e below (T.setTop (mkF m pc' L (x :: x :: S))) G) : Rn p e below (T.setTop (mkF m pc L (x :: S))) G := by
  subst hp; exact Rn.st (fun t q => XS.dup X.here hx rfl hd rfl hc q) r
theorem R.dupX1 (X : Stand p l e R s m args below meth c T locs cells slots) (hx : p.tables.exec = Jvm.exec) {x y : Value} (hd : decode c.code pc = .ok (.dup_x1, 1)) (hc : x.category = 1) (hc' : y.category = 1) (hp : pc + 1 = pc') (r : Rn p e below (T.setTop (mkF m pc' L (x :: y :: x :: S))) G) : Rn p e below (T.setTop (mkF m pc L (x :: y :: S))) G := by
  subst hp; exact Rn.st (fun t q => XS.dupX1 X.here hx rfl hd rfl hc hc' q) r
theorem R.dup2 (X : Stand p l e R s m args below meth c T locs cells slots) (hx : p.tables.exec = Jvm.exec) {x y : Value} (hd : decode c.code pc = .ok (.dup2, 1)) (hc : x.category = 1) (hc' : y.category = 1) (hp : pc + 1 = pc') (r : Rn p e below (T.setTop (mkF m pc' L (x :: y :: x :: y :: S))) G) : Rn p e below (T.setTop (mkF m pc L (x :: y :: S))) G := by
  subst hp; exact Rn.st (fun t q => Jvm.Free.XT.dup2 X.here hx rfl hd rfl hc hc' q) r
theorem R.pop (X : Stand p l e R s m args below meth c T locs cells slots) (hx : p.tables.exec = Jvm.exec) {x : Value} (hd : decode c.code pc = .ok (.pop, 1)) (hc : x.category = 1) (hp : pc + 1 = pc') (r : Rn p e below (T.setTop (mkF m pc' L (S))) G) : Rn p e below (T.setTop (mkF m pc L (x :: S))) G := by
  subst hp; exact Rn.st (fun t q => XS.pop X.here hx rfl hd rfl hc q) r
theorem R.ifYes (X : Stand p l e R s m args below meth c T locs cells slots) (hx : p.tables.exec = Jvm.exec) {cd : ClassFile.Cond} {x : Int32} {o : Int} (hd : decode c.code pc = .ok (.ifCond cd o, 3)) (hc : if_icmp.holds cd x 0 = true) (ho : 0 ≤ (pc : Int) + o) (hp : ((pc : Int) + o).toNat = pc') (r : Rn p e below (T.setTop (mkF m pc' L S)) G) : Rn p e below (T.setTop (mkF m pc L (.int x :: S))) G :=
  Rn.st (fun t q => XS.ifYes X.here hx rfl rfl hd rfl ((if0 _ _).trans hc) ho hp q) r
theorem R.ifNo (X : Stand p l e R s m args below meth c T locs cells slots) (hx : p.tables.exec = Jvm.exec) {cd : ClassFile.Cond} {x : Int32} {o : Int} (hd : decode c.code pc = .ok (.ifCond cd o, 3)) (hc : if_icmp.holds cd x 0 = false) (hp : pc + 3 = pc') (r : Rn p e below (T.setTop (mkF m pc' L (S))) G) : Rn p e below (T.setTop (mkF m pc L (.int x :: S))) G := by
  subst hp; exact Rn.st (fun t q => XS.ifNo X.here hx rfl hd rfl ((if0 _ _).trans hc) q) r
theorem R.icmpYes (X : Stand p l e R s m args below meth c T locs cells slots) (hx : p.tables.exec = Jvm.exec) {cd : ClassFile.Cond} {x y : Int32} {o : Int} (hd : decode c.code pc = .ok (.if_icmp cd o, 3)) (hc : if_icmp.holds cd x y = true) (ho : 0 ≤ (pc : Int) + o) (hp : ((pc : Int) + o).toNat = pc') (r : Rn p e below (T.setTop (mkF m pc' L S)) G) : Rn p e below (T.setTop (mkF m pc L (.int y :: .int x :: S))) G :=
  Rn.st (fun t q => XS.icmpYes X.here hx rfl rfl hd rfl hc ho hp q) r
theorem R.icmpNo (X : Stand p l e R s m args below meth c T locs cells slots) (hx : p.tables.exec = Jvm.exec) {cd : ClassFile.Cond} {x y : Int32} {o : Int} (hd : decode c.code pc = .ok (.if_icmp cd o, 3)) (hc : if_icmp.holds cd x y = false) (hp : pc + 3 = pc') (r : Rn p e below (T.setTop (mkF m pc' L (S))) G) : Rn p e below (T.setTop (mkF m pc L (.int y :: .int x :: S))) G := by
  subst hp; exact Rn.st (fun t q => XS.icmpNo X.here hx rfl hd rfl hc q) r
theorem R.goto (X : Stand p l e R s m args below meth c T locs cells slots) (hx : p.tables.exec = Jvm.exec)  {o : Int} (hd : decode c.code pc = .ok (.goto o, 3)) (ho : 0 ≤ (pc : Int) + o) (hp : ((pc : Int) + o).toNat = pc') (r : Rn p e below (T.setTop (mkF m pc' L S)) G) : Rn p e below (T.setTop (mkF m pc L (S))) G :=
  Rn.st (fun t q => XS.goto X.here hx rfl rfl hd ho hp q) r
theorem R.ifnullYes (X : Stand p l e R s m args below meth c T locs cells slots) (hx : p.tables.exec = Jvm.exec)  {o : Int} (hd : decode c.code pc = .ok (.ifnull o, 3)) (ho : 0 ≤ (pc : Int) + o) (hp : ((pc : Int) + o).toNat = pc') (r : Rn p e below (T.setTop (mkF m pc' L S)) G) : Rn p e below (T.setTop (mkF m pc L (.null :: S))) G :=
  Rn.st (fun t q => XS.ifnullYes X.here hx rfl rfl hd rfl ho hp q) r
theorem R.ifnullNo (X : Stand p l e R s m args below meth c T locs cells slots) (hx : p.tables.exec = Jvm.exec) {b : Addr} {o : Int} (hd : decode c.code pc = .ok (.ifnull o, 3)) (hp : pc + 3 = pc') (r : Rn p e below (T.setTop (mkF m pc' L (S))) G) : Rn p e below (T.setTop (mkF m pc L (.ref b :: S))) G := by
  subst hp; exact Rn.st (fun t q => XS.ifnullNo X.here hx rfl hd rfl q) r
theorem R.ifnonnullYes (X : Stand p l e R s m args below meth c T locs cells slots) (hx : p.tables.exec = Jvm.exec) {b : Addr} {o : Int} (hd : decode c.code pc = .ok (.ifnonnull o, 3)) (ho : 0 ≤ (pc : Int) + o) (hp : ((pc : Int) + o).toNat = pc') (r : Rn p e below (T.setTop (mkF m pc' L S)) G) : Rn p e below (T.setTop (mkF m pc L (.ref b :: S))) G :=
  Rn.st (fun t q => XS.ifnonnullYes X.here hx rfl rfl hd rfl ho hp q) r
theorem R.ifnonnullNo (X : Stand p l e R s m args below meth c T locs cells slots) (hx : p.tables.exec = Jvm.exec)  {o : Int} (hd : decode c.code pc = .ok (.ifnonnull o, 3)) (hp : pc + 3 = pc') (r : Rn p e below (T.setTop (mkF m pc' L (S))) G) : Rn p e below (T.setTop (mkF m pc L (.null :: S))) G := by
  subst hp; exact Rn.st (fun t q => XS.ifnonnullNo X.here hx rfl hd rfl q) r
end RSteps
section RBig
variable {p : Program} {l : Launch} {e : Env} {R : Room} {s : State} {m : MethodId} {args : Array Value} {below : List Frame} {meth : Method} {c : Code} {T : State} {locs : List Loc} {cells slots : Nat} {G : Outcome → State → Prop} {L L' : Array Slot} {S : List Value} {pc pc' : Nat} {Z : State} {a0 : Array Value} {h : Heap} {a : Addr} {own : String} {index : Nat}
theorem R.getF (X : Stand p l e R s m args below meth c T locs cells slots) (hx : p.tables.exec = Jvm.exec) (hZ : Z.Warmed39 s.vm) {R0 O n d host : String} (hown : s.vm.findClass own = some m.cls) (w : (Jvm.Cond.fieldLink own index R0 n d).before a0 Z = true ∨ (Jvm.Cond.fieldLinkNest own index R0 n d host).before a0 Z = true) (via : Via Z R0 O n d) (eT : T.heap = h) {v : Value} (F : Fld Z h a O n d v)
    (hd : decode c.code pc = .ok (.getfield index, 3)) (hp : pc + 3 = pc') (K : ∀ T', Stand p l e R s m args below meth c T' locs cells slots → T'.heap = h → Rn p e below (T'.setTop (mkF m pc' L (v :: S))) G) : Rn p e below (T.setTop (mkF m pc L (.ref a :: S))) G := by
  subst hp
  obtain ⟨T', X', e', st⟩ := getF X hx hZ hown w via eT F (g := mkF m pc L (.ref a :: S)) rfl rfl hd
  exact Rn.st st (K T' X' e')
theorem R.getS (X : Stand p l e R s m args below meth c T locs cells slots) (hx : p.tables.exec = Jvm.exec) (hZ : Z.Warmed39 s.vm) {R0 O n d host : String} (hown : s.vm.findClass own = some m.cls) (w : (Jvm.Cond.fieldLink own index R0 n d).before a0 Z = true ∨ (Jvm.Cond.fieldLinkNest own index R0 n d host).before a0 Z = true) (via : Via Z R0 O n d) (eT : T.heap = h) {v : Value} (F : Sta Z h O n d v)
    (hd : decode c.code pc = .ok (.getstatic index, 3)) (hp : pc + 3 = pc') (K : ∀ T', Stand p l e R s m args below meth c T' locs cells slots → T'.heap = h → Rn p e below (T'.setTop (mkF m pc' L (v :: S))) G) : Rn p e below (T.setTop (mkF m pc L S)) G := by
  subst hp
  obtain ⟨T', X', e', st⟩ := getS2 X hx hZ hown w via eT F (g := mkF m pc L S) rfl hd
  exact Rn.st st (K T' X' e')
theorem R.putF (X : Stand p l e R s m args below meth c T locs cells slots) (hx : p.tables.exec = Jvm.exec) (hZ : Z.Warmed39 s.vm) {R0 O n d host C : String} {kk : Nat} {ty : FieldType} (hown : s.vm.findClass own = some m.cls) (w : (Jvm.Cond.fieldLink own index R0 n d).before a0 Z = true ∨ (Jvm.Cond.fieldLinkNest own index R0 n d host).before a0 Z = true) (via : Via Z R0 O n d) (eT : T.heap = h) {v old : Value} (F : Fld Z h a O n d old) (E : Exa Z h a C)
    (Ly : (Jvm.Cond.lays C O n d).before a0 Z = true ∨ ((Jvm.Cond.laysFinal C O n d).before a0 Z = true ∧ own = O ∧ meth.name = "<init>")) (wi : (Jvm.Cond.instantiable C kk).before a0 Z = true) (hty : parseFieldDescriptor d = some ty) (hn : narrow ty v = v) (hf : fits ty v = true)
    (hd : decode c.code pc = .ok (.putfield index, 3)) (hp : pc + 3 = pc') (K : ∀ T' h', Stand p l e R s m args below meth c T' (locs ++ [⟨a, Jvm.RoadKit.slotOf Z O n d⟩]) cells slots → T'.heap = h' → Wr h h' a (Jvm.RoadKit.slotOf Z O n d) v → Rn p e below (T'.setTop (mkF m pc' L S)) G) : Rn p e below (T.setTop (mkF m pc L (v :: .ref a :: S))) G := by
  subst hp
  obtain ⟨T', h', X', e', W', st⟩ := putF X hx hZ hown w via eT F E Ly wi hty hn hf (g := mkF m pc L (v :: .ref a :: S)) rfl rfl hd
  exact Rn.st st (K T' h' X' e' W')
theorem R.newO (X : Stand p l e R s m args below meth c T locs cells slots) (hx : p.tables.exec = Jvm.exec) (hZ : Z.Warmed39 s.vm) {C : String} {n : Nat} (hown : s.vm.findClass own = some m.cls) (w : (Jvm.Cond.classLink own index C).before a0 Z = true) (wi : (Jvm.Cond.instantiable C n).before a0 Z = true) (wz : (Jvm.Cond.initialized C).before a0 Z = true) (eT : T.heap = h)
    (hd : decode c.code pc = .ok (.new index, 3)) (hp : pc + 3 = pc') (hc : cells + 1 ≤ R.cells) (hl : slots + n ≤ R.slots)
    (K : ∀ T' h' b, b = h.size → Stand p l e R s m args below meth c T' locs (cells + 1) (slots + n) → T'.heap = h' → Ext h h' → Exa Z h' b C → (∀ {O nm d : String} {ty : FieldType}, Laid Z a0 C O nm d → parseFieldDescriptor d = some ty → Fld Z h' b O nm d (defaultValue ty)) → Rn p e below (T'.setTop (mkF m pc' L (.ref b :: S))) G) : Rn p e below (T.setTop (mkF m pc L S)) G := by
  subst hp
  obtain ⟨T', h', X', e', E', A', D', -, st⟩ := newO X hx hZ hown w wi wz eT (g := mkF m pc L S) rfl hd hc hl
  exact Rn.st st (K T' h' _ rfl X' e' E' A' D')
theorem R.newP (X : Stand p l e R s m args below meth c T locs cells slots) (hx : p.tables.exec = Jvm.exec) (hZ : Z.Warmed39 s.vm) {aty : ArrayType} {ty : FieldType} (hty : newarray.typeOf aty = ty) (w : (Jvm.Cond.arrayClass ty).before a0 Z = true) (eT : T.heap = h) {n : Int32} (hn : ¬ n < 0) {cap : Nat} (hcap : n.toNatClampNeg ≤ cap) (hb : cap * 8 ≤ 536870912) {ad : String} (had : "[" ++ ty.toString = ad)
    (hd : decode c.code pc = .ok (.newarray aty, 2)) (hp : pc + 2 = pc') (hc : cells + 1 ≤ R.cells) (hl : slots + cap ≤ R.slots)
    (K : ∀ T' h' b k, b = h.size → Stand p l e R s m args below meth c T' locs (cells + 1) (slots + cap) → T'.heap = h' → Ext h h' → Exa Z h' b ad → Arh Z h' b k ty n [] [] (defaultValue ty) → Rn p e below (T'.setTop (mkF m pc' L (.ref b :: S))) G) : Rn p e below (T.setTop (mkF m pc L (.int n :: S))) G := by
  subst hp hty
  obtain ⟨T', h', k, X', e', E', A', EE, st⟩ := newPE X hx hZ w eT (g := mkF m pc L (.int n :: S)) rfl hd rfl hn hcap hb hc hl had
  exact Rn.st st (K T' h' _ k rfl X' e' E' EE (Arv.new A' hn).arh)
section Arr
variable {k : ClassId} {z : Int32} {hs : List (Int32 × Value)} {vs : List Value} {dv : Value} {j : Int32}
theorem R.alen (X : Stand p l e R s m args below meth c T locs cells slots) (hx : p.tables.exec = Jvm.exec) (hZ : Z.Warmed39 s.vm) (eT : T.heap = h) {ty : FieldType} (F : Arh Z h a k ty z hs vs dv) (hd : decode c.code pc = .ok (.arraylength, 1)) (hp : pc + 1 = pc') (r : Rn p e below (T.setTop (mkF m pc' L (.int z :: S))) G) : Rn p e below (T.setTop (mkF m pc L (.ref a :: S))) G := by
  subst hp
  obtain ⟨cl, Ar, qA, SA, NA, HA, GA⟩ := F
  exact Rn.st (fun t q => X.arraylength hx (by rw [eT]; exact Ar.1) (State.isArrayOf_alike hZ.alike Ar.2.1) (g := mkF m pc L (.ref a :: S)) rfl rfl hd _ (by rw [len_of SA NA]; exact q)) r
theorem R.daload (X : Stand p l e R s m args below meth c T locs cells slots) (hx : p.tables.exec = Jvm.exec) (hZ : Z.Warmed39 s.vm) (eT : T.heap = h) (F : Arh Z h a k .double z hs vs dv) (hb : ¬ j < 0 ∧ j < z) {v : Value} (hv : getH hs vs dv j.toNatClampNeg = v) (hd : decode c.code pc = .ok (.daload, 1)) (hp : pc + 1 = pc') (r : Rn p e below (T.setTop (mkF m pc' L (v :: S))) G) : Rn p e below (T.setTop (mkF m pc L (.int j :: .ref a :: S))) G := by
  subst hp
  obtain ⟨cl, Ar, qA, SA, NA, HA, GA⟩ := F
  have hin := inb_of SA hb
  exact Rn.st (fun t q => X.daload hx (by rw [eT]; exact Ar.1) (State.isArrayOf_alike hZ.alike Ar.2.1) Ar.2.2 hin (atH HA hin hv) (g := mkF m pc L (.int j :: .ref a :: S)) rfl rfl hd _ q) r
theorem R.iaload (X : Stand p l e R s m args below meth c T locs cells slots) (hx : p.tables.exec = Jvm.exec) (hZ : Z.Warmed39 s.vm) (eT : T.heap = h) (F : Arh Z h a k .int z hs vs dv) (hb : ¬ j < 0 ∧ j < z) {v : Value} (hv : getH hs vs dv j.toNatClampNeg = v) (hd : decode c.code pc = .ok (.iaload, 1)) (hp : pc + 1 = pc') (r : Rn p e below (T.setTop (mkF m pc' L (v :: S))) G) : Rn p e below (T.setTop (mkF m pc L (.int j :: .ref a :: S))) G := by
  subst hp
  obtain ⟨cl, Ar, qA, SA, NA, HA, GA⟩ := F
  have hin := inb_of SA hb
  exact Rn.st (fun t q => X.iaload hx (by rw [eT]; exact Ar.1) (State.isArrayOf_alike hZ.alike Ar.2.1) Ar.2.2 hin (atH HA hin hv) (g := mkF m pc L (.int j :: .ref a :: S)) rfl rfl hd _ q) r
theorem R.baloadZ (X : Stand p l e R s m args below meth c T locs cells slots) (hx : p.tables.exec = Jvm.exec) (hZ : Z.Warmed39 s.vm) (eT : T.heap = h) (F : Arh Z h a k .boolean z hs vs dv) (hb : ¬ j < 0 ∧ j < z) {v : Value} (hv : getH hs vs dv j.toNatClampNeg = v) (hd : decode c.code pc = .ok (.baload, 1)) (hp : pc + 1 = pc') (r : Rn p e below (T.setTop (mkF m pc' L (v :: S))) G) : Rn p e below (T.setTop (mkF m pc L (.int j :: .ref a :: S))) G := by
  subst hp
  obtain ⟨cl, Ar, qA, SA, NA, HA, GA⟩ := F
  have hin := inb_of SA hb
  exact Rn.st (fun t q => X.baloadBooleans hx (by rw [eT]; exact Ar.1) (State.isArrayOf_alike hZ.alike Ar.2.1) Ar.2.2 hin (atH HA hin hv) (g := mkF m pc L (.int j :: .ref a :: S)) rfl rfl hd _ q) r
theorem R.dastore (X : Stand p l e R s m args below meth c T locs cells slots) (hx : p.tables.exec = Jvm.exec) (hZ : Z.Warmed39 s.vm) (eT : T.heap = h) (F : Arh Z h a k .double z hs vs dv) (hb : ¬ j < 0 ∧ j < z) {x : UInt64} (hd : decode c.code pc = .ok (.dastore, 1)) (hp : pc + 1 = pc')
    (K : ∀ T' h', Stand p l e R s m args below meth c T' (locs ++ [⟨a, j.toNatClampNeg⟩]) cells slots → T'.heap = h' → Wr h h' a j.toNatClampNeg (.double x) → Arh Z h' a k .double z ((j, .double x) :: hs) vs dv → Rn p e below (T'.setTop (mkF m pc' L S)) G) : Rn p e below (T.setTop (mkF m pc L (.double x :: .int j :: .ref a :: S))) G := by
  subst hp
  obtain ⟨cl, Ar, qA, SA, NA, HA, GA⟩ := F
  have hin := inb_of SA hb
  obtain ⟨T', h', X', e', W', st⟩ := stD X hx hZ eT Ar (j := j) hin (g := mkF m pc L (.double x :: .int j :: .ref a :: S)) rfl rfl hd
  exact Rn.st st (K T' h' X' e' W' (Arh.push Ar qA SA NA HA GA rfl W' hin))
theorem R.iastore (X : Stand p l e R s m args below meth c T locs cells slots) (hx : p.tables.exec = Jvm.exec) (hZ : Z.Warmed39 s.vm) (eT : T.heap = h) (F : Arh Z h a k .int z hs vs dv) (hb : ¬ j < 0 ∧ j < z) {x : Int32} (hd : decode c.code pc = .ok (.iastore, 1)) (hp : pc + 1 = pc')
    (K : ∀ T' h', Stand p l e R s m args below meth c T' (locs ++ [⟨a, j.toNatClampNeg⟩]) cells slots → T'.heap = h' → Wr h h' a j.toNatClampNeg (.int x) → Arh Z h' a k .int z ((j, .int x) :: hs) vs dv → Rn p e below (T'.setTop (mkF m pc' L S)) G) : Rn p e below (T.setTop (mkF m pc L (.int x :: .int j :: .ref a :: S))) G := by
  subst hp
  obtain ⟨cl, Ar, qA, SA, NA, HA, GA⟩ := F
  have hin := inb_of SA hb
  obtain ⟨T', h', X', e', W', st⟩ := stI X hx hZ eT Ar (j := j) hin (g := mkF m pc L (.int x :: .int j :: .ref a :: S)) rfl rfl hd
  exact Rn.st st (K T' h' X' e' W' (Arh.push Ar qA SA NA HA GA rfl W' hin))
theorem R.bastoreZ (X : Stand p l e R s m args below meth c T locs cells slots) (hx : p.tables.exec = Jvm.exec) (hZ : Z.Warmed39 s.vm) (eT : T.heap = h) (F : Arh Z h a k .boolean z hs vs dv) (hb : ¬ j < 0 ∧ j < z) {x : Int32} (hn : nar .boolean x = x) (hd : decode c.code pc = .ok (.bastore, 1)) (hp : pc + 1 = pc')
    (K : ∀ T' h', Stand p l e R s m args below meth c T' (locs ++ [⟨a, j.toNatClampNeg⟩]) cells slots → T'.heap = h' → Wr h h' a j.toNatClampNeg (.int x) → Arh Z h' a k .boolean z ((j, .int x) :: hs) vs dv → Rn p e below (T'.setTop (mkF m pc' L S)) G) : Rn p e below (T.setTop (mkF m pc L (.int x :: .int j :: .ref a :: S))) G := by
  subst hp
  obtain ⟨cl, Ar, qA, SA, NA, HA, GA⟩ := F
  have hin := inb_of SA hb
  obtain ⟨T', h', X', e', W', st⟩ := stZ X hx hZ eT Ar (j := j) hin (g := mkF m pc L (.int x :: .int j :: .ref a :: S)) rfl rfl hd
  rw [hn] at W'
  exact Rn.st st (K T' h' X' e' W' (Arh.push Ar qA SA NA HA GA (by have q := fits_nar_bool x; rw [hn] at q; exact q) W' hin))
end Arr
theorem R.ldc2D (X : Stand p l e R s m args below meth c T locs cells slots) (hx : p.tables.exec = Jvm.exec) (hZ : Z.Warmed39 s.vm) {b : UInt64} (hown : s.vm.findClass own = some m.cls) (w : (Jvm.Cond.constantDouble own index b).before a0 Z = true) (hd : decode c.code pc = .ok (.ldc2_w index, 3)) (hp : pc + 3 = pc') (r : Rn p e below (T.setTop (mkF m pc' L (.double b :: S))) G) : Rn p e below (T.setTop (mkF m pc L S)) G := by
  subst hp; exact Rn.st (fun t q => X.ldc2DoubleC hx hown (mvT hZ w) (g := mkF m pc L S) rfl hd _ q) r
theorem R.ldc2J (X : Stand p l e R s m args below meth c T locs cells slots) (hx : p.tables.exec = Jvm.exec) (hZ : Z.Warmed39 s.vm) {b : Int64} (hown : s.vm.findClass own = some m.cls) (w : (Jvm.Cond.constantLong own index b).before a0 Z = true) (hd : decode c.code pc = .ok (.ldc2_w index, 3)) (hp : pc + 3 = pc') (r : Rn p e below (T.setTop (mkF m pc' L (.long b :: S))) G) : Rn p e below (T.setTop (mkF m pc L S)) G := by
  subst hp; exact Rn.st (fun t q => X.ldc2Long hx hown (mvT hZ w) (g := mkF m pc L S) rfl hd _ q) r
theorem R.ldcI (X : Stand p l e R s m args below meth c T locs cells slots) (hx : p.tables.exec = Jvm.exec) (hZ : Z.Warmed39 s.vm) {b : Int32} (hown : s.vm.findClass own = some m.cls) (w : (Jvm.Cond.constant own index b).before a0 Z = true) (hd : decode c.code pc = .ok (.ldc index, 2)) (hp : pc + 2 = pc') (r : Rn p e below (T.setTop (mkF m pc' L (.int b :: S))) G) : Rn p e below (T.setTop (mkF m pc L S)) G := by
  subst hp; exact Rn.st (fun t q => X.ldcInt hx hown (mvT hZ w) (g := mkF m pc L S) rfl hd _ q) r
theorem R.castY (X : Stand p l e R s m args below meth c T locs cells slots) (hx : p.tables.exec = Jvm.exec) (hZ : Z.Warmed39 s.vm) {C : String} (hown : s.vm.findClass own = some m.cls) (w : (Jvm.Cond.classLink own index C).before a0 Z = true) (eT : T.heap = h) (F : Ins Z h a C true) (hd : decode c.code pc = .ok (.checkcast index, 3)) (hp : pc + 3 = pc')
    (K : ∀ T', Stand p l e R s m args below meth c T' locs cells slots → T'.heap = h → Rn p e below (T'.setTop (mkF m pc' L (.ref a :: S))) G) : Rn p e below (T.setTop (mkF m pc L (.ref a :: S))) G := by
  subst hp
  obtain ⟨T', X', e', st⟩ := castY X hx hZ hown w eT F (g := mkF m pc L (.ref a :: S)) rfl rfl hd
  exact Rn.st st (K T' X' e')
theorem R.instY (X : Stand p l e R s m args below meth c T locs cells slots) (hx : p.tables.exec = Jvm.exec) (hZ : Z.Warmed39 s.vm) {C : String} (hown : s.vm.findClass own = some m.cls) (w : (Jvm.Cond.classLink own index C).before a0 Z = true) (eT : T.heap = h) (F : Ins Z h a C true) (hd : decode c.code pc = .ok (.instanceof index, 3)) (hp : pc + 3 = pc')
    (K : ∀ T', Stand p l e R s m args below meth c T' locs cells slots → T'.heap = h → Rn p e below (T'.setTop (mkF m pc' L (.int 1 :: S))) G) : Rn p e below (T.setTop (mkF m pc L (.ref a :: S))) G := by
  subst hp
  obtain ⟨T', X', e', st⟩ := instY X hx hZ hown w eT F (g := mkF m pc L (.ref a :: S)) rfl rfl hd
  exact Rn.st st (K T' X' e')
theorem R.instNo (X : Stand p l e R s m args below meth c T locs cells slots) (hx : p.tables.exec = Jvm.exec) (hZ : Z.Warmed39 s.vm) {C C' : String} (hown : s.vm.findClass own = some m.cls) (w : (Jvm.Cond.classLink own index C').before a0 Z = true) (eT : T.heap = h) (E : Exa Z h a C) (F : ∃ c t, Z.vm.findClass C = some c ∧ Z.vm.findClass C' = some t ∧ Z.vm.assignable c t = false) (hd : decode c.code pc = .ok (.instanceof index, 3)) (hp : pc + 3 = pc')
    (K : ∀ T', Stand p l e R s m args below meth c T' locs cells slots → T'.heap = h → Rn p e below (T'.setTop (mkF m pc' L (.int 0 :: S))) G) : Rn p e below (T.setTop (mkF m pc L (.ref a :: S))) G := by
  subst hp
  obtain ⟨T', X', e', st⟩ := instNo X hx hZ hown w eT E F (g := mkF m pc L (.ref a :: S)) rfl rfl hd
  exact Rn.st st (K T' X' e')
theorem R.initO (X : Stand p l e R s m args below meth c T locs cells slots) (hx : p.tables.exec = Jvm.exec) (hZ : Z.Warmed39 s.vm) (hown : s.vm.findClass own = some m.cls) (w1 : (Jvm.Cond.methodLink own index Lib.objectInit).before a0 Z = true) (w2 : (Jvm.Cond.instanceMethod Lib.objectInit).before a0 Z = true) (w3 : (Jvm.Cond.code Lib.objectInit ⟨#[0xb1]⟩ 1 none).before a0 Z = true) (eT : T.heap = h) (hsize : L.size = c.maxLocals)
    (hd : decode c.code pc = .ok (.invokespecial index, 3)) (hp : pc + 3 = pc') (hf : 1 ≤ R.frames) {W : Nat} (hW : (S.map fun v => v.category).sum ≤ W) (hl : W + 12 ≤ R.locals)
    (K : ∀ T', Stand p l e R s m args below meth c T' locs cells slots → T'.heap = h → Rn p e below (T'.setTop (mkF m pc' L S)) G) : Rn p e below (T.setTop (mkF m pc L (.ref a :: S))) G := by
  subst hp
  obtain ⟨T', X', e', st⟩ := initO X hx hZ hown w1 w2 w3 eT (g := mkF m pc L (.ref a :: S)) rfl hsize rfl hd hf (W := W) (by show 2 * 0 + _ ≤ W; rw [Nat.mul_zero, Nat.zero_add]; exact hW) hl
  exact Rn.st st (K T' X' e')
section Calls
variable {y : MethodName} {bytes : ByteArray} {maxL : Nat} {ret : Option FieldType} {rm : Room} {as' : List Value} {Q : Option Value → Heap → List Loc → Prop} {S0 : List Value} {W : Nat}
theorem R.callS (X : Stand p l e R s m args below meth c T locs cells slots) (hx : p.tables.exec = Jvm.exec) (hZ : Z.Warmed39 s.vm) (hown : s.vm.findClass own = some m.cls) (w1 : (Jvm.Cond.methodLink own index y).before a0 Z = true) (w2 : (Jvm.Cond.static y).before a0 Z = true) (w3 : (Jvm.Cond.initialized y.cls).before a0 Z = true) (w4 : (Jvm.Cond.code y bytes maxL ret).before a0 Z = true) (hy : y.cls ≠ "java/lang/invoke/MethodHandle" ∧ y.cls ≠ "java/lang/invoke/VarHandle") (eT : T.heap = h)
    (hM : MetFree l y (head1 [Jvm.Cond.code y bytes maxL ret] rm) (fun a U => a = as'.toArray ∧ Z.Warmed39 U.vm ∧ U.heap = h) (fun _ _ _ _ _ => True) (fun _ U o U' => ∃ v L, o = .returned v ∧ Q v U'.heap L ∧ FrameEnd U o U' L rm.cells rm.slots))
    (hf : rm.frames + 1 ≤ R.frames) (hW : (S.map fun v => v.category).sum ≤ W) (hl : W + (maxL + 11) + rm.locals ≤ R.locals) (hsize : L.size = c.maxLocals) (hlen : ∀ sig, parseMethodDescriptor y.desc = some sig → as'.length = sig.parameters.length) (hst : S0 = as'.reverse ++ S) (hd : decode c.code pc = .ok (.invokestatic index, 3)) (hp : pc + 3 = pc') (hc : cells + rm.cells ≤ R.cells) (hs : slots + rm.slots ≤ R.slots)
    (K : ∀ v T' L1, Stand p l e R s m args below meth c T' (locs ++ L1) (cells + rm.cells) (slots + rm.slots) → Q v T'.heap L1 → Rn p e below (T'.setTop (mkF m pc' L (v.toList ++ S))) G) : Rn p e below (T.setTop (mkF m pc L S0)) G := by
  subst hp
  obtain ⟨v, vm1, ⟨T', L2, k', n'⟩, -, X', ⟨Lc, hQ, l1, y1, z1⟩, st⟩ := Jvm.LawKit.callS X hx (y := y) hown (mvT hZ w1) (mvT hZ w2) (mvT hZ w3) (mvT hZ w4) hy (backOf (W := W) hM hZ w4 w3 hf hl) (g := mkF m pc L S0) rfl hsize (argsL := as') (rest := S) hlen hst (by show 2 * 0 + _ ≤ W; rw [Nat.mul_zero, Nat.zero_add]; exact hW) hd (fun _ _ => ⟨rfl, eT, hc, hs⟩)
  dsimp only [Pt.U, Pt.locs, Pt.cells, Pt.slots] at X' l1 y1 z1 st hQ
  subst l1 y1 z1
  exact Rn.st st (K v T' Lc X' hQ)
theorem R.special (X : Stand p l e R s m args below meth c T locs cells slots) (hx : p.tables.exec = Jvm.exec) (hZ : Z.Warmed39 s.vm) (hy1 : y.name = "<init>") (hown : s.vm.findClass own = some m.cls) (w1 : (Jvm.Cond.methodLink own index y).before a0 Z = true) (w2 : (Jvm.Cond.instanceMethod y).before a0 Z = true) (w3 : (Jvm.Cond.initialized y.cls).before a0 Z = true) (w4 : (Jvm.Cond.code y bytes maxL none).before a0 Z = true) (hy : y.cls ≠ "java/lang/invoke/MethodHandle" ∧ y.cls ≠ "java/lang/invoke/VarHandle") (eT : T.heap = h)
    (hM : MetFree l y (head1 [Jvm.Cond.code y bytes maxL none] rm) (fun u U => u = (.ref a :: as').toArray ∧ Z.Warmed39 U.vm ∧ U.heap = h) (fun _ _ _ _ _ => True) (fun _ U o U' => ∃ v L, o = .returned v ∧ Q v U'.heap L ∧ FrameEnd U o U' L rm.cells rm.slots))
    (hf : rm.frames + 1 ≤ R.frames) (hW : (S.map fun v => v.category).sum ≤ W) (hl : W + (maxL + 11) + rm.locals ≤ R.locals) (hsize : L.size = c.maxLocals) (hlen : ∀ sig, parseMethodDescriptor y.desc = some sig → as'.length = sig.parameters.length) (hst : S0 = as'.reverse ++ .ref a :: S) (hd : decode c.code pc = .ok (.invokespecial index, 3)) (hp : pc + 3 = pc') (hc : cells + rm.cells ≤ R.cells) (hs : slots + rm.slots ≤ R.slots)
    (K : ∀ v T' L1, Stand p l e R s m args below meth c T' (locs ++ L1) (cells + rm.cells) (slots + rm.slots) → Q v T'.heap L1 → Rn p e below (T'.setTop (mkF m pc' L (v.toList ++ S))) G) : Rn p e below (T.setTop (mkF m pc L S0)) G := by
  subst hp
  obtain ⟨v, vm1, ⟨T', L2, k', n'⟩, -, X', ⟨Lc, hQ, l1, y1, z1⟩, st⟩ := X.specialBack hx (y := y) hy1 hown (mvT hZ w1) (mvT hZ w2) (mvT hZ w4) hy (backOf (W := W) hM hZ w4 w3 hf hl) (g := mkF m pc L S0) rfl hsize (Steps.refl _) (a := a) (argsL := as') (rest := S) hlen hst (by show 2 * 0 + _ ≤ W; rw [Nat.mul_zero, Nat.zero_add]; exact hW) hd (fun _ _ => ⟨rfl, eT, hc, hs⟩)
  dsimp only [Pt.U, Pt.locs, Pt.cells, Pt.slots] at X' l1 y1 z1 st hQ
  subst l1 y1 z1
  exact Rn.st (fun t q => st.trans q) (K v T' Lc X' hQ)
theorem R.virtual (X : Stand p l e R s m args below meth c T locs cells slots) (hx : p.tables.exec = Jvm.exec) (hZ : Z.Warmed39 s.vm) {C : String} {z : MethodName} (hown : s.vm.findClass own = some m.cls) (w1 : (Jvm.Cond.methodLink own index y).before a0 Z = true) (w2 : (Jvm.Cond.declares y).before a0 Z = true) (hnf : NotFace s y) (w5 : (Jvm.Cond.selects C y z).before a0 Z = true) (w6 : (Jvm.Cond.instanceMethod z).before a0 Z = true) (w3 : (Jvm.Cond.initialized z.cls).before a0 Z = true) (w4 : (Jvm.Cond.code z bytes maxL ret).before a0 Z = true) (hy : y.cls ≠ "java/lang/invoke/MethodHandle" ∧ y.cls ≠ "java/lang/invoke/VarHandle") (eT : T.heap = h) (E : Exa Z h a C)
    (hM : MetFree l z (head1 [Jvm.Cond.code z bytes maxL ret] rm) (fun u U => u = (.ref a :: as').toArray ∧ Z.Warmed39 U.vm ∧ U.heap = h) (fun _ _ _ _ _ => True) (fun _ U o U' => ∃ v L, o = .returned v ∧ Q v U'.heap L ∧ FrameEnd U o U' L rm.cells rm.slots))
    (hf : rm.frames + 1 ≤ R.frames) (hW : (S.map fun v => v.category).sum ≤ W) (hl : W + (maxL + 11) + rm.locals ≤ R.locals) (hsize : L.size = c.maxLocals) (hlen : ∀ sig, parseMethodDescriptor y.desc = some sig → as'.length = sig.parameters.length) (hst : S0 = as'.reverse ++ .ref a :: S) (hd : decode c.code pc = .ok (.invokevirtual index, 3)) (hp : pc + 3 = pc') (hc : cells + rm.cells ≤ R.cells) (hs : slots + rm.slots ≤ R.slots)
    (K : ∀ v T' L1, Stand p l e R s m args below meth c T' (locs ++ L1) (cells + rm.cells) (slots + rm.slots) → Q v T'.heap L1 → Rn p e below (T'.setTop (mkF m pc' L (v.toList ++ S))) G) : Rn p e below (T.setTop (mkF m pc L S0)) G := by
  subst hp
  obtain ⟨cq, kq, qa, qb, qc⟩ := isOf hZ eT E
  obtain ⟨v, vm1, ⟨T', L2, k', n'⟩, -, X', ⟨Lc, hQ, l1, y1, z1⟩, st⟩ := X.virtualBack hx (y := y) (z := z) hown (mvT hZ w1) (mvT hZ w2) hnf (mvT hZ w5) (mvT hZ w6) hy (backOf (W := W) hM hZ w4 w3 hf hl) qa qc (g := mkF m pc L S0) rfl hsize (Steps.refl _) (argsL := as') (rest := S) hlen hst (by show 2 * 0 + _ ≤ W; rw [Nat.mul_zero, Nat.zero_add]; exact hW) hd (fun _ _ => ⟨rfl, eT, hc, hs⟩)
  dsimp only [Pt.U, Pt.locs, Pt.cells, Pt.slots] at X' l1 y1 z1 st hQ
  subst l1 y1 z1
  exact Rn.st (fun t q => st.trans q) (K v T' Lc X' hQ)
end Calls
end RBig
def own_rowA (k s : Int32) : Int32 := if k = (2 : Int32) then (if s = (2 : Int32) then (1 : Int32) else (0 : Int32)) else s
def own_rowB (k s : Int32) : Int32 := if k = (2 : Int32) then (if s = (0 : Int32) then (1 : Int32) else (2 : Int32)) else (0 : Int32)
def own_wAt (i a b : Int32) : Int64 := if i = (0 : Int32) then a.toInt16.toInt32.toInt64 else if i = (1 : Int32) then (a >>> ((16 : Int32) &&& 31)).toInt64 else if i = (2 : Int32) then b.toInt16.toInt32.toInt64 else (b >>> ((16 : Int32) &&& 31)).toInt64
def own_yAt (i a b c : Int32) : Int64 := if i = (0 : Int32) then a.toInt16.toInt32.toInt64 else if i = (1 : Int32) then (a >>> ((16 : Int32) &&& 31)).toInt64 else if i = (2 : Int32) then b.toInt16.toInt32.toInt64 else if i = (3 : Int32) then (b >>> ((16 : Int32) &&& 31)).toInt64 else if i = (4 : Int32) then c.toInt16.toInt32.toInt64 else (c >>> ((16 : Int32) &&& 31)).toInt64
theorem own_zero' : Dy FP.dconst0 0 0 := Dy.lit false 0 (-1074) (by decide +kernel) (by decide +kernel)
theorem own_irr (a : Int32) : ¬ a < a := by rw [Int32.lt_iff_toInt_lt]; omega
theorem own_pk {a k : Int32} {d : Int} (hk : k.toInt = d) (h : -2147483648 ≤ a.toInt + d ∧ a.toInt + d < 2147483648) : (a + k).toInt = a.toInt + d := by rw [own_addI] <;> rw [hk]; exact h
theorem own_p1 {a : Int32} (h : -2147483648 ≤ a.toInt + 1 ∧ a.toInt + 1 < 2147483648) : (a + (1 : Int32)).toInt = a.toInt + 1 := own_pk (by decide) h
theorem own_mw {a k : Int32} {d : Int} (ha : 0 ≤ a.toInt ∧ a.toInt ≤ 2) (hk : k.toInt = d) (hd : 0 ≤ d ∧ d ≤ 2) : (a * k).toInt = a.toInt * d := by
  have q := own_pb (show a.toInt.natAbs ≤ 2 by omega) (show d.natAbs ≤ 2 by omega)
  rw [own_mulI] <;> rw [hk]; omega
theorem own_nab1 {a : Int} {A : Nat} (h : a.natAbs ≤ A) (hl : A < 9007199254740992) : a.natAbs < 9007199254740992 := by omega
theorem own_nab2 {a b : Int} {A B : Nat} (h : a.natAbs ≤ A) (g : b.natAbs ≤ B) (hl : A + B < 9007199254740992) : (a + b).natAbs < 9007199254740992 := by omega
theorem own_ix0 {Yi : Int32 → Int} {a i : Int32} (h : a = i) : Yi (i + (0 : Int32)) = Yi a := by rw [h, Int32.add_zero]
theorem own_ix1 {Yi : Int32 → Int} {a i : Int32} (h : a = i) : Yi (i + (1 : Int32)) = Yi (a + (1 : Int32)) := by rw [h]
theorem own_s16 (a : Int32) : (a.toInt16.toInt32.toInt64).toInt.natAbs ≤ 32768 := by rw [Int32.toInt_toInt64]; have b := c_i2s a; omega
theorem own_h16 (a : Int32) : ((a >>> ((16 : Int32) &&& 31)).toInt64).toInt.natAbs ≤ 32768 := by
  rw [Int32.toInt_toInt64, c_ishr a 16 16 (by decide)]; have b := own_b a; show (a.toInt / 65536).natAbs ≤ 32768; omega
theorem own_wb (i a b : Int32) : (own_wAt i a b).toInt.natAbs ≤ 32768 := by
  unfold own_wAt; split; exact own_s16 _; split; exact own_h16 _; split; exact own_s16 _; exact own_h16 _
theorem own_yb (i a b c : Int32) : (own_yAt i a b c).toInt.natAbs ≤ 32768 := by
  unfold own_yAt; split; exact own_s16 _; split; exact own_h16 _; split; exact own_s16 _; split; exact own_h16 _; split; exact own_s16 _; exact own_h16 _
theorem own_half : Dy 4602678819172646912 1 1 := Dy.lit false 4503599627370496 (-53) (by decide +kernel) (by decide +kernel)
theorem own_garb (a : Int32) : Dy (FP.dadd (FP.i2d a) 4602678819172646912) (a.toInt * 2 + 1) 1 := (((Dy.i2d a).up 1).cast (show _ = a.toInt * 2 by omega) rfl).add own_half (by have := own_b a; omega) (by decide)
theorem own_bit {a r : Int32} (h : (a &&& (1 : Int32)) = r) : r = (0 : Int32) ∨ r = (1 : Int32) := by
  have b := c_and a (1 : Int32) (by decide)
  rw [h] at b
  have e1 : (1 : Int32).toInt = 1 := by decide
  have k : r.toInt = 0 ∨ r.toInt = 1 := by omega
  rcases k with k | k
  · exact Or.inl (Int32.toInt_inj.mp (k.trans (by decide)))
  · exact Or.inr (Int32.toInt_inj.mp (k.trans (by decide)))
theorem own_tri {a r : Int32} (h : ((a &&& (3 : Int32)) % (3 : Int32)) = r) : r = (0 : Int32) ∨ r = (1 : Int32) ∨ r = (2 : Int32) := by
  have b := own_masked (a := a) (m := (3 : Int32)) (k := (3 : Int32)) (d := 3) (by decide) (by decide) (by decide) h
  have k : r.toInt = 0 ∨ r.toInt = 1 ∨ r.toInt = 2 := by omega
  rcases k with k | k | k
  · exact Or.inl (Int32.toInt_inj.mp (k.trans (by decide)))
  · exact Or.inr (Or.inl (Int32.toInt_inj.mp (k.trans (by decide))))
  · exact Or.inr (Or.inr (Int32.toInt_inj.mp (k.trans (by decide))))
theorem own_02 {r : Int32} (h : r = (0 : Int32) ∨ r = (1 : Int32) ∨ r = (2 : Int32)) : 0 ≤ r.toInt ∧ r.toInt ≤ 2 := by rcases h with rfl | rfl | rfl <;> decide
theorem own_rA {k s : Int32} (hs : s = (0 : Int32) ∨ s = (1 : Int32) ∨ s = (2 : Int32)) : 0 ≤ (own_rowA k s).toInt ∧ (own_rowA k s).toInt ≤ 2 := by
  unfold own_rowA; split
  · split <;> decide
  · exact own_02 hs
theorem own_rB {k s : Int32} : 0 ≤ (own_rowB k s).toInt ∧ (own_rowB k s).toInt ≤ 2 := by
  unfold own_rowB; split
  · split <;> decide
  · decide
theorem own_rdy {a b c : Int32} : ∀ i : Int32, 0 ≤ i.toInt → i.toInt < 6 → getH [((5 : Int32), (.double (FP.l2d (own_yAt (5 : Int32) a b c)))), ((4 : Int32), (.double (FP.l2d (own_yAt (4 : Int32) a b c)))), ((3 : Int32), (.double (FP.l2d (own_yAt (3 : Int32) a b c)))), ((2 : Int32), (.double (FP.l2d (own_yAt (2 : Int32) a b c)))), ((1 : Int32), (.double (FP.l2d (own_yAt (1 : Int32) a b c)))), ((0 : Int32), (.double (FP.l2d (own_yAt (0 : Int32) a b c))))] [] (.double (0 : UInt64)) i.toNatClampNeg = (.double (FP.l2d (own_yAt i a b c))) ∧ Dy (FP.l2d (own_yAt i a b c)) (own_yAt i a b c).toInt 0 ∧ (own_yAt i a b c).toInt.natAbs ≤ 32768 := by
  intro i h0 h1
  have bb := own_yb i a b c
  refine ⟨?_, Dy.l2d (by omega), bb⟩
  have e : i = Int32.ofInt i.toInt := by rw [Int32.ofInt_toInt]
  have hd : i.toInt = 0 ∨ i.toInt = 1 ∨ i.toInt = 2 ∨ i.toInt = 3 ∨ i.toInt = 4 ∨ i.toInt = 5 := by omega
  rcases hd with q | q | q | q | q | q <;> (rw [q] at e; cases e; rfl)
theorem own_mulY {a b j : Int64} (ha : a.toInt.natAbs ≤ 32768) (hb : b.toInt.natAbs ≤ 32768) (h : ((0 : Int64) + (a * b)) = j) : j.toInt = a.toInt * b.toInt := by
  have q := own_pb ha hb
  have t : (a * b).toInt = a.toInt * b.toInt := own_mulL (by omega)
  have z : (0 : Int64).toInt = 0 := by decide
  rw [← h, own_addL] <;> rw [t, z] <;> omega
theorem own_mulY2 {a b j j2 : Int64} {x : Int} (hx : j.toInt = x) (bx : x.natAbs ≤ 1073741824) (ha : a.toInt.natAbs ≤ 32768) (hb : b.toInt.natAbs ≤ 32768) (h : (j + (a * b)) = j2) : j2.toInt = x + a.toInt * b.toInt := by
  have q := own_pb ha hb
  have t : (a * b).toInt = a.toInt * b.toInt := own_mulL (by omega)
  rw [← h, own_addL] <;> rw [t, hx]; omega
theorem d1_0 : decode method_2_code 0 = .ok (.iload_n 0, 1) := by decide +kernel
theorem d1_1 : decode method_2_code 1 = .ok (.iconst 2, 1) := by decide +kernel
theorem d1_2 : decode method_2_code 2 = .ok (.if_icmp .ne 14, 3) := by decide +kernel
theorem d1_5 : decode method_2_code 5 = .ok (.iload_n 1, 1) := by decide +kernel
theorem d1_6 : decode method_2_code 6 = .ok (.iconst 2, 1) := by decide +kernel
theorem d1_7 : decode method_2_code 7 = .ok (.if_icmp .ne 7, 3) := by decide +kernel
theorem d1_10 : decode method_2_code 10 = .ok (.iconst 1, 1) := by decide +kernel
theorem d1_11 : decode method_2_code 11 = .ok (.goto 4, 3) := by decide +kernel
theorem d1_15 : decode method_2_code 15 = .ok (.ireturn, 1) := by decide +kernel
theorem d1_14 : decode method_2_code 14 = .ok (.iconst 0, 1) := by decide +kernel
theorem d1_16 : decode method_2_code 16 = .ok (.iload_n 1, 1) := by decide +kernel
theorem d1_17 : decode method_2_code 17 = .ok (.ireturn, 1) := by decide +kernel
theorem pn_0 : plainName "com/example/upupa/upupa/engine/ColumnsTransposeTimesPinLaw" = true := by first | (simp [plainName, overriddenIn]; done) | decide +kernel
theorem ef_1 (m : MethodId) (x0 : Int32) (x1 : Int32) : entryFrame m #[(.int x0), (.int x1)] 2 = mkF m 0 #[.val (.int x0), .val (.int x1)] [] := by first | (simp [entryFrame, mkF, argsToLocals, Value.category]; done) | rfl
def Q1 (Z : State) (p0 : Int32) (p1 : Int32) (h0 : Heap) (n0 : Nat) (vQ : Option Value) (hQ_ : Heap) (LQ : List Loc) : Prop := vQ = some (.int (own_rowA p0 p1)) ∧ Fr n0 LQ ∧ hQ_ = h0
def Fn1 (Z : State) (p0 : Int32) (p1 : Int32) (h0 : Heap) (n0 : Nat) (sQ : State) (oQ : Outcome) (UQ : State) : Prop := ∃ vQ LQ, oQ = .returned vQ ∧ Q1 Z p0 p1 h0 n0 vQ UQ.heap LQ ∧ FrameEnd sQ oQ UQ LQ ({ frames := 0, cells := 0, slots := 0, locals := 0 } : Room).cells ({ frames := 0, cells := 0, slots := 0, locals := 0 } : Room).slots
set_option maxRecDepth 65536 in
set_option maxHeartbeats 40000000 in
theorem rm1 (l : Launch) (Z : State) (aZ : Array Value) (hw : ∀ d ∈ tables_1, d.before aZ Z = true) (ws : List Jvm.Cond) (p0 : Int32) (p1 : Int32) (h0 : Heap) (n0 : Nat) (Z0 : n0 ≤ h0.size) :
    MetFree l (⟨"com/example/upupa/upupa/engine/ColumnsTransposeTimesPinLaw", "rowA", "(II)I"⟩ : MethodName) (head1 (Jvm.Cond.code (⟨"com/example/upupa/upupa/engine/ColumnsTransposeTimesPinLaw", "rowA", "(II)I"⟩ : MethodName) method_2_code 2 (some .int) :: ws) ({ frames := 0, cells := 0, slots := 0, locals := 0 } : Room)) (fun aQ UQ => aQ = #[(.int p0), (.int p1)] ∧ Z.Warmed39 UQ.vm ∧ UQ.heap = h0) (fun _ _ _ _ _ => True) (fun _ UQ oQ UR => ∃ vQ LQ, oQ = .returned vQ ∧ Q1 Z p0 p1 h0 n0 vQ UR.heap LQ ∧ FrameEnd UQ oQ UR LQ ({ frames := 0, cells := 0, slots := 0, locals := 0 } : Room).cells ({ frames := 0, cells := 0, slots := 0, locals := 0 } : Room).slots) := by
  refine MetFree.of_bodySF (plainFor_of_name pn_0) hisR ?_
  intro p e s m args below meth c s₁ Bd hml0 hP hK
  obtain ⟨rfl, hZ, hh⟩ := hP
  have hx := Bd.exec
  have hby := Bd.bytes
  have hml : c.maxLocals = 2 := hml0
  have hown : s.vm.findClass "com/example/upupa/upupa/engine/ColumnsTransposeTimesPinLaw" = some m.cls := findClass_of_methodNamed Bd.named
  have hnm := (name_of_methodNamed Bd.named Bd.method).1
  have X0 : Stand p l e ({ frames := 0, cells := 0, slots := 0, locals := 0 } : Room) s m #[(.int p0), (.int p1)] below meth c s₁ [] 0 0 := Stand.of_body Bd
  have e0 : s₁.heap = h0 := by rw [← hh, Bd.state]; rfl
  have N0 := Fr.nil n0
  have K0 : Keep h0 h0 [] := Keep.refl _ _
  have first_ : Rn p e below (s₁.setTop (mkF m 0 #[.val (.int p0), .val (.int p1)] [])) (Fn1 Z p0 p1 h0 n0 s) := by
    generalize hG : (Fn1 Z p0 p1 h0 n0 s) = G
    refine R.iloadN X0 hx (hb hby d1_0) rfl (pc' := 1) rfl ?_
    refine R.iconst X0 hx (hb hby d1_1) (v := (2 : Int32)) (by decide) (pc' := 2) rfl ?_
    by_cases hc2 : p0 = (2 : Int32)
    · refine R.icmpNo X0 hx (hb hby d1_2) (teq hc2).2 (pc' := 5) rfl ?_
      refine R.iloadN X0 hx (hb hby d1_5) rfl (pc' := 6) rfl ?_
      refine R.iconst X0 hx (hb hby d1_6) (v := (2 : Int32)) (by decide) (pc' := 7) rfl ?_
      by_cases hc7 : p1 = (2 : Int32)
      · refine R.icmpNo X0 hx (hb hby d1_7) (teq hc7).2 (pc' := 10) rfl ?_
        refine R.iconst X0 hx (hb hby d1_10) (v := (1 : Int32)) (by decide) (pc' := 11) rfl ?_
        refine R.goto X0 hx (hb hby d1_11) (by decide) (pc' := 15) (by decide) ?_
        rw [← hG]
        exact Rn.ret X0 (BodyLoose.notSynchronized Bd) (v := some (.int (1 : Int32))) (fun h => by rw [Bd.returns] at h; cases h) (Q := Q1 Z p0 p1 h0 n0) e0 (fun fs hr => retOut X0 hx (t := .int) Bd.returns rfl (Or.inl ⟨rfl, Or.inl rfl, _, rfl⟩) (hb hby d1_15) hr) ⟨(by unfold own_rowA; rw [if_pos hc2, if_pos hc7]), N0, rfl⟩ (by decide) (by decide)
      · refine R.icmpYes X0 hx (hb hby d1_7) (feq hc7).2 (by decide) (pc' := 14) (by decide) ?_
        refine R.iconst X0 hx (hb hby d1_14) (v := (0 : Int32)) (by decide) (pc' := 15) rfl ?_
        rw [← hG]
        exact Rn.ret X0 (BodyLoose.notSynchronized Bd) (v := some (.int (0 : Int32))) (fun h => by rw [Bd.returns] at h; cases h) (Q := Q1 Z p0 p1 h0 n0) e0 (fun fs hr => retOut X0 hx (t := .int) Bd.returns rfl (Or.inl ⟨rfl, Or.inl rfl, _, rfl⟩) (hb hby d1_15) hr) ⟨(by unfold own_rowA; rw [if_pos hc2, if_neg hc7]), N0, rfl⟩ (by decide) (by decide)
    · refine R.icmpYes X0 hx (hb hby d1_2) (feq hc2).2 (by decide) (pc' := 16) (by decide) ?_
      refine R.iloadN X0 hx (hb hby d1_16) rfl (pc' := 17) rfl ?_
      rw [← hG]
      exact Rn.ret X0 (BodyLoose.notSynchronized Bd) (v := some (.int p1)) (fun h => by rw [Bd.returns] at h; cases h) (Q := Q1 Z p0 p1 h0 n0) e0 (fun fs hr => retOut X0 hx (t := .int) Bd.returns rfl (Or.inl ⟨rfl, Or.inl rfl, _, rfl⟩) (hb hby d1_17) hr) ⟨(by unfold own_rowA; rw [if_neg hc2]), N0, rfl⟩ (by decide) (by decide)
  exact (Rn.st (fun t k => castTop (ef_1 m p0 p1) k) first_ : Rn p e below (s₁.setTop (entryFrame m #[(.int p0), (.int p1)] 2)) (Fn1 Z p0 p1 h0 n0 s))
theorem d2_0 : decode method_3_code 0 = .ok (.iload_n 0, 1) := by decide +kernel
theorem d2_1 : decode method_3_code 1 = .ok (.iconst 2, 1) := by decide +kernel
theorem d2_2 : decode method_3_code 2 = .ok (.if_icmp .ne 13, 3) := by decide +kernel
theorem d2_5 : decode method_3_code 5 = .ok (.iload_n 1, 1) := by decide +kernel
theorem d2_6 : decode method_3_code 6 = .ok (.ifCond .ne 7, 3) := by decide +kernel
theorem d2_9 : decode method_3_code 9 = .ok (.iconst 1, 1) := by decide +kernel
theorem d2_10 : decode method_3_code 10 = .ok (.goto 4, 3) := by decide +kernel
theorem d2_14 : decode method_3_code 14 = .ok (.ireturn, 1) := by decide +kernel
theorem d2_13 : decode method_3_code 13 = .ok (.iconst 2, 1) := by decide +kernel
theorem d2_15 : decode method_3_code 15 = .ok (.iconst 0, 1) := by decide +kernel
theorem d2_16 : decode method_3_code 16 = .ok (.ireturn, 1) := by decide +kernel
theorem ef_2 (m : MethodId) (x0 : Int32) (x1 : Int32) : entryFrame m #[(.int x0), (.int x1)] 2 = mkF m 0 #[.val (.int x0), .val (.int x1)] [] := by first | (simp [entryFrame, mkF, argsToLocals, Value.category]; done) | rfl
def Q2 (Z : State) (p0 : Int32) (p1 : Int32) (h0 : Heap) (n0 : Nat) (vQ : Option Value) (hQ_ : Heap) (LQ : List Loc) : Prop := vQ = some (.int (own_rowB p0 p1)) ∧ Fr n0 LQ ∧ hQ_ = h0
def Fn2 (Z : State) (p0 : Int32) (p1 : Int32) (h0 : Heap) (n0 : Nat) (sQ : State) (oQ : Outcome) (UQ : State) : Prop := ∃ vQ LQ, oQ = .returned vQ ∧ Q2 Z p0 p1 h0 n0 vQ UQ.heap LQ ∧ FrameEnd sQ oQ UQ LQ ({ frames := 0, cells := 0, slots := 0, locals := 0 } : Room).cells ({ frames := 0, cells := 0, slots := 0, locals := 0 } : Room).slots
set_option maxRecDepth 65536 in
set_option maxHeartbeats 40000000 in
theorem rm2 (l : Launch) (Z : State) (aZ : Array Value) (hw : ∀ d ∈ tables_1, d.before aZ Z = true) (ws : List Jvm.Cond) (p0 : Int32) (p1 : Int32) (h0 : Heap) (n0 : Nat) (Z0 : n0 ≤ h0.size) :
    MetFree l (⟨"com/example/upupa/upupa/engine/ColumnsTransposeTimesPinLaw", "rowB", "(II)I"⟩ : MethodName) (head1 (Jvm.Cond.code (⟨"com/example/upupa/upupa/engine/ColumnsTransposeTimesPinLaw", "rowB", "(II)I"⟩ : MethodName) method_3_code 2 (some .int) :: ws) ({ frames := 0, cells := 0, slots := 0, locals := 0 } : Room)) (fun aQ UQ => aQ = #[(.int p0), (.int p1)] ∧ Z.Warmed39 UQ.vm ∧ UQ.heap = h0) (fun _ _ _ _ _ => True) (fun _ UQ oQ UR => ∃ vQ LQ, oQ = .returned vQ ∧ Q2 Z p0 p1 h0 n0 vQ UR.heap LQ ∧ FrameEnd UQ oQ UR LQ ({ frames := 0, cells := 0, slots := 0, locals := 0 } : Room).cells ({ frames := 0, cells := 0, slots := 0, locals := 0 } : Room).slots) := by
  refine MetFree.of_bodySF (plainFor_of_name pn_0) hisR ?_
  intro p e s m args below meth c s₁ Bd hml0 hP hK
  obtain ⟨rfl, hZ, hh⟩ := hP
  have hx := Bd.exec
  have hby := Bd.bytes
  have hml : c.maxLocals = 2 := hml0
  have hown : s.vm.findClass "com/example/upupa/upupa/engine/ColumnsTransposeTimesPinLaw" = some m.cls := findClass_of_methodNamed Bd.named
  have hnm := (name_of_methodNamed Bd.named Bd.method).1
  have X0 : Stand p l e ({ frames := 0, cells := 0, slots := 0, locals := 0 } : Room) s m #[(.int p0), (.int p1)] below meth c s₁ [] 0 0 := Stand.of_body Bd
  have e0 : s₁.heap = h0 := by rw [← hh, Bd.state]; rfl
  have N0 := Fr.nil n0
  have K0 : Keep h0 h0 [] := Keep.refl _ _
  have first_ : Rn p e below (s₁.setTop (mkF m 0 #[.val (.int p0), .val (.int p1)] [])) (Fn2 Z p0 p1 h0 n0 s) := by
    generalize hG : (Fn2 Z p0 p1 h0 n0 s) = G
    refine R.iloadN X0 hx (hb hby d2_0) rfl (pc' := 1) rfl ?_
    refine R.iconst X0 hx (hb hby d2_1) (v := (2 : Int32)) (by decide) (pc' := 2) rfl ?_
    by_cases hc2 : p0 = (2 : Int32)
    · refine R.icmpNo X0 hx (hb hby d2_2) (teq hc2).2 (pc' := 5) rfl ?_
      refine R.iloadN X0 hx (hb hby d2_5) rfl (pc' := 6) rfl ?_
      by_cases hc6 : p1 = (0 : Int32)
      · refine R.ifNo X0 hx (hb hby d2_6) (teq hc6).2 (pc' := 9) rfl ?_
        refine R.iconst X0 hx (hb hby d2_9) (v := (1 : Int32)) (by decide) (pc' := 10) rfl ?_
        refine R.goto X0 hx (hb hby d2_10) (by decide) (pc' := 14) (by decide) ?_
        rw [← hG]
        exact Rn.ret X0 (BodyLoose.notSynchronized Bd) (v := some (.int (1 : Int32))) (fun h => by rw [Bd.returns] at h; cases h) (Q := Q2 Z p0 p1 h0 n0) e0 (fun fs hr => retOut X0 hx (t := .int) Bd.returns rfl (Or.inl ⟨rfl, Or.inl rfl, _, rfl⟩) (hb hby d2_14) hr) ⟨(by unfold own_rowB; rw [if_pos hc2, if_pos hc6]), N0, rfl⟩ (by decide) (by decide)
      · refine R.ifYes X0 hx (hb hby d2_6) (feq hc6).2 (by decide) (pc' := 13) (by decide) ?_
        refine R.iconst X0 hx (hb hby d2_13) (v := (2 : Int32)) (by decide) (pc' := 14) rfl ?_
        rw [← hG]
        exact Rn.ret X0 (BodyLoose.notSynchronized Bd) (v := some (.int (2 : Int32))) (fun h => by rw [Bd.returns] at h; cases h) (Q := Q2 Z p0 p1 h0 n0) e0 (fun fs hr => retOut X0 hx (t := .int) Bd.returns rfl (Or.inl ⟨rfl, Or.inl rfl, _, rfl⟩) (hb hby d2_14) hr) ⟨(by unfold own_rowB; rw [if_pos hc2, if_neg hc6]), N0, rfl⟩ (by decide) (by decide)
    · refine R.icmpYes X0 hx (hb hby d2_2) (feq hc2).2 (by decide) (pc' := 15) (by decide) ?_
      refine R.iconst X0 hx (hb hby d2_15) (v := (0 : Int32)) (by decide) (pc' := 16) rfl ?_
      rw [← hG]
      exact Rn.ret X0 (BodyLoose.notSynchronized Bd) (v := some (.int (0 : Int32))) (fun h => by rw [Bd.returns] at h; cases h) (Q := Q2 Z p0 p1 h0 n0) e0 (fun fs hr => retOut X0 hx (t := .int) Bd.returns rfl (Or.inl ⟨rfl, Or.inl rfl, _, rfl⟩) (hb hby d2_16) hr) ⟨(by unfold own_rowB; rw [if_neg hc2]), N0, rfl⟩ (by decide) (by decide)
  exact (Rn.st (fun t k => castTop (ef_2 m p0 p1) k) first_ : Rn p e below (s₁.setTop (entryFrame m #[(.int p0), (.int p1)] 2)) (Fn2 Z p0 p1 h0 n0 s))
theorem d3_0 : decode method_4_code 0 = .ok (.iload_n 0, 1) := by decide +kernel
theorem d3_1 : decode method_4_code 1 = .ok (.ifCond .ne 7, 3) := by decide +kernel
theorem d3_4 : decode method_4_code 4 = .ok (.iload_n 1, 1) := by decide +kernel
theorem d3_5 : decode method_4_code 5 = .ok (.i2s, 1) := by decide +kernel
theorem d3_6 : decode method_4_code 6 = .ok (.i2l, 1) := by decide +kernel
theorem d3_7 : decode method_4_code 7 = .ok (.lreturn, 1) := by decide +kernel
theorem d3_8 : decode method_4_code 8 = .ok (.iload_n 0, 1) := by decide +kernel
theorem d3_9 : decode method_4_code 9 = .ok (.iconst 1, 1) := by decide +kernel
theorem d3_10 : decode method_4_code 10 = .ok (.if_icmp .ne 9, 3) := by decide +kernel
theorem d3_13 : decode method_4_code 13 = .ok (.iload_n 1, 1) := by decide +kernel
theorem d3_14 : decode method_4_code 14 = .ok (.bipush 16, 2) := by decide +kernel
theorem d3_16 : decode method_4_code 16 = .ok (.ishr, 1) := by decide +kernel
theorem d3_17 : decode method_4_code 17 = .ok (.i2l, 1) := by decide +kernel
theorem d3_18 : decode method_4_code 18 = .ok (.lreturn, 1) := by decide +kernel
theorem d3_19 : decode method_4_code 19 = .ok (.iload_n 0, 1) := by decide +kernel
theorem d3_20 : decode method_4_code 20 = .ok (.iconst 2, 1) := by decide +kernel
theorem d3_21 : decode method_4_code 21 = .ok (.if_icmp .ne 7, 3) := by decide +kernel
theorem d3_24 : decode method_4_code 24 = .ok (.iload_n 2, 1) := by decide +kernel
theorem d3_25 : decode method_4_code 25 = .ok (.i2s, 1) := by decide +kernel
theorem d3_26 : decode method_4_code 26 = .ok (.i2l, 1) := by decide +kernel
theorem d3_27 : decode method_4_code 27 = .ok (.lreturn, 1) := by decide +kernel
theorem d3_28 : decode method_4_code 28 = .ok (.iload_n 2, 1) := by decide +kernel
theorem d3_29 : decode method_4_code 29 = .ok (.bipush 16, 2) := by decide +kernel
theorem d3_31 : decode method_4_code 31 = .ok (.ishr, 1) := by decide +kernel
theorem d3_32 : decode method_4_code 32 = .ok (.i2l, 1) := by decide +kernel
theorem d3_33 : decode method_4_code 33 = .ok (.lreturn, 1) := by decide +kernel
theorem ef_3 (m : MethodId) (x0 : Int32) (x1 : Int32) (x2 : Int32) : entryFrame m #[(.int x0), (.int x1), (.int x2)] 3 = mkF m 0 #[.val (.int x0), .val (.int x1), .val (.int x2)] [] := by first | (simp [entryFrame, mkF, argsToLocals, Value.category]; done) | rfl
def Q3 (Z : State) (p0 : Int32) (p1 : Int32) (p2 : Int32) (h0 : Heap) (n0 : Nat) (vQ : Option Value) (hQ_ : Heap) (LQ : List Loc) : Prop := vQ = some (.long (own_wAt p0 p1 p2)) ∧ Fr n0 LQ ∧ hQ_ = h0
def Fn3 (Z : State) (p0 : Int32) (p1 : Int32) (p2 : Int32) (h0 : Heap) (n0 : Nat) (sQ : State) (oQ : Outcome) (UQ : State) : Prop := ∃ vQ LQ, oQ = .returned vQ ∧ Q3 Z p0 p1 p2 h0 n0 vQ UQ.heap LQ ∧ FrameEnd sQ oQ UQ LQ ({ frames := 0, cells := 0, slots := 0, locals := 0 } : Room).cells ({ frames := 0, cells := 0, slots := 0, locals := 0 } : Room).slots
set_option maxRecDepth 65536 in
set_option maxHeartbeats 40000000 in
theorem rm3 (l : Launch) (Z : State) (aZ : Array Value) (hw : ∀ d ∈ tables_1, d.before aZ Z = true) (ws : List Jvm.Cond) (p0 : Int32) (p1 : Int32) (p2 : Int32) (h0 : Heap) (n0 : Nat) (Z0 : n0 ≤ h0.size) :
    MetFree l (⟨"com/example/upupa/upupa/engine/ColumnsTransposeTimesPinLaw", "wAt", "(III)J"⟩ : MethodName) (head1 (Jvm.Cond.code (⟨"com/example/upupa/upupa/engine/ColumnsTransposeTimesPinLaw", "wAt", "(III)J"⟩ : MethodName) method_4_code 3 (some .long) :: ws) ({ frames := 0, cells := 0, slots := 0, locals := 0 } : Room)) (fun aQ UQ => aQ = #[(.int p0), (.int p1), (.int p2)] ∧ Z.Warmed39 UQ.vm ∧ UQ.heap = h0) (fun _ _ _ _ _ => True) (fun _ UQ oQ UR => ∃ vQ LQ, oQ = .returned vQ ∧ Q3 Z p0 p1 p2 h0 n0 vQ UR.heap LQ ∧ FrameEnd UQ oQ UR LQ ({ frames := 0, cells := 0, slots := 0, locals := 0 } : Room).cells ({ frames := 0, cells := 0, slots := 0, locals := 0 } : Room).slots) := by
  refine MetFree.of_bodySF (plainFor_of_name pn_0) hisR ?_
  intro p e s m args below meth c s₁ Bd hml0 hP hK
  obtain ⟨rfl, hZ, hh⟩ := hP
  have hx := Bd.exec
  have hby := Bd.bytes
  have hml : c.maxLocals = 3 := hml0
  have hown : s.vm.findClass "com/example/upupa/upupa/engine/ColumnsTransposeTimesPinLaw" = some m.cls := findClass_of_methodNamed Bd.named
  have hnm := (name_of_methodNamed Bd.named Bd.method).1
  have X0 : Stand p l e ({ frames := 0, cells := 0, slots := 0, locals := 0 } : Room) s m #[(.int p0), (.int p1), (.int p2)] below meth c s₁ [] 0 0 := Stand.of_body Bd
  have e0 : s₁.heap = h0 := by rw [← hh, Bd.state]; rfl
  have N0 := Fr.nil n0
  have K0 : Keep h0 h0 [] := Keep.refl _ _
  have first_ : Rn p e below (s₁.setTop (mkF m 0 #[.val (.int p0), .val (.int p1), .val (.int p2)] [])) (Fn3 Z p0 p1 p2 h0 n0 s) := by
    generalize hG : (Fn3 Z p0 p1 p2 h0 n0 s) = G
    refine R.iloadN X0 hx (hb hby d3_0) rfl (pc' := 1) rfl ?_
    by_cases hc1 : p0 = (0 : Int32)
    · refine R.ifNo X0 hx (hb hby d3_1) (teq hc1).2 (pc' := 4) rfl ?_
      refine R.iloadN X0 hx (hb hby d3_4) rfl (pc' := 5) rfl ?_
      refine R.i2s X0 hx (hb hby d3_5) (pc' := 6) rfl ?_
      refine R.i2l X0 hx (hb hby d3_6) (pc' := 7) rfl ?_
      rw [← hG]
      exact Rn.ret X0 (BodyLoose.notSynchronized Bd) (v := some (.long ((p1.toInt16.toInt32).toInt64))) (fun h => by rw [Bd.returns] at h; cases h) (Q := Q3 Z p0 p1 p2 h0 n0) e0 (fun fs hr => retOut X0 hx (t := .long) Bd.returns rfl (Or.inr (Or.inl ⟨rfl, rfl, _, rfl⟩)) (hb hby d3_7) hr) ⟨(by unfold own_wAt; rw [if_pos hc1]), N0, rfl⟩ (by decide) (by decide)
    · refine R.ifYes X0 hx (hb hby d3_1) (feq hc1).2 (by decide) (pc' := 8) (by decide) ?_
      refine R.iloadN X0 hx (hb hby d3_8) rfl (pc' := 9) rfl ?_
      refine R.iconst X0 hx (hb hby d3_9) (v := (1 : Int32)) (by decide) (pc' := 10) rfl ?_
      by_cases hc10 : p0 = (1 : Int32)
      · refine R.icmpNo X0 hx (hb hby d3_10) (teq hc10).2 (pc' := 13) rfl ?_
        refine R.iloadN X0 hx (hb hby d3_13) rfl (pc' := 14) rfl ?_
        refine R.bipush X0 hx (hb hby d3_14) (v := (16 : Int32)) (by decide) (pc' := 16) rfl ?_
        refine R.ishr X0 hx (hb hby d3_16) (pc' := 17) rfl ?_
        refine R.i2l X0 hx (hb hby d3_17) (pc' := 18) rfl ?_
        rw [← hG]
        exact Rn.ret X0 (BodyLoose.notSynchronized Bd) (v := some (.long ((p1 >>> ((16 : Int32) &&& 31)).toInt64))) (fun h => by rw [Bd.returns] at h; cases h) (Q := Q3 Z p0 p1 p2 h0 n0) e0 (fun fs hr => retOut X0 hx (t := .long) Bd.returns rfl (Or.inr (Or.inl ⟨rfl, rfl, _, rfl⟩)) (hb hby d3_18) hr) ⟨(by unfold own_wAt; rw [if_neg hc1, if_pos hc10]), N0, rfl⟩ (by decide) (by decide)
      · refine R.icmpYes X0 hx (hb hby d3_10) (feq hc10).2 (by decide) (pc' := 19) (by decide) ?_
        refine R.iloadN X0 hx (hb hby d3_19) rfl (pc' := 20) rfl ?_
        refine R.iconst X0 hx (hb hby d3_20) (v := (2 : Int32)) (by decide) (pc' := 21) rfl ?_
        by_cases hc21 : p0 = (2 : Int32)
        · refine R.icmpNo X0 hx (hb hby d3_21) (teq hc21).2 (pc' := 24) rfl ?_
          refine R.iloadN X0 hx (hb hby d3_24) rfl (pc' := 25) rfl ?_
          refine R.i2s X0 hx (hb hby d3_25) (pc' := 26) rfl ?_
          refine R.i2l X0 hx (hb hby d3_26) (pc' := 27) rfl ?_
          rw [← hG]
          exact Rn.ret X0 (BodyLoose.notSynchronized Bd) (v := some (.long ((p2.toInt16.toInt32).toInt64))) (fun h => by rw [Bd.returns] at h; cases h) (Q := Q3 Z p0 p1 p2 h0 n0) e0 (fun fs hr => retOut X0 hx (t := .long) Bd.returns rfl (Or.inr (Or.inl ⟨rfl, rfl, _, rfl⟩)) (hb hby d3_27) hr) ⟨(by unfold own_wAt; rw [if_neg hc1, if_neg hc10, if_pos hc21]), N0, rfl⟩ (by decide) (by decide)
        · refine R.icmpYes X0 hx (hb hby d3_21) (feq hc21).2 (by decide) (pc' := 28) (by decide) ?_
          refine R.iloadN X0 hx (hb hby d3_28) rfl (pc' := 29) rfl ?_
          refine R.bipush X0 hx (hb hby d3_29) (v := (16 : Int32)) (by decide) (pc' := 31) rfl ?_
          refine R.ishr X0 hx (hb hby d3_31) (pc' := 32) rfl ?_
          refine R.i2l X0 hx (hb hby d3_32) (pc' := 33) rfl ?_
          rw [← hG]
          exact Rn.ret X0 (BodyLoose.notSynchronized Bd) (v := some (.long ((p2 >>> ((16 : Int32) &&& 31)).toInt64))) (fun h => by rw [Bd.returns] at h; cases h) (Q := Q3 Z p0 p1 p2 h0 n0) e0 (fun fs hr => retOut X0 hx (t := .long) Bd.returns rfl (Or.inr (Or.inl ⟨rfl, rfl, _, rfl⟩)) (hb hby d3_33) hr) ⟨(by unfold own_wAt; rw [if_neg hc1, if_neg hc10, if_neg hc21]), N0, rfl⟩ (by decide) (by decide)
  exact (Rn.st (fun t k => castTop (ef_3 m p0 p1 p2) k) first_ : Rn p e below (s₁.setTop (entryFrame m #[(.int p0), (.int p1), (.int p2)] 3)) (Fn3 Z p0 p1 p2 h0 n0 s))
theorem d4_0 : decode method_5_code 0 = .ok (.iload_n 0, 1) := by decide +kernel
theorem d4_1 : decode method_5_code 1 = .ok (.ifCond .ne 7, 3) := by decide +kernel
theorem d4_4 : decode method_5_code 4 = .ok (.iload_n 1, 1) := by decide +kernel
theorem d4_5 : decode method_5_code 5 = .ok (.i2s, 1) := by decide +kernel
theorem d4_6 : decode method_5_code 6 = .ok (.i2l, 1) := by decide +kernel
theorem d4_7 : decode method_5_code 7 = .ok (.lreturn, 1) := by decide +kernel
theorem d4_8 : decode method_5_code 8 = .ok (.iload_n 0, 1) := by decide +kernel
theorem d4_9 : decode method_5_code 9 = .ok (.iconst 1, 1) := by decide +kernel
theorem d4_10 : decode method_5_code 10 = .ok (.if_icmp .ne 9, 3) := by decide +kernel
theorem d4_13 : decode method_5_code 13 = .ok (.iload_n 1, 1) := by decide +kernel
theorem d4_14 : decode method_5_code 14 = .ok (.bipush 16, 2) := by decide +kernel
theorem d4_16 : decode method_5_code 16 = .ok (.ishr, 1) := by decide +kernel
theorem d4_17 : decode method_5_code 17 = .ok (.i2l, 1) := by decide +kernel
theorem d4_18 : decode method_5_code 18 = .ok (.lreturn, 1) := by decide +kernel
theorem d4_19 : decode method_5_code 19 = .ok (.iload_n 0, 1) := by decide +kernel
theorem d4_20 : decode method_5_code 20 = .ok (.iconst 2, 1) := by decide +kernel
theorem d4_21 : decode method_5_code 21 = .ok (.if_icmp .ne 7, 3) := by decide +kernel
theorem d4_24 : decode method_5_code 24 = .ok (.iload_n 2, 1) := by decide +kernel
theorem d4_25 : decode method_5_code 25 = .ok (.i2s, 1) := by decide +kernel
theorem d4_26 : decode method_5_code 26 = .ok (.i2l, 1) := by decide +kernel
theorem d4_27 : decode method_5_code 27 = .ok (.lreturn, 1) := by decide +kernel
theorem d4_28 : decode method_5_code 28 = .ok (.iload_n 0, 1) := by decide +kernel
theorem d4_29 : decode method_5_code 29 = .ok (.iconst 3, 1) := by decide +kernel
theorem d4_30 : decode method_5_code 30 = .ok (.if_icmp .ne 9, 3) := by decide +kernel
theorem d4_33 : decode method_5_code 33 = .ok (.iload_n 2, 1) := by decide +kernel
theorem d4_34 : decode method_5_code 34 = .ok (.bipush 16, 2) := by decide +kernel
theorem d4_36 : decode method_5_code 36 = .ok (.ishr, 1) := by decide +kernel
theorem d4_37 : decode method_5_code 37 = .ok (.i2l, 1) := by decide +kernel
theorem d4_38 : decode method_5_code 38 = .ok (.lreturn, 1) := by decide +kernel
theorem d4_39 : decode method_5_code 39 = .ok (.iload_n 0, 1) := by decide +kernel
theorem d4_40 : decode method_5_code 40 = .ok (.iconst 4, 1) := by decide +kernel
theorem d4_41 : decode method_5_code 41 = .ok (.if_icmp .ne 7, 3) := by decide +kernel
theorem d4_44 : decode method_5_code 44 = .ok (.iload_n 3, 1) := by decide +kernel
theorem d4_45 : decode method_5_code 45 = .ok (.i2s, 1) := by decide +kernel
theorem d4_46 : decode method_5_code 46 = .ok (.i2l, 1) := by decide +kernel
theorem d4_47 : decode method_5_code 47 = .ok (.lreturn, 1) := by decide +kernel
theorem d4_48 : decode method_5_code 48 = .ok (.iload_n 3, 1) := by decide +kernel
theorem d4_49 : decode method_5_code 49 = .ok (.bipush 16, 2) := by decide +kernel
theorem d4_51 : decode method_5_code 51 = .ok (.ishr, 1) := by decide +kernel
theorem d4_52 : decode method_5_code 52 = .ok (.i2l, 1) := by decide +kernel
theorem d4_53 : decode method_5_code 53 = .ok (.lreturn, 1) := by decide +kernel
theorem ef_4 (m : MethodId) (x0 : Int32) (x1 : Int32) (x2 : Int32) (x3 : Int32) : entryFrame m #[(.int x0), (.int x1), (.int x2), (.int x3)] 4 = mkF m 0 #[.val (.int x0), .val (.int x1), .val (.int x2), .val (.int x3)] [] := by first | (simp [entryFrame, mkF, argsToLocals, Value.category]; done) | rfl
def Q4 (Z : State) (p0 : Int32) (p1 : Int32) (p2 : Int32) (p3 : Int32) (h0 : Heap) (n0 : Nat) (vQ : Option Value) (hQ_ : Heap) (LQ : List Loc) : Prop := vQ = some (.long (own_yAt p0 p1 p2 p3)) ∧ Fr n0 LQ ∧ hQ_ = h0
def Fn4 (Z : State) (p0 : Int32) (p1 : Int32) (p2 : Int32) (p3 : Int32) (h0 : Heap) (n0 : Nat) (sQ : State) (oQ : Outcome) (UQ : State) : Prop := ∃ vQ LQ, oQ = .returned vQ ∧ Q4 Z p0 p1 p2 p3 h0 n0 vQ UQ.heap LQ ∧ FrameEnd sQ oQ UQ LQ ({ frames := 0, cells := 0, slots := 0, locals := 0 } : Room).cells ({ frames := 0, cells := 0, slots := 0, locals := 0 } : Room).slots
set_option maxRecDepth 65536 in
set_option maxHeartbeats 40000000 in
theorem rm4 (l : Launch) (Z : State) (aZ : Array Value) (hw : ∀ d ∈ tables_1, d.before aZ Z = true) (ws : List Jvm.Cond) (p0 : Int32) (p1 : Int32) (p2 : Int32) (p3 : Int32) (h0 : Heap) (n0 : Nat) (Z0 : n0 ≤ h0.size) :
    MetFree l (⟨"com/example/upupa/upupa/engine/ColumnsTransposeTimesPinLaw", "yAt", "(IIII)J"⟩ : MethodName) (head1 (Jvm.Cond.code (⟨"com/example/upupa/upupa/engine/ColumnsTransposeTimesPinLaw", "yAt", "(IIII)J"⟩ : MethodName) method_5_code 4 (some .long) :: ws) ({ frames := 0, cells := 0, slots := 0, locals := 0 } : Room)) (fun aQ UQ => aQ = #[(.int p0), (.int p1), (.int p2), (.int p3)] ∧ Z.Warmed39 UQ.vm ∧ UQ.heap = h0) (fun _ _ _ _ _ => True) (fun _ UQ oQ UR => ∃ vQ LQ, oQ = .returned vQ ∧ Q4 Z p0 p1 p2 p3 h0 n0 vQ UR.heap LQ ∧ FrameEnd UQ oQ UR LQ ({ frames := 0, cells := 0, slots := 0, locals := 0 } : Room).cells ({ frames := 0, cells := 0, slots := 0, locals := 0 } : Room).slots) := by
  refine MetFree.of_bodySF (plainFor_of_name pn_0) hisR ?_
  intro p e s m args below meth c s₁ Bd hml0 hP hK
  obtain ⟨rfl, hZ, hh⟩ := hP
  have hx := Bd.exec
  have hby := Bd.bytes
  have hml : c.maxLocals = 4 := hml0
  have hown : s.vm.findClass "com/example/upupa/upupa/engine/ColumnsTransposeTimesPinLaw" = some m.cls := findClass_of_methodNamed Bd.named
  have hnm := (name_of_methodNamed Bd.named Bd.method).1
  have X0 : Stand p l e ({ frames := 0, cells := 0, slots := 0, locals := 0 } : Room) s m #[(.int p0), (.int p1), (.int p2), (.int p3)] below meth c s₁ [] 0 0 := Stand.of_body Bd
  have e0 : s₁.heap = h0 := by rw [← hh, Bd.state]; rfl
  have N0 := Fr.nil n0
  have K0 : Keep h0 h0 [] := Keep.refl _ _
  have first_ : Rn p e below (s₁.setTop (mkF m 0 #[.val (.int p0), .val (.int p1), .val (.int p2), .val (.int p3)] [])) (Fn4 Z p0 p1 p2 p3 h0 n0 s) := by
    generalize hG : (Fn4 Z p0 p1 p2 p3 h0 n0 s) = G
    refine R.iloadN X0 hx (hb hby d4_0) rfl (pc' := 1) rfl ?_
    by_cases hc1 : p0 = (0 : Int32)
    · refine R.ifNo X0 hx (hb hby d4_1) (teq hc1).2 (pc' := 4) rfl ?_
      refine R.iloadN X0 hx (hb hby d4_4) rfl (pc' := 5) rfl ?_
      refine R.i2s X0 hx (hb hby d4_5) (pc' := 6) rfl ?_
      refine R.i2l X0 hx (hb hby d4_6) (pc' := 7) rfl ?_
      rw [← hG]
      exact Rn.ret X0 (BodyLoose.notSynchronized Bd) (v := some (.long ((p1.toInt16.toInt32).toInt64))) (fun h => by rw [Bd.returns] at h; cases h) (Q := Q4 Z p0 p1 p2 p3 h0 n0) e0 (fun fs hr => retOut X0 hx (t := .long) Bd.returns rfl (Or.inr (Or.inl ⟨rfl, rfl, _, rfl⟩)) (hb hby d4_7) hr) ⟨(by unfold own_yAt; rw [if_pos hc1]), N0, rfl⟩ (by decide) (by decide)
    · refine R.ifYes X0 hx (hb hby d4_1) (feq hc1).2 (by decide) (pc' := 8) (by decide) ?_
      refine R.iloadN X0 hx (hb hby d4_8) rfl (pc' := 9) rfl ?_
      refine R.iconst X0 hx (hb hby d4_9) (v := (1 : Int32)) (by decide) (pc' := 10) rfl ?_
      by_cases hc10 : p0 = (1 : Int32)
      · refine R.icmpNo X0 hx (hb hby d4_10) (teq hc10).2 (pc' := 13) rfl ?_
        refine R.iloadN X0 hx (hb hby d4_13) rfl (pc' := 14) rfl ?_
        refine R.bipush X0 hx (hb hby d4_14) (v := (16 : Int32)) (by decide) (pc' := 16) rfl ?_
        refine R.ishr X0 hx (hb hby d4_16) (pc' := 17) rfl ?_
        refine R.i2l X0 hx (hb hby d4_17) (pc' := 18) rfl ?_
        rw [← hG]
        exact Rn.ret X0 (BodyLoose.notSynchronized Bd) (v := some (.long ((p1 >>> ((16 : Int32) &&& 31)).toInt64))) (fun h => by rw [Bd.returns] at h; cases h) (Q := Q4 Z p0 p1 p2 p3 h0 n0) e0 (fun fs hr => retOut X0 hx (t := .long) Bd.returns rfl (Or.inr (Or.inl ⟨rfl, rfl, _, rfl⟩)) (hb hby d4_18) hr) ⟨(by unfold own_yAt; rw [if_neg hc1, if_pos hc10]), N0, rfl⟩ (by decide) (by decide)
      · refine R.icmpYes X0 hx (hb hby d4_10) (feq hc10).2 (by decide) (pc' := 19) (by decide) ?_
        refine R.iloadN X0 hx (hb hby d4_19) rfl (pc' := 20) rfl ?_
        refine R.iconst X0 hx (hb hby d4_20) (v := (2 : Int32)) (by decide) (pc' := 21) rfl ?_
        by_cases hc21 : p0 = (2 : Int32)
        · refine R.icmpNo X0 hx (hb hby d4_21) (teq hc21).2 (pc' := 24) rfl ?_
          refine R.iloadN X0 hx (hb hby d4_24) rfl (pc' := 25) rfl ?_
          refine R.i2s X0 hx (hb hby d4_25) (pc' := 26) rfl ?_
          refine R.i2l X0 hx (hb hby d4_26) (pc' := 27) rfl ?_
          rw [← hG]
          exact Rn.ret X0 (BodyLoose.notSynchronized Bd) (v := some (.long ((p2.toInt16.toInt32).toInt64))) (fun h => by rw [Bd.returns] at h; cases h) (Q := Q4 Z p0 p1 p2 p3 h0 n0) e0 (fun fs hr => retOut X0 hx (t := .long) Bd.returns rfl (Or.inr (Or.inl ⟨rfl, rfl, _, rfl⟩)) (hb hby d4_27) hr) ⟨(by unfold own_yAt; rw [if_neg hc1, if_neg hc10, if_pos hc21]), N0, rfl⟩ (by decide) (by decide)
        · refine R.icmpYes X0 hx (hb hby d4_21) (feq hc21).2 (by decide) (pc' := 28) (by decide) ?_
          refine R.iloadN X0 hx (hb hby d4_28) rfl (pc' := 29) rfl ?_
          refine R.iconst X0 hx (hb hby d4_29) (v := (3 : Int32)) (by decide) (pc' := 30) rfl ?_
          by_cases hc30 : p0 = (3 : Int32)
          · refine R.icmpNo X0 hx (hb hby d4_30) (teq hc30).2 (pc' := 33) rfl ?_
            refine R.iloadN X0 hx (hb hby d4_33) rfl (pc' := 34) rfl ?_
            refine R.bipush X0 hx (hb hby d4_34) (v := (16 : Int32)) (by decide) (pc' := 36) rfl ?_
            refine R.ishr X0 hx (hb hby d4_36) (pc' := 37) rfl ?_
            refine R.i2l X0 hx (hb hby d4_37) (pc' := 38) rfl ?_
            rw [← hG]
            exact Rn.ret X0 (BodyLoose.notSynchronized Bd) (v := some (.long ((p2 >>> ((16 : Int32) &&& 31)).toInt64))) (fun h => by rw [Bd.returns] at h; cases h) (Q := Q4 Z p0 p1 p2 p3 h0 n0) e0 (fun fs hr => retOut X0 hx (t := .long) Bd.returns rfl (Or.inr (Or.inl ⟨rfl, rfl, _, rfl⟩)) (hb hby d4_38) hr) ⟨(by unfold own_yAt; rw [if_neg hc1, if_neg hc10, if_neg hc21, if_pos hc30]), N0, rfl⟩ (by decide) (by decide)
          · refine R.icmpYes X0 hx (hb hby d4_30) (feq hc30).2 (by decide) (pc' := 39) (by decide) ?_
            refine R.iloadN X0 hx (hb hby d4_39) rfl (pc' := 40) rfl ?_
            refine R.iconst X0 hx (hb hby d4_40) (v := (4 : Int32)) (by decide) (pc' := 41) rfl ?_
            by_cases hc41 : p0 = (4 : Int32)
            · refine R.icmpNo X0 hx (hb hby d4_41) (teq hc41).2 (pc' := 44) rfl ?_
              refine R.iloadN X0 hx (hb hby d4_44) rfl (pc' := 45) rfl ?_
              refine R.i2s X0 hx (hb hby d4_45) (pc' := 46) rfl ?_
              refine R.i2l X0 hx (hb hby d4_46) (pc' := 47) rfl ?_
              rw [← hG]
              exact Rn.ret X0 (BodyLoose.notSynchronized Bd) (v := some (.long ((p3.toInt16.toInt32).toInt64))) (fun h => by rw [Bd.returns] at h; cases h) (Q := Q4 Z p0 p1 p2 p3 h0 n0) e0 (fun fs hr => retOut X0 hx (t := .long) Bd.returns rfl (Or.inr (Or.inl ⟨rfl, rfl, _, rfl⟩)) (hb hby d4_47) hr) ⟨(by unfold own_yAt; rw [if_neg hc1, if_neg hc10, if_neg hc21, if_neg hc30, if_pos hc41]), N0, rfl⟩ (by decide) (by decide)
            · refine R.icmpYes X0 hx (hb hby d4_41) (feq hc41).2 (by decide) (pc' := 48) (by decide) ?_
              refine R.iloadN X0 hx (hb hby d4_48) rfl (pc' := 49) rfl ?_
              refine R.bipush X0 hx (hb hby d4_49) (v := (16 : Int32)) (by decide) (pc' := 51) rfl ?_
              refine R.ishr X0 hx (hb hby d4_51) (pc' := 52) rfl ?_
              refine R.i2l X0 hx (hb hby d4_52) (pc' := 53) rfl ?_
              rw [← hG]
              exact Rn.ret X0 (BodyLoose.notSynchronized Bd) (v := some (.long ((p3 >>> ((16 : Int32) &&& 31)).toInt64))) (fun h => by rw [Bd.returns] at h; cases h) (Q := Q4 Z p0 p1 p2 p3 h0 n0) e0 (fun fs hr => retOut X0 hx (t := .long) Bd.returns rfl (Or.inr (Or.inl ⟨rfl, rfl, _, rfl⟩)) (hb hby d4_53) hr) ⟨(by unfold own_yAt; rw [if_neg hc1, if_neg hc10, if_neg hc21, if_neg hc30, if_neg hc41]), N0, rfl⟩ (by decide) (by decide)
  exact (Rn.st (fun t k => castTop (ef_4 m p0 p1 p2 p3) k) first_ : Rn p e below (s₁.setTop (entryFrame m #[(.int p0), (.int p1), (.int p2), (.int p3)] 4)) (Fn4 Z p0 p1 p2 p3 h0 n0 s))
theorem d6_0 : decode jdk_30_method_1_code 0 = .ok (.aload_n 0, 1) := by decide +kernel
theorem d6_1 : decode jdk_30_method_1_code 1 = .ok (.invokespecial 1, 3) := by decide +kernel
theorem d6_4 : decode jdk_30_method_1_code 4 = .ok (.return_, 1) := by decide +kernel
theorem pn_1 : plainName "java/lang/Record" = true := by first | (simp [plainName, overriddenIn]; done) | decide +kernel
theorem ef_6 (m : MethodId) (x0 : Addr) : entryFrame m #[(.ref x0)] 1 = mkF m 0 #[.val (.ref x0)] [] := by first | (simp [entryFrame, mkF, argsToLocals, Value.category]; done) | rfl
def Q6 (Z : State) (a0 : Addr) (h0 : Heap) (n0 : Nat) (vQ : Option Value) (hQ_ : Heap) (LQ : List Loc) : Prop := vQ = none ∧ Fr n0 LQ ∧ hQ_ = h0
def Fn6 (Z : State) (a0 : Addr) (h0 : Heap) (n0 : Nat) (sQ : State) (oQ : Outcome) (UQ : State) : Prop := ∃ vQ LQ, oQ = .returned vQ ∧ Q6 Z a0 h0 n0 vQ UQ.heap LQ ∧ FrameEnd sQ oQ UQ LQ ({ frames := 1, cells := 0, slots := 0, locals := 12 } : Room).cells ({ frames := 1, cells := 0, slots := 0, locals := 12 } : Room).slots
set_option maxRecDepth 65536 in
set_option maxHeartbeats 40000000 in
theorem rm6 (l : Launch) (Z : State) (aZ : Array Value) (hw : ∀ d ∈ tables_1, d.before aZ Z = true) (ws : List Jvm.Cond) (a0 : Addr) (h0 : Heap) (n0 : Nat) (Z0 : n0 ≤ h0.size) :
    MetFree l (⟨"java/lang/Record", "<init>", "()V"⟩ : MethodName) (head1 (Jvm.Cond.code (⟨"java/lang/Record", "<init>", "()V"⟩ : MethodName) jdk_30_method_1_code 1 none :: ws) ({ frames := 1, cells := 0, slots := 0, locals := 12 } : Room)) (fun aQ UQ => aQ = #[(.ref a0)] ∧ Z.Warmed39 UQ.vm ∧ UQ.heap = h0) (fun _ _ _ _ _ => True) (fun _ UQ oQ UR => ∃ vQ LQ, oQ = .returned vQ ∧ Q6 Z a0 h0 n0 vQ UR.heap LQ ∧ FrameEnd UQ oQ UR LQ ({ frames := 1, cells := 0, slots := 0, locals := 12 } : Room).cells ({ frames := 1, cells := 0, slots := 0, locals := 12 } : Room).slots) := by
  refine MetFree.of_bodySF (plainFor_of_name pn_1) hisR ?_
  intro p e s m args below meth c s₁ Bd hml0 hP hK
  obtain ⟨rfl, hZ, hh⟩ := hP
  have hx := Bd.exec
  have hby := Bd.bytes
  have hml : c.maxLocals = 1 := hml0
  have hown : s.vm.findClass "java/lang/Record" = some m.cls := findClass_of_methodNamed Bd.named
  have hnm := (name_of_methodNamed Bd.named Bd.method).1
  have X0 : Stand p l e ({ frames := 1, cells := 0, slots := 0, locals := 12 } : Room) s m #[(.ref a0)] below meth c s₁ [] 0 0 := Stand.of_body Bd
  have e0 : s₁.heap = h0 := by rw [← hh, Bd.state]; rfl
  have N0 := Fr.nil n0
  have K0 : Keep h0 h0 [] := Keep.refl _ _
  have w_27 := hw _ (List.mem_of_getElem? (i := 27) rfl)
  have w_28 := hw _ (List.mem_of_getElem? (i := 28) rfl)
  have w_29 := hw _ (List.mem_of_getElem? (i := 29) rfl)
  have first_ : Rn p e below (s₁.setTop (mkF m 0 #[.val (.ref a0)] [])) (Fn6 Z a0 h0 n0 s) := by
    generalize hG : (Fn6 Z a0 h0 n0 s) = G
    refine R.aloadN X0 hx (hb hby d6_0) rfl rfl (pc' := 1) rfl ?_
    refine R.initO X0 hx hZ hown w_27 w_28 w_29 e0 (by rw [hml]; rfl) (hb hby d6_1) (pc' := 4) rfl (by decide) (W := 0) (Nat.le_of_eq rfl) (by decide) ?_; intro T1 X1 e1
    rw [← hG]
    exact Rn.ret X1 (BodyLoose.notSynchronized Bd) (v := none) (fun _ => rfl) (Q := Q6 Z a0 h0 n0) e1 (fun fs hr => X1.returnOut hx Bd.returns (hb hby d6_4) hr) ⟨rfl, N0, rfl⟩ (by decide) (by decide)
  exact (Rn.st (fun t k => castTop (ef_6 m a0) k) first_ : Rn p e below (s₁.setTop (entryFrame m #[(.ref a0)] 1)) (Fn6 Z a0 h0 n0 s))
theorem d5_0 : decode prog_4_method_1_code 0 = .ok (.aload_n 0, 1) := by decide +kernel
theorem d5_1 : decode prog_4_method_1_code 1 = .ok (.invokespecial 1, 3) := by decide +kernel
theorem pd_0 : parseMethodDescriptor "()V" = some ⟨[], none⟩ := by decide +kernel
abbrev mY0 : MethodName := (⟨"java/lang/Record", "<init>", "()V"⟩ : MethodName)
theorem d5_4 : decode prog_4_method_1_code 4 = .ok (.aload_n 0, 1) := by decide +kernel
theorem d5_5 : decode prog_4_method_1_code 5 = .ok (.iload_n 1, 1) := by decide +kernel
theorem d5_6 : decode prog_4_method_1_code 6 = .ok (.putfield 7, 3) := by decide +kernel
theorem d5_9 : decode prog_4_method_1_code 9 = .ok (.aload_n 0, 1) := by decide +kernel
theorem d5_10 : decode prog_4_method_1_code 10 = .ok (.aload_n 2, 1) := by decide +kernel
theorem d5_11 : decode prog_4_method_1_code 11 = .ok (.putfield 13, 3) := by decide +kernel
theorem d5_14 : decode prog_4_method_1_code 14 = .ok (.aload_n 0, 1) := by decide +kernel
theorem d5_15 : decode prog_4_method_1_code 15 = .ok (.aload_n 3, 1) := by decide +kernel
theorem d5_16 : decode prog_4_method_1_code 16 = .ok (.putfield 17, 3) := by decide +kernel
theorem d5_19 : decode prog_4_method_1_code 19 = .ok (.aload_n 0, 1) := by decide +kernel
theorem d5_20 : decode prog_4_method_1_code 20 = .ok (.aload 4, 2) := by decide +kernel
theorem d5_22 : decode prog_4_method_1_code 22 = .ok (.putfield 20, 3) := by decide +kernel
theorem d5_25 : decode prog_4_method_1_code 25 = .ok (.return_, 1) := by decide +kernel
theorem pn_2 : plainName "com/example/upupa/upupa/engine/SubspaceIteration$Columns" = true := by first | (simp [plainName, overriddenIn]; done) | decide +kernel
theorem ef_5 (m : MethodId) (x0 : Addr) (x1 : Int32) (x2 : Addr) (x3 : Addr) (x4 : Addr) : entryFrame m #[(.ref x0), (.int x1), (.ref x2), (.ref x3), (.ref x4)] 5 = mkF m 0 #[.val (.ref x0), .val (.int x1), .val (.ref x2), .val (.ref x3), .val (.ref x4)] [] := by first | (simp [entryFrame, mkF, argsToLocals, Value.category]; done) | rfl
def Q5 (Z : State) (a0 : Addr) (p1 : Int32) (a2 : Addr) (a3 : Addr) (a4 : Addr) (h0 : Heap) (n0 : Nat) (vQ : Option Value) (hQ_ : Heap) (LQ : List Loc) : Prop := vQ = none ∧ Fr n0 LQ ∧ Keep h0 hQ_ [a0] ∧ (Exa Z hQ_ a0 "com/example/upupa/upupa/engine/SubspaceIteration$Columns") ∧ (Fld Z hQ_ a0 "com/example/upupa/upupa/engine/SubspaceIteration$Columns" "start" "[I" (.ref a2)) ∧ (Fld Z hQ_ a0 "com/example/upupa/upupa/engine/SubspaceIteration$Columns" "rows" "[I" (.ref a3)) ∧ (Fld Z hQ_ a0 "com/example/upupa/upupa/engine/SubspaceIteration$Columns" "values" "[D" (.ref a4))
def Fn5 (Z : State) (a0 : Addr) (p1 : Int32) (a2 : Addr) (a3 : Addr) (a4 : Addr) (h0 : Heap) (n0 : Nat) (sQ : State) (oQ : Outcome) (UQ : State) : Prop := ∃ vQ LQ, oQ = .returned vQ ∧ Q5 Z a0 p1 a2 a3 a4 h0 n0 vQ UQ.heap LQ ∧ FrameEnd sQ oQ UQ LQ ({ frames := 2, cells := 0, slots := 0, locals := 24 } : Room).cells ({ frames := 2, cells := 0, slots := 0, locals := 24 } : Room).slots
set_option maxRecDepth 65536 in
set_option maxHeartbeats 40000000 in
theorem rm5 (l : Launch) (Z : State) (aZ : Array Value) (hw : ∀ d ∈ tables_1, d.before aZ Z = true) (ws : List Jvm.Cond) (a0 : Addr) (p1 : Int32) (a2 : Addr) (a3 : Addr) (a4 : Addr) (h0 : Heap) (n0 : Nat) (Z0 : n0 ≤ h0.size) (E_a0 : Exa Z h0 a0 "com/example/upupa/upupa/engine/SubspaceIteration$Columns") (F_rowCount_a0 : Fld Z h0 a0 "com/example/upupa/upupa/engine/SubspaceIteration$Columns" "rowCount" "I" (.int (0 : Int32))) (F_start_a0 : Fld Z h0 a0 "com/example/upupa/upupa/engine/SubspaceIteration$Columns" "start" "[I" .null) (F_rows_a0 : Fld Z h0 a0 "com/example/upupa/upupa/engine/SubspaceIteration$Columns" "rows" "[I" .null) (F_values_a0 : Fld Z h0 a0 "com/example/upupa/upupa/engine/SubspaceIteration$Columns" "values" "[D" .null) (g_a0 : n0 ≤ a0) :
    MetFree l (⟨"com/example/upupa/upupa/engine/SubspaceIteration$Columns", "<init>", "(I[I[I[D)V"⟩ : MethodName) (head1 (Jvm.Cond.code (⟨"com/example/upupa/upupa/engine/SubspaceIteration$Columns", "<init>", "(I[I[I[D)V"⟩ : MethodName) prog_4_method_1_code 5 none :: ws) ({ frames := 2, cells := 0, slots := 0, locals := 24 } : Room)) (fun aQ UQ => aQ = #[(.ref a0), (.int p1), (.ref a2), (.ref a3), (.ref a4)] ∧ Z.Warmed39 UQ.vm ∧ UQ.heap = h0) (fun _ _ _ _ _ => True) (fun _ UQ oQ UR => ∃ vQ LQ, oQ = .returned vQ ∧ Q5 Z a0 p1 a2 a3 a4 h0 n0 vQ UR.heap LQ ∧ FrameEnd UQ oQ UR LQ ({ frames := 2, cells := 0, slots := 0, locals := 24 } : Room).cells ({ frames := 2, cells := 0, slots := 0, locals := 24 } : Room).slots) := by
  refine MetFree.of_bodySF (plainFor_of_name pn_2) hisR ?_
  intro p e s m args below meth c s₁ Bd hml0 hP hK
  obtain ⟨rfl, hZ, hh⟩ := hP
  have hx := Bd.exec
  have hby := Bd.bytes
  have hml : c.maxLocals = 5 := hml0
  have hown : s.vm.findClass "com/example/upupa/upupa/engine/SubspaceIteration$Columns" = some m.cls := findClass_of_methodNamed Bd.named
  have hnm := (name_of_methodNamed Bd.named Bd.method).1
  have X0 : Stand p l e ({ frames := 2, cells := 0, slots := 0, locals := 24 } : Room) s m #[(.ref a0), (.int p1), (.ref a2), (.ref a3), (.ref a4)] below meth c s₁ [] 0 0 := Stand.of_body Bd
  have e0 : s₁.heap = h0 := by rw [← hh, Bd.state]; rfl
  have N0 := Fr.nil n0
  have K0 : Keep h0 h0 [a0] := Keep.refl _ _
  have w_17 := hw _ (List.mem_of_getElem? (i := 17) rfl)
  have w_22 := hw _ (List.mem_of_getElem? (i := 22) rfl)
  have w_23 := hw _ (List.mem_of_getElem? (i := 23) rfl)
  have w_25 := hw _ (List.mem_of_getElem? (i := 25) rfl)
  have w_26 := hw _ (List.mem_of_getElem? (i := 26) rfl)
  have w_30 := hw _ (List.mem_of_getElem? (i := 30) rfl)
  have w_31 := hw _ (List.mem_of_getElem? (i := 31) rfl)
  have w_32 := hw _ (List.mem_of_getElem? (i := 32) rfl)
  have w_33 := hw _ (List.mem_of_getElem? (i := 33) rfl)
  have w_34 := hw _ (List.mem_of_getElem? (i := 34) rfl)
  have w_35 := hw _ (List.mem_of_getElem? (i := 35) rfl)
  have w_36 := hw _ (List.mem_of_getElem? (i := 36) rfl)
  have w_37 := hw _ (List.mem_of_getElem? (i := 37) rfl)
  have first_ : Rn p e below (s₁.setTop (mkF m 0 #[.val (.ref a0), .val (.int p1), .val (.ref a2), .val (.ref a3), .val (.ref a4)] [])) (Fn5 Z a0 p1 a2 a3 a4 h0 n0 s) := by
    generalize hG : (Fn5 Z a0 p1 a2 a3 a4 h0 n0 s) = G
    refine R.aloadN X0 hx (hb hby d5_0) rfl rfl (pc' := 1) rfl ?_
    refine R.special X0 hx hZ (y := mY0) rfl hown w_22 w_23 w_25 w_26 (by decide) e0 (rm6 l Z aZ hw [] a0 h0 n0 Z0 ) (by decide) (W := 0) (Nat.le_of_eq rfl) (by decide) (by rw [hml]; rfl) (lenOf pd_0 rfl) rfl (hb hby d5_1) (pc' := 4) rfl (by decide) (by decide) ?_; intro v1 T1 L1 X1 hQ1
    obtain ⟨rfl, N1q, e1⟩ := hQ1
    have N1 := Fr.app N0 N1q
    refine R.aloadN X1 hx (hb hby d5_4) rfl rfl (pc' := 5) rfl ?_
    refine R.iloadN X1 hx (hb hby d5_5) rfl (pc' := 6) rfl ?_
    refine R.putF X1 hx hZ hown (host := "") (Or.inl w_30) Via.refl e1 F_rowCount_a0 E_a0 (Or.inr ⟨w_31, rfl, hnm⟩) w_17 (ty := .int) (by decide) rfl rfl (hb hby d5_6) (pc' := 9) rfl ?_; intro T2 h2 X2 e2 W2
    have E_a0 := E_a0.wr W2
    have F_start_a0 := F_start_a0.other W2 (Or.inr (slot_ne (Or.inr w_33) (Or.inr w_31) (by decide) (t := (.array .int)) (t' := .int) (by decide) (by decide)))
    have F_rows_a0 := F_rows_a0.other W2 (Or.inr (slot_ne (Or.inr w_35) (Or.inr w_31) (by decide) (t := (.array .int)) (t' := .int) (by decide) (by decide)))
    have F_values_a0 := F_values_a0.other W2 (Or.inr (slot_ne (Or.inr w_37) (Or.inr w_31) (by decide) (t := (.array .double)) (t' := .int) (by decide) (by decide)))
    have F_rowCount_a0 : Fld Z h2 a0 "com/example/upupa/upupa/engine/SubspaceIteration$Columns" "rowCount" "I" (.int p1) := F_rowCount_a0.same W2
    have N2 := Fr.snoc X2 N1 g_a0
    have K2 : Keep h0 h2 [a0] := K0.wr W2 (Or.inl (List.mem_of_getElem? (i := 0) rfl))
    have Z2 : n0 ≤ h2.size := Nat.le_trans Z0 (Keep.of_wr W2).1
    refine R.aloadN X2 hx (hb hby d5_9) rfl rfl (pc' := 10) rfl ?_
    refine R.aloadN X2 hx (hb hby d5_10) rfl rfl (pc' := 11) rfl ?_
    refine R.putF X2 hx hZ hown (host := "") (Or.inl w_32) Via.refl e2 F_start_a0 E_a0 (Or.inr ⟨w_33, rfl, hnm⟩) w_17 (ty := (.array .int)) (by decide) rfl rfl (hb hby d5_11) (pc' := 14) rfl ?_; intro T3 h3 X3 e3 W3
    have E_a0 := E_a0.wr W3
    have F_rows_a0 := F_rows_a0.other W3 (Or.inr (slot_ne (Or.inr w_35) (Or.inr w_33) (by decide) (t := (.array .int)) (t' := (.array .int)) (by decide) (by decide)))
    have F_values_a0 := F_values_a0.other W3 (Or.inr (slot_ne (Or.inr w_37) (Or.inr w_33) (by decide) (t := (.array .double)) (t' := (.array .int)) (by decide) (by decide)))
    have F_rowCount_a0 := F_rowCount_a0.other W3 (Or.inr (slot_ne (Or.inr w_31) (Or.inr w_33) (by decide) (t := .int) (t' := (.array .int)) (by decide) (by decide)))
    have F_start_a0 : Fld Z h3 a0 "com/example/upupa/upupa/engine/SubspaceIteration$Columns" "start" "[I" (.ref a2) := F_start_a0.same W3
    have N3 := Fr.snoc X3 N2 g_a0
    have K3 : Keep h0 h3 [a0] := K2.wr W3 (Or.inl (List.mem_of_getElem? (i := 0) rfl))
    have Z3 : n0 ≤ h3.size := Nat.le_trans Z2 (Keep.of_wr W3).1
    refine R.aloadN X3 hx (hb hby d5_14) rfl rfl (pc' := 15) rfl ?_
    refine R.aloadN X3 hx (hb hby d5_15) rfl rfl (pc' := 16) rfl ?_
    refine R.putF X3 hx hZ hown (host := "") (Or.inl w_34) Via.refl e3 F_rows_a0 E_a0 (Or.inr ⟨w_35, rfl, hnm⟩) w_17 (ty := (.array .int)) (by decide) rfl rfl (hb hby d5_16) (pc' := 19) rfl ?_; intro T4 h4 X4 e4 W4
    have E_a0 := E_a0.wr W4
    have F_values_a0 := F_values_a0.other W4 (Or.inr (slot_ne (Or.inr w_37) (Or.inr w_35) (by decide) (t := (.array .double)) (t' := (.array .int)) (by decide) (by decide)))
    have F_rowCount_a0 := F_rowCount_a0.other W4 (Or.inr (slot_ne (Or.inr w_31) (Or.inr w_35) (by decide) (t := .int) (t' := (.array .int)) (by decide) (by decide)))
    have F_start_a0 := F_start_a0.other W4 (Or.inr (slot_ne (Or.inr w_33) (Or.inr w_35) (by decide) (t := (.array .int)) (t' := (.array .int)) (by decide) (by decide)))
    have F_rows_a0 : Fld Z h4 a0 "com/example/upupa/upupa/engine/SubspaceIteration$Columns" "rows" "[I" (.ref a3) := F_rows_a0.same W4
    have N4 := Fr.snoc X4 N3 g_a0
    have K4 : Keep h0 h4 [a0] := K3.wr W4 (Or.inl (List.mem_of_getElem? (i := 0) rfl))
    have Z4 : n0 ≤ h4.size := Nat.le_trans Z3 (Keep.of_wr W4).1
    refine R.aloadN X4 hx (hb hby d5_19) rfl rfl (pc' := 20) rfl ?_
    refine R.aload X4 hx (hb hby d5_20) rfl rfl (pc' := 22) rfl ?_
    refine R.putF X4 hx hZ hown (host := "") (Or.inl w_36) Via.refl e4 F_values_a0 E_a0 (Or.inr ⟨w_37, rfl, hnm⟩) w_17 (ty := (.array .double)) (by decide) rfl rfl (hb hby d5_22) (pc' := 25) rfl ?_; intro T5 h5 X5 e5 W5
    have E_a0 := E_a0.wr W5
    have F_rowCount_a0 := F_rowCount_a0.other W5 (Or.inr (slot_ne (Or.inr w_31) (Or.inr w_37) (by decide) (t := .int) (t' := (.array .double)) (by decide) (by decide)))
    have F_start_a0 := F_start_a0.other W5 (Or.inr (slot_ne (Or.inr w_33) (Or.inr w_37) (by decide) (t := (.array .int)) (t' := (.array .double)) (by decide) (by decide)))
    have F_rows_a0 := F_rows_a0.other W5 (Or.inr (slot_ne (Or.inr w_35) (Or.inr w_37) (by decide) (t := (.array .int)) (t' := (.array .double)) (by decide) (by decide)))
    have F_values_a0 : Fld Z h5 a0 "com/example/upupa/upupa/engine/SubspaceIteration$Columns" "values" "[D" (.ref a4) := F_values_a0.same W5
    have N5 := Fr.snoc X5 N4 g_a0
    have K5 : Keep h0 h5 [a0] := K4.wr W5 (Or.inl (List.mem_of_getElem? (i := 0) rfl))
    have Z5 : n0 ≤ h5.size := Nat.le_trans Z4 (Keep.of_wr W5).1
    rw [← hG]
    exact Rn.ret X5 (BodyLoose.notSynchronized Bd) (v := none) (fun _ => rfl) (Q := Q5 Z a0 p1 a2 a3 a4 h0 n0) e5 (fun fs hr => X5.returnOut hx Bd.returns (hb hby d5_25) hr) ⟨rfl, N5, K5, E_a0, F_start_a0, F_rows_a0, F_values_a0⟩ (by decide) (by decide)
  exact (Rn.st (fun t k => castTop (ef_5 m a0 p1 a2 a3 a4) k) first_ : Rn p e below (s₁.setTop (entryFrame m #[(.ref a0), (.int p1), (.ref a2), (.ref a3), (.ref a4)] 5)) (Fn5 Z a0 p1 a2 a3 a4 h0 n0 s))
theorem d9_0 : decode jdk_65_method_113_code 0 = .ok (.iconst 0, 1) := by decide +kernel
theorem d9_1 : decode jdk_65_method_113_code 1 = .ok (.istore_n 3, 1) := by decide +kernel
theorem d9_2 : decode jdk_65_method_113_code 2 = .ok (.aload_n 0, 1) := by decide +kernel
theorem d9_3 : decode jdk_65_method_113_code 3 = .ok (.arraylength, 1) := by decide +kernel
theorem d9_4 : decode jdk_65_method_113_code 4 = .ok (.istore 4, 2) := by decide +kernel
theorem d9_6 : decode jdk_65_method_113_code 6 = .ok (.iload_n 3, 1) := by decide +kernel
theorem d9_7 : decode jdk_65_method_113_code 7 = .ok (.iload 4, 2) := by decide +kernel
theorem d9_9 : decode jdk_65_method_113_code 9 = .ok (.if_icmp .ge 13, 3) := by decide +kernel
theorem d9_12 : decode jdk_65_method_113_code 12 = .ok (.aload_n 0, 1) := by decide +kernel
theorem d9_13 : decode jdk_65_method_113_code 13 = .ok (.iload_n 3, 1) := by decide +kernel
theorem d9_14 : decode jdk_65_method_113_code 14 = .ok (.dload_n 1, 1) := by decide +kernel
theorem d9_15 : decode jdk_65_method_113_code 15 = .ok (.dastore, 1) := by decide +kernel
theorem d9_16 : decode jdk_65_method_113_code 16 = .ok (.iinc 3 1, 3) := by decide +kernel
theorem d9_19 : decode jdk_65_method_113_code 19 = .ok (.goto (-13), 3) := by decide +kernel
theorem d9_22 : decode jdk_65_method_113_code 22 = .ok (.return_, 1) := by decide +kernel
theorem pn_3 : plainName "java/util/Arrays" = true := by first | (simp [plainName, overriddenIn]; done) | decide +kernel
theorem ef_9 (m : MethodId) (x0 : Addr) (x1 : UInt64) : entryFrame m #[(.ref x0), (.double x1)] 5 = mkF m 0 #[.val (.ref x0), .val (.double x1), .second, .unset, .unset] [] := by first | (simp [entryFrame, mkF, argsToLocals, Value.category]; done) | rfl
def Q9 (Z : State) (a0 : Addr) (d1 : UInt64) (k : ClassId) (hi : List (Int32 × Value)) (h0 : Heap) (n0 : Nat) (vQ : Option Value) (hQ_ : Heap) (LQ : List Loc) : Prop := vQ = none ∧ Fr n0 LQ ∧ Keep h0 hQ_ [a0] ∧ (Arh Z hQ_ a0 k .double (2 : Int32) (((1 : Int32), (.double d1)) :: ((0 : Int32), (.double d1)) :: hi) [] (.double (0 : UInt64)))
def Fn9 (Z : State) (a0 : Addr) (d1 : UInt64) (k : ClassId) (hi : List (Int32 × Value)) (h0 : Heap) (n0 : Nat) (sQ : State) (oQ : Outcome) (UQ : State) : Prop := ∃ vQ LQ, oQ = .returned vQ ∧ Q9 Z a0 d1 k hi h0 n0 vQ UQ.heap LQ ∧ FrameEnd sQ oQ UQ LQ ({ frames := 0, cells := 0, slots := 0, locals := 0 } : Room).cells ({ frames := 0, cells := 0, slots := 0, locals := 0 } : Room).slots
set_option maxRecDepth 65536 in
set_option maxHeartbeats 40000000 in
theorem rm9 (l : Launch) (Z : State) (aZ : Array Value) (hw : ∀ d ∈ tables_1, d.before aZ Z = true) (ws : List Jvm.Cond) (a0 : Addr) (d1 : UInt64) (k : ClassId) (hi : List (Int32 × Value)) (h0 : Heap) (n0 : Nat) (Z0 : n0 ≤ h0.size) (V_a0 : Arh Z h0 a0 k .double (2 : Int32) hi [] (.double (0 : UInt64))) (g_a0 : n0 ≤ a0) :
    MetFree l (⟨"java/util/Arrays", "fill", "([DD)V"⟩ : MethodName) (head1 (Jvm.Cond.code (⟨"java/util/Arrays", "fill", "([DD)V"⟩ : MethodName) jdk_65_method_113_code 5 none :: ws) ({ frames := 0, cells := 0, slots := 0, locals := 0 } : Room)) (fun aQ UQ => aQ = #[(.ref a0), (.double d1)] ∧ Z.Warmed39 UQ.vm ∧ UQ.heap = h0) (fun _ _ _ _ _ => True) (fun _ UQ oQ UR => ∃ vQ LQ, oQ = .returned vQ ∧ Q9 Z a0 d1 k hi h0 n0 vQ UR.heap LQ ∧ FrameEnd UQ oQ UR LQ ({ frames := 0, cells := 0, slots := 0, locals := 0 } : Room).cells ({ frames := 0, cells := 0, slots := 0, locals := 0 } : Room).slots) := by
  refine MetFree.of_bodySF (plainFor_of_name pn_3) hisR ?_
  intro p e s m args below meth c s₁ Bd hml0 hP hK
  obtain ⟨rfl, hZ, hh⟩ := hP
  have hx := Bd.exec
  have hby := Bd.bytes
  have hml : c.maxLocals = 5 := hml0
  have hown : s.vm.findClass "java/util/Arrays" = some m.cls := findClass_of_methodNamed Bd.named
  have hnm := (name_of_methodNamed Bd.named Bd.method).1
  have X0 : Stand p l e ({ frames := 0, cells := 0, slots := 0, locals := 0 } : Room) s m #[(.ref a0), (.double d1)] below meth c s₁ [] 0 0 := Stand.of_body Bd
  have e0 : s₁.heap = h0 := by rw [← hh, Bd.state]; rfl
  have N0 := Fr.nil n0
  have K0 : Keep h0 h0 [a0] := Keep.refl _ _
  have first_ : Rn p e below (s₁.setTop (mkF m 0 #[.val (.ref a0), .val (.double d1), .second, .unset, .unset] [])) (Fn9 Z a0 d1 k hi h0 n0 s) := by
    generalize hG : (Fn9 Z a0 d1 k hi h0 n0 s) = G
    refine R.iconst X0 hx (hb hby d9_0) (v := (0 : Int32)) (by decide) (pc' := 1) rfl ?_
    refine R.istoreN X0 hx (hb hby d9_1) (L' := #[.val (.ref a0), .val (.double d1), .second, .val (.int (0 : Int32)), .unset]) rfl (pc' := 2) rfl ?_
    refine R.aloadN X0 hx (hb hby d9_2) rfl rfl (pc' := 3) rfl ?_
    refine R.alen X0 hx hZ e0 V_a0 (hb hby d9_3) (pc' := 4) rfl ?_
    refine R.istore X0 hx (hb hby d9_4) (L' := #[.val (.ref a0), .val (.double d1), .second, .val (.int (0 : Int32)), .val (.int (2 : Int32))]) rfl (pc' := 6) rfl ?_
    refine R.iloadN X0 hx (hb hby d9_6) rfl (pc' := 7) rfl ?_
    refine R.iload X0 hx (hb hby d9_7) rfl (pc' := 9) rfl ?_
    refine R.icmpNo X0 hx (hb hby d9_9) (tlt (by decide : (0 : Int32) < (2 : Int32))).2.1 (pc' := 12) rfl ?_
    refine R.aloadN X0 hx (hb hby d9_12) rfl rfl (pc' := 13) rfl ?_
    refine R.iloadN X0 hx (hb hby d9_13) rfl (pc' := 14) rfl ?_
    refine R.dloadN X0 hx (hb hby d9_14) rfl (pc' := 15) rfl ?_
    refine R.dastore X0 hx hZ e0 V_a0 (⟨by decide, by decide⟩ : ¬ (0 : Int32) < 0 ∧ (0 : Int32) < (2 : Int32)) (hb hby d9_15) (pc' := 16) rfl ?_; intro T1 h1 X1 e1 W1 V1
    have V_a0 : Arh Z h1 a0 k .double (2 : Int32) (((0 : Int32), (.double d1)) :: hi) [] (.double (0 : UInt64)) := V1
    have N1 := Fr.snoc X1 N0 g_a0
    have K1 : Keep h0 h1 [a0] := K0.wr W1 (Or.inl (List.mem_of_getElem? (i := 0) rfl))
    have Z1 : n0 ≤ h1.size := Nat.le_trans Z0 (Keep.of_wr W1).1
    refine R.iinc X1 hx (hb hby d9_16) rfl (L' := #[.val (.ref a0), .val (.double d1), .second, .val (.int (1 : Int32)), .val (.int (2 : Int32))]) rfl (pc' := 19) rfl ?_
    refine R.goto X1 hx (hb hby d9_19) (by decide) (pc' := 6) (by decide) ?_
    refine R.iloadN X1 hx (hb hby d9_6) rfl (pc' := 7) rfl ?_
    refine R.iload X1 hx (hb hby d9_7) rfl (pc' := 9) rfl ?_
    refine R.icmpNo X1 hx (hb hby d9_9) (tlt (by decide : (1 : Int32) < (2 : Int32))).2.1 (pc' := 12) rfl ?_
    refine R.aloadN X1 hx (hb hby d9_12) rfl rfl (pc' := 13) rfl ?_
    refine R.iloadN X1 hx (hb hby d9_13) rfl (pc' := 14) rfl ?_
    refine R.dloadN X1 hx (hb hby d9_14) rfl (pc' := 15) rfl ?_
    refine R.dastore X1 hx hZ e1 V_a0 (⟨by decide, by decide⟩ : ¬ (1 : Int32) < 0 ∧ (1 : Int32) < (2 : Int32)) (hb hby d9_15) (pc' := 16) rfl ?_; intro T2 h2 X2 e2 W2 V2
    have V_a0 : Arh Z h2 a0 k .double (2 : Int32) (((1 : Int32), (.double d1)) :: ((0 : Int32), (.double d1)) :: hi) [] (.double (0 : UInt64)) := V2
    have N2 := Fr.snoc X2 N1 g_a0
    have K2 : Keep h0 h2 [a0] := K1.wr W2 (Or.inl (List.mem_of_getElem? (i := 0) rfl))
    have Z2 : n0 ≤ h2.size := Nat.le_trans Z1 (Keep.of_wr W2).1
    refine R.iinc X2 hx (hb hby d9_16) rfl (L' := #[.val (.ref a0), .val (.double d1), .second, .val (.int (2 : Int32)), .val (.int (2 : Int32))]) rfl (pc' := 19) rfl ?_
    refine R.goto X2 hx (hb hby d9_19) (by decide) (pc' := 6) (by decide) ?_
    refine R.iloadN X2 hx (hb hby d9_6) rfl (pc' := 7) rfl ?_
    refine R.iload X2 hx (hb hby d9_7) rfl (pc' := 9) rfl ?_
    refine R.icmpYes X2 hx (hb hby d9_9) (flt (by decide : ¬ ((2 : Int32) < (2 : Int32)))).2.1 (by decide) (pc' := 22) (by decide) ?_
    rw [← hG]
    exact Rn.ret X2 (BodyLoose.notSynchronized Bd) (v := none) (fun _ => rfl) (Q := Q9 Z a0 d1 k hi h0 n0) e2 (fun fs hr => X2.returnOut hx Bd.returns (hb hby d9_22) hr) ⟨rfl, N2, K2, V_a0⟩ (by decide) (by decide)
  exact (Rn.st (fun t k => castTop (ef_9 m a0 d1) k) first_ : Rn p e below (s₁.setTop (entryFrame m #[(.ref a0), (.double d1)] 5)) (Fn9 Z a0 d1 k hi h0 n0 s))
theorem d8_0 : decode prog_4_method_3_code 0 = .ok (.aload 4, 2) := by decide +kernel
theorem d8_2 : decode prog_4_method_3_code 2 = .ok (.dconst 0, 1) := by decide +kernel
theorem d8_3 : decode prog_4_method_3_code 3 = .ok (.invokestatic 24, 3) := by decide +kernel
theorem pd_1 : parseMethodDescriptor "([DD)V" = some ⟨[(.array .double), .double], none⟩ := by decide +kernel
abbrev mY1 : MethodName := (⟨"java/util/Arrays", "fill", "([DD)V"⟩ : MethodName)
theorem d8_6 : decode prog_4_method_3_code 6 = .ok (.aload_n 0, 1) := by decide +kernel
theorem d8_7 : decode prog_4_method_3_code 7 = .ok (.getfield 13, 3) := by decide +kernel
theorem d8_10 : decode prog_4_method_3_code 10 = .ok (.iload_n 1, 1) := by decide +kernel
theorem d8_11 : decode prog_4_method_3_code 11 = .ok (.iaload, 1) := by decide +kernel
theorem d8_12 : decode prog_4_method_3_code 12 = .ok (.istore 5, 2) := by decide +kernel
theorem d8_14 : decode prog_4_method_3_code 14 = .ok (.iload 5, 2) := by decide +kernel
theorem d8_16 : decode prog_4_method_3_code 16 = .ok (.aload_n 0, 1) := by decide +kernel
theorem d8_17 : decode prog_4_method_3_code 17 = .ok (.getfield 13, 3) := by decide +kernel
theorem d8_20 : decode prog_4_method_3_code 20 = .ok (.iload_n 1, 1) := by decide +kernel
theorem d8_21 : decode prog_4_method_3_code 21 = .ok (.iconst 1, 1) := by decide +kernel
theorem d8_22 : decode prog_4_method_3_code 22 = .ok (.iadd, 1) := by decide +kernel
theorem d8_23 : decode prog_4_method_3_code 23 = .ok (.iaload, 1) := by decide +kernel
theorem d8_24 : decode prog_4_method_3_code 24 = .ok (.if_icmp .ge 62, 3) := by decide +kernel
theorem d8_86 : decode prog_4_method_3_code 86 = .ok (.return_, 1) := by decide +kernel
theorem d8_27 : decode prog_4_method_3_code 27 = .ok (.aload_n 0, 1) := by decide +kernel
theorem d8_28 : decode prog_4_method_3_code 28 = .ok (.getfield 20, 3) := by decide +kernel
theorem d8_31 : decode prog_4_method_3_code 31 = .ok (.iload 5, 2) := by decide +kernel
theorem d8_33 : decode prog_4_method_3_code 33 = .ok (.daload, 1) := by decide +kernel
theorem d8_34 : decode prog_4_method_3_code 34 = .ok (.dstore 6, 2) := by decide +kernel
theorem d8_36 : decode prog_4_method_3_code 36 = .ok (.aload_n 0, 1) := by decide +kernel
theorem d8_37 : decode prog_4_method_3_code 37 = .ok (.getfield 17, 3) := by decide +kernel
theorem d8_40 : decode prog_4_method_3_code 40 = .ok (.iload 5, 2) := by decide +kernel
theorem d8_42 : decode prog_4_method_3_code 42 = .ok (.iaload, 1) := by decide +kernel
theorem d8_43 : decode prog_4_method_3_code 43 = .ok (.iload_n 3, 1) := by decide +kernel
theorem d8_44 : decode prog_4_method_3_code 44 = .ok (.imul, 1) := by decide +kernel
theorem d8_45 : decode prog_4_method_3_code 45 = .ok (.istore 8, 2) := by decide +kernel
theorem d8_47 : decode prog_4_method_3_code 47 = .ok (.iconst 0, 1) := by decide +kernel
theorem d8_48 : decode prog_4_method_3_code 48 = .ok (.istore 9, 2) := by decide +kernel
theorem d8_50 : decode prog_4_method_3_code 50 = .ok (.iload 9, 2) := by decide +kernel
theorem d8_52 : decode prog_4_method_3_code 52 = .ok (.iload_n 3, 1) := by decide +kernel
theorem d8_53 : decode prog_4_method_3_code 53 = .ok (.if_icmp .ge 27, 3) := by decide +kernel
theorem d8_80 : decode prog_4_method_3_code 80 = .ok (.iinc 5 1, 3) := by decide +kernel
theorem d8_83 : decode prog_4_method_3_code 83 = .ok (.goto (-69), 3) := by decide +kernel
theorem d8_56 : decode prog_4_method_3_code 56 = .ok (.aload 4, 2) := by decide +kernel
theorem d8_58 : decode prog_4_method_3_code 58 = .ok (.iload 9, 2) := by decide +kernel
theorem d8_60 : decode prog_4_method_3_code 60 = .ok (.dup2, 1) := by decide +kernel
theorem d8_61 : decode prog_4_method_3_code 61 = .ok (.daload, 1) := by decide +kernel
theorem d8_62 : decode prog_4_method_3_code 62 = .ok (.dload 6, 2) := by decide +kernel
theorem d8_64 : decode prog_4_method_3_code 64 = .ok (.aload_n 2, 1) := by decide +kernel
theorem d8_65 : decode prog_4_method_3_code 65 = .ok (.iload 8, 2) := by decide +kernel
theorem d8_67 : decode prog_4_method_3_code 67 = .ok (.iload 9, 2) := by decide +kernel
theorem d8_69 : decode prog_4_method_3_code 69 = .ok (.iadd, 1) := by decide +kernel
theorem d8_70 : decode prog_4_method_3_code 70 = .ok (.daload, 1) := by decide +kernel
theorem d8_71 : decode prog_4_method_3_code 71 = .ok (.dmul, 1) := by decide +kernel
theorem d8_72 : decode prog_4_method_3_code 72 = .ok (.dadd, 1) := by decide +kernel
theorem d8_73 : decode prog_4_method_3_code 73 = .ok (.dastore, 1) := by decide +kernel
theorem d8_74 : decode prog_4_method_3_code 74 = .ok (.iinc 9 1, 3) := by decide +kernel
theorem d8_77 : decode prog_4_method_3_code 77 = .ok (.goto (-27), 3) := by decide +kernel
theorem ef_8 (m : MethodId) (x0 : Addr) (x1 : Int32) (x2 : Addr) (x3 : Int32) (x4 : Addr) : entryFrame m #[(.ref x0), (.int x1), (.ref x2), (.int x3), (.ref x4)] 10 = mkF m 0 #[.val (.ref x0), .val (.int x1), .val (.ref x2), .val (.int x3), .val (.ref x4), .unset, .unset, .unset, .unset, .unset] [] := by first | (simp [entryFrame, mkF, argsToLocals, Value.category]; done) | rfl
def Q8 (Z : State) (a0 : Addr) (p1 : Int32) (a2 : Addr) (p3 : Int32) (a4 : Addr) (st : Addr) (rw : Addr) (vl : Addr) (kst : ClassId) (krw : ClassId) (kvl : ClassId) (ky : ClassId) (ki : ClassId) (hst : List (Int32 × Value)) (hrw : List (Int32 × Value)) (hvl : List (Int32 × Value)) (hy : List (Int32 × Value)) (hi : List (Int32 × Value)) (base : Int32) (en : Int32) (v0 : UInt64) (v1 : UInt64) (W0 : Int) (W1 : Int) (ra : Int32) (rb : Int32) (yv : Int32 → UInt64) (Yi : Int32 → Int) (E0 : Int) (E1 : Int) (h0 : Heap) (n0 : Nat) (vQ : Option Value) (hQ_ : Heap) (LQ : List Loc) : Prop := ∃ hj : List (Int32 × Value), vQ = none ∧ Fr n0 LQ ∧ Keep h0 hQ_ [a4] ∧ (Arh Z hQ_ a4 ki .double (2 : Int32) hj [] (.double (0 : UInt64))) ∧ ((0 : Int32) < p3 → ∃ v : UInt64, getH hj [] (.double (0 : UInt64)) ((0 : Int32)).toNatClampNeg = (.double v) ∧ Dy v E0 0) ∧ ((1 : Int32) < p3 → ∃ v : UInt64, getH hj [] (.double (0 : UInt64)) ((1 : Int32)).toNatClampNeg = (.double v) ∧ Dy v E1 0)
def Fn8 (Z : State) (a0 : Addr) (p1 : Int32) (a2 : Addr) (p3 : Int32) (a4 : Addr) (st : Addr) (rw : Addr) (vl : Addr) (kst : ClassId) (krw : ClassId) (kvl : ClassId) (ky : ClassId) (ki : ClassId) (hst : List (Int32 × Value)) (hrw : List (Int32 × Value)) (hvl : List (Int32 × Value)) (hy : List (Int32 × Value)) (hi : List (Int32 × Value)) (base : Int32) (en : Int32) (v0 : UInt64) (v1 : UInt64) (W0 : Int) (W1 : Int) (ra : Int32) (rb : Int32) (yv : Int32 → UInt64) (Yi : Int32 → Int) (E0 : Int) (E1 : Int) (h0 : Heap) (n0 : Nat) (sQ : State) (oQ : Outcome) (UQ : State) : Prop := ∃ vQ LQ, oQ = .returned vQ ∧ Q8 Z a0 p1 a2 p3 a4 st rw vl kst krw kvl ky ki hst hrw hvl hy hi base en v0 v1 W0 W1 ra rb yv Yi E0 E1 h0 n0 vQ UQ.heap LQ ∧ FrameEnd sQ oQ UQ LQ ({ frames := 1, cells := 0, slots := 0, locals := 16 } : Room).cells ({ frames := 1, cells := 0, slots := 0, locals := 16 } : Room).slots
set_option maxRecDepth 65536 in
set_option maxHeartbeats 40000000 in
theorem rm8 (l : Launch) (Z : State) (aZ : Array Value) (hw : ∀ d ∈ tables_1, d.before aZ Z = true) (ws : List Jvm.Cond) (a0 : Addr) (p1 : Int32) (a2 : Addr) (p3 : Int32) (a4 : Addr) (st : Addr) (rw : Addr) (vl : Addr) (kst : ClassId) (krw : ClassId) (kvl : ClassId) (ky : ClassId) (ki : ClassId) (hst : List (Int32 × Value)) (hrw : List (Int32 × Value)) (hvl : List (Int32 × Value)) (hy : List (Int32 × Value)) (hi : List (Int32 × Value)) (base : Int32) (en : Int32) (v0 : UInt64) (v1 : UInt64) (W0 : Int) (W1 : Int) (ra : Int32) (rb : Int32) (yv : Int32 → UInt64) (Yi : Int32 → Int) (E0 : Int) (E1 : Int) (h0 : Heap) (n0 : Nat) (Z0 : n0 ≤ h0.size) (F_start_a0 : Fld Z h0 a0 "com/example/upupa/upupa/engine/SubspaceIteration$Columns" "start" "[I" (.ref st)) (F_rows_a0 : Fld Z h0 a0 "com/example/upupa/upupa/engine/SubspaceIteration$Columns" "rows" "[I" (.ref rw)) (F_values_a0 : Fld Z h0 a0 "com/example/upupa/upupa/engine/SubspaceIteration$Columns" "values" "[D" (.ref vl)) (V_st : Arh Z h0 st kst .int (3 : Int32) hst [] (.int (0 : Int32))) (V_rw : Arh Z h0 rw krw .int (4 : Int32) hrw [] (.int (0 : Int32))) (V_vl : Arh Z h0 vl kvl .double (4 : Int32) hvl [] (.double (0 : UInt64))) (V_a2 : Arh Z h0 a2 ky .double (6 : Int32) hy [] (.double (0 : UInt64))) (V_a4 : Arh Z h0 a4 ki .double (2 : Int32) hi [] (.double (0 : UInt64))) (g_a4 : n0 ≤ a4) (ne_a0_a4 : a0 ≠ a4) (ne_st_a4 : st ≠ a4) (ne_rw_a4 : rw ≠ a4) (ne_vl_a4 : vl ≠ a4) (ne_a2_a4 : a2 ≠ a4) (hcol : 0 ≤ p1.toInt ∧ p1.toInt ≤ 1) (rst0 : getH hst [] (.int (0 : Int32)) (p1).toNatClampNeg = (.int base)) (rst1 : getH hst [] (.int (0 : Int32)) (p1 + (1 : Int32)).toNatClampNeg = (.int en)) (hba : 0 ≤ base.toInt ∧ base.toInt ≤ 2) (hw3 : p3 = (0 : Int32) ∨ p3 = (1 : Int32) ∨ p3 = (2 : Int32)) (hra : 0 ≤ ra.toInt ∧ ra.toInt ≤ 2) (hrb : 0 ≤ rb.toInt ∧ rb.toInt ≤ 2) (hk : (base = en ∧ E0 = 0 ∧ E1 = 0) ∨ (en = base + (1 : Int32) ∧ getH hvl [] (.double (0 : UInt64)) base.toNatClampNeg = (.double v0) ∧ getH hrw [] (.int (0 : Int32)) base.toNatClampNeg = (.int ra) ∧ E0 = W0 * Yi (ra * p3) ∧ E1 = W0 * Yi ((ra * p3) + (1 : Int32))) ∨ (en = (base + (1 : Int32)) + (1 : Int32) ∧ getH hvl [] (.double (0 : UInt64)) base.toNatClampNeg = (.double v0) ∧ getH hrw [] (.int (0 : Int32)) base.toNatClampNeg = (.int ra) ∧ getH hvl [] (.double (0 : UInt64)) (base + (1 : Int32)).toNatClampNeg = (.double v1) ∧ getH hrw [] (.int (0 : Int32)) (base + (1 : Int32)).toNatClampNeg = (.int rb) ∧ E0 = W0 * Yi (ra * p3) + W1 * Yi (rb * p3) ∧ E1 = W0 * Yi ((ra * p3) + (1 : Int32)) + W1 * Yi ((rb * p3) + (1 : Int32)))) (Dv0 : Dy v0 W0 0) (Dv1 : Dy v1 W1 0) (bW0 : W0.natAbs ≤ 32768) (bW1 : W1.natAbs ≤ 32768) (rdy : ∀ i : Int32, 0 ≤ i.toInt → i.toInt < 6 → getH hy [] (.double (0 : UInt64)) i.toNatClampNeg = (.double (yv i)) ∧ Dy (yv i) (Yi i) 0 ∧ (Yi i).natAbs ≤ 32768) :
    MetFree l (⟨"com/example/upupa/upupa/engine/SubspaceIteration$Columns", "transposeTimes", "(I[DI[D)V"⟩ : MethodName) (head1 (Jvm.Cond.code (⟨"com/example/upupa/upupa/engine/SubspaceIteration$Columns", "transposeTimes", "(I[DI[D)V"⟩ : MethodName) prog_4_method_3_code 10 none :: ws) ({ frames := 1, cells := 0, slots := 0, locals := 16 } : Room)) (fun aQ UQ => aQ = #[(.ref a0), (.int p1), (.ref a2), (.int p3), (.ref a4)] ∧ Z.Warmed39 UQ.vm ∧ UQ.heap = h0) (fun _ _ _ _ _ => True) (fun _ UQ oQ UR => ∃ vQ LQ, oQ = .returned vQ ∧ Q8 Z a0 p1 a2 p3 a4 st rw vl kst krw kvl ky ki hst hrw hvl hy hi base en v0 v1 W0 W1 ra rb yv Yi E0 E1 h0 n0 vQ UR.heap LQ ∧ FrameEnd UQ oQ UR LQ ({ frames := 1, cells := 0, slots := 0, locals := 16 } : Room).cells ({ frames := 1, cells := 0, slots := 0, locals := 16 } : Room).slots) := by
  refine MetFree.of_bodySF (plainFor_of_name pn_2) hisR ?_
  intro p e s m args below meth c s₁ Bd hml0 hP hK
  obtain ⟨rfl, hZ, hh⟩ := hP
  have hx := Bd.exec
  have hby := Bd.bytes
  have hml : c.maxLocals = 10 := hml0
  have hown : s.vm.findClass "com/example/upupa/upupa/engine/SubspaceIteration$Columns" = some m.cls := findClass_of_methodNamed Bd.named
  have hnm := (name_of_methodNamed Bd.named Bd.method).1
  have X0 : Stand p l e ({ frames := 1, cells := 0, slots := 0, locals := 16 } : Room) s m #[(.ref a0), (.int p1), (.ref a2), (.int p3), (.ref a4)] below meth c s₁ [] 0 0 := Stand.of_body Bd
  have e0 : s₁.heap = h0 := by rw [← hh, Bd.state]; rfl
  have N0 := Fr.nil n0
  have K0 : Keep h0 h0 [a4] := Keep.refl _ _
  have w_32 := hw _ (List.mem_of_getElem? (i := 32) rfl)
  have w_34 := hw _ (List.mem_of_getElem? (i := 34) rfl)
  have w_36 := hw _ (List.mem_of_getElem? (i := 36) rfl)
  have w_43 := hw _ (List.mem_of_getElem? (i := 43) rfl)
  have w_44 := hw _ (List.mem_of_getElem? (i := 44) rfl)
  have w_45 := hw _ (List.mem_of_getElem? (i := 45) rfl)
  have w_46 := hw _ (List.mem_of_getElem? (i := 46) rfl)
  have first_ : Rn p e below (s₁.setTop (mkF m 0 #[.val (.ref a0), .val (.int p1), .val (.ref a2), .val (.int p3), .val (.ref a4), .unset, .unset, .unset, .unset, .unset] [])) (Fn8 Z a0 p1 a2 p3 a4 st rw vl kst krw kvl ky ki hst hrw hvl hy hi base en v0 v1 W0 W1 ra rb yv Yi E0 E1 h0 n0 s) := by
    generalize hG : (Fn8 Z a0 p1 a2 p3 a4 st rw vl kst krw kvl ky ki hst hrw hvl hy hi base en v0 v1 W0 W1 ra rb yv Yi E0 E1 h0 n0 s) = G
    have c1 : (p1 + (1 : Int32)).toInt = p1.toInt + 1 := own_p1 (by omega)
    have b1 : (base + (1 : Int32)).toInt = base.toInt + 1 := own_p1 (by omega)
    have b2 : ((base + (1 : Int32)) + (1 : Int32)).toInt = base.toInt + 2 := by rw [own_p1] <;> omega
    have t3 : (3 : Int32).toInt = 3 := by decide
    have t4 : (4 : Int32).toInt = 4 := by decide
    have t6 : (6 : Int32).toInt = 6 := by decide
    rcases hw3 with rfl | rfl | rfl
    · rcases hk with ⟨rfl, rfl, rfl⟩ | ⟨rfl, vb0, rb0, rfl, rfl⟩ | ⟨rfl, vb0, rb0, vb1, rb1, rfl, rfl⟩
      · have own_t := t3
        refine R.aload X0 hx (hb hby d8_0) rfl rfl (pc' := 2) rfl ?_
        refine R.dconst0 X0 hx (hb hby d8_2) (pc' := 3) rfl ?_
        refine R.callS X0 hx hZ (y := mY1) hown w_43 w_44 w_45 w_46 (by decide) e0 (rm9 l Z aZ hw [] a4 FP.dconst0 ki hi h0 n0 Z0 V_a4 g_a4) (by decide) (W := 0) (Nat.le_of_eq rfl) (by decide) (by rw [hml]; rfl) (lenOf pd_1 rfl) rfl (hb hby d8_3) (pc' := 6) rfl (by decide) (by decide) ?_; intro v1 T1 L1 X1 hQ1
        obtain ⟨rfl, N1q, Kc1, P1_0⟩ := hQ1
        have N1 := Fr.app N0 N1q
        generalize e1 : T1.heap = h1 at Kc1 P1_0
        have K1 : Keep h0 h1 [a4] := K0.trans Kc1 ((allS (Or.inl (List.mem_of_getElem? (i := 0) rfl)) all0))
        have Z1 : n0 ≤ h1.size := Nat.le_trans Z0 Kc1.1
        have F_start_a0 := F_start_a0.keep Kc1 (ninS ne_a0_a4 nin0)
        have F_rows_a0 := F_rows_a0.keep Kc1 (ninS ne_a0_a4 nin0)
        have F_values_a0 := F_values_a0.keep Kc1 (ninS ne_a0_a4 nin0)
        have V_st := V_st.keep Kc1 (ninS ne_st_a4 nin0)
        have V_rw := V_rw.keep Kc1 (ninS ne_rw_a4 nin0)
        have V_vl := V_vl.keep Kc1 (ninS ne_vl_a4 nin0)
        have V_a2 := V_a2.keep Kc1 (ninS ne_a2_a4 nin0)
        have V_a4 : Arh Z h1 a4 ki .double (2 : Int32) (((1 : Int32), (.double FP.dconst0)) :: ((0 : Int32), (.double FP.dconst0)) :: hi) [] (.double (0 : UInt64)) := P1_0
        have V_a4 : Arh Z h1 a4 ki .double (2 : Int32) (((1 : Int32), (.double FP.dconst0)) :: ((0 : Int32), (.double FP.dconst0)) :: hi) [] (.double (0 : UInt64)) := V_a4
        refine R.aloadN X1 hx (hb hby d8_6) rfl rfl (pc' := 7) rfl ?_
        refine R.getF X1 hx hZ hown (host := "") (Or.inl w_32) Via.refl e1 F_start_a0 (hb hby d8_7) (pc' := 10) rfl ?_; intro T2 X2 e2
        refine R.iloadN X2 hx (hb hby d8_10) rfl (pc' := 11) rfl ?_
        refine R.iaload X2 hx hZ e2 V_st (own_bd (by omega) : ¬ p1 < 0 ∧ p1 < (3 : Int32)) (v := (.int base)) (rst0) (hb hby d8_11) (pc' := 12) rfl ?_
        refine R.istore X2 hx (hb hby d8_12) (L' := #[.val (.ref a0), .val (.int p1), .val (.ref a2), .val (.int (0 : Int32)), .val (.ref a4), .val (.int base), .unset, .unset, .unset, .unset]) rfl (pc' := 14) rfl ?_
        refine R.iload X2 hx (hb hby d8_14) rfl (pc' := 16) rfl ?_
        refine R.aloadN X2 hx (hb hby d8_16) rfl rfl (pc' := 17) rfl ?_
        refine R.getF X2 hx hZ hown (host := "") (Or.inl w_32) Via.refl e2 F_start_a0 (hb hby d8_17) (pc' := 20) rfl ?_; intro T3 X3 e3
        refine R.iloadN X3 hx (hb hby d8_20) rfl (pc' := 21) rfl ?_
        refine R.iconst X3 hx (hb hby d8_21) (v := (1 : Int32)) (by decide) (pc' := 22) rfl ?_
        refine R.iadd X3 hx (hb hby d8_22) rfl (pc' := 23) rfl ?_
        refine R.iaload X3 hx hZ e3 V_st (own_bd (by omega) : ¬ (p1 + (1 : Int32)) < 0 ∧ (p1 + (1 : Int32)) < (3 : Int32)) (v := (.int base)) (rst1) (hb hby d8_23) (pc' := 24) rfl ?_
        refine R.icmpYes X3 hx (hb hby d8_24) (flt (own_irr _ : ¬ (base < base))).2.1 (by decide) (pc' := 86) (by decide) ?_
        rw [← hG]
        exact Rn.ret X3 (BodyLoose.notSynchronized Bd) (v := none) (fun _ => rfl) (Q := Q8 Z a0 p1 a2 (0 : Int32) a4 st rw vl kst krw kvl ky ki hst hrw hvl hy hi base base v0 v1 W0 W1 ra rb yv Yi 0 0 h0 n0) e3 (fun fs hr => X3.returnOut hx Bd.returns (hb hby d8_86) hr) ⟨(((1 : Int32), (.double FP.dconst0)) :: ((0 : Int32), (.double FP.dconst0)) :: hi), rfl, N1, K1, V_a4, (fun q => absurd q (by decide)), (fun q => absurd q (by decide))⟩ (by decide) (by decide)
      · have own_t := t3
        refine R.aload X0 hx (hb hby d8_0) rfl rfl (pc' := 2) rfl ?_
        refine R.dconst0 X0 hx (hb hby d8_2) (pc' := 3) rfl ?_
        refine R.callS X0 hx hZ (y := mY1) hown w_43 w_44 w_45 w_46 (by decide) e0 (rm9 l Z aZ hw [] a4 FP.dconst0 ki hi h0 n0 Z0 V_a4 g_a4) (by decide) (W := 0) (Nat.le_of_eq rfl) (by decide) (by rw [hml]; rfl) (lenOf pd_1 rfl) rfl (hb hby d8_3) (pc' := 6) rfl (by decide) (by decide) ?_; intro v4 T4 L4 X4 hQ4
        obtain ⟨rfl, N4q, Kc4, P4_0⟩ := hQ4
        have N4 := Fr.app N0 N4q
        generalize e4 : T4.heap = h4 at Kc4 P4_0
        have K4 : Keep h0 h4 [a4] := K0.trans Kc4 ((allS (Or.inl (List.mem_of_getElem? (i := 0) rfl)) all0))
        have Z4 : n0 ≤ h4.size := Nat.le_trans Z0 Kc4.1
        have F_start_a0 := F_start_a0.keep Kc4 (ninS ne_a0_a4 nin0)
        have F_rows_a0 := F_rows_a0.keep Kc4 (ninS ne_a0_a4 nin0)
        have F_values_a0 := F_values_a0.keep Kc4 (ninS ne_a0_a4 nin0)
        have V_st := V_st.keep Kc4 (ninS ne_st_a4 nin0)
        have V_rw := V_rw.keep Kc4 (ninS ne_rw_a4 nin0)
        have V_vl := V_vl.keep Kc4 (ninS ne_vl_a4 nin0)
        have V_a2 := V_a2.keep Kc4 (ninS ne_a2_a4 nin0)
        have V_a4 : Arh Z h4 a4 ki .double (2 : Int32) (((1 : Int32), (.double FP.dconst0)) :: ((0 : Int32), (.double FP.dconst0)) :: hi) [] (.double (0 : UInt64)) := P4_0
        have V_a4 : Arh Z h4 a4 ki .double (2 : Int32) (((1 : Int32), (.double FP.dconst0)) :: ((0 : Int32), (.double FP.dconst0)) :: hi) [] (.double (0 : UInt64)) := V_a4
        refine R.aloadN X4 hx (hb hby d8_6) rfl rfl (pc' := 7) rfl ?_
        refine R.getF X4 hx hZ hown (host := "") (Or.inl w_32) Via.refl e4 F_start_a0 (hb hby d8_7) (pc' := 10) rfl ?_; intro T5 X5 e5
        refine R.iloadN X5 hx (hb hby d8_10) rfl (pc' := 11) rfl ?_
        refine R.iaload X5 hx hZ e5 V_st (own_bd (by omega) : ¬ p1 < 0 ∧ p1 < (3 : Int32)) (v := (.int base)) (rst0) (hb hby d8_11) (pc' := 12) rfl ?_
        refine R.istore X5 hx (hb hby d8_12) (L' := #[.val (.ref a0), .val (.int p1), .val (.ref a2), .val (.int (0 : Int32)), .val (.ref a4), .val (.int base), .unset, .unset, .unset, .unset]) rfl (pc' := 14) rfl ?_
        refine R.iload X5 hx (hb hby d8_14) rfl (pc' := 16) rfl ?_
        refine R.aloadN X5 hx (hb hby d8_16) rfl rfl (pc' := 17) rfl ?_
        refine R.getF X5 hx hZ hown (host := "") (Or.inl w_32) Via.refl e5 F_start_a0 (hb hby d8_17) (pc' := 20) rfl ?_; intro T6 X6 e6
        refine R.iloadN X6 hx (hb hby d8_20) rfl (pc' := 21) rfl ?_
        refine R.iconst X6 hx (hb hby d8_21) (v := (1 : Int32)) (by decide) (pc' := 22) rfl ?_
        refine R.iadd X6 hx (hb hby d8_22) rfl (pc' := 23) rfl ?_
        refine R.iaload X6 hx hZ e6 V_st (own_bd (by omega) : ¬ (p1 + (1 : Int32)) < 0 ∧ (p1 + (1 : Int32)) < (3 : Int32)) (v := (.int (base + (1 : Int32)))) (rst1) (hb hby d8_23) (pc' := 24) rfl ?_
        refine R.icmpNo X6 hx (hb hby d8_24) (tlt (Int32.lt_iff_toInt_lt.mpr (by omega) : base < (base + (1 : Int32)))).2.1 (pc' := 27) rfl ?_
        refine R.aloadN X6 hx (hb hby d8_27) rfl rfl (pc' := 28) rfl ?_
        refine R.getF X6 hx hZ hown (host := "") (Or.inl w_36) Via.refl e6 F_values_a0 (hb hby d8_28) (pc' := 31) rfl ?_; intro T7 X7 e7
        refine R.iload X7 hx (hb hby d8_31) rfl (pc' := 33) rfl ?_
        refine R.daload X7 hx hZ e7 V_vl (own_bd (by omega) : ¬ base < 0 ∧ base < (4 : Int32)) (v := (.double v0)) (vb0) (hb hby d8_33) (pc' := 34) rfl ?_
        refine R.dstore X7 hx (hb hby d8_34) (L' := #[.val (.ref a0), .val (.int p1), .val (.ref a2), .val (.int (0 : Int32)), .val (.ref a4), .val (.int base), .val (.double v0), .second, .unset, .unset]) rfl (pc' := 36) rfl ?_
        refine R.aloadN X7 hx (hb hby d8_36) rfl rfl (pc' := 37) rfl ?_
        refine R.getF X7 hx hZ hown (host := "") (Or.inl w_34) Via.refl e7 F_rows_a0 (hb hby d8_37) (pc' := 40) rfl ?_; intro T8 X8 e8
        refine R.iload X8 hx (hb hby d8_40) rfl (pc' := 42) rfl ?_
        refine R.iaload X8 hx hZ e8 V_rw (own_bd (by omega) : ¬ base < 0 ∧ base < (4 : Int32)) (v := (.int ra)) (rb0) (hb hby d8_42) (pc' := 43) rfl ?_
        refine R.iloadN X8 hx (hb hby d8_43) rfl (pc' := 44) rfl ?_
        refine R.imul X8 hx (hb hby d8_44) rfl (pc' := 45) rfl ?_
        show Rn p e below (T8.setTop (mkF m 45 #[.val (.ref a0), .val (.int p1), .val (.ref a2), .val (.int (0 : Int32)), .val (.ref a4), .val (.int base), .val (.double v0), .second, .unset, .unset] [(.int (ra * (0 : Int32)))])) G
        generalize hi9 : (ra * (0 : Int32)) = i9
        refine R.istore X8 hx (hb hby d8_45) (L' := #[.val (.ref a0), .val (.int p1), .val (.ref a2), .val (.int (0 : Int32)), .val (.ref a4), .val (.int base), .val (.double v0), .second, .val (.int i9), .unset]) rfl (pc' := 47) rfl ?_
        have w8_i9 : i9.toInt = ra.toInt * 0 := by rw [← hi9]; exact own_mw hra (by decide) (by decide)
        refine R.iconst X8 hx (hb hby d8_47) (v := (0 : Int32)) (by decide) (pc' := 48) rfl ?_
        refine R.istore X8 hx (hb hby d8_48) (L' := #[.val (.ref a0), .val (.int p1), .val (.ref a2), .val (.int (0 : Int32)), .val (.ref a4), .val (.int base), .val (.double v0), .second, .val (.int i9), .val (.int (0 : Int32))]) rfl (pc' := 50) rfl ?_
        refine R.iload X8 hx (hb hby d8_50) rfl (pc' := 52) rfl ?_
        refine R.iloadN X8 hx (hb hby d8_52) rfl (pc' := 53) rfl ?_
        refine R.icmpYes X8 hx (hb hby d8_53) (flt (by decide : ¬ ((0 : Int32) < (0 : Int32)))).2.1 (by decide) (pc' := 80) (by decide) ?_
        refine R.iinc X8 hx (hb hby d8_80) rfl (L' := #[.val (.ref a0), .val (.int p1), .val (.ref a2), .val (.int (0 : Int32)), .val (.ref a4), .val (.int (base + (1 : Int32))), .val (.double v0), .second, .val (.int i9), .val (.int (0 : Int32))]) rfl (pc' := 83) rfl ?_
        refine R.goto X8 hx (hb hby d8_83) (by decide) (pc' := 14) (by decide) ?_
        refine R.iload X8 hx (hb hby d8_14) rfl (pc' := 16) rfl ?_
        refine R.aloadN X8 hx (hb hby d8_16) rfl rfl (pc' := 17) rfl ?_
        refine R.getF X8 hx hZ hown (host := "") (Or.inl w_32) Via.refl e8 F_start_a0 (hb hby d8_17) (pc' := 20) rfl ?_; intro T10 X10 e10
        refine R.iloadN X10 hx (hb hby d8_20) rfl (pc' := 21) rfl ?_
        refine R.iconst X10 hx (hb hby d8_21) (v := (1 : Int32)) (by decide) (pc' := 22) rfl ?_
        refine R.iadd X10 hx (hb hby d8_22) rfl (pc' := 23) rfl ?_
        refine R.iaload X10 hx hZ e10 V_st (own_bd (by omega) : ¬ (p1 + (1 : Int32)) < 0 ∧ (p1 + (1 : Int32)) < (3 : Int32)) (v := (.int (base + (1 : Int32)))) (rst1) (hb hby d8_23) (pc' := 24) rfl ?_
        refine R.icmpYes X10 hx (hb hby d8_24) (flt (own_irr _ : ¬ ((base + (1 : Int32)) < (base + (1 : Int32))))).2.1 (by decide) (pc' := 86) (by decide) ?_
        rw [← hG]
        exact Rn.ret X10 (BodyLoose.notSynchronized Bd) (v := none) (fun _ => rfl) (Q := Q8 Z a0 p1 a2 (0 : Int32) a4 st rw vl kst krw kvl ky ki hst hrw hvl hy hi base (base + (1 : Int32)) v0 v1 W0 W1 ra rb yv Yi (W0 * Yi (ra * (0 : Int32))) (W0 * Yi ((ra * (0 : Int32)) + (1 : Int32))) h0 n0) e10 (fun fs hr => X10.returnOut hx Bd.returns (hb hby d8_86) hr) ⟨(((1 : Int32), (.double FP.dconst0)) :: ((0 : Int32), (.double FP.dconst0)) :: hi), rfl, N4, K4, V_a4, (fun q => absurd q (by decide)), (fun q => absurd q (by decide))⟩ (by decide) (by decide)
      · have own_t := t3
        refine R.aload X0 hx (hb hby d8_0) rfl rfl (pc' := 2) rfl ?_
        refine R.dconst0 X0 hx (hb hby d8_2) (pc' := 3) rfl ?_
        refine R.callS X0 hx hZ (y := mY1) hown w_43 w_44 w_45 w_46 (by decide) e0 (rm9 l Z aZ hw [] a4 FP.dconst0 ki hi h0 n0 Z0 V_a4 g_a4) (by decide) (W := 0) (Nat.le_of_eq rfl) (by decide) (by rw [hml]; rfl) (lenOf pd_1 rfl) rfl (hb hby d8_3) (pc' := 6) rfl (by decide) (by decide) ?_; intro v11 T11 L11 X11 hQ11
        obtain ⟨rfl, N11q, Kc11, P11_0⟩ := hQ11
        have N11 := Fr.app N0 N11q
        generalize e11 : T11.heap = h11 at Kc11 P11_0
        have K11 : Keep h0 h11 [a4] := K0.trans Kc11 ((allS (Or.inl (List.mem_of_getElem? (i := 0) rfl)) all0))
        have Z11 : n0 ≤ h11.size := Nat.le_trans Z0 Kc11.1
        have F_start_a0 := F_start_a0.keep Kc11 (ninS ne_a0_a4 nin0)
        have F_rows_a0 := F_rows_a0.keep Kc11 (ninS ne_a0_a4 nin0)
        have F_values_a0 := F_values_a0.keep Kc11 (ninS ne_a0_a4 nin0)
        have V_st := V_st.keep Kc11 (ninS ne_st_a4 nin0)
        have V_rw := V_rw.keep Kc11 (ninS ne_rw_a4 nin0)
        have V_vl := V_vl.keep Kc11 (ninS ne_vl_a4 nin0)
        have V_a2 := V_a2.keep Kc11 (ninS ne_a2_a4 nin0)
        have V_a4 : Arh Z h11 a4 ki .double (2 : Int32) (((1 : Int32), (.double FP.dconst0)) :: ((0 : Int32), (.double FP.dconst0)) :: hi) [] (.double (0 : UInt64)) := P11_0
        have V_a4 : Arh Z h11 a4 ki .double (2 : Int32) (((1 : Int32), (.double FP.dconst0)) :: ((0 : Int32), (.double FP.dconst0)) :: hi) [] (.double (0 : UInt64)) := V_a4
        refine R.aloadN X11 hx (hb hby d8_6) rfl rfl (pc' := 7) rfl ?_
        refine R.getF X11 hx hZ hown (host := "") (Or.inl w_32) Via.refl e11 F_start_a0 (hb hby d8_7) (pc' := 10) rfl ?_; intro T12 X12 e12
        refine R.iloadN X12 hx (hb hby d8_10) rfl (pc' := 11) rfl ?_
        refine R.iaload X12 hx hZ e12 V_st (own_bd (by omega) : ¬ p1 < 0 ∧ p1 < (3 : Int32)) (v := (.int base)) (rst0) (hb hby d8_11) (pc' := 12) rfl ?_
        refine R.istore X12 hx (hb hby d8_12) (L' := #[.val (.ref a0), .val (.int p1), .val (.ref a2), .val (.int (0 : Int32)), .val (.ref a4), .val (.int base), .unset, .unset, .unset, .unset]) rfl (pc' := 14) rfl ?_
        refine R.iload X12 hx (hb hby d8_14) rfl (pc' := 16) rfl ?_
        refine R.aloadN X12 hx (hb hby d8_16) rfl rfl (pc' := 17) rfl ?_
        refine R.getF X12 hx hZ hown (host := "") (Or.inl w_32) Via.refl e12 F_start_a0 (hb hby d8_17) (pc' := 20) rfl ?_; intro T13 X13 e13
        refine R.iloadN X13 hx (hb hby d8_20) rfl (pc' := 21) rfl ?_
        refine R.iconst X13 hx (hb hby d8_21) (v := (1 : Int32)) (by decide) (pc' := 22) rfl ?_
        refine R.iadd X13 hx (hb hby d8_22) rfl (pc' := 23) rfl ?_
        refine R.iaload X13 hx hZ e13 V_st (own_bd (by omega) : ¬ (p1 + (1 : Int32)) < 0 ∧ (p1 + (1 : Int32)) < (3 : Int32)) (v := (.int ((base + (1 : Int32)) + (1 : Int32)))) (rst1) (hb hby d8_23) (pc' := 24) rfl ?_
        refine R.icmpNo X13 hx (hb hby d8_24) (tlt (Int32.lt_iff_toInt_lt.mpr (by omega) : base < ((base + (1 : Int32)) + (1 : Int32)))).2.1 (pc' := 27) rfl ?_
        refine R.aloadN X13 hx (hb hby d8_27) rfl rfl (pc' := 28) rfl ?_
        refine R.getF X13 hx hZ hown (host := "") (Or.inl w_36) Via.refl e13 F_values_a0 (hb hby d8_28) (pc' := 31) rfl ?_; intro T14 X14 e14
        refine R.iload X14 hx (hb hby d8_31) rfl (pc' := 33) rfl ?_
        refine R.daload X14 hx hZ e14 V_vl (own_bd (by omega) : ¬ base < 0 ∧ base < (4 : Int32)) (v := (.double v0)) (vb0) (hb hby d8_33) (pc' := 34) rfl ?_
        refine R.dstore X14 hx (hb hby d8_34) (L' := #[.val (.ref a0), .val (.int p1), .val (.ref a2), .val (.int (0 : Int32)), .val (.ref a4), .val (.int base), .val (.double v0), .second, .unset, .unset]) rfl (pc' := 36) rfl ?_
        refine R.aloadN X14 hx (hb hby d8_36) rfl rfl (pc' := 37) rfl ?_
        refine R.getF X14 hx hZ hown (host := "") (Or.inl w_34) Via.refl e14 F_rows_a0 (hb hby d8_37) (pc' := 40) rfl ?_; intro T15 X15 e15
        refine R.iload X15 hx (hb hby d8_40) rfl (pc' := 42) rfl ?_
        refine R.iaload X15 hx hZ e15 V_rw (own_bd (by omega) : ¬ base < 0 ∧ base < (4 : Int32)) (v := (.int ra)) (rb0) (hb hby d8_42) (pc' := 43) rfl ?_
        refine R.iloadN X15 hx (hb hby d8_43) rfl (pc' := 44) rfl ?_
        refine R.imul X15 hx (hb hby d8_44) rfl (pc' := 45) rfl ?_
        show Rn p e below (T15.setTop (mkF m 45 #[.val (.ref a0), .val (.int p1), .val (.ref a2), .val (.int (0 : Int32)), .val (.ref a4), .val (.int base), .val (.double v0), .second, .unset, .unset] [(.int (ra * (0 : Int32)))])) G
        generalize hi16 : (ra * (0 : Int32)) = i16
        refine R.istore X15 hx (hb hby d8_45) (L' := #[.val (.ref a0), .val (.int p1), .val (.ref a2), .val (.int (0 : Int32)), .val (.ref a4), .val (.int base), .val (.double v0), .second, .val (.int i16), .unset]) rfl (pc' := 47) rfl ?_
        have w8_i16 : i16.toInt = ra.toInt * 0 := by rw [← hi16]; exact own_mw hra (by decide) (by decide)
        refine R.iconst X15 hx (hb hby d8_47) (v := (0 : Int32)) (by decide) (pc' := 48) rfl ?_
        refine R.istore X15 hx (hb hby d8_48) (L' := #[.val (.ref a0), .val (.int p1), .val (.ref a2), .val (.int (0 : Int32)), .val (.ref a4), .val (.int base), .val (.double v0), .second, .val (.int i16), .val (.int (0 : Int32))]) rfl (pc' := 50) rfl ?_
        refine R.iload X15 hx (hb hby d8_50) rfl (pc' := 52) rfl ?_
        refine R.iloadN X15 hx (hb hby d8_52) rfl (pc' := 53) rfl ?_
        refine R.icmpYes X15 hx (hb hby d8_53) (flt (by decide : ¬ ((0 : Int32) < (0 : Int32)))).2.1 (by decide) (pc' := 80) (by decide) ?_
        refine R.iinc X15 hx (hb hby d8_80) rfl (L' := #[.val (.ref a0), .val (.int p1), .val (.ref a2), .val (.int (0 : Int32)), .val (.ref a4), .val (.int (base + (1 : Int32))), .val (.double v0), .second, .val (.int i16), .val (.int (0 : Int32))]) rfl (pc' := 83) rfl ?_
        refine R.goto X15 hx (hb hby d8_83) (by decide) (pc' := 14) (by decide) ?_
        refine R.iload X15 hx (hb hby d8_14) rfl (pc' := 16) rfl ?_
        refine R.aloadN X15 hx (hb hby d8_16) rfl rfl (pc' := 17) rfl ?_
        refine R.getF X15 hx hZ hown (host := "") (Or.inl w_32) Via.refl e15 F_start_a0 (hb hby d8_17) (pc' := 20) rfl ?_; intro T17 X17 e17
        refine R.iloadN X17 hx (hb hby d8_20) rfl (pc' := 21) rfl ?_
        refine R.iconst X17 hx (hb hby d8_21) (v := (1 : Int32)) (by decide) (pc' := 22) rfl ?_
        refine R.iadd X17 hx (hb hby d8_22) rfl (pc' := 23) rfl ?_
        refine R.iaload X17 hx hZ e17 V_st (own_bd (by omega) : ¬ (p1 + (1 : Int32)) < 0 ∧ (p1 + (1 : Int32)) < (3 : Int32)) (v := (.int ((base + (1 : Int32)) + (1 : Int32)))) (rst1) (hb hby d8_23) (pc' := 24) rfl ?_
        refine R.icmpNo X17 hx (hb hby d8_24) (tlt (Int32.lt_iff_toInt_lt.mpr (by omega) : (base + (1 : Int32)) < ((base + (1 : Int32)) + (1 : Int32)))).2.1 (pc' := 27) rfl ?_
        refine R.aloadN X17 hx (hb hby d8_27) rfl rfl (pc' := 28) rfl ?_
        refine R.getF X17 hx hZ hown (host := "") (Or.inl w_36) Via.refl e17 F_values_a0 (hb hby d8_28) (pc' := 31) rfl ?_; intro T18 X18 e18
        refine R.iload X18 hx (hb hby d8_31) rfl (pc' := 33) rfl ?_
        refine R.daload X18 hx hZ e18 V_vl (own_bd (by omega) : ¬ (base + (1 : Int32)) < 0 ∧ (base + (1 : Int32)) < (4 : Int32)) (v := (.double v1)) (vb1) (hb hby d8_33) (pc' := 34) rfl ?_
        refine R.dstore X18 hx (hb hby d8_34) (L' := #[.val (.ref a0), .val (.int p1), .val (.ref a2), .val (.int (0 : Int32)), .val (.ref a4), .val (.int (base + (1 : Int32))), .val (.double v1), .second, .val (.int i16), .val (.int (0 : Int32))]) rfl (pc' := 36) rfl ?_
        refine R.aloadN X18 hx (hb hby d8_36) rfl rfl (pc' := 37) rfl ?_
        refine R.getF X18 hx hZ hown (host := "") (Or.inl w_34) Via.refl e18 F_rows_a0 (hb hby d8_37) (pc' := 40) rfl ?_; intro T19 X19 e19
        refine R.iload X19 hx (hb hby d8_40) rfl (pc' := 42) rfl ?_
        refine R.iaload X19 hx hZ e19 V_rw (own_bd (by omega) : ¬ (base + (1 : Int32)) < 0 ∧ (base + (1 : Int32)) < (4 : Int32)) (v := (.int rb)) (rb1) (hb hby d8_42) (pc' := 43) rfl ?_
        refine R.iloadN X19 hx (hb hby d8_43) rfl (pc' := 44) rfl ?_
        refine R.imul X19 hx (hb hby d8_44) rfl (pc' := 45) rfl ?_
        show Rn p e below (T19.setTop (mkF m 45 #[.val (.ref a0), .val (.int p1), .val (.ref a2), .val (.int (0 : Int32)), .val (.ref a4), .val (.int (base + (1 : Int32))), .val (.double v1), .second, .val (.int i16), .val (.int (0 : Int32))] [(.int (rb * (0 : Int32)))])) G
        generalize hi20 : (rb * (0 : Int32)) = i20
        refine R.istore X19 hx (hb hby d8_45) (L' := #[.val (.ref a0), .val (.int p1), .val (.ref a2), .val (.int (0 : Int32)), .val (.ref a4), .val (.int (base + (1 : Int32))), .val (.double v1), .second, .val (.int i20), .val (.int (0 : Int32))]) rfl (pc' := 47) rfl ?_
        have w8_i20 : i20.toInt = rb.toInt * 0 := by rw [← hi20]; exact own_mw hrb (by decide) (by decide)
        refine R.iconst X19 hx (hb hby d8_47) (v := (0 : Int32)) (by decide) (pc' := 48) rfl ?_
        refine R.istore X19 hx (hb hby d8_48) (L' := #[.val (.ref a0), .val (.int p1), .val (.ref a2), .val (.int (0 : Int32)), .val (.ref a4), .val (.int (base + (1 : Int32))), .val (.double v1), .second, .val (.int i20), .val (.int (0 : Int32))]) rfl (pc' := 50) rfl ?_
        refine R.iload X19 hx (hb hby d8_50) rfl (pc' := 52) rfl ?_
        refine R.iloadN X19 hx (hb hby d8_52) rfl (pc' := 53) rfl ?_
        refine R.icmpYes X19 hx (hb hby d8_53) (flt (by decide : ¬ ((0 : Int32) < (0 : Int32)))).2.1 (by decide) (pc' := 80) (by decide) ?_
        refine R.iinc X19 hx (hb hby d8_80) rfl (L' := #[.val (.ref a0), .val (.int p1), .val (.ref a2), .val (.int (0 : Int32)), .val (.ref a4), .val (.int ((base + (1 : Int32)) + (1 : Int32))), .val (.double v1), .second, .val (.int i20), .val (.int (0 : Int32))]) rfl (pc' := 83) rfl ?_
        refine R.goto X19 hx (hb hby d8_83) (by decide) (pc' := 14) (by decide) ?_
        refine R.iload X19 hx (hb hby d8_14) rfl (pc' := 16) rfl ?_
        refine R.aloadN X19 hx (hb hby d8_16) rfl rfl (pc' := 17) rfl ?_
        refine R.getF X19 hx hZ hown (host := "") (Or.inl w_32) Via.refl e19 F_start_a0 (hb hby d8_17) (pc' := 20) rfl ?_; intro T21 X21 e21
        refine R.iloadN X21 hx (hb hby d8_20) rfl (pc' := 21) rfl ?_
        refine R.iconst X21 hx (hb hby d8_21) (v := (1 : Int32)) (by decide) (pc' := 22) rfl ?_
        refine R.iadd X21 hx (hb hby d8_22) rfl (pc' := 23) rfl ?_
        refine R.iaload X21 hx hZ e21 V_st (own_bd (by omega) : ¬ (p1 + (1 : Int32)) < 0 ∧ (p1 + (1 : Int32)) < (3 : Int32)) (v := (.int ((base + (1 : Int32)) + (1 : Int32)))) (rst1) (hb hby d8_23) (pc' := 24) rfl ?_
        refine R.icmpYes X21 hx (hb hby d8_24) (flt (own_irr _ : ¬ (((base + (1 : Int32)) + (1 : Int32)) < ((base + (1 : Int32)) + (1 : Int32))))).2.1 (by decide) (pc' := 86) (by decide) ?_
        rw [← hG]
        exact Rn.ret X21 (BodyLoose.notSynchronized Bd) (v := none) (fun _ => rfl) (Q := Q8 Z a0 p1 a2 (0 : Int32) a4 st rw vl kst krw kvl ky ki hst hrw hvl hy hi base ((base + (1 : Int32)) + (1 : Int32)) v0 v1 W0 W1 ra rb yv Yi (W0 * Yi (ra * (0 : Int32)) + W1 * Yi (rb * (0 : Int32))) (W0 * Yi ((ra * (0 : Int32)) + (1 : Int32)) + W1 * Yi ((rb * (0 : Int32)) + (1 : Int32))) h0 n0) e21 (fun fs hr => X21.returnOut hx Bd.returns (hb hby d8_86) hr) ⟨(((1 : Int32), (.double FP.dconst0)) :: ((0 : Int32), (.double FP.dconst0)) :: hi), rfl, N11, K11, V_a4, (fun q => absurd q (by decide)), (fun q => absurd q (by decide))⟩ (by decide) (by decide)
    · rcases hk with ⟨rfl, rfl, rfl⟩ | ⟨rfl, vb0, rb0, rfl, rfl⟩ | ⟨rfl, vb0, rb0, vb1, rb1, rfl, rfl⟩
      · have own_t := t3
        refine R.aload X0 hx (hb hby d8_0) rfl rfl (pc' := 2) rfl ?_
        refine R.dconst0 X0 hx (hb hby d8_2) (pc' := 3) rfl ?_
        refine R.callS X0 hx hZ (y := mY1) hown w_43 w_44 w_45 w_46 (by decide) e0 (rm9 l Z aZ hw [] a4 FP.dconst0 ki hi h0 n0 Z0 V_a4 g_a4) (by decide) (W := 0) (Nat.le_of_eq rfl) (by decide) (by rw [hml]; rfl) (lenOf pd_1 rfl) rfl (hb hby d8_3) (pc' := 6) rfl (by decide) (by decide) ?_; intro v22 T22 L22 X22 hQ22
        obtain ⟨rfl, N22q, Kc22, P22_0⟩ := hQ22
        have N22 := Fr.app N0 N22q
        generalize e22 : T22.heap = h22 at Kc22 P22_0
        have K22 : Keep h0 h22 [a4] := K0.trans Kc22 ((allS (Or.inl (List.mem_of_getElem? (i := 0) rfl)) all0))
        have Z22 : n0 ≤ h22.size := Nat.le_trans Z0 Kc22.1
        have F_start_a0 := F_start_a0.keep Kc22 (ninS ne_a0_a4 nin0)
        have F_rows_a0 := F_rows_a0.keep Kc22 (ninS ne_a0_a4 nin0)
        have F_values_a0 := F_values_a0.keep Kc22 (ninS ne_a0_a4 nin0)
        have V_st := V_st.keep Kc22 (ninS ne_st_a4 nin0)
        have V_rw := V_rw.keep Kc22 (ninS ne_rw_a4 nin0)
        have V_vl := V_vl.keep Kc22 (ninS ne_vl_a4 nin0)
        have V_a2 := V_a2.keep Kc22 (ninS ne_a2_a4 nin0)
        have V_a4 : Arh Z h22 a4 ki .double (2 : Int32) (((1 : Int32), (.double FP.dconst0)) :: ((0 : Int32), (.double FP.dconst0)) :: hi) [] (.double (0 : UInt64)) := P22_0
        have V_a4 : Arh Z h22 a4 ki .double (2 : Int32) (((1 : Int32), (.double FP.dconst0)) :: ((0 : Int32), (.double FP.dconst0)) :: hi) [] (.double (0 : UInt64)) := V_a4
        refine R.aloadN X22 hx (hb hby d8_6) rfl rfl (pc' := 7) rfl ?_
        refine R.getF X22 hx hZ hown (host := "") (Or.inl w_32) Via.refl e22 F_start_a0 (hb hby d8_7) (pc' := 10) rfl ?_; intro T23 X23 e23
        refine R.iloadN X23 hx (hb hby d8_10) rfl (pc' := 11) rfl ?_
        refine R.iaload X23 hx hZ e23 V_st (own_bd (by omega) : ¬ p1 < 0 ∧ p1 < (3 : Int32)) (v := (.int base)) (rst0) (hb hby d8_11) (pc' := 12) rfl ?_
        refine R.istore X23 hx (hb hby d8_12) (L' := #[.val (.ref a0), .val (.int p1), .val (.ref a2), .val (.int (1 : Int32)), .val (.ref a4), .val (.int base), .unset, .unset, .unset, .unset]) rfl (pc' := 14) rfl ?_
        refine R.iload X23 hx (hb hby d8_14) rfl (pc' := 16) rfl ?_
        refine R.aloadN X23 hx (hb hby d8_16) rfl rfl (pc' := 17) rfl ?_
        refine R.getF X23 hx hZ hown (host := "") (Or.inl w_32) Via.refl e23 F_start_a0 (hb hby d8_17) (pc' := 20) rfl ?_; intro T24 X24 e24
        refine R.iloadN X24 hx (hb hby d8_20) rfl (pc' := 21) rfl ?_
        refine R.iconst X24 hx (hb hby d8_21) (v := (1 : Int32)) (by decide) (pc' := 22) rfl ?_
        refine R.iadd X24 hx (hb hby d8_22) rfl (pc' := 23) rfl ?_
        refine R.iaload X24 hx hZ e24 V_st (own_bd (by omega) : ¬ (p1 + (1 : Int32)) < 0 ∧ (p1 + (1 : Int32)) < (3 : Int32)) (v := (.int base)) (rst1) (hb hby d8_23) (pc' := 24) rfl ?_
        refine R.icmpYes X24 hx (hb hby d8_24) (flt (own_irr _ : ¬ (base < base))).2.1 (by decide) (pc' := 86) (by decide) ?_
        rw [← hG]
        exact Rn.ret X24 (BodyLoose.notSynchronized Bd) (v := none) (fun _ => rfl) (Q := Q8 Z a0 p1 a2 (1 : Int32) a4 st rw vl kst krw kvl ky ki hst hrw hvl hy hi base base v0 v1 W0 W1 ra rb yv Yi 0 0 h0 n0) e24 (fun fs hr => X24.returnOut hx Bd.returns (hb hby d8_86) hr) ⟨(((1 : Int32), (.double FP.dconst0)) :: ((0 : Int32), (.double FP.dconst0)) :: hi), rfl, N22, K22, V_a4, (fun _ => ⟨_, getH_miss (by decide) (by decide) (getH_hit (by decide) (rfl)), Dy.cast own_zero' (by rfl) rfl⟩), (fun q => absurd q (by decide))⟩ (by decide) (by decide)
      · have own_t := t3
        refine R.aload X0 hx (hb hby d8_0) rfl rfl (pc' := 2) rfl ?_
        refine R.dconst0 X0 hx (hb hby d8_2) (pc' := 3) rfl ?_
        refine R.callS X0 hx hZ (y := mY1) hown w_43 w_44 w_45 w_46 (by decide) e0 (rm9 l Z aZ hw [] a4 FP.dconst0 ki hi h0 n0 Z0 V_a4 g_a4) (by decide) (W := 0) (Nat.le_of_eq rfl) (by decide) (by rw [hml]; rfl) (lenOf pd_1 rfl) rfl (hb hby d8_3) (pc' := 6) rfl (by decide) (by decide) ?_; intro v25 T25 L25 X25 hQ25
        obtain ⟨rfl, N25q, Kc25, P25_0⟩ := hQ25
        have N25 := Fr.app N0 N25q
        generalize e25 : T25.heap = h25 at Kc25 P25_0
        have K25 : Keep h0 h25 [a4] := K0.trans Kc25 ((allS (Or.inl (List.mem_of_getElem? (i := 0) rfl)) all0))
        have Z25 : n0 ≤ h25.size := Nat.le_trans Z0 Kc25.1
        have F_start_a0 := F_start_a0.keep Kc25 (ninS ne_a0_a4 nin0)
        have F_rows_a0 := F_rows_a0.keep Kc25 (ninS ne_a0_a4 nin0)
        have F_values_a0 := F_values_a0.keep Kc25 (ninS ne_a0_a4 nin0)
        have V_st := V_st.keep Kc25 (ninS ne_st_a4 nin0)
        have V_rw := V_rw.keep Kc25 (ninS ne_rw_a4 nin0)
        have V_vl := V_vl.keep Kc25 (ninS ne_vl_a4 nin0)
        have V_a2 := V_a2.keep Kc25 (ninS ne_a2_a4 nin0)
        have V_a4 : Arh Z h25 a4 ki .double (2 : Int32) (((1 : Int32), (.double FP.dconst0)) :: ((0 : Int32), (.double FP.dconst0)) :: hi) [] (.double (0 : UInt64)) := P25_0
        have V_a4 : Arh Z h25 a4 ki .double (2 : Int32) (((1 : Int32), (.double FP.dconst0)) :: ((0 : Int32), (.double FP.dconst0)) :: hi) [] (.double (0 : UInt64)) := V_a4
        refine R.aloadN X25 hx (hb hby d8_6) rfl rfl (pc' := 7) rfl ?_
        refine R.getF X25 hx hZ hown (host := "") (Or.inl w_32) Via.refl e25 F_start_a0 (hb hby d8_7) (pc' := 10) rfl ?_; intro T26 X26 e26
        refine R.iloadN X26 hx (hb hby d8_10) rfl (pc' := 11) rfl ?_
        refine R.iaload X26 hx hZ e26 V_st (own_bd (by omega) : ¬ p1 < 0 ∧ p1 < (3 : Int32)) (v := (.int base)) (rst0) (hb hby d8_11) (pc' := 12) rfl ?_
        refine R.istore X26 hx (hb hby d8_12) (L' := #[.val (.ref a0), .val (.int p1), .val (.ref a2), .val (.int (1 : Int32)), .val (.ref a4), .val (.int base), .unset, .unset, .unset, .unset]) rfl (pc' := 14) rfl ?_
        refine R.iload X26 hx (hb hby d8_14) rfl (pc' := 16) rfl ?_
        refine R.aloadN X26 hx (hb hby d8_16) rfl rfl (pc' := 17) rfl ?_
        refine R.getF X26 hx hZ hown (host := "") (Or.inl w_32) Via.refl e26 F_start_a0 (hb hby d8_17) (pc' := 20) rfl ?_; intro T27 X27 e27
        refine R.iloadN X27 hx (hb hby d8_20) rfl (pc' := 21) rfl ?_
        refine R.iconst X27 hx (hb hby d8_21) (v := (1 : Int32)) (by decide) (pc' := 22) rfl ?_
        refine R.iadd X27 hx (hb hby d8_22) rfl (pc' := 23) rfl ?_
        refine R.iaload X27 hx hZ e27 V_st (own_bd (by omega) : ¬ (p1 + (1 : Int32)) < 0 ∧ (p1 + (1 : Int32)) < (3 : Int32)) (v := (.int (base + (1 : Int32)))) (rst1) (hb hby d8_23) (pc' := 24) rfl ?_
        refine R.icmpNo X27 hx (hb hby d8_24) (tlt (Int32.lt_iff_toInt_lt.mpr (by omega) : base < (base + (1 : Int32)))).2.1 (pc' := 27) rfl ?_
        refine R.aloadN X27 hx (hb hby d8_27) rfl rfl (pc' := 28) rfl ?_
        refine R.getF X27 hx hZ hown (host := "") (Or.inl w_36) Via.refl e27 F_values_a0 (hb hby d8_28) (pc' := 31) rfl ?_; intro T28 X28 e28
        refine R.iload X28 hx (hb hby d8_31) rfl (pc' := 33) rfl ?_
        refine R.daload X28 hx hZ e28 V_vl (own_bd (by omega) : ¬ base < 0 ∧ base < (4 : Int32)) (v := (.double v0)) (vb0) (hb hby d8_33) (pc' := 34) rfl ?_
        refine R.dstore X28 hx (hb hby d8_34) (L' := #[.val (.ref a0), .val (.int p1), .val (.ref a2), .val (.int (1 : Int32)), .val (.ref a4), .val (.int base), .val (.double v0), .second, .unset, .unset]) rfl (pc' := 36) rfl ?_
        refine R.aloadN X28 hx (hb hby d8_36) rfl rfl (pc' := 37) rfl ?_
        refine R.getF X28 hx hZ hown (host := "") (Or.inl w_34) Via.refl e28 F_rows_a0 (hb hby d8_37) (pc' := 40) rfl ?_; intro T29 X29 e29
        refine R.iload X29 hx (hb hby d8_40) rfl (pc' := 42) rfl ?_
        refine R.iaload X29 hx hZ e29 V_rw (own_bd (by omega) : ¬ base < 0 ∧ base < (4 : Int32)) (v := (.int ra)) (rb0) (hb hby d8_42) (pc' := 43) rfl ?_
        refine R.iloadN X29 hx (hb hby d8_43) rfl (pc' := 44) rfl ?_
        refine R.imul X29 hx (hb hby d8_44) rfl (pc' := 45) rfl ?_
        show Rn p e below (T29.setTop (mkF m 45 #[.val (.ref a0), .val (.int p1), .val (.ref a2), .val (.int (1 : Int32)), .val (.ref a4), .val (.int base), .val (.double v0), .second, .unset, .unset] [(.int (ra * (1 : Int32)))])) G
        generalize hi30 : (ra * (1 : Int32)) = i30
        refine R.istore X29 hx (hb hby d8_45) (L' := #[.val (.ref a0), .val (.int p1), .val (.ref a2), .val (.int (1 : Int32)), .val (.ref a4), .val (.int base), .val (.double v0), .second, .val (.int i30), .unset]) rfl (pc' := 47) rfl ?_
        have w8_i30 : i30.toInt = ra.toInt * 1 := by rw [← hi30]; exact own_mw hra (by decide) (by decide)
        have x0_i30 : (i30 + (0 : Int32)).toInt = ra.toInt * 1 + 0 := by rw [own_pk (k := (0 : Int32)) (d := 0) (by decide) (by omega)]; omega
        obtain ⟨g0_i30, D0_i30, n0_i30⟩ := rdy (i30 + (0 : Int32)) (by omega) (by omega)
        have q0_i30 := own_pb bW0 n0_i30
        refine R.iconst X29 hx (hb hby d8_47) (v := (0 : Int32)) (by decide) (pc' := 48) rfl ?_
        refine R.istore X29 hx (hb hby d8_48) (L' := #[.val (.ref a0), .val (.int p1), .val (.ref a2), .val (.int (1 : Int32)), .val (.ref a4), .val (.int base), .val (.double v0), .second, .val (.int i30), .val (.int (0 : Int32))]) rfl (pc' := 50) rfl ?_
        refine R.iload X29 hx (hb hby d8_50) rfl (pc' := 52) rfl ?_
        refine R.iloadN X29 hx (hb hby d8_52) rfl (pc' := 53) rfl ?_
        refine R.icmpNo X29 hx (hb hby d8_53) (tlt (by decide : (0 : Int32) < (1 : Int32))).2.1 (pc' := 56) rfl ?_
        refine R.aload X29 hx (hb hby d8_56) rfl rfl (pc' := 58) rfl ?_
        refine R.iload X29 hx (hb hby d8_58) rfl (pc' := 60) rfl ?_
        refine R.dup2 X29 hx (hb hby d8_60) rfl rfl (pc' := 61) rfl ?_
        refine R.daload X29 hx hZ e29 V_a4 (⟨by decide, by decide⟩ : ¬ (0 : Int32) < 0 ∧ (0 : Int32) < (2 : Int32)) (v := (.double FP.dconst0)) (getH_miss ((⟨by decide, by decide⟩ : ¬ (0 : Int32) < 0 ∧ (0 : Int32) < (2 : Int32))).1 (by decide) (getH_hit ((⟨by decide, by decide⟩ : ¬ (0 : Int32) < 0 ∧ (0 : Int32) < (2 : Int32))).1 (rfl))) (hb hby d8_61) (pc' := 62) rfl ?_
        refine R.dload X29 hx (hb hby d8_62) rfl (pc' := 64) rfl ?_
        refine R.aloadN X29 hx (hb hby d8_64) rfl rfl (pc' := 65) rfl ?_
        refine R.iload X29 hx (hb hby d8_65) rfl (pc' := 67) rfl ?_
        refine R.iload X29 hx (hb hby d8_67) rfl (pc' := 69) rfl ?_
        refine R.iadd X29 hx (hb hby d8_69) rfl (pc' := 70) rfl ?_
        refine R.daload X29 hx hZ e29 V_a2 (own_bd (by omega) : ¬ (i30 + (0 : Int32)) < 0 ∧ (i30 + (0 : Int32)) < (6 : Int32)) (v := (.double (yv (i30 + (0 : Int32))))) (g0_i30) (hb hby d8_70) (pc' := 71) rfl ?_
        refine R.dmul X29 hx (hb hby d8_71) ((Dy.mul Dv0 D0_i30 (by omega) (by decide)).nn : NoNaN64 (FP.dmul v0 (yv (i30 + (0 : Int32))))) (pc' := 72) rfl ?_
        refine R.dadd X29 hx (hb hby d8_72) ((Dy.add own_zero' (Dy.mul Dv0 D0_i30 (by omega) (by decide)) (by omega) (by decide)).nn : NoNaN64 (FP.dadd FP.dconst0 (FP.dmul v0 (yv (i30 + (0 : Int32)))))) (pc' := 73) rfl ?_
        refine R.dastore X29 hx hZ e29 V_a4 (⟨by decide, by decide⟩ : ¬ (0 : Int32) < 0 ∧ (0 : Int32) < (2 : Int32)) (hb hby d8_73) (pc' := 74) rfl ?_; intro T31 h31 X31 e31 W31 V31
        have F_start_a0 := F_start_a0.other W31 (Or.inl ne_a0_a4)
        have F_rows_a0 := F_rows_a0.other W31 (Or.inl ne_a0_a4)
        have F_values_a0 := F_values_a0.other W31 (Or.inl ne_a0_a4)
        have V_st := V_st.other W31 ne_st_a4
        have V_rw := V_rw.other W31 ne_rw_a4
        have V_vl := V_vl.other W31 ne_vl_a4
        have V_a2 := V_a2.other W31 ne_a2_a4
        have V_a4 : Arh Z h31 a4 ki .double (2 : Int32) (((0 : Int32), (.double (FP.dadd FP.dconst0 (FP.dmul v0 (yv (i30 + (0 : Int32))))))) :: ((1 : Int32), (.double FP.dconst0)) :: ((0 : Int32), (.double FP.dconst0)) :: hi) [] (.double (0 : UInt64)) := V31
        have N31 := Fr.snoc X31 N25 g_a4
        have K31 : Keep h0 h31 [a4] := K25.wr W31 (Or.inl (List.mem_of_getElem? (i := 0) rfl))
        have Z31 : n0 ≤ h31.size := Nat.le_trans Z25 (Keep.of_wr W31).1
        refine R.iinc X31 hx (hb hby d8_74) rfl (L' := #[.val (.ref a0), .val (.int p1), .val (.ref a2), .val (.int (1 : Int32)), .val (.ref a4), .val (.int base), .val (.double v0), .second, .val (.int i30), .val (.int (1 : Int32))]) rfl (pc' := 77) rfl ?_
        refine R.goto X31 hx (hb hby d8_77) (by decide) (pc' := 50) (by decide) ?_
        refine R.iload X31 hx (hb hby d8_50) rfl (pc' := 52) rfl ?_
        refine R.iloadN X31 hx (hb hby d8_52) rfl (pc' := 53) rfl ?_
        refine R.icmpYes X31 hx (hb hby d8_53) (flt (by decide : ¬ ((1 : Int32) < (1 : Int32)))).2.1 (by decide) (pc' := 80) (by decide) ?_
        refine R.iinc X31 hx (hb hby d8_80) rfl (L' := #[.val (.ref a0), .val (.int p1), .val (.ref a2), .val (.int (1 : Int32)), .val (.ref a4), .val (.int (base + (1 : Int32))), .val (.double v0), .second, .val (.int i30), .val (.int (1 : Int32))]) rfl (pc' := 83) rfl ?_
        refine R.goto X31 hx (hb hby d8_83) (by decide) (pc' := 14) (by decide) ?_
        refine R.iload X31 hx (hb hby d8_14) rfl (pc' := 16) rfl ?_
        refine R.aloadN X31 hx (hb hby d8_16) rfl rfl (pc' := 17) rfl ?_
        refine R.getF X31 hx hZ hown (host := "") (Or.inl w_32) Via.refl e31 F_start_a0 (hb hby d8_17) (pc' := 20) rfl ?_; intro T32 X32 e32
        refine R.iloadN X32 hx (hb hby d8_20) rfl (pc' := 21) rfl ?_
        refine R.iconst X32 hx (hb hby d8_21) (v := (1 : Int32)) (by decide) (pc' := 22) rfl ?_
        refine R.iadd X32 hx (hb hby d8_22) rfl (pc' := 23) rfl ?_
        refine R.iaload X32 hx hZ e32 V_st (own_bd (by omega) : ¬ (p1 + (1 : Int32)) < 0 ∧ (p1 + (1 : Int32)) < (3 : Int32)) (v := (.int (base + (1 : Int32)))) (rst1) (hb hby d8_23) (pc' := 24) rfl ?_
        refine R.icmpYes X32 hx (hb hby d8_24) (flt (own_irr _ : ¬ ((base + (1 : Int32)) < (base + (1 : Int32))))).2.1 (by decide) (pc' := 86) (by decide) ?_
        rw [← hG]
        exact Rn.ret X32 (BodyLoose.notSynchronized Bd) (v := none) (fun _ => rfl) (Q := Q8 Z a0 p1 a2 (1 : Int32) a4 st rw vl kst krw kvl ky ki hst hrw hvl hy hi base (base + (1 : Int32)) v0 v1 W0 W1 ra rb yv Yi (W0 * Yi (ra * (1 : Int32))) (W0 * Yi ((ra * (1 : Int32)) + (1 : Int32))) h0 n0) e32 (fun fs hr => X32.returnOut hx Bd.returns (hb hby d8_86) hr) ⟨(((0 : Int32), (.double (FP.dadd FP.dconst0 (FP.dmul v0 (yv (i30 + (0 : Int32))))))) :: ((1 : Int32), (.double FP.dconst0)) :: ((0 : Int32), (.double FP.dconst0)) :: hi), rfl, N31, K31, V_a4, (fun _ => ⟨_, getH_hit (by decide) (rfl), Dy.cast (Dy.add own_zero' (Dy.mul Dv0 D0_i30 (by omega) (by decide)) (by omega) (by decide)) (by rw [own_ix0 (Yi := Yi) hi30]; omega) rfl⟩), (fun q => absurd q (by decide))⟩ (by decide) (by decide)
      · have own_t := t3
        refine R.aload X0 hx (hb hby d8_0) rfl rfl (pc' := 2) rfl ?_
        refine R.dconst0 X0 hx (hb hby d8_2) (pc' := 3) rfl ?_
        refine R.callS X0 hx hZ (y := mY1) hown w_43 w_44 w_45 w_46 (by decide) e0 (rm9 l Z aZ hw [] a4 FP.dconst0 ki hi h0 n0 Z0 V_a4 g_a4) (by decide) (W := 0) (Nat.le_of_eq rfl) (by decide) (by rw [hml]; rfl) (lenOf pd_1 rfl) rfl (hb hby d8_3) (pc' := 6) rfl (by decide) (by decide) ?_; intro v33 T33 L33 X33 hQ33
        obtain ⟨rfl, N33q, Kc33, P33_0⟩ := hQ33
        have N33 := Fr.app N0 N33q
        generalize e33 : T33.heap = h33 at Kc33 P33_0
        have K33 : Keep h0 h33 [a4] := K0.trans Kc33 ((allS (Or.inl (List.mem_of_getElem? (i := 0) rfl)) all0))
        have Z33 : n0 ≤ h33.size := Nat.le_trans Z0 Kc33.1
        have F_start_a0 := F_start_a0.keep Kc33 (ninS ne_a0_a4 nin0)
        have F_rows_a0 := F_rows_a0.keep Kc33 (ninS ne_a0_a4 nin0)
        have F_values_a0 := F_values_a0.keep Kc33 (ninS ne_a0_a4 nin0)
        have V_st := V_st.keep Kc33 (ninS ne_st_a4 nin0)
        have V_rw := V_rw.keep Kc33 (ninS ne_rw_a4 nin0)
        have V_vl := V_vl.keep Kc33 (ninS ne_vl_a4 nin0)
        have V_a2 := V_a2.keep Kc33 (ninS ne_a2_a4 nin0)
        have V_a4 : Arh Z h33 a4 ki .double (2 : Int32) (((1 : Int32), (.double FP.dconst0)) :: ((0 : Int32), (.double FP.dconst0)) :: hi) [] (.double (0 : UInt64)) := P33_0
        have V_a4 : Arh Z h33 a4 ki .double (2 : Int32) (((1 : Int32), (.double FP.dconst0)) :: ((0 : Int32), (.double FP.dconst0)) :: hi) [] (.double (0 : UInt64)) := V_a4
        refine R.aloadN X33 hx (hb hby d8_6) rfl rfl (pc' := 7) rfl ?_
        refine R.getF X33 hx hZ hown (host := "") (Or.inl w_32) Via.refl e33 F_start_a0 (hb hby d8_7) (pc' := 10) rfl ?_; intro T34 X34 e34
        refine R.iloadN X34 hx (hb hby d8_10) rfl (pc' := 11) rfl ?_
        refine R.iaload X34 hx hZ e34 V_st (own_bd (by omega) : ¬ p1 < 0 ∧ p1 < (3 : Int32)) (v := (.int base)) (rst0) (hb hby d8_11) (pc' := 12) rfl ?_
        refine R.istore X34 hx (hb hby d8_12) (L' := #[.val (.ref a0), .val (.int p1), .val (.ref a2), .val (.int (1 : Int32)), .val (.ref a4), .val (.int base), .unset, .unset, .unset, .unset]) rfl (pc' := 14) rfl ?_
        refine R.iload X34 hx (hb hby d8_14) rfl (pc' := 16) rfl ?_
        refine R.aloadN X34 hx (hb hby d8_16) rfl rfl (pc' := 17) rfl ?_
        refine R.getF X34 hx hZ hown (host := "") (Or.inl w_32) Via.refl e34 F_start_a0 (hb hby d8_17) (pc' := 20) rfl ?_; intro T35 X35 e35
        refine R.iloadN X35 hx (hb hby d8_20) rfl (pc' := 21) rfl ?_
        refine R.iconst X35 hx (hb hby d8_21) (v := (1 : Int32)) (by decide) (pc' := 22) rfl ?_
        refine R.iadd X35 hx (hb hby d8_22) rfl (pc' := 23) rfl ?_
        refine R.iaload X35 hx hZ e35 V_st (own_bd (by omega) : ¬ (p1 + (1 : Int32)) < 0 ∧ (p1 + (1 : Int32)) < (3 : Int32)) (v := (.int ((base + (1 : Int32)) + (1 : Int32)))) (rst1) (hb hby d8_23) (pc' := 24) rfl ?_
        refine R.icmpNo X35 hx (hb hby d8_24) (tlt (Int32.lt_iff_toInt_lt.mpr (by omega) : base < ((base + (1 : Int32)) + (1 : Int32)))).2.1 (pc' := 27) rfl ?_
        refine R.aloadN X35 hx (hb hby d8_27) rfl rfl (pc' := 28) rfl ?_
        refine R.getF X35 hx hZ hown (host := "") (Or.inl w_36) Via.refl e35 F_values_a0 (hb hby d8_28) (pc' := 31) rfl ?_; intro T36 X36 e36
        refine R.iload X36 hx (hb hby d8_31) rfl (pc' := 33) rfl ?_
        refine R.daload X36 hx hZ e36 V_vl (own_bd (by omega) : ¬ base < 0 ∧ base < (4 : Int32)) (v := (.double v0)) (vb0) (hb hby d8_33) (pc' := 34) rfl ?_
        refine R.dstore X36 hx (hb hby d8_34) (L' := #[.val (.ref a0), .val (.int p1), .val (.ref a2), .val (.int (1 : Int32)), .val (.ref a4), .val (.int base), .val (.double v0), .second, .unset, .unset]) rfl (pc' := 36) rfl ?_
        refine R.aloadN X36 hx (hb hby d8_36) rfl rfl (pc' := 37) rfl ?_
        refine R.getF X36 hx hZ hown (host := "") (Or.inl w_34) Via.refl e36 F_rows_a0 (hb hby d8_37) (pc' := 40) rfl ?_; intro T37 X37 e37
        refine R.iload X37 hx (hb hby d8_40) rfl (pc' := 42) rfl ?_
        refine R.iaload X37 hx hZ e37 V_rw (own_bd (by omega) : ¬ base < 0 ∧ base < (4 : Int32)) (v := (.int ra)) (rb0) (hb hby d8_42) (pc' := 43) rfl ?_
        refine R.iloadN X37 hx (hb hby d8_43) rfl (pc' := 44) rfl ?_
        refine R.imul X37 hx (hb hby d8_44) rfl (pc' := 45) rfl ?_
        show Rn p e below (T37.setTop (mkF m 45 #[.val (.ref a0), .val (.int p1), .val (.ref a2), .val (.int (1 : Int32)), .val (.ref a4), .val (.int base), .val (.double v0), .second, .unset, .unset] [(.int (ra * (1 : Int32)))])) G
        generalize hi38 : (ra * (1 : Int32)) = i38
        refine R.istore X37 hx (hb hby d8_45) (L' := #[.val (.ref a0), .val (.int p1), .val (.ref a2), .val (.int (1 : Int32)), .val (.ref a4), .val (.int base), .val (.double v0), .second, .val (.int i38), .unset]) rfl (pc' := 47) rfl ?_
        have w8_i38 : i38.toInt = ra.toInt * 1 := by rw [← hi38]; exact own_mw hra (by decide) (by decide)
        have x0_i38 : (i38 + (0 : Int32)).toInt = ra.toInt * 1 + 0 := by rw [own_pk (k := (0 : Int32)) (d := 0) (by decide) (by omega)]; omega
        obtain ⟨g0_i38, D0_i38, n0_i38⟩ := rdy (i38 + (0 : Int32)) (by omega) (by omega)
        have q0_i38 := own_pb bW0 n0_i38
        refine R.iconst X37 hx (hb hby d8_47) (v := (0 : Int32)) (by decide) (pc' := 48) rfl ?_
        refine R.istore X37 hx (hb hby d8_48) (L' := #[.val (.ref a0), .val (.int p1), .val (.ref a2), .val (.int (1 : Int32)), .val (.ref a4), .val (.int base), .val (.double v0), .second, .val (.int i38), .val (.int (0 : Int32))]) rfl (pc' := 50) rfl ?_
        refine R.iload X37 hx (hb hby d8_50) rfl (pc' := 52) rfl ?_
        refine R.iloadN X37 hx (hb hby d8_52) rfl (pc' := 53) rfl ?_
        refine R.icmpNo X37 hx (hb hby d8_53) (tlt (by decide : (0 : Int32) < (1 : Int32))).2.1 (pc' := 56) rfl ?_
        refine R.aload X37 hx (hb hby d8_56) rfl rfl (pc' := 58) rfl ?_
        refine R.iload X37 hx (hb hby d8_58) rfl (pc' := 60) rfl ?_
        refine R.dup2 X37 hx (hb hby d8_60) rfl rfl (pc' := 61) rfl ?_
        refine R.daload X37 hx hZ e37 V_a4 (⟨by decide, by decide⟩ : ¬ (0 : Int32) < 0 ∧ (0 : Int32) < (2 : Int32)) (v := (.double FP.dconst0)) (getH_miss ((⟨by decide, by decide⟩ : ¬ (0 : Int32) < 0 ∧ (0 : Int32) < (2 : Int32))).1 (by decide) (getH_hit ((⟨by decide, by decide⟩ : ¬ (0 : Int32) < 0 ∧ (0 : Int32) < (2 : Int32))).1 (rfl))) (hb hby d8_61) (pc' := 62) rfl ?_
        refine R.dload X37 hx (hb hby d8_62) rfl (pc' := 64) rfl ?_
        refine R.aloadN X37 hx (hb hby d8_64) rfl rfl (pc' := 65) rfl ?_
        refine R.iload X37 hx (hb hby d8_65) rfl (pc' := 67) rfl ?_
        refine R.iload X37 hx (hb hby d8_67) rfl (pc' := 69) rfl ?_
        refine R.iadd X37 hx (hb hby d8_69) rfl (pc' := 70) rfl ?_
        refine R.daload X37 hx hZ e37 V_a2 (own_bd (by omega) : ¬ (i38 + (0 : Int32)) < 0 ∧ (i38 + (0 : Int32)) < (6 : Int32)) (v := (.double (yv (i38 + (0 : Int32))))) (g0_i38) (hb hby d8_70) (pc' := 71) rfl ?_
        refine R.dmul X37 hx (hb hby d8_71) ((Dy.mul Dv0 D0_i38 (by omega) (by decide)).nn : NoNaN64 (FP.dmul v0 (yv (i38 + (0 : Int32))))) (pc' := 72) rfl ?_
        refine R.dadd X37 hx (hb hby d8_72) ((Dy.add own_zero' (Dy.mul Dv0 D0_i38 (by omega) (by decide)) (by omega) (by decide)).nn : NoNaN64 (FP.dadd FP.dconst0 (FP.dmul v0 (yv (i38 + (0 : Int32)))))) (pc' := 73) rfl ?_
        refine R.dastore X37 hx hZ e37 V_a4 (⟨by decide, by decide⟩ : ¬ (0 : Int32) < 0 ∧ (0 : Int32) < (2 : Int32)) (hb hby d8_73) (pc' := 74) rfl ?_; intro T39 h39 X39 e39 W39 V39
        have F_start_a0 := F_start_a0.other W39 (Or.inl ne_a0_a4)
        have F_rows_a0 := F_rows_a0.other W39 (Or.inl ne_a0_a4)
        have F_values_a0 := F_values_a0.other W39 (Or.inl ne_a0_a4)
        have V_st := V_st.other W39 ne_st_a4
        have V_rw := V_rw.other W39 ne_rw_a4
        have V_vl := V_vl.other W39 ne_vl_a4
        have V_a2 := V_a2.other W39 ne_a2_a4
        have V_a4 : Arh Z h39 a4 ki .double (2 : Int32) (((0 : Int32), (.double (FP.dadd FP.dconst0 (FP.dmul v0 (yv (i38 + (0 : Int32))))))) :: ((1 : Int32), (.double FP.dconst0)) :: ((0 : Int32), (.double FP.dconst0)) :: hi) [] (.double (0 : UInt64)) := V39
        have N39 := Fr.snoc X39 N33 g_a4
        have K39 : Keep h0 h39 [a4] := K33.wr W39 (Or.inl (List.mem_of_getElem? (i := 0) rfl))
        have Z39 : n0 ≤ h39.size := Nat.le_trans Z33 (Keep.of_wr W39).1
        refine R.iinc X39 hx (hb hby d8_74) rfl (L' := #[.val (.ref a0), .val (.int p1), .val (.ref a2), .val (.int (1 : Int32)), .val (.ref a4), .val (.int base), .val (.double v0), .second, .val (.int i38), .val (.int (1 : Int32))]) rfl (pc' := 77) rfl ?_
        refine R.goto X39 hx (hb hby d8_77) (by decide) (pc' := 50) (by decide) ?_
        refine R.iload X39 hx (hb hby d8_50) rfl (pc' := 52) rfl ?_
        refine R.iloadN X39 hx (hb hby d8_52) rfl (pc' := 53) rfl ?_
        refine R.icmpYes X39 hx (hb hby d8_53) (flt (by decide : ¬ ((1 : Int32) < (1 : Int32)))).2.1 (by decide) (pc' := 80) (by decide) ?_
        refine R.iinc X39 hx (hb hby d8_80) rfl (L' := #[.val (.ref a0), .val (.int p1), .val (.ref a2), .val (.int (1 : Int32)), .val (.ref a4), .val (.int (base + (1 : Int32))), .val (.double v0), .second, .val (.int i38), .val (.int (1 : Int32))]) rfl (pc' := 83) rfl ?_
        refine R.goto X39 hx (hb hby d8_83) (by decide) (pc' := 14) (by decide) ?_
        refine R.iload X39 hx (hb hby d8_14) rfl (pc' := 16) rfl ?_
        refine R.aloadN X39 hx (hb hby d8_16) rfl rfl (pc' := 17) rfl ?_
        refine R.getF X39 hx hZ hown (host := "") (Or.inl w_32) Via.refl e39 F_start_a0 (hb hby d8_17) (pc' := 20) rfl ?_; intro T40 X40 e40
        refine R.iloadN X40 hx (hb hby d8_20) rfl (pc' := 21) rfl ?_
        refine R.iconst X40 hx (hb hby d8_21) (v := (1 : Int32)) (by decide) (pc' := 22) rfl ?_
        refine R.iadd X40 hx (hb hby d8_22) rfl (pc' := 23) rfl ?_
        refine R.iaload X40 hx hZ e40 V_st (own_bd (by omega) : ¬ (p1 + (1 : Int32)) < 0 ∧ (p1 + (1 : Int32)) < (3 : Int32)) (v := (.int ((base + (1 : Int32)) + (1 : Int32)))) (rst1) (hb hby d8_23) (pc' := 24) rfl ?_
        refine R.icmpNo X40 hx (hb hby d8_24) (tlt (Int32.lt_iff_toInt_lt.mpr (by omega) : (base + (1 : Int32)) < ((base + (1 : Int32)) + (1 : Int32)))).2.1 (pc' := 27) rfl ?_
        refine R.aloadN X40 hx (hb hby d8_27) rfl rfl (pc' := 28) rfl ?_
        refine R.getF X40 hx hZ hown (host := "") (Or.inl w_36) Via.refl e40 F_values_a0 (hb hby d8_28) (pc' := 31) rfl ?_; intro T41 X41 e41
        refine R.iload X41 hx (hb hby d8_31) rfl (pc' := 33) rfl ?_
        refine R.daload X41 hx hZ e41 V_vl (own_bd (by omega) : ¬ (base + (1 : Int32)) < 0 ∧ (base + (1 : Int32)) < (4 : Int32)) (v := (.double v1)) (vb1) (hb hby d8_33) (pc' := 34) rfl ?_
        refine R.dstore X41 hx (hb hby d8_34) (L' := #[.val (.ref a0), .val (.int p1), .val (.ref a2), .val (.int (1 : Int32)), .val (.ref a4), .val (.int (base + (1 : Int32))), .val (.double v1), .second, .val (.int i38), .val (.int (1 : Int32))]) rfl (pc' := 36) rfl ?_
        refine R.aloadN X41 hx (hb hby d8_36) rfl rfl (pc' := 37) rfl ?_
        refine R.getF X41 hx hZ hown (host := "") (Or.inl w_34) Via.refl e41 F_rows_a0 (hb hby d8_37) (pc' := 40) rfl ?_; intro T42 X42 e42
        refine R.iload X42 hx (hb hby d8_40) rfl (pc' := 42) rfl ?_
        refine R.iaload X42 hx hZ e42 V_rw (own_bd (by omega) : ¬ (base + (1 : Int32)) < 0 ∧ (base + (1 : Int32)) < (4 : Int32)) (v := (.int rb)) (rb1) (hb hby d8_42) (pc' := 43) rfl ?_
        refine R.iloadN X42 hx (hb hby d8_43) rfl (pc' := 44) rfl ?_
        refine R.imul X42 hx (hb hby d8_44) rfl (pc' := 45) rfl ?_
        show Rn p e below (T42.setTop (mkF m 45 #[.val (.ref a0), .val (.int p1), .val (.ref a2), .val (.int (1 : Int32)), .val (.ref a4), .val (.int (base + (1 : Int32))), .val (.double v1), .second, .val (.int i38), .val (.int (1 : Int32))] [(.int (rb * (1 : Int32)))])) G
        generalize hi43 : (rb * (1 : Int32)) = i43
        refine R.istore X42 hx (hb hby d8_45) (L' := #[.val (.ref a0), .val (.int p1), .val (.ref a2), .val (.int (1 : Int32)), .val (.ref a4), .val (.int (base + (1 : Int32))), .val (.double v1), .second, .val (.int i43), .val (.int (1 : Int32))]) rfl (pc' := 47) rfl ?_
        have w8_i43 : i43.toInt = rb.toInt * 1 := by rw [← hi43]; exact own_mw hrb (by decide) (by decide)
        have x0_i43 : (i43 + (0 : Int32)).toInt = rb.toInt * 1 + 0 := by rw [own_pk (k := (0 : Int32)) (d := 0) (by decide) (by omega)]; omega
        obtain ⟨g0_i43, D0_i43, n0_i43⟩ := rdy (i43 + (0 : Int32)) (by omega) (by omega)
        have q0_i43 := own_pb bW1 n0_i43
        refine R.iconst X42 hx (hb hby d8_47) (v := (0 : Int32)) (by decide) (pc' := 48) rfl ?_
        refine R.istore X42 hx (hb hby d8_48) (L' := #[.val (.ref a0), .val (.int p1), .val (.ref a2), .val (.int (1 : Int32)), .val (.ref a4), .val (.int (base + (1 : Int32))), .val (.double v1), .second, .val (.int i43), .val (.int (0 : Int32))]) rfl (pc' := 50) rfl ?_
        refine R.iload X42 hx (hb hby d8_50) rfl (pc' := 52) rfl ?_
        refine R.iloadN X42 hx (hb hby d8_52) rfl (pc' := 53) rfl ?_
        refine R.icmpNo X42 hx (hb hby d8_53) (tlt (by decide : (0 : Int32) < (1 : Int32))).2.1 (pc' := 56) rfl ?_
        refine R.aload X42 hx (hb hby d8_56) rfl rfl (pc' := 58) rfl ?_
        refine R.iload X42 hx (hb hby d8_58) rfl (pc' := 60) rfl ?_
        refine R.dup2 X42 hx (hb hby d8_60) rfl rfl (pc' := 61) rfl ?_
        refine R.daload X42 hx hZ e42 V_a4 (⟨by decide, by decide⟩ : ¬ (0 : Int32) < 0 ∧ (0 : Int32) < (2 : Int32)) (v := (.double (FP.dadd FP.dconst0 (FP.dmul v0 (yv (i38 + (0 : Int32))))))) (getH_hit ((⟨by decide, by decide⟩ : ¬ (0 : Int32) < 0 ∧ (0 : Int32) < (2 : Int32))).1 (rfl)) (hb hby d8_61) (pc' := 62) rfl ?_
        refine R.dload X42 hx (hb hby d8_62) rfl (pc' := 64) rfl ?_
        refine R.aloadN X42 hx (hb hby d8_64) rfl rfl (pc' := 65) rfl ?_
        refine R.iload X42 hx (hb hby d8_65) rfl (pc' := 67) rfl ?_
        refine R.iload X42 hx (hb hby d8_67) rfl (pc' := 69) rfl ?_
        refine R.iadd X42 hx (hb hby d8_69) rfl (pc' := 70) rfl ?_
        refine R.daload X42 hx hZ e42 V_a2 (own_bd (by omega) : ¬ (i43 + (0 : Int32)) < 0 ∧ (i43 + (0 : Int32)) < (6 : Int32)) (v := (.double (yv (i43 + (0 : Int32))))) (g0_i43) (hb hby d8_70) (pc' := 71) rfl ?_
        refine R.dmul X42 hx (hb hby d8_71) ((Dy.mul Dv1 D0_i43 (by omega) (by decide)).nn : NoNaN64 (FP.dmul v1 (yv (i43 + (0 : Int32))))) (pc' := 72) rfl ?_
        refine R.dadd X42 hx (hb hby d8_72) ((Dy.add (Dy.add own_zero' (Dy.mul Dv0 D0_i38 (by omega) (by decide)) (by omega) (by decide)) (Dy.mul Dv1 D0_i43 (by omega) (by decide)) (by omega) (by decide)).nn : NoNaN64 (FP.dadd (FP.dadd FP.dconst0 (FP.dmul v0 (yv (i38 + (0 : Int32))))) (FP.dmul v1 (yv (i43 + (0 : Int32)))))) (pc' := 73) rfl ?_
        refine R.dastore X42 hx hZ e42 V_a4 (⟨by decide, by decide⟩ : ¬ (0 : Int32) < 0 ∧ (0 : Int32) < (2 : Int32)) (hb hby d8_73) (pc' := 74) rfl ?_; intro T44 h44 X44 e44 W44 V44
        have F_start_a0 := F_start_a0.other W44 (Or.inl ne_a0_a4)
        have F_rows_a0 := F_rows_a0.other W44 (Or.inl ne_a0_a4)
        have F_values_a0 := F_values_a0.other W44 (Or.inl ne_a0_a4)
        have V_st := V_st.other W44 ne_st_a4
        have V_rw := V_rw.other W44 ne_rw_a4
        have V_vl := V_vl.other W44 ne_vl_a4
        have V_a2 := V_a2.other W44 ne_a2_a4
        have V_a4 : Arh Z h44 a4 ki .double (2 : Int32) (((0 : Int32), (.double (FP.dadd (FP.dadd FP.dconst0 (FP.dmul v0 (yv (i38 + (0 : Int32))))) (FP.dmul v1 (yv (i43 + (0 : Int32))))))) :: ((0 : Int32), (.double (FP.dadd FP.dconst0 (FP.dmul v0 (yv (i38 + (0 : Int32))))))) :: ((1 : Int32), (.double FP.dconst0)) :: ((0 : Int32), (.double FP.dconst0)) :: hi) [] (.double (0 : UInt64)) := V44
        have N44 := Fr.snoc X44 N39 g_a4
        have K44 : Keep h0 h44 [a4] := K39.wr W44 (Or.inl (List.mem_of_getElem? (i := 0) rfl))
        have Z44 : n0 ≤ h44.size := Nat.le_trans Z39 (Keep.of_wr W44).1
        refine R.iinc X44 hx (hb hby d8_74) rfl (L' := #[.val (.ref a0), .val (.int p1), .val (.ref a2), .val (.int (1 : Int32)), .val (.ref a4), .val (.int (base + (1 : Int32))), .val (.double v1), .second, .val (.int i43), .val (.int (1 : Int32))]) rfl (pc' := 77) rfl ?_
        refine R.goto X44 hx (hb hby d8_77) (by decide) (pc' := 50) (by decide) ?_
        refine R.iload X44 hx (hb hby d8_50) rfl (pc' := 52) rfl ?_
        refine R.iloadN X44 hx (hb hby d8_52) rfl (pc' := 53) rfl ?_
        refine R.icmpYes X44 hx (hb hby d8_53) (flt (by decide : ¬ ((1 : Int32) < (1 : Int32)))).2.1 (by decide) (pc' := 80) (by decide) ?_
        refine R.iinc X44 hx (hb hby d8_80) rfl (L' := #[.val (.ref a0), .val (.int p1), .val (.ref a2), .val (.int (1 : Int32)), .val (.ref a4), .val (.int ((base + (1 : Int32)) + (1 : Int32))), .val (.double v1), .second, .val (.int i43), .val (.int (1 : Int32))]) rfl (pc' := 83) rfl ?_
        refine R.goto X44 hx (hb hby d8_83) (by decide) (pc' := 14) (by decide) ?_
        refine R.iload X44 hx (hb hby d8_14) rfl (pc' := 16) rfl ?_
        refine R.aloadN X44 hx (hb hby d8_16) rfl rfl (pc' := 17) rfl ?_
        refine R.getF X44 hx hZ hown (host := "") (Or.inl w_32) Via.refl e44 F_start_a0 (hb hby d8_17) (pc' := 20) rfl ?_; intro T45 X45 e45
        refine R.iloadN X45 hx (hb hby d8_20) rfl (pc' := 21) rfl ?_
        refine R.iconst X45 hx (hb hby d8_21) (v := (1 : Int32)) (by decide) (pc' := 22) rfl ?_
        refine R.iadd X45 hx (hb hby d8_22) rfl (pc' := 23) rfl ?_
        refine R.iaload X45 hx hZ e45 V_st (own_bd (by omega) : ¬ (p1 + (1 : Int32)) < 0 ∧ (p1 + (1 : Int32)) < (3 : Int32)) (v := (.int ((base + (1 : Int32)) + (1 : Int32)))) (rst1) (hb hby d8_23) (pc' := 24) rfl ?_
        refine R.icmpYes X45 hx (hb hby d8_24) (flt (own_irr _ : ¬ (((base + (1 : Int32)) + (1 : Int32)) < ((base + (1 : Int32)) + (1 : Int32))))).2.1 (by decide) (pc' := 86) (by decide) ?_
        rw [← hG]
        exact Rn.ret X45 (BodyLoose.notSynchronized Bd) (v := none) (fun _ => rfl) (Q := Q8 Z a0 p1 a2 (1 : Int32) a4 st rw vl kst krw kvl ky ki hst hrw hvl hy hi base ((base + (1 : Int32)) + (1 : Int32)) v0 v1 W0 W1 ra rb yv Yi (W0 * Yi (ra * (1 : Int32)) + W1 * Yi (rb * (1 : Int32))) (W0 * Yi ((ra * (1 : Int32)) + (1 : Int32)) + W1 * Yi ((rb * (1 : Int32)) + (1 : Int32))) h0 n0) e45 (fun fs hr => X45.returnOut hx Bd.returns (hb hby d8_86) hr) ⟨(((0 : Int32), (.double (FP.dadd (FP.dadd FP.dconst0 (FP.dmul v0 (yv (i38 + (0 : Int32))))) (FP.dmul v1 (yv (i43 + (0 : Int32))))))) :: ((0 : Int32), (.double (FP.dadd FP.dconst0 (FP.dmul v0 (yv (i38 + (0 : Int32))))))) :: ((1 : Int32), (.double FP.dconst0)) :: ((0 : Int32), (.double FP.dconst0)) :: hi), rfl, N44, K44, V_a4, (fun _ => ⟨_, getH_hit (by decide) (rfl), Dy.cast (Dy.add (Dy.add own_zero' (Dy.mul Dv0 D0_i38 (by omega) (by decide)) (by omega) (by decide)) (Dy.mul Dv1 D0_i43 (by omega) (by decide)) (by omega) (by decide)) (by rw [own_ix0 (Yi := Yi) hi38, own_ix0 (Yi := Yi) hi43]; omega) rfl⟩), (fun q => absurd q (by decide))⟩ (by decide) (by decide)
    · rcases hk with ⟨rfl, rfl, rfl⟩ | ⟨rfl, vb0, rb0, rfl, rfl⟩ | ⟨rfl, vb0, rb0, vb1, rb1, rfl, rfl⟩
      · have own_t := t3
        refine R.aload X0 hx (hb hby d8_0) rfl rfl (pc' := 2) rfl ?_
        refine R.dconst0 X0 hx (hb hby d8_2) (pc' := 3) rfl ?_
        refine R.callS X0 hx hZ (y := mY1) hown w_43 w_44 w_45 w_46 (by decide) e0 (rm9 l Z aZ hw [] a4 FP.dconst0 ki hi h0 n0 Z0 V_a4 g_a4) (by decide) (W := 0) (Nat.le_of_eq rfl) (by decide) (by rw [hml]; rfl) (lenOf pd_1 rfl) rfl (hb hby d8_3) (pc' := 6) rfl (by decide) (by decide) ?_; intro v46 T46 L46 X46 hQ46
        obtain ⟨rfl, N46q, Kc46, P46_0⟩ := hQ46
        have N46 := Fr.app N0 N46q
        generalize e46 : T46.heap = h46 at Kc46 P46_0
        have K46 : Keep h0 h46 [a4] := K0.trans Kc46 ((allS (Or.inl (List.mem_of_getElem? (i := 0) rfl)) all0))
        have Z46 : n0 ≤ h46.size := Nat.le_trans Z0 Kc46.1
        have F_start_a0 := F_start_a0.keep Kc46 (ninS ne_a0_a4 nin0)
        have F_rows_a0 := F_rows_a0.keep Kc46 (ninS ne_a0_a4 nin0)
        have F_values_a0 := F_values_a0.keep Kc46 (ninS ne_a0_a4 nin0)
        have V_st := V_st.keep Kc46 (ninS ne_st_a4 nin0)
        have V_rw := V_rw.keep Kc46 (ninS ne_rw_a4 nin0)
        have V_vl := V_vl.keep Kc46 (ninS ne_vl_a4 nin0)
        have V_a2 := V_a2.keep Kc46 (ninS ne_a2_a4 nin0)
        have V_a4 : Arh Z h46 a4 ki .double (2 : Int32) (((1 : Int32), (.double FP.dconst0)) :: ((0 : Int32), (.double FP.dconst0)) :: hi) [] (.double (0 : UInt64)) := P46_0
        have V_a4 : Arh Z h46 a4 ki .double (2 : Int32) (((1 : Int32), (.double FP.dconst0)) :: ((0 : Int32), (.double FP.dconst0)) :: hi) [] (.double (0 : UInt64)) := V_a4
        refine R.aloadN X46 hx (hb hby d8_6) rfl rfl (pc' := 7) rfl ?_
        refine R.getF X46 hx hZ hown (host := "") (Or.inl w_32) Via.refl e46 F_start_a0 (hb hby d8_7) (pc' := 10) rfl ?_; intro T47 X47 e47
        refine R.iloadN X47 hx (hb hby d8_10) rfl (pc' := 11) rfl ?_
        refine R.iaload X47 hx hZ e47 V_st (own_bd (by omega) : ¬ p1 < 0 ∧ p1 < (3 : Int32)) (v := (.int base)) (rst0) (hb hby d8_11) (pc' := 12) rfl ?_
        refine R.istore X47 hx (hb hby d8_12) (L' := #[.val (.ref a0), .val (.int p1), .val (.ref a2), .val (.int (2 : Int32)), .val (.ref a4), .val (.int base), .unset, .unset, .unset, .unset]) rfl (pc' := 14) rfl ?_
        refine R.iload X47 hx (hb hby d8_14) rfl (pc' := 16) rfl ?_
        refine R.aloadN X47 hx (hb hby d8_16) rfl rfl (pc' := 17) rfl ?_
        refine R.getF X47 hx hZ hown (host := "") (Or.inl w_32) Via.refl e47 F_start_a0 (hb hby d8_17) (pc' := 20) rfl ?_; intro T48 X48 e48
        refine R.iloadN X48 hx (hb hby d8_20) rfl (pc' := 21) rfl ?_
        refine R.iconst X48 hx (hb hby d8_21) (v := (1 : Int32)) (by decide) (pc' := 22) rfl ?_
        refine R.iadd X48 hx (hb hby d8_22) rfl (pc' := 23) rfl ?_
        refine R.iaload X48 hx hZ e48 V_st (own_bd (by omega) : ¬ (p1 + (1 : Int32)) < 0 ∧ (p1 + (1 : Int32)) < (3 : Int32)) (v := (.int base)) (rst1) (hb hby d8_23) (pc' := 24) rfl ?_
        refine R.icmpYes X48 hx (hb hby d8_24) (flt (own_irr _ : ¬ (base < base))).2.1 (by decide) (pc' := 86) (by decide) ?_
        rw [← hG]
        exact Rn.ret X48 (BodyLoose.notSynchronized Bd) (v := none) (fun _ => rfl) (Q := Q8 Z a0 p1 a2 (2 : Int32) a4 st rw vl kst krw kvl ky ki hst hrw hvl hy hi base base v0 v1 W0 W1 ra rb yv Yi 0 0 h0 n0) e48 (fun fs hr => X48.returnOut hx Bd.returns (hb hby d8_86) hr) ⟨(((1 : Int32), (.double FP.dconst0)) :: ((0 : Int32), (.double FP.dconst0)) :: hi), rfl, N46, K46, V_a4, (fun _ => ⟨_, getH_miss (by decide) (by decide) (getH_hit (by decide) (rfl)), Dy.cast own_zero' (by rfl) rfl⟩), (fun _ => ⟨_, getH_hit (by decide) (rfl), Dy.cast own_zero' (by rfl) rfl⟩)⟩ (by decide) (by decide)
      · have own_t := t3
        refine R.aload X0 hx (hb hby d8_0) rfl rfl (pc' := 2) rfl ?_
        refine R.dconst0 X0 hx (hb hby d8_2) (pc' := 3) rfl ?_
        refine R.callS X0 hx hZ (y := mY1) hown w_43 w_44 w_45 w_46 (by decide) e0 (rm9 l Z aZ hw [] a4 FP.dconst0 ki hi h0 n0 Z0 V_a4 g_a4) (by decide) (W := 0) (Nat.le_of_eq rfl) (by decide) (by rw [hml]; rfl) (lenOf pd_1 rfl) rfl (hb hby d8_3) (pc' := 6) rfl (by decide) (by decide) ?_; intro v49 T49 L49 X49 hQ49
        obtain ⟨rfl, N49q, Kc49, P49_0⟩ := hQ49
        have N49 := Fr.app N0 N49q
        generalize e49 : T49.heap = h49 at Kc49 P49_0
        have K49 : Keep h0 h49 [a4] := K0.trans Kc49 ((allS (Or.inl (List.mem_of_getElem? (i := 0) rfl)) all0))
        have Z49 : n0 ≤ h49.size := Nat.le_trans Z0 Kc49.1
        have F_start_a0 := F_start_a0.keep Kc49 (ninS ne_a0_a4 nin0)
        have F_rows_a0 := F_rows_a0.keep Kc49 (ninS ne_a0_a4 nin0)
        have F_values_a0 := F_values_a0.keep Kc49 (ninS ne_a0_a4 nin0)
        have V_st := V_st.keep Kc49 (ninS ne_st_a4 nin0)
        have V_rw := V_rw.keep Kc49 (ninS ne_rw_a4 nin0)
        have V_vl := V_vl.keep Kc49 (ninS ne_vl_a4 nin0)
        have V_a2 := V_a2.keep Kc49 (ninS ne_a2_a4 nin0)
        have V_a4 : Arh Z h49 a4 ki .double (2 : Int32) (((1 : Int32), (.double FP.dconst0)) :: ((0 : Int32), (.double FP.dconst0)) :: hi) [] (.double (0 : UInt64)) := P49_0
        have V_a4 : Arh Z h49 a4 ki .double (2 : Int32) (((1 : Int32), (.double FP.dconst0)) :: ((0 : Int32), (.double FP.dconst0)) :: hi) [] (.double (0 : UInt64)) := V_a4
        refine R.aloadN X49 hx (hb hby d8_6) rfl rfl (pc' := 7) rfl ?_
        refine R.getF X49 hx hZ hown (host := "") (Or.inl w_32) Via.refl e49 F_start_a0 (hb hby d8_7) (pc' := 10) rfl ?_; intro T50 X50 e50
        refine R.iloadN X50 hx (hb hby d8_10) rfl (pc' := 11) rfl ?_
        refine R.iaload X50 hx hZ e50 V_st (own_bd (by omega) : ¬ p1 < 0 ∧ p1 < (3 : Int32)) (v := (.int base)) (rst0) (hb hby d8_11) (pc' := 12) rfl ?_
        refine R.istore X50 hx (hb hby d8_12) (L' := #[.val (.ref a0), .val (.int p1), .val (.ref a2), .val (.int (2 : Int32)), .val (.ref a4), .val (.int base), .unset, .unset, .unset, .unset]) rfl (pc' := 14) rfl ?_
        refine R.iload X50 hx (hb hby d8_14) rfl (pc' := 16) rfl ?_
        refine R.aloadN X50 hx (hb hby d8_16) rfl rfl (pc' := 17) rfl ?_
        refine R.getF X50 hx hZ hown (host := "") (Or.inl w_32) Via.refl e50 F_start_a0 (hb hby d8_17) (pc' := 20) rfl ?_; intro T51 X51 e51
        refine R.iloadN X51 hx (hb hby d8_20) rfl (pc' := 21) rfl ?_
        refine R.iconst X51 hx (hb hby d8_21) (v := (1 : Int32)) (by decide) (pc' := 22) rfl ?_
        refine R.iadd X51 hx (hb hby d8_22) rfl (pc' := 23) rfl ?_
        refine R.iaload X51 hx hZ e51 V_st (own_bd (by omega) : ¬ (p1 + (1 : Int32)) < 0 ∧ (p1 + (1 : Int32)) < (3 : Int32)) (v := (.int (base + (1 : Int32)))) (rst1) (hb hby d8_23) (pc' := 24) rfl ?_
        refine R.icmpNo X51 hx (hb hby d8_24) (tlt (Int32.lt_iff_toInt_lt.mpr (by omega) : base < (base + (1 : Int32)))).2.1 (pc' := 27) rfl ?_
        refine R.aloadN X51 hx (hb hby d8_27) rfl rfl (pc' := 28) rfl ?_
        refine R.getF X51 hx hZ hown (host := "") (Or.inl w_36) Via.refl e51 F_values_a0 (hb hby d8_28) (pc' := 31) rfl ?_; intro T52 X52 e52
        refine R.iload X52 hx (hb hby d8_31) rfl (pc' := 33) rfl ?_
        refine R.daload X52 hx hZ e52 V_vl (own_bd (by omega) : ¬ base < 0 ∧ base < (4 : Int32)) (v := (.double v0)) (vb0) (hb hby d8_33) (pc' := 34) rfl ?_
        refine R.dstore X52 hx (hb hby d8_34) (L' := #[.val (.ref a0), .val (.int p1), .val (.ref a2), .val (.int (2 : Int32)), .val (.ref a4), .val (.int base), .val (.double v0), .second, .unset, .unset]) rfl (pc' := 36) rfl ?_
        refine R.aloadN X52 hx (hb hby d8_36) rfl rfl (pc' := 37) rfl ?_
        refine R.getF X52 hx hZ hown (host := "") (Or.inl w_34) Via.refl e52 F_rows_a0 (hb hby d8_37) (pc' := 40) rfl ?_; intro T53 X53 e53
        refine R.iload X53 hx (hb hby d8_40) rfl (pc' := 42) rfl ?_
        refine R.iaload X53 hx hZ e53 V_rw (own_bd (by omega) : ¬ base < 0 ∧ base < (4 : Int32)) (v := (.int ra)) (rb0) (hb hby d8_42) (pc' := 43) rfl ?_
        refine R.iloadN X53 hx (hb hby d8_43) rfl (pc' := 44) rfl ?_
        refine R.imul X53 hx (hb hby d8_44) rfl (pc' := 45) rfl ?_
        show Rn p e below (T53.setTop (mkF m 45 #[.val (.ref a0), .val (.int p1), .val (.ref a2), .val (.int (2 : Int32)), .val (.ref a4), .val (.int base), .val (.double v0), .second, .unset, .unset] [(.int (ra * (2 : Int32)))])) G
        generalize hi54 : (ra * (2 : Int32)) = i54
        refine R.istore X53 hx (hb hby d8_45) (L' := #[.val (.ref a0), .val (.int p1), .val (.ref a2), .val (.int (2 : Int32)), .val (.ref a4), .val (.int base), .val (.double v0), .second, .val (.int i54), .unset]) rfl (pc' := 47) rfl ?_
        have w8_i54 : i54.toInt = ra.toInt * 2 := by rw [← hi54]; exact own_mw hra (by decide) (by decide)
        have x0_i54 : (i54 + (0 : Int32)).toInt = ra.toInt * 2 + 0 := by rw [own_pk (k := (0 : Int32)) (d := 0) (by decide) (by omega)]; omega
        obtain ⟨g0_i54, D0_i54, n0_i54⟩ := rdy (i54 + (0 : Int32)) (by omega) (by omega)
        have q0_i54 := own_pb bW0 n0_i54
        have x1_i54 : (i54 + (1 : Int32)).toInt = ra.toInt * 2 + 1 := by rw [own_pk (k := (1 : Int32)) (d := 1) (by decide) (by omega)]; omega
        obtain ⟨g1_i54, D1_i54, n1_i54⟩ := rdy (i54 + (1 : Int32)) (by omega) (by omega)
        have q1_i54 := own_pb bW0 n1_i54
        refine R.iconst X53 hx (hb hby d8_47) (v := (0 : Int32)) (by decide) (pc' := 48) rfl ?_
        refine R.istore X53 hx (hb hby d8_48) (L' := #[.val (.ref a0), .val (.int p1), .val (.ref a2), .val (.int (2 : Int32)), .val (.ref a4), .val (.int base), .val (.double v0), .second, .val (.int i54), .val (.int (0 : Int32))]) rfl (pc' := 50) rfl ?_
        refine R.iload X53 hx (hb hby d8_50) rfl (pc' := 52) rfl ?_
        refine R.iloadN X53 hx (hb hby d8_52) rfl (pc' := 53) rfl ?_
        refine R.icmpNo X53 hx (hb hby d8_53) (tlt (by decide : (0 : Int32) < (2 : Int32))).2.1 (pc' := 56) rfl ?_
        refine R.aload X53 hx (hb hby d8_56) rfl rfl (pc' := 58) rfl ?_
        refine R.iload X53 hx (hb hby d8_58) rfl (pc' := 60) rfl ?_
        refine R.dup2 X53 hx (hb hby d8_60) rfl rfl (pc' := 61) rfl ?_
        refine R.daload X53 hx hZ e53 V_a4 (⟨by decide, by decide⟩ : ¬ (0 : Int32) < 0 ∧ (0 : Int32) < (2 : Int32)) (v := (.double FP.dconst0)) (getH_miss ((⟨by decide, by decide⟩ : ¬ (0 : Int32) < 0 ∧ (0 : Int32) < (2 : Int32))).1 (by decide) (getH_hit ((⟨by decide, by decide⟩ : ¬ (0 : Int32) < 0 ∧ (0 : Int32) < (2 : Int32))).1 (rfl))) (hb hby d8_61) (pc' := 62) rfl ?_
        refine R.dload X53 hx (hb hby d8_62) rfl (pc' := 64) rfl ?_
        refine R.aloadN X53 hx (hb hby d8_64) rfl rfl (pc' := 65) rfl ?_
        refine R.iload X53 hx (hb hby d8_65) rfl (pc' := 67) rfl ?_
        refine R.iload X53 hx (hb hby d8_67) rfl (pc' := 69) rfl ?_
        refine R.iadd X53 hx (hb hby d8_69) rfl (pc' := 70) rfl ?_
        refine R.daload X53 hx hZ e53 V_a2 (own_bd (by omega) : ¬ (i54 + (0 : Int32)) < 0 ∧ (i54 + (0 : Int32)) < (6 : Int32)) (v := (.double (yv (i54 + (0 : Int32))))) (g0_i54) (hb hby d8_70) (pc' := 71) rfl ?_
        refine R.dmul X53 hx (hb hby d8_71) ((Dy.mul Dv0 D0_i54 (by omega) (by decide)).nn : NoNaN64 (FP.dmul v0 (yv (i54 + (0 : Int32))))) (pc' := 72) rfl ?_
        refine R.dadd X53 hx (hb hby d8_72) ((Dy.add own_zero' (Dy.mul Dv0 D0_i54 (by omega) (by decide)) (by omega) (by decide)).nn : NoNaN64 (FP.dadd FP.dconst0 (FP.dmul v0 (yv (i54 + (0 : Int32)))))) (pc' := 73) rfl ?_
        refine R.dastore X53 hx hZ e53 V_a4 (⟨by decide, by decide⟩ : ¬ (0 : Int32) < 0 ∧ (0 : Int32) < (2 : Int32)) (hb hby d8_73) (pc' := 74) rfl ?_; intro T55 h55 X55 e55 W55 V55
        have F_start_a0 := F_start_a0.other W55 (Or.inl ne_a0_a4)
        have F_rows_a0 := F_rows_a0.other W55 (Or.inl ne_a0_a4)
        have F_values_a0 := F_values_a0.other W55 (Or.inl ne_a0_a4)
        have V_st := V_st.other W55 ne_st_a4
        have V_rw := V_rw.other W55 ne_rw_a4
        have V_vl := V_vl.other W55 ne_vl_a4
        have V_a2 := V_a2.other W55 ne_a2_a4
        have V_a4 : Arh Z h55 a4 ki .double (2 : Int32) (((0 : Int32), (.double (FP.dadd FP.dconst0 (FP.dmul v0 (yv (i54 + (0 : Int32))))))) :: ((1 : Int32), (.double FP.dconst0)) :: ((0 : Int32), (.double FP.dconst0)) :: hi) [] (.double (0 : UInt64)) := V55
        have N55 := Fr.snoc X55 N49 g_a4
        have K55 : Keep h0 h55 [a4] := K49.wr W55 (Or.inl (List.mem_of_getElem? (i := 0) rfl))
        have Z55 : n0 ≤ h55.size := Nat.le_trans Z49 (Keep.of_wr W55).1
        refine R.iinc X55 hx (hb hby d8_74) rfl (L' := #[.val (.ref a0), .val (.int p1), .val (.ref a2), .val (.int (2 : Int32)), .val (.ref a4), .val (.int base), .val (.double v0), .second, .val (.int i54), .val (.int (1 : Int32))]) rfl (pc' := 77) rfl ?_
        refine R.goto X55 hx (hb hby d8_77) (by decide) (pc' := 50) (by decide) ?_
        refine R.iload X55 hx (hb hby d8_50) rfl (pc' := 52) rfl ?_
        refine R.iloadN X55 hx (hb hby d8_52) rfl (pc' := 53) rfl ?_
        refine R.icmpNo X55 hx (hb hby d8_53) (tlt (by decide : (1 : Int32) < (2 : Int32))).2.1 (pc' := 56) rfl ?_
        refine R.aload X55 hx (hb hby d8_56) rfl rfl (pc' := 58) rfl ?_
        refine R.iload X55 hx (hb hby d8_58) rfl (pc' := 60) rfl ?_
        refine R.dup2 X55 hx (hb hby d8_60) rfl rfl (pc' := 61) rfl ?_
        refine R.daload X55 hx hZ e55 V_a4 (⟨by decide, by decide⟩ : ¬ (1 : Int32) < 0 ∧ (1 : Int32) < (2 : Int32)) (v := (.double FP.dconst0)) (getH_miss ((⟨by decide, by decide⟩ : ¬ (1 : Int32) < 0 ∧ (1 : Int32) < (2 : Int32))).1 (by decide) (getH_hit ((⟨by decide, by decide⟩ : ¬ (1 : Int32) < 0 ∧ (1 : Int32) < (2 : Int32))).1 (rfl))) (hb hby d8_61) (pc' := 62) rfl ?_
        refine R.dload X55 hx (hb hby d8_62) rfl (pc' := 64) rfl ?_
        refine R.aloadN X55 hx (hb hby d8_64) rfl rfl (pc' := 65) rfl ?_
        refine R.iload X55 hx (hb hby d8_65) rfl (pc' := 67) rfl ?_
        refine R.iload X55 hx (hb hby d8_67) rfl (pc' := 69) rfl ?_
        refine R.iadd X55 hx (hb hby d8_69) rfl (pc' := 70) rfl ?_
        refine R.daload X55 hx hZ e55 V_a2 (own_bd (by omega) : ¬ (i54 + (1 : Int32)) < 0 ∧ (i54 + (1 : Int32)) < (6 : Int32)) (v := (.double (yv (i54 + (1 : Int32))))) (g1_i54) (hb hby d8_70) (pc' := 71) rfl ?_
        refine R.dmul X55 hx (hb hby d8_71) ((Dy.mul Dv0 D1_i54 (by omega) (by decide)).nn : NoNaN64 (FP.dmul v0 (yv (i54 + (1 : Int32))))) (pc' := 72) rfl ?_
        refine R.dadd X55 hx (hb hby d8_72) ((Dy.add own_zero' (Dy.mul Dv0 D1_i54 (by omega) (by decide)) (by omega) (by decide)).nn : NoNaN64 (FP.dadd FP.dconst0 (FP.dmul v0 (yv (i54 + (1 : Int32)))))) (pc' := 73) rfl ?_
        refine R.dastore X55 hx hZ e55 V_a4 (⟨by decide, by decide⟩ : ¬ (1 : Int32) < 0 ∧ (1 : Int32) < (2 : Int32)) (hb hby d8_73) (pc' := 74) rfl ?_; intro T56 h56 X56 e56 W56 V56
        have F_start_a0 := F_start_a0.other W56 (Or.inl ne_a0_a4)
        have F_rows_a0 := F_rows_a0.other W56 (Or.inl ne_a0_a4)
        have F_values_a0 := F_values_a0.other W56 (Or.inl ne_a0_a4)
        have V_st := V_st.other W56 ne_st_a4
        have V_rw := V_rw.other W56 ne_rw_a4
        have V_vl := V_vl.other W56 ne_vl_a4
        have V_a2 := V_a2.other W56 ne_a2_a4
        have V_a4 : Arh Z h56 a4 ki .double (2 : Int32) (((1 : Int32), (.double (FP.dadd FP.dconst0 (FP.dmul v0 (yv (i54 + (1 : Int32))))))) :: ((0 : Int32), (.double (FP.dadd FP.dconst0 (FP.dmul v0 (yv (i54 + (0 : Int32))))))) :: ((1 : Int32), (.double FP.dconst0)) :: ((0 : Int32), (.double FP.dconst0)) :: hi) [] (.double (0 : UInt64)) := V56
        have N56 := Fr.snoc X56 N55 g_a4
        have K56 : Keep h0 h56 [a4] := K55.wr W56 (Or.inl (List.mem_of_getElem? (i := 0) rfl))
        have Z56 : n0 ≤ h56.size := Nat.le_trans Z55 (Keep.of_wr W56).1
        refine R.iinc X56 hx (hb hby d8_74) rfl (L' := #[.val (.ref a0), .val (.int p1), .val (.ref a2), .val (.int (2 : Int32)), .val (.ref a4), .val (.int base), .val (.double v0), .second, .val (.int i54), .val (.int (2 : Int32))]) rfl (pc' := 77) rfl ?_
        refine R.goto X56 hx (hb hby d8_77) (by decide) (pc' := 50) (by decide) ?_
        refine R.iload X56 hx (hb hby d8_50) rfl (pc' := 52) rfl ?_
        refine R.iloadN X56 hx (hb hby d8_52) rfl (pc' := 53) rfl ?_
        refine R.icmpYes X56 hx (hb hby d8_53) (flt (by decide : ¬ ((2 : Int32) < (2 : Int32)))).2.1 (by decide) (pc' := 80) (by decide) ?_
        refine R.iinc X56 hx (hb hby d8_80) rfl (L' := #[.val (.ref a0), .val (.int p1), .val (.ref a2), .val (.int (2 : Int32)), .val (.ref a4), .val (.int (base + (1 : Int32))), .val (.double v0), .second, .val (.int i54), .val (.int (2 : Int32))]) rfl (pc' := 83) rfl ?_
        refine R.goto X56 hx (hb hby d8_83) (by decide) (pc' := 14) (by decide) ?_
        refine R.iload X56 hx (hb hby d8_14) rfl (pc' := 16) rfl ?_
        refine R.aloadN X56 hx (hb hby d8_16) rfl rfl (pc' := 17) rfl ?_
        refine R.getF X56 hx hZ hown (host := "") (Or.inl w_32) Via.refl e56 F_start_a0 (hb hby d8_17) (pc' := 20) rfl ?_; intro T57 X57 e57
        refine R.iloadN X57 hx (hb hby d8_20) rfl (pc' := 21) rfl ?_
        refine R.iconst X57 hx (hb hby d8_21) (v := (1 : Int32)) (by decide) (pc' := 22) rfl ?_
        refine R.iadd X57 hx (hb hby d8_22) rfl (pc' := 23) rfl ?_
        refine R.iaload X57 hx hZ e57 V_st (own_bd (by omega) : ¬ (p1 + (1 : Int32)) < 0 ∧ (p1 + (1 : Int32)) < (3 : Int32)) (v := (.int (base + (1 : Int32)))) (rst1) (hb hby d8_23) (pc' := 24) rfl ?_
        refine R.icmpYes X57 hx (hb hby d8_24) (flt (own_irr _ : ¬ ((base + (1 : Int32)) < (base + (1 : Int32))))).2.1 (by decide) (pc' := 86) (by decide) ?_
        rw [← hG]
        exact Rn.ret X57 (BodyLoose.notSynchronized Bd) (v := none) (fun _ => rfl) (Q := Q8 Z a0 p1 a2 (2 : Int32) a4 st rw vl kst krw kvl ky ki hst hrw hvl hy hi base (base + (1 : Int32)) v0 v1 W0 W1 ra rb yv Yi (W0 * Yi (ra * (2 : Int32))) (W0 * Yi ((ra * (2 : Int32)) + (1 : Int32))) h0 n0) e57 (fun fs hr => X57.returnOut hx Bd.returns (hb hby d8_86) hr) ⟨(((1 : Int32), (.double (FP.dadd FP.dconst0 (FP.dmul v0 (yv (i54 + (1 : Int32))))))) :: ((0 : Int32), (.double (FP.dadd FP.dconst0 (FP.dmul v0 (yv (i54 + (0 : Int32))))))) :: ((1 : Int32), (.double FP.dconst0)) :: ((0 : Int32), (.double FP.dconst0)) :: hi), rfl, N56, K56, V_a4, (fun _ => ⟨_, getH_miss (by decide) (by decide) (getH_hit (by decide) (rfl)), Dy.cast (Dy.add own_zero' (Dy.mul Dv0 D0_i54 (by omega) (by decide)) (by omega) (by decide)) (by rw [own_ix0 (Yi := Yi) hi54]; omega) rfl⟩), (fun _ => ⟨_, getH_hit (by decide) (rfl), Dy.cast (Dy.add own_zero' (Dy.mul Dv0 D1_i54 (by omega) (by decide)) (by omega) (by decide)) (by rw [own_ix1 (Yi := Yi) hi54]; omega) rfl⟩)⟩ (by decide) (by decide)
      · have own_t := t3
        refine R.aload X0 hx (hb hby d8_0) rfl rfl (pc' := 2) rfl ?_
        refine R.dconst0 X0 hx (hb hby d8_2) (pc' := 3) rfl ?_
        refine R.callS X0 hx hZ (y := mY1) hown w_43 w_44 w_45 w_46 (by decide) e0 (rm9 l Z aZ hw [] a4 FP.dconst0 ki hi h0 n0 Z0 V_a4 g_a4) (by decide) (W := 0) (Nat.le_of_eq rfl) (by decide) (by rw [hml]; rfl) (lenOf pd_1 rfl) rfl (hb hby d8_3) (pc' := 6) rfl (by decide) (by decide) ?_; intro v58 T58 L58 X58 hQ58
        obtain ⟨rfl, N58q, Kc58, P58_0⟩ := hQ58
        have N58 := Fr.app N0 N58q
        generalize e58 : T58.heap = h58 at Kc58 P58_0
        have K58 : Keep h0 h58 [a4] := K0.trans Kc58 ((allS (Or.inl (List.mem_of_getElem? (i := 0) rfl)) all0))
        have Z58 : n0 ≤ h58.size := Nat.le_trans Z0 Kc58.1
        have F_start_a0 := F_start_a0.keep Kc58 (ninS ne_a0_a4 nin0)
        have F_rows_a0 := F_rows_a0.keep Kc58 (ninS ne_a0_a4 nin0)
        have F_values_a0 := F_values_a0.keep Kc58 (ninS ne_a0_a4 nin0)
        have V_st := V_st.keep Kc58 (ninS ne_st_a4 nin0)
        have V_rw := V_rw.keep Kc58 (ninS ne_rw_a4 nin0)
        have V_vl := V_vl.keep Kc58 (ninS ne_vl_a4 nin0)
        have V_a2 := V_a2.keep Kc58 (ninS ne_a2_a4 nin0)
        have V_a4 : Arh Z h58 a4 ki .double (2 : Int32) (((1 : Int32), (.double FP.dconst0)) :: ((0 : Int32), (.double FP.dconst0)) :: hi) [] (.double (0 : UInt64)) := P58_0
        have V_a4 : Arh Z h58 a4 ki .double (2 : Int32) (((1 : Int32), (.double FP.dconst0)) :: ((0 : Int32), (.double FP.dconst0)) :: hi) [] (.double (0 : UInt64)) := V_a4
        refine R.aloadN X58 hx (hb hby d8_6) rfl rfl (pc' := 7) rfl ?_
        refine R.getF X58 hx hZ hown (host := "") (Or.inl w_32) Via.refl e58 F_start_a0 (hb hby d8_7) (pc' := 10) rfl ?_; intro T59 X59 e59
        refine R.iloadN X59 hx (hb hby d8_10) rfl (pc' := 11) rfl ?_
        refine R.iaload X59 hx hZ e59 V_st (own_bd (by omega) : ¬ p1 < 0 ∧ p1 < (3 : Int32)) (v := (.int base)) (rst0) (hb hby d8_11) (pc' := 12) rfl ?_
        refine R.istore X59 hx (hb hby d8_12) (L' := #[.val (.ref a0), .val (.int p1), .val (.ref a2), .val (.int (2 : Int32)), .val (.ref a4), .val (.int base), .unset, .unset, .unset, .unset]) rfl (pc' := 14) rfl ?_
        refine R.iload X59 hx (hb hby d8_14) rfl (pc' := 16) rfl ?_
        refine R.aloadN X59 hx (hb hby d8_16) rfl rfl (pc' := 17) rfl ?_
        refine R.getF X59 hx hZ hown (host := "") (Or.inl w_32) Via.refl e59 F_start_a0 (hb hby d8_17) (pc' := 20) rfl ?_; intro T60 X60 e60
        refine R.iloadN X60 hx (hb hby d8_20) rfl (pc' := 21) rfl ?_
        refine R.iconst X60 hx (hb hby d8_21) (v := (1 : Int32)) (by decide) (pc' := 22) rfl ?_
        refine R.iadd X60 hx (hb hby d8_22) rfl (pc' := 23) rfl ?_
        refine R.iaload X60 hx hZ e60 V_st (own_bd (by omega) : ¬ (p1 + (1 : Int32)) < 0 ∧ (p1 + (1 : Int32)) < (3 : Int32)) (v := (.int ((base + (1 : Int32)) + (1 : Int32)))) (rst1) (hb hby d8_23) (pc' := 24) rfl ?_
        refine R.icmpNo X60 hx (hb hby d8_24) (tlt (Int32.lt_iff_toInt_lt.mpr (by omega) : base < ((base + (1 : Int32)) + (1 : Int32)))).2.1 (pc' := 27) rfl ?_
        refine R.aloadN X60 hx (hb hby d8_27) rfl rfl (pc' := 28) rfl ?_
        refine R.getF X60 hx hZ hown (host := "") (Or.inl w_36) Via.refl e60 F_values_a0 (hb hby d8_28) (pc' := 31) rfl ?_; intro T61 X61 e61
        refine R.iload X61 hx (hb hby d8_31) rfl (pc' := 33) rfl ?_
        refine R.daload X61 hx hZ e61 V_vl (own_bd (by omega) : ¬ base < 0 ∧ base < (4 : Int32)) (v := (.double v0)) (vb0) (hb hby d8_33) (pc' := 34) rfl ?_
        refine R.dstore X61 hx (hb hby d8_34) (L' := #[.val (.ref a0), .val (.int p1), .val (.ref a2), .val (.int (2 : Int32)), .val (.ref a4), .val (.int base), .val (.double v0), .second, .unset, .unset]) rfl (pc' := 36) rfl ?_
        refine R.aloadN X61 hx (hb hby d8_36) rfl rfl (pc' := 37) rfl ?_
        refine R.getF X61 hx hZ hown (host := "") (Or.inl w_34) Via.refl e61 F_rows_a0 (hb hby d8_37) (pc' := 40) rfl ?_; intro T62 X62 e62
        refine R.iload X62 hx (hb hby d8_40) rfl (pc' := 42) rfl ?_
        refine R.iaload X62 hx hZ e62 V_rw (own_bd (by omega) : ¬ base < 0 ∧ base < (4 : Int32)) (v := (.int ra)) (rb0) (hb hby d8_42) (pc' := 43) rfl ?_
        refine R.iloadN X62 hx (hb hby d8_43) rfl (pc' := 44) rfl ?_
        refine R.imul X62 hx (hb hby d8_44) rfl (pc' := 45) rfl ?_
        show Rn p e below (T62.setTop (mkF m 45 #[.val (.ref a0), .val (.int p1), .val (.ref a2), .val (.int (2 : Int32)), .val (.ref a4), .val (.int base), .val (.double v0), .second, .unset, .unset] [(.int (ra * (2 : Int32)))])) G
        generalize hi63 : (ra * (2 : Int32)) = i63
        refine R.istore X62 hx (hb hby d8_45) (L' := #[.val (.ref a0), .val (.int p1), .val (.ref a2), .val (.int (2 : Int32)), .val (.ref a4), .val (.int base), .val (.double v0), .second, .val (.int i63), .unset]) rfl (pc' := 47) rfl ?_
        have w8_i63 : i63.toInt = ra.toInt * 2 := by rw [← hi63]; exact own_mw hra (by decide) (by decide)
        have x0_i63 : (i63 + (0 : Int32)).toInt = ra.toInt * 2 + 0 := by rw [own_pk (k := (0 : Int32)) (d := 0) (by decide) (by omega)]; omega
        obtain ⟨g0_i63, D0_i63, n0_i63⟩ := rdy (i63 + (0 : Int32)) (by omega) (by omega)
        have q0_i63 := own_pb bW0 n0_i63
        have x1_i63 : (i63 + (1 : Int32)).toInt = ra.toInt * 2 + 1 := by rw [own_pk (k := (1 : Int32)) (d := 1) (by decide) (by omega)]; omega
        obtain ⟨g1_i63, D1_i63, n1_i63⟩ := rdy (i63 + (1 : Int32)) (by omega) (by omega)
        have q1_i63 := own_pb bW0 n1_i63
        refine R.iconst X62 hx (hb hby d8_47) (v := (0 : Int32)) (by decide) (pc' := 48) rfl ?_
        refine R.istore X62 hx (hb hby d8_48) (L' := #[.val (.ref a0), .val (.int p1), .val (.ref a2), .val (.int (2 : Int32)), .val (.ref a4), .val (.int base), .val (.double v0), .second, .val (.int i63), .val (.int (0 : Int32))]) rfl (pc' := 50) rfl ?_
        refine R.iload X62 hx (hb hby d8_50) rfl (pc' := 52) rfl ?_
        refine R.iloadN X62 hx (hb hby d8_52) rfl (pc' := 53) rfl ?_
        refine R.icmpNo X62 hx (hb hby d8_53) (tlt (by decide : (0 : Int32) < (2 : Int32))).2.1 (pc' := 56) rfl ?_
        refine R.aload X62 hx (hb hby d8_56) rfl rfl (pc' := 58) rfl ?_
        refine R.iload X62 hx (hb hby d8_58) rfl (pc' := 60) rfl ?_
        refine R.dup2 X62 hx (hb hby d8_60) rfl rfl (pc' := 61) rfl ?_
        refine R.daload X62 hx hZ e62 V_a4 (⟨by decide, by decide⟩ : ¬ (0 : Int32) < 0 ∧ (0 : Int32) < (2 : Int32)) (v := (.double FP.dconst0)) (getH_miss ((⟨by decide, by decide⟩ : ¬ (0 : Int32) < 0 ∧ (0 : Int32) < (2 : Int32))).1 (by decide) (getH_hit ((⟨by decide, by decide⟩ : ¬ (0 : Int32) < 0 ∧ (0 : Int32) < (2 : Int32))).1 (rfl))) (hb hby d8_61) (pc' := 62) rfl ?_
        refine R.dload X62 hx (hb hby d8_62) rfl (pc' := 64) rfl ?_
        refine R.aloadN X62 hx (hb hby d8_64) rfl rfl (pc' := 65) rfl ?_
        refine R.iload X62 hx (hb hby d8_65) rfl (pc' := 67) rfl ?_
        refine R.iload X62 hx (hb hby d8_67) rfl (pc' := 69) rfl ?_
        refine R.iadd X62 hx (hb hby d8_69) rfl (pc' := 70) rfl ?_
        refine R.daload X62 hx hZ e62 V_a2 (own_bd (by omega) : ¬ (i63 + (0 : Int32)) < 0 ∧ (i63 + (0 : Int32)) < (6 : Int32)) (v := (.double (yv (i63 + (0 : Int32))))) (g0_i63) (hb hby d8_70) (pc' := 71) rfl ?_
        refine R.dmul X62 hx (hb hby d8_71) ((Dy.mul Dv0 D0_i63 (by omega) (by decide)).nn : NoNaN64 (FP.dmul v0 (yv (i63 + (0 : Int32))))) (pc' := 72) rfl ?_
        refine R.dadd X62 hx (hb hby d8_72) ((Dy.add own_zero' (Dy.mul Dv0 D0_i63 (by omega) (by decide)) (by omega) (by decide)).nn : NoNaN64 (FP.dadd FP.dconst0 (FP.dmul v0 (yv (i63 + (0 : Int32)))))) (pc' := 73) rfl ?_
        refine R.dastore X62 hx hZ e62 V_a4 (⟨by decide, by decide⟩ : ¬ (0 : Int32) < 0 ∧ (0 : Int32) < (2 : Int32)) (hb hby d8_73) (pc' := 74) rfl ?_; intro T64 h64 X64 e64 W64 V64
        have F_start_a0 := F_start_a0.other W64 (Or.inl ne_a0_a4)
        have F_rows_a0 := F_rows_a0.other W64 (Or.inl ne_a0_a4)
        have F_values_a0 := F_values_a0.other W64 (Or.inl ne_a0_a4)
        have V_st := V_st.other W64 ne_st_a4
        have V_rw := V_rw.other W64 ne_rw_a4
        have V_vl := V_vl.other W64 ne_vl_a4
        have V_a2 := V_a2.other W64 ne_a2_a4
        have V_a4 : Arh Z h64 a4 ki .double (2 : Int32) (((0 : Int32), (.double (FP.dadd FP.dconst0 (FP.dmul v0 (yv (i63 + (0 : Int32))))))) :: ((1 : Int32), (.double FP.dconst0)) :: ((0 : Int32), (.double FP.dconst0)) :: hi) [] (.double (0 : UInt64)) := V64
        have N64 := Fr.snoc X64 N58 g_a4
        have K64 : Keep h0 h64 [a4] := K58.wr W64 (Or.inl (List.mem_of_getElem? (i := 0) rfl))
        have Z64 : n0 ≤ h64.size := Nat.le_trans Z58 (Keep.of_wr W64).1
        refine R.iinc X64 hx (hb hby d8_74) rfl (L' := #[.val (.ref a0), .val (.int p1), .val (.ref a2), .val (.int (2 : Int32)), .val (.ref a4), .val (.int base), .val (.double v0), .second, .val (.int i63), .val (.int (1 : Int32))]) rfl (pc' := 77) rfl ?_
        refine R.goto X64 hx (hb hby d8_77) (by decide) (pc' := 50) (by decide) ?_
        refine R.iload X64 hx (hb hby d8_50) rfl (pc' := 52) rfl ?_
        refine R.iloadN X64 hx (hb hby d8_52) rfl (pc' := 53) rfl ?_
        refine R.icmpNo X64 hx (hb hby d8_53) (tlt (by decide : (1 : Int32) < (2 : Int32))).2.1 (pc' := 56) rfl ?_
        refine R.aload X64 hx (hb hby d8_56) rfl rfl (pc' := 58) rfl ?_
        refine R.iload X64 hx (hb hby d8_58) rfl (pc' := 60) rfl ?_
        refine R.dup2 X64 hx (hb hby d8_60) rfl rfl (pc' := 61) rfl ?_
        refine R.daload X64 hx hZ e64 V_a4 (⟨by decide, by decide⟩ : ¬ (1 : Int32) < 0 ∧ (1 : Int32) < (2 : Int32)) (v := (.double FP.dconst0)) (getH_miss ((⟨by decide, by decide⟩ : ¬ (1 : Int32) < 0 ∧ (1 : Int32) < (2 : Int32))).1 (by decide) (getH_hit ((⟨by decide, by decide⟩ : ¬ (1 : Int32) < 0 ∧ (1 : Int32) < (2 : Int32))).1 (rfl))) (hb hby d8_61) (pc' := 62) rfl ?_
        refine R.dload X64 hx (hb hby d8_62) rfl (pc' := 64) rfl ?_
        refine R.aloadN X64 hx (hb hby d8_64) rfl rfl (pc' := 65) rfl ?_
        refine R.iload X64 hx (hb hby d8_65) rfl (pc' := 67) rfl ?_
        refine R.iload X64 hx (hb hby d8_67) rfl (pc' := 69) rfl ?_
        refine R.iadd X64 hx (hb hby d8_69) rfl (pc' := 70) rfl ?_
        refine R.daload X64 hx hZ e64 V_a2 (own_bd (by omega) : ¬ (i63 + (1 : Int32)) < 0 ∧ (i63 + (1 : Int32)) < (6 : Int32)) (v := (.double (yv (i63 + (1 : Int32))))) (g1_i63) (hb hby d8_70) (pc' := 71) rfl ?_
        refine R.dmul X64 hx (hb hby d8_71) ((Dy.mul Dv0 D1_i63 (by omega) (by decide)).nn : NoNaN64 (FP.dmul v0 (yv (i63 + (1 : Int32))))) (pc' := 72) rfl ?_
        refine R.dadd X64 hx (hb hby d8_72) ((Dy.add own_zero' (Dy.mul Dv0 D1_i63 (by omega) (by decide)) (by omega) (by decide)).nn : NoNaN64 (FP.dadd FP.dconst0 (FP.dmul v0 (yv (i63 + (1 : Int32)))))) (pc' := 73) rfl ?_
        refine R.dastore X64 hx hZ e64 V_a4 (⟨by decide, by decide⟩ : ¬ (1 : Int32) < 0 ∧ (1 : Int32) < (2 : Int32)) (hb hby d8_73) (pc' := 74) rfl ?_; intro T65 h65 X65 e65 W65 V65
        have F_start_a0 := F_start_a0.other W65 (Or.inl ne_a0_a4)
        have F_rows_a0 := F_rows_a0.other W65 (Or.inl ne_a0_a4)
        have F_values_a0 := F_values_a0.other W65 (Or.inl ne_a0_a4)
        have V_st := V_st.other W65 ne_st_a4
        have V_rw := V_rw.other W65 ne_rw_a4
        have V_vl := V_vl.other W65 ne_vl_a4
        have V_a2 := V_a2.other W65 ne_a2_a4
        have V_a4 : Arh Z h65 a4 ki .double (2 : Int32) (((1 : Int32), (.double (FP.dadd FP.dconst0 (FP.dmul v0 (yv (i63 + (1 : Int32))))))) :: ((0 : Int32), (.double (FP.dadd FP.dconst0 (FP.dmul v0 (yv (i63 + (0 : Int32))))))) :: ((1 : Int32), (.double FP.dconst0)) :: ((0 : Int32), (.double FP.dconst0)) :: hi) [] (.double (0 : UInt64)) := V65
        have N65 := Fr.snoc X65 N64 g_a4
        have K65 : Keep h0 h65 [a4] := K64.wr W65 (Or.inl (List.mem_of_getElem? (i := 0) rfl))
        have Z65 : n0 ≤ h65.size := Nat.le_trans Z64 (Keep.of_wr W65).1
        refine R.iinc X65 hx (hb hby d8_74) rfl (L' := #[.val (.ref a0), .val (.int p1), .val (.ref a2), .val (.int (2 : Int32)), .val (.ref a4), .val (.int base), .val (.double v0), .second, .val (.int i63), .val (.int (2 : Int32))]) rfl (pc' := 77) rfl ?_
        refine R.goto X65 hx (hb hby d8_77) (by decide) (pc' := 50) (by decide) ?_
        refine R.iload X65 hx (hb hby d8_50) rfl (pc' := 52) rfl ?_
        refine R.iloadN X65 hx (hb hby d8_52) rfl (pc' := 53) rfl ?_
        refine R.icmpYes X65 hx (hb hby d8_53) (flt (by decide : ¬ ((2 : Int32) < (2 : Int32)))).2.1 (by decide) (pc' := 80) (by decide) ?_
        refine R.iinc X65 hx (hb hby d8_80) rfl (L' := #[.val (.ref a0), .val (.int p1), .val (.ref a2), .val (.int (2 : Int32)), .val (.ref a4), .val (.int (base + (1 : Int32))), .val (.double v0), .second, .val (.int i63), .val (.int (2 : Int32))]) rfl (pc' := 83) rfl ?_
        refine R.goto X65 hx (hb hby d8_83) (by decide) (pc' := 14) (by decide) ?_
        refine R.iload X65 hx (hb hby d8_14) rfl (pc' := 16) rfl ?_
        refine R.aloadN X65 hx (hb hby d8_16) rfl rfl (pc' := 17) rfl ?_
        refine R.getF X65 hx hZ hown (host := "") (Or.inl w_32) Via.refl e65 F_start_a0 (hb hby d8_17) (pc' := 20) rfl ?_; intro T66 X66 e66
        refine R.iloadN X66 hx (hb hby d8_20) rfl (pc' := 21) rfl ?_
        refine R.iconst X66 hx (hb hby d8_21) (v := (1 : Int32)) (by decide) (pc' := 22) rfl ?_
        refine R.iadd X66 hx (hb hby d8_22) rfl (pc' := 23) rfl ?_
        refine R.iaload X66 hx hZ e66 V_st (own_bd (by omega) : ¬ (p1 + (1 : Int32)) < 0 ∧ (p1 + (1 : Int32)) < (3 : Int32)) (v := (.int ((base + (1 : Int32)) + (1 : Int32)))) (rst1) (hb hby d8_23) (pc' := 24) rfl ?_
        refine R.icmpNo X66 hx (hb hby d8_24) (tlt (Int32.lt_iff_toInt_lt.mpr (by omega) : (base + (1 : Int32)) < ((base + (1 : Int32)) + (1 : Int32)))).2.1 (pc' := 27) rfl ?_
        refine R.aloadN X66 hx (hb hby d8_27) rfl rfl (pc' := 28) rfl ?_
        refine R.getF X66 hx hZ hown (host := "") (Or.inl w_36) Via.refl e66 F_values_a0 (hb hby d8_28) (pc' := 31) rfl ?_; intro T67 X67 e67
        refine R.iload X67 hx (hb hby d8_31) rfl (pc' := 33) rfl ?_
        refine R.daload X67 hx hZ e67 V_vl (own_bd (by omega) : ¬ (base + (1 : Int32)) < 0 ∧ (base + (1 : Int32)) < (4 : Int32)) (v := (.double v1)) (vb1) (hb hby d8_33) (pc' := 34) rfl ?_
        refine R.dstore X67 hx (hb hby d8_34) (L' := #[.val (.ref a0), .val (.int p1), .val (.ref a2), .val (.int (2 : Int32)), .val (.ref a4), .val (.int (base + (1 : Int32))), .val (.double v1), .second, .val (.int i63), .val (.int (2 : Int32))]) rfl (pc' := 36) rfl ?_
        refine R.aloadN X67 hx (hb hby d8_36) rfl rfl (pc' := 37) rfl ?_
        refine R.getF X67 hx hZ hown (host := "") (Or.inl w_34) Via.refl e67 F_rows_a0 (hb hby d8_37) (pc' := 40) rfl ?_; intro T68 X68 e68
        refine R.iload X68 hx (hb hby d8_40) rfl (pc' := 42) rfl ?_
        refine R.iaload X68 hx hZ e68 V_rw (own_bd (by omega) : ¬ (base + (1 : Int32)) < 0 ∧ (base + (1 : Int32)) < (4 : Int32)) (v := (.int rb)) (rb1) (hb hby d8_42) (pc' := 43) rfl ?_
        refine R.iloadN X68 hx (hb hby d8_43) rfl (pc' := 44) rfl ?_
        refine R.imul X68 hx (hb hby d8_44) rfl (pc' := 45) rfl ?_
        show Rn p e below (T68.setTop (mkF m 45 #[.val (.ref a0), .val (.int p1), .val (.ref a2), .val (.int (2 : Int32)), .val (.ref a4), .val (.int (base + (1 : Int32))), .val (.double v1), .second, .val (.int i63), .val (.int (2 : Int32))] [(.int (rb * (2 : Int32)))])) G
        generalize hi69 : (rb * (2 : Int32)) = i69
        refine R.istore X68 hx (hb hby d8_45) (L' := #[.val (.ref a0), .val (.int p1), .val (.ref a2), .val (.int (2 : Int32)), .val (.ref a4), .val (.int (base + (1 : Int32))), .val (.double v1), .second, .val (.int i69), .val (.int (2 : Int32))]) rfl (pc' := 47) rfl ?_
        have w8_i69 : i69.toInt = rb.toInt * 2 := by rw [← hi69]; exact own_mw hrb (by decide) (by decide)
        have x0_i69 : (i69 + (0 : Int32)).toInt = rb.toInt * 2 + 0 := by rw [own_pk (k := (0 : Int32)) (d := 0) (by decide) (by omega)]; omega
        obtain ⟨g0_i69, D0_i69, n0_i69⟩ := rdy (i69 + (0 : Int32)) (by omega) (by omega)
        have q0_i69 := own_pb bW1 n0_i69
        have x1_i69 : (i69 + (1 : Int32)).toInt = rb.toInt * 2 + 1 := by rw [own_pk (k := (1 : Int32)) (d := 1) (by decide) (by omega)]; omega
        obtain ⟨g1_i69, D1_i69, n1_i69⟩ := rdy (i69 + (1 : Int32)) (by omega) (by omega)
        have q1_i69 := own_pb bW1 n1_i69
        refine R.iconst X68 hx (hb hby d8_47) (v := (0 : Int32)) (by decide) (pc' := 48) rfl ?_
        refine R.istore X68 hx (hb hby d8_48) (L' := #[.val (.ref a0), .val (.int p1), .val (.ref a2), .val (.int (2 : Int32)), .val (.ref a4), .val (.int (base + (1 : Int32))), .val (.double v1), .second, .val (.int i69), .val (.int (0 : Int32))]) rfl (pc' := 50) rfl ?_
        refine R.iload X68 hx (hb hby d8_50) rfl (pc' := 52) rfl ?_
        refine R.iloadN X68 hx (hb hby d8_52) rfl (pc' := 53) rfl ?_
        refine R.icmpNo X68 hx (hb hby d8_53) (tlt (by decide : (0 : Int32) < (2 : Int32))).2.1 (pc' := 56) rfl ?_
        refine R.aload X68 hx (hb hby d8_56) rfl rfl (pc' := 58) rfl ?_
        refine R.iload X68 hx (hb hby d8_58) rfl (pc' := 60) rfl ?_
        refine R.dup2 X68 hx (hb hby d8_60) rfl rfl (pc' := 61) rfl ?_
        refine R.daload X68 hx hZ e68 V_a4 (⟨by decide, by decide⟩ : ¬ (0 : Int32) < 0 ∧ (0 : Int32) < (2 : Int32)) (v := (.double (FP.dadd FP.dconst0 (FP.dmul v0 (yv (i63 + (0 : Int32))))))) (getH_miss ((⟨by decide, by decide⟩ : ¬ (0 : Int32) < 0 ∧ (0 : Int32) < (2 : Int32))).1 (by decide) (getH_hit ((⟨by decide, by decide⟩ : ¬ (0 : Int32) < 0 ∧ (0 : Int32) < (2 : Int32))).1 (rfl))) (hb hby d8_61) (pc' := 62) rfl ?_
        refine R.dload X68 hx (hb hby d8_62) rfl (pc' := 64) rfl ?_
        refine R.aloadN X68 hx (hb hby d8_64) rfl rfl (pc' := 65) rfl ?_
        refine R.iload X68 hx (hb hby d8_65) rfl (pc' := 67) rfl ?_
        refine R.iload X68 hx (hb hby d8_67) rfl (pc' := 69) rfl ?_
        refine R.iadd X68 hx (hb hby d8_69) rfl (pc' := 70) rfl ?_
        refine R.daload X68 hx hZ e68 V_a2 (own_bd (by omega) : ¬ (i69 + (0 : Int32)) < 0 ∧ (i69 + (0 : Int32)) < (6 : Int32)) (v := (.double (yv (i69 + (0 : Int32))))) (g0_i69) (hb hby d8_70) (pc' := 71) rfl ?_
        refine R.dmul X68 hx (hb hby d8_71) ((Dy.mul Dv1 D0_i69 (by omega) (by decide)).nn : NoNaN64 (FP.dmul v1 (yv (i69 + (0 : Int32))))) (pc' := 72) rfl ?_
        refine R.dadd X68 hx (hb hby d8_72) ((Dy.add (Dy.add own_zero' (Dy.mul Dv0 D0_i63 (by omega) (by decide)) (by omega) (by decide)) (Dy.mul Dv1 D0_i69 (by omega) (by decide)) (by omega) (by decide)).nn : NoNaN64 (FP.dadd (FP.dadd FP.dconst0 (FP.dmul v0 (yv (i63 + (0 : Int32))))) (FP.dmul v1 (yv (i69 + (0 : Int32)))))) (pc' := 73) rfl ?_
        refine R.dastore X68 hx hZ e68 V_a4 (⟨by decide, by decide⟩ : ¬ (0 : Int32) < 0 ∧ (0 : Int32) < (2 : Int32)) (hb hby d8_73) (pc' := 74) rfl ?_; intro T70 h70 X70 e70 W70 V70
        have F_start_a0 := F_start_a0.other W70 (Or.inl ne_a0_a4)
        have F_rows_a0 := F_rows_a0.other W70 (Or.inl ne_a0_a4)
        have F_values_a0 := F_values_a0.other W70 (Or.inl ne_a0_a4)
        have V_st := V_st.other W70 ne_st_a4
        have V_rw := V_rw.other W70 ne_rw_a4
        have V_vl := V_vl.other W70 ne_vl_a4
        have V_a2 := V_a2.other W70 ne_a2_a4
        have V_a4 : Arh Z h70 a4 ki .double (2 : Int32) (((0 : Int32), (.double (FP.dadd (FP.dadd FP.dconst0 (FP.dmul v0 (yv (i63 + (0 : Int32))))) (FP.dmul v1 (yv (i69 + (0 : Int32))))))) :: ((1 : Int32), (.double (FP.dadd FP.dconst0 (FP.dmul v0 (yv (i63 + (1 : Int32))))))) :: ((0 : Int32), (.double (FP.dadd FP.dconst0 (FP.dmul v0 (yv (i63 + (0 : Int32))))))) :: ((1 : Int32), (.double FP.dconst0)) :: ((0 : Int32), (.double FP.dconst0)) :: hi) [] (.double (0 : UInt64)) := V70
        have N70 := Fr.snoc X70 N65 g_a4
        have K70 : Keep h0 h70 [a4] := K65.wr W70 (Or.inl (List.mem_of_getElem? (i := 0) rfl))
        have Z70 : n0 ≤ h70.size := Nat.le_trans Z65 (Keep.of_wr W70).1
        refine R.iinc X70 hx (hb hby d8_74) rfl (L' := #[.val (.ref a0), .val (.int p1), .val (.ref a2), .val (.int (2 : Int32)), .val (.ref a4), .val (.int (base + (1 : Int32))), .val (.double v1), .second, .val (.int i69), .val (.int (1 : Int32))]) rfl (pc' := 77) rfl ?_
        refine R.goto X70 hx (hb hby d8_77) (by decide) (pc' := 50) (by decide) ?_
        refine R.iload X70 hx (hb hby d8_50) rfl (pc' := 52) rfl ?_
        refine R.iloadN X70 hx (hb hby d8_52) rfl (pc' := 53) rfl ?_
        refine R.icmpNo X70 hx (hb hby d8_53) (tlt (by decide : (1 : Int32) < (2 : Int32))).2.1 (pc' := 56) rfl ?_
        refine R.aload X70 hx (hb hby d8_56) rfl rfl (pc' := 58) rfl ?_
        refine R.iload X70 hx (hb hby d8_58) rfl (pc' := 60) rfl ?_
        refine R.dup2 X70 hx (hb hby d8_60) rfl rfl (pc' := 61) rfl ?_
        refine R.daload X70 hx hZ e70 V_a4 (⟨by decide, by decide⟩ : ¬ (1 : Int32) < 0 ∧ (1 : Int32) < (2 : Int32)) (v := (.double (FP.dadd FP.dconst0 (FP.dmul v0 (yv (i63 + (1 : Int32))))))) (getH_miss ((⟨by decide, by decide⟩ : ¬ (1 : Int32) < 0 ∧ (1 : Int32) < (2 : Int32))).1 (by decide) (getH_hit ((⟨by decide, by decide⟩ : ¬ (1 : Int32) < 0 ∧ (1 : Int32) < (2 : Int32))).1 (rfl))) (hb hby d8_61) (pc' := 62) rfl ?_
        refine R.dload X70 hx (hb hby d8_62) rfl (pc' := 64) rfl ?_
        refine R.aloadN X70 hx (hb hby d8_64) rfl rfl (pc' := 65) rfl ?_
        refine R.iload X70 hx (hb hby d8_65) rfl (pc' := 67) rfl ?_
        refine R.iload X70 hx (hb hby d8_67) rfl (pc' := 69) rfl ?_
        refine R.iadd X70 hx (hb hby d8_69) rfl (pc' := 70) rfl ?_
        refine R.daload X70 hx hZ e70 V_a2 (own_bd (by omega) : ¬ (i69 + (1 : Int32)) < 0 ∧ (i69 + (1 : Int32)) < (6 : Int32)) (v := (.double (yv (i69 + (1 : Int32))))) (g1_i69) (hb hby d8_70) (pc' := 71) rfl ?_
        refine R.dmul X70 hx (hb hby d8_71) ((Dy.mul Dv1 D1_i69 (by omega) (by decide)).nn : NoNaN64 (FP.dmul v1 (yv (i69 + (1 : Int32))))) (pc' := 72) rfl ?_
        refine R.dadd X70 hx (hb hby d8_72) ((Dy.add (Dy.add own_zero' (Dy.mul Dv0 D1_i63 (by omega) (by decide)) (by omega) (by decide)) (Dy.mul Dv1 D1_i69 (by omega) (by decide)) (by omega) (by decide)).nn : NoNaN64 (FP.dadd (FP.dadd FP.dconst0 (FP.dmul v0 (yv (i63 + (1 : Int32))))) (FP.dmul v1 (yv (i69 + (1 : Int32)))))) (pc' := 73) rfl ?_
        refine R.dastore X70 hx hZ e70 V_a4 (⟨by decide, by decide⟩ : ¬ (1 : Int32) < 0 ∧ (1 : Int32) < (2 : Int32)) (hb hby d8_73) (pc' := 74) rfl ?_; intro T71 h71 X71 e71 W71 V71
        have F_start_a0 := F_start_a0.other W71 (Or.inl ne_a0_a4)
        have F_rows_a0 := F_rows_a0.other W71 (Or.inl ne_a0_a4)
        have F_values_a0 := F_values_a0.other W71 (Or.inl ne_a0_a4)
        have V_st := V_st.other W71 ne_st_a4
        have V_rw := V_rw.other W71 ne_rw_a4
        have V_vl := V_vl.other W71 ne_vl_a4
        have V_a2 := V_a2.other W71 ne_a2_a4
        have V_a4 : Arh Z h71 a4 ki .double (2 : Int32) (((1 : Int32), (.double (FP.dadd (FP.dadd FP.dconst0 (FP.dmul v0 (yv (i63 + (1 : Int32))))) (FP.dmul v1 (yv (i69 + (1 : Int32))))))) :: ((0 : Int32), (.double (FP.dadd (FP.dadd FP.dconst0 (FP.dmul v0 (yv (i63 + (0 : Int32))))) (FP.dmul v1 (yv (i69 + (0 : Int32))))))) :: ((1 : Int32), (.double (FP.dadd FP.dconst0 (FP.dmul v0 (yv (i63 + (1 : Int32))))))) :: ((0 : Int32), (.double (FP.dadd FP.dconst0 (FP.dmul v0 (yv (i63 + (0 : Int32))))))) :: ((1 : Int32), (.double FP.dconst0)) :: ((0 : Int32), (.double FP.dconst0)) :: hi) [] (.double (0 : UInt64)) := V71
        have N71 := Fr.snoc X71 N70 g_a4
        have K71 : Keep h0 h71 [a4] := K70.wr W71 (Or.inl (List.mem_of_getElem? (i := 0) rfl))
        have Z71 : n0 ≤ h71.size := Nat.le_trans Z70 (Keep.of_wr W71).1
        refine R.iinc X71 hx (hb hby d8_74) rfl (L' := #[.val (.ref a0), .val (.int p1), .val (.ref a2), .val (.int (2 : Int32)), .val (.ref a4), .val (.int (base + (1 : Int32))), .val (.double v1), .second, .val (.int i69), .val (.int (2 : Int32))]) rfl (pc' := 77) rfl ?_
        refine R.goto X71 hx (hb hby d8_77) (by decide) (pc' := 50) (by decide) ?_
        refine R.iload X71 hx (hb hby d8_50) rfl (pc' := 52) rfl ?_
        refine R.iloadN X71 hx (hb hby d8_52) rfl (pc' := 53) rfl ?_
        refine R.icmpYes X71 hx (hb hby d8_53) (flt (by decide : ¬ ((2 : Int32) < (2 : Int32)))).2.1 (by decide) (pc' := 80) (by decide) ?_
        refine R.iinc X71 hx (hb hby d8_80) rfl (L' := #[.val (.ref a0), .val (.int p1), .val (.ref a2), .val (.int (2 : Int32)), .val (.ref a4), .val (.int ((base + (1 : Int32)) + (1 : Int32))), .val (.double v1), .second, .val (.int i69), .val (.int (2 : Int32))]) rfl (pc' := 83) rfl ?_
        refine R.goto X71 hx (hb hby d8_83) (by decide) (pc' := 14) (by decide) ?_
        refine R.iload X71 hx (hb hby d8_14) rfl (pc' := 16) rfl ?_
        refine R.aloadN X71 hx (hb hby d8_16) rfl rfl (pc' := 17) rfl ?_
        refine R.getF X71 hx hZ hown (host := "") (Or.inl w_32) Via.refl e71 F_start_a0 (hb hby d8_17) (pc' := 20) rfl ?_; intro T72 X72 e72
        refine R.iloadN X72 hx (hb hby d8_20) rfl (pc' := 21) rfl ?_
        refine R.iconst X72 hx (hb hby d8_21) (v := (1 : Int32)) (by decide) (pc' := 22) rfl ?_
        refine R.iadd X72 hx (hb hby d8_22) rfl (pc' := 23) rfl ?_
        refine R.iaload X72 hx hZ e72 V_st (own_bd (by omega) : ¬ (p1 + (1 : Int32)) < 0 ∧ (p1 + (1 : Int32)) < (3 : Int32)) (v := (.int ((base + (1 : Int32)) + (1 : Int32)))) (rst1) (hb hby d8_23) (pc' := 24) rfl ?_
        refine R.icmpYes X72 hx (hb hby d8_24) (flt (own_irr _ : ¬ (((base + (1 : Int32)) + (1 : Int32)) < ((base + (1 : Int32)) + (1 : Int32))))).2.1 (by decide) (pc' := 86) (by decide) ?_
        rw [← hG]
        exact Rn.ret X72 (BodyLoose.notSynchronized Bd) (v := none) (fun _ => rfl) (Q := Q8 Z a0 p1 a2 (2 : Int32) a4 st rw vl kst krw kvl ky ki hst hrw hvl hy hi base ((base + (1 : Int32)) + (1 : Int32)) v0 v1 W0 W1 ra rb yv Yi (W0 * Yi (ra * (2 : Int32)) + W1 * Yi (rb * (2 : Int32))) (W0 * Yi ((ra * (2 : Int32)) + (1 : Int32)) + W1 * Yi ((rb * (2 : Int32)) + (1 : Int32))) h0 n0) e72 (fun fs hr => X72.returnOut hx Bd.returns (hb hby d8_86) hr) ⟨(((1 : Int32), (.double (FP.dadd (FP.dadd FP.dconst0 (FP.dmul v0 (yv (i63 + (1 : Int32))))) (FP.dmul v1 (yv (i69 + (1 : Int32))))))) :: ((0 : Int32), (.double (FP.dadd (FP.dadd FP.dconst0 (FP.dmul v0 (yv (i63 + (0 : Int32))))) (FP.dmul v1 (yv (i69 + (0 : Int32))))))) :: ((1 : Int32), (.double (FP.dadd FP.dconst0 (FP.dmul v0 (yv (i63 + (1 : Int32))))))) :: ((0 : Int32), (.double (FP.dadd FP.dconst0 (FP.dmul v0 (yv (i63 + (0 : Int32))))))) :: ((1 : Int32), (.double FP.dconst0)) :: ((0 : Int32), (.double FP.dconst0)) :: hi), rfl, N71, K71, V_a4, (fun _ => ⟨_, getH_miss (by decide) (by decide) (getH_hit (by decide) (rfl)), Dy.cast (Dy.add (Dy.add own_zero' (Dy.mul Dv0 D0_i63 (by omega) (by decide)) (by omega) (by decide)) (Dy.mul Dv1 D0_i69 (by omega) (by decide)) (by omega) (by decide)) (by rw [own_ix0 (Yi := Yi) hi63, own_ix0 (Yi := Yi) hi69]; omega) rfl⟩), (fun _ => ⟨_, getH_hit (by decide) (rfl), Dy.cast (Dy.add (Dy.add own_zero' (Dy.mul Dv0 D1_i63 (by omega) (by decide)) (by omega) (by decide)) (Dy.mul Dv1 D1_i69 (by omega) (by decide)) (by omega) (by decide)) (by rw [own_ix1 (Yi := Yi) hi63, own_ix1 (Yi := Yi) hi69]; omega) rfl⟩)⟩ (by decide) (by decide)
  exact (Rn.st (fun t k => castTop (ef_8 m a0 p1 a2 p3 a4) k) first_ : Rn p e below (s₁.setTop (entryFrame m #[(.ref a0), (.int p1), (.ref a2), (.int p3), (.ref a4)] 10)) (Fn8 Z a0 p1 a2 p3 a4 st rw vl kst krw kvl ky ki hst hrw hvl hy hi base en v0 v1 W0 W1 ra rb yv Yi E0 E1 h0 n0 s))
theorem pd_2 : parseMethodDescriptor "(II)I" = some ⟨[.int, .int], some .int⟩ := by decide +kernel
abbrev mY2 : MethodName := (⟨"com/example/upupa/upupa/engine/ColumnsTransposeTimesPinLaw", "rowA", "(II)I"⟩ : MethodName)
abbrev mY3 : MethodName := (⟨"com/example/upupa/upupa/engine/ColumnsTransposeTimesPinLaw", "rowB", "(II)I"⟩ : MethodName)
theorem pd_3 : parseMethodDescriptor "(III)J" = some ⟨[.int, .int, .int], some .long⟩ := by decide +kernel
abbrev mY4 : MethodName := (⟨"com/example/upupa/upupa/engine/ColumnsTransposeTimesPinLaw", "wAt", "(III)J"⟩ : MethodName)
theorem pd_4 : parseMethodDescriptor "(IIII)J" = some ⟨[.int, .int, .int, .int], some .long⟩ := by decide +kernel
abbrev mY5 : MethodName := (⟨"com/example/upupa/upupa/engine/ColumnsTransposeTimesPinLaw", "yAt", "(IIII)J"⟩ : MethodName)
theorem pd_5 : parseMethodDescriptor "(I[I[I[D)V" = some ⟨[.int, (.array .int), (.array .int), (.array .double)], none⟩ := by decide +kernel
abbrev mY6 : MethodName := (⟨"com/example/upupa/upupa/engine/SubspaceIteration$Columns", "<init>", "(I[I[I[D)V"⟩ : MethodName)
theorem pd_6 : parseMethodDescriptor "(I[DI[D)V" = some ⟨[.int, (.array .double), .int, (.array .double)], none⟩ := by decide +kernel
abbrev mY7 : MethodName := (⟨"com/example/upupa/upupa/engine/SubspaceIteration$Columns", "transposeTimes", "(I[DI[D)V"⟩ : MethodName)
theorem ef_0 (m : MethodId) (x0 : Int32) (x1 : Int32) (x2 : Int32) (x3 : Int32) (x4 : Int32) (x5 : Int32) : entryFrame m #[(.int x0), (.int x1), (.int x2), (.int x3), (.int x4), (.int x5)] maxLocals = mkF m 0 #[.val (.int x0), .val (.int x1), .val (.int x2), .val (.int x3), .val (.int x4), .val (.int x5), .unset, .unset, .unset, .unset, .unset, .unset, .unset, .unset, .unset, .unset, .unset, .unset, .unset, .unset, .unset, .unset, .unset, .unset, .unset, .unset, .unset, .unset, .unset, .unset, .unset, .unset] [] := by first | (simp [entryFrame, mkF, argsToLocals, Value.category, maxLocals]; done) | rfl
def Q0 (Z : State) (p0 : Int32) (p1 : Int32) (p2 : Int32) (p3 : Int32) (p4 : Int32) (p5 : Int32) (h0 : Heap) (n0 : Nat) (vQ : Option Value) (hQ_ : Heap) (LQ : List Loc) : Prop := vQ = some (.int 1) ∧ Fr n0 LQ
def Fn0 (Z : State) (p0 : Int32) (p1 : Int32) (p2 : Int32) (p3 : Int32) (p4 : Int32) (p5 : Int32) (h0 : Heap) (n0 : Nat) (sQ : State) (oQ : Outcome) (UQ : State) : Prop := ∃ vQ LQ, oQ = .returned vQ ∧ Q0 Z p0 p1 p2 p3 p4 p5 h0 n0 vQ UQ.heap LQ ∧ FrameEnd sQ oQ UQ LQ room_1.cells room_1.slots
set_option maxRecDepth 65536 in
set_option maxHeartbeats 40000000 in
theorem rm0 (l : Launch) (Z : State) (aZ : Array Value) (hw : ∀ d ∈ tables_1, d.before aZ Z = true) (ws : List Jvm.Cond) (p0 : Int32) (p1 : Int32) (p2 : Int32) (p3 : Int32) (p4 : Int32) (p5 : Int32) (h0 : Heap) (n0 : Nat) (Z0 : n0 ≤ h0.size) :
    MetFree l x (head1 (Jvm.Cond.code x code maxLocals ret :: ws) room_1) (fun aQ UQ => aQ = #[(.int p0), (.int p1), (.int p2), (.int p3), (.int p4), (.int p5)] ∧ Z.Warmed39 UQ.vm ∧ UQ.heap = h0) (fun _ _ _ _ _ => True) (fun _ UQ oQ UR => ∃ vQ LQ, oQ = .returned vQ ∧ Q0 Z p0 p1 p2 p3 p4 p5 h0 n0 vQ UR.heap LQ ∧ FrameEnd UQ oQ UR LQ room_1.cells room_1.slots) := by
  refine MetFree.of_bodySF (plainFor_of_name pn_0) hisR ?_
  intro p e s m args below meth c s₁ Bd hml0 hP hK
  obtain ⟨rfl, hZ, hh⟩ := hP
  have hx := Bd.exec
  have hby := Bd.bytes
  have hml : c.maxLocals = 32 := hml0
  have hown : s.vm.findClass "com/example/upupa/upupa/engine/ColumnsTransposeTimesPinLaw" = some m.cls := findClass_of_methodNamed Bd.named
  have hnm := (name_of_methodNamed Bd.named Bd.method).1
  have X0 : Stand p l e room_1 s m #[(.int p0), (.int p1), (.int p2), (.int p3), (.int p4), (.int p5)] below meth c s₁ [] 0 0 := Stand.of_body Bd
  have e0 : s₁.heap = h0 := by rw [← hh, Bd.state]; rfl
  have N0 := Fr.nil n0
  have K0 : Keep h0 h0 [] := Keep.refl _ _
  have w_0 := hw _ (List.mem_of_getElem? (i := 0) rfl)
  have w_1 := hw _ (List.mem_of_getElem? (i := 1) rfl)
  have w_2 := hw _ (List.mem_of_getElem? (i := 2) rfl)
  have w_3 := hw _ (List.mem_of_getElem? (i := 3) rfl)
  have w_4 := hw _ (List.mem_of_getElem? (i := 4) rfl)
  have w_5 := hw _ (List.mem_of_getElem? (i := 5) rfl)
  have w_6 := hw _ (List.mem_of_getElem? (i := 6) rfl)
  have w_7 := hw _ (List.mem_of_getElem? (i := 7) rfl)
  have w_8 := hw _ (List.mem_of_getElem? (i := 8) rfl)
  have w_9 := hw _ (List.mem_of_getElem? (i := 9) rfl)
  have w_10 := hw _ (List.mem_of_getElem? (i := 10) rfl)
  have w_11 := hw _ (List.mem_of_getElem? (i := 11) rfl)
  have w_12 := hw _ (List.mem_of_getElem? (i := 12) rfl)
  have w_13 := hw _ (List.mem_of_getElem? (i := 13) rfl)
  have w_14 := hw _ (List.mem_of_getElem? (i := 14) rfl)
  have w_15 := hw _ (List.mem_of_getElem? (i := 15) rfl)
  have w_16 := hw _ (List.mem_of_getElem? (i := 16) rfl)
  have w_17 := hw _ (List.mem_of_getElem? (i := 17) rfl)
  have w_18 := hw _ (List.mem_of_getElem? (i := 18) rfl)
  have w_19 := hw _ (List.mem_of_getElem? (i := 19) rfl)
  have w_20 := hw _ (List.mem_of_getElem? (i := 20) rfl)
  have w_21 := hw _ (List.mem_of_getElem? (i := 21) rfl)
  have w_31 := hw _ (List.mem_of_getElem? (i := 31) rfl)
  have w_33 := hw _ (List.mem_of_getElem? (i := 33) rfl)
  have w_35 := hw _ (List.mem_of_getElem? (i := 35) rfl)
  have w_37 := hw _ (List.mem_of_getElem? (i := 37) rfl)
  have w_38 := hw _ (List.mem_of_getElem? (i := 38) rfl)
  have w_39 := hw _ (List.mem_of_getElem? (i := 39) rfl)
  have w_40 := hw _ (List.mem_of_getElem? (i := 40) rfl)
  have w_41 := hw _ (List.mem_of_getElem? (i := 41) rfl)
  have w_42 := hw _ (List.mem_of_getElem? (i := 42) rfl)
  have first_ : Rn p e below (s₁.setTop (mkF m 0 #[.val (.int p0), .val (.int p1), .val (.int p2), .val (.int p3), .val (.int p4), .val (.int p5), .unset, .unset, .unset, .unset, .unset, .unset, .unset, .unset, .unset, .unset, .unset, .unset, .unset, .unset, .unset, .unset, .unset, .unset, .unset, .unset, .unset, .unset, .unset, .unset, .unset, .unset] [])) (Fn0 Z p0 p1 p2 p3 p4 p5 h0 n0 s) := by
    generalize hG : (Fn0 Z p0 p1 p2 p3 p4 p5 h0 n0 s) = G
    refine R.iloadN X0 hx (hb hby at_0) rfl (pc' := 1) rfl ?_
    refine R.iconst X0 hx (hb hby at_1) (v := (1 : Int32)) (by decide) (pc' := 2) rfl ?_
    refine R.iand X0 hx (hb hby at_2) rfl (pc' := 3) rfl ?_
    show Rn p e below (s₁.setTop (mkF m 3 #[.val (.int p0), .val (.int p1), .val (.int p2), .val (.int p3), .val (.int p4), .val (.int p5), .unset, .unset, .unset, .unset, .unset, .unset, .unset, .unset, .unset, .unset, .unset, .unset, .unset, .unset, .unset, .unset, .unset, .unset, .unset, .unset, .unset, .unset, .unset, .unset, .unset, .unset] [(.int (p0 &&& (1 : Int32)))])) G
    generalize hi1 : (p0 &&& (1 : Int32)) = i1
    refine R.istore X0 hx (hb hby at_3) (L' := #[.val (.int p0), .val (.int p1), .val (.int p2), .val (.int p3), .val (.int p4), .val (.int p5), .val (.int i1), .unset, .unset, .unset, .unset, .unset, .unset, .unset, .unset, .unset, .unset, .unset, .unset, .unset, .unset, .unset, .unset, .unset, .unset, .unset, .unset, .unset, .unset, .unset, .unset, .unset]) rfl (pc' := 5) rfl ?_
    refine R.iloadN X0 hx (hb hby at_5) rfl (pc' := 6) rfl ?_
    refine R.iconst X0 hx (hb hby at_6) (v := (1 : Int32)) (by decide) (pc' := 7) rfl ?_
    refine R.iushr X0 hx (hb hby at_7) (pc' := 8) rfl ?_
    refine R.iconst X0 hx (hb hby at_8) (v := (3 : Int32)) (by decide) (pc' := 9) rfl ?_
    refine R.iand X0 hx (hb hby at_9) rfl (pc' := 10) rfl ?_
    refine R.iconst X0 hx (hb hby at_10) (v := (3 : Int32)) (by decide) (pc' := 11) rfl ?_
    refine R.irem X0 hx (hb hby at_11) (by decide : (3 : Int32) ≠ (0 : Int32)) (pc' := 12) rfl ?_
    show Rn p e below (s₁.setTop (mkF m 12 #[.val (.int p0), .val (.int p1), .val (.int p2), .val (.int p3), .val (.int p4), .val (.int p5), .val (.int i1), .unset, .unset, .unset, .unset, .unset, .unset, .unset, .unset, .unset, .unset, .unset, .unset, .unset, .unset, .unset, .unset, .unset, .unset, .unset, .unset, .unset, .unset, .unset, .unset, .unset] [(.int ((((p0.toUInt32 >>> ((1 : Int32) &&& 31).toUInt32).toInt32) &&& (3 : Int32)) % (3 : Int32)))])) G
    generalize hi2 : ((((p0.toUInt32 >>> ((1 : Int32) &&& 31).toUInt32).toInt32) &&& (3 : Int32)) % (3 : Int32)) = i2
    refine R.istore X0 hx (hb hby at_12) (L' := #[.val (.int p0), .val (.int p1), .val (.int p2), .val (.int p3), .val (.int p4), .val (.int p5), .val (.int i1), .val (.int i2), .unset, .unset, .unset, .unset, .unset, .unset, .unset, .unset, .unset, .unset, .unset, .unset, .unset, .unset, .unset, .unset, .unset, .unset, .unset, .unset, .unset, .unset, .unset, .unset]) rfl (pc' := 14) rfl ?_
    refine R.iloadN X0 hx (hb hby at_14) rfl (pc' := 15) rfl ?_
    refine R.iconst X0 hx (hb hby at_15) (v := (3 : Int32)) (by decide) (pc' := 16) rfl ?_
    refine R.iushr X0 hx (hb hby at_16) (pc' := 17) rfl ?_
    refine R.iconst X0 hx (hb hby at_17) (v := (3 : Int32)) (by decide) (pc' := 18) rfl ?_
    refine R.iand X0 hx (hb hby at_18) rfl (pc' := 19) rfl ?_
    refine R.iconst X0 hx (hb hby at_19) (v := (3 : Int32)) (by decide) (pc' := 20) rfl ?_
    refine R.irem X0 hx (hb hby at_20) (by decide : (3 : Int32) ≠ (0 : Int32)) (pc' := 21) rfl ?_
    show Rn p e below (s₁.setTop (mkF m 21 #[.val (.int p0), .val (.int p1), .val (.int p2), .val (.int p3), .val (.int p4), .val (.int p5), .val (.int i1), .val (.int i2), .unset, .unset, .unset, .unset, .unset, .unset, .unset, .unset, .unset, .unset, .unset, .unset, .unset, .unset, .unset, .unset, .unset, .unset, .unset, .unset, .unset, .unset, .unset, .unset] [(.int ((((p0.toUInt32 >>> ((3 : Int32) &&& 31).toUInt32).toInt32) &&& (3 : Int32)) % (3 : Int32)))])) G
    generalize hi3 : ((((p0.toUInt32 >>> ((3 : Int32) &&& 31).toUInt32).toInt32) &&& (3 : Int32)) % (3 : Int32)) = i3
    refine R.istore X0 hx (hb hby at_21) (L' := #[.val (.int p0), .val (.int p1), .val (.int p2), .val (.int p3), .val (.int p4), .val (.int p5), .val (.int i1), .val (.int i2), .val (.int i3), .unset, .unset, .unset, .unset, .unset, .unset, .unset, .unset, .unset, .unset, .unset, .unset, .unset, .unset, .unset, .unset, .unset, .unset, .unset, .unset, .unset, .unset, .unset]) rfl (pc' := 23) rfl ?_
    refine R.iloadN X0 hx (hb hby at_23) rfl (pc' := 24) rfl ?_
    refine R.iconst X0 hx (hb hby at_24) (v := (5 : Int32)) (by decide) (pc' := 25) rfl ?_
    refine R.iushr X0 hx (hb hby at_25) (pc' := 26) rfl ?_
    refine R.iconst X0 hx (hb hby at_26) (v := (3 : Int32)) (by decide) (pc' := 27) rfl ?_
    refine R.iand X0 hx (hb hby at_27) rfl (pc' := 28) rfl ?_
    refine R.iconst X0 hx (hb hby at_28) (v := (3 : Int32)) (by decide) (pc' := 29) rfl ?_
    refine R.irem X0 hx (hb hby at_29) (by decide : (3 : Int32) ≠ (0 : Int32)) (pc' := 30) rfl ?_
    show Rn p e below (s₁.setTop (mkF m 30 #[.val (.int p0), .val (.int p1), .val (.int p2), .val (.int p3), .val (.int p4), .val (.int p5), .val (.int i1), .val (.int i2), .val (.int i3), .unset, .unset, .unset, .unset, .unset, .unset, .unset, .unset, .unset, .unset, .unset, .unset, .unset, .unset, .unset, .unset, .unset, .unset, .unset, .unset, .unset, .unset, .unset] [(.int ((((p0.toUInt32 >>> ((5 : Int32) &&& 31).toUInt32).toInt32) &&& (3 : Int32)) % (3 : Int32)))])) G
    generalize hi4 : ((((p0.toUInt32 >>> ((5 : Int32) &&& 31).toUInt32).toInt32) &&& (3 : Int32)) % (3 : Int32)) = i4
    refine R.istore X0 hx (hb hby at_30) (L' := #[.val (.int p0), .val (.int p1), .val (.int p2), .val (.int p3), .val (.int p4), .val (.int p5), .val (.int i1), .val (.int i2), .val (.int i3), .val (.int i4), .unset, .unset, .unset, .unset, .unset, .unset, .unset, .unset, .unset, .unset, .unset, .unset, .unset, .unset, .unset, .unset, .unset, .unset, .unset, .unset, .unset, .unset]) rfl (pc' := 32) rfl ?_
    refine R.iloadN X0 hx (hb hby at_32) rfl (pc' := 33) rfl ?_
    refine R.bipush X0 hx (hb hby at_33) (v := (7 : Int32)) (by decide) (pc' := 35) rfl ?_
    refine R.iushr X0 hx (hb hby at_35) (pc' := 36) rfl ?_
    refine R.iconst X0 hx (hb hby at_36) (v := (3 : Int32)) (by decide) (pc' := 37) rfl ?_
    refine R.iand X0 hx (hb hby at_37) rfl (pc' := 38) rfl ?_
    refine R.iconst X0 hx (hb hby at_38) (v := (3 : Int32)) (by decide) (pc' := 39) rfl ?_
    refine R.irem X0 hx (hb hby at_39) (by decide : (3 : Int32) ≠ (0 : Int32)) (pc' := 40) rfl ?_
    show Rn p e below (s₁.setTop (mkF m 40 #[.val (.int p0), .val (.int p1), .val (.int p2), .val (.int p3), .val (.int p4), .val (.int p5), .val (.int i1), .val (.int i2), .val (.int i3), .val (.int i4), .unset, .unset, .unset, .unset, .unset, .unset, .unset, .unset, .unset, .unset, .unset, .unset, .unset, .unset, .unset, .unset, .unset, .unset, .unset, .unset, .unset, .unset] [(.int ((((p0.toUInt32 >>> ((7 : Int32) &&& 31).toUInt32).toInt32) &&& (3 : Int32)) % (3 : Int32)))])) G
    generalize hi5 : ((((p0.toUInt32 >>> ((7 : Int32) &&& 31).toUInt32).toInt32) &&& (3 : Int32)) % (3 : Int32)) = i5
    refine R.istore X0 hx (hb hby at_40) (L' := #[.val (.int p0), .val (.int p1), .val (.int p2), .val (.int p3), .val (.int p4), .val (.int p5), .val (.int i1), .val (.int i2), .val (.int i3), .val (.int i4), .val (.int i5), .unset, .unset, .unset, .unset, .unset, .unset, .unset, .unset, .unset, .unset, .unset, .unset, .unset, .unset, .unset, .unset, .unset, .unset, .unset, .unset, .unset]) rfl (pc' := 42) rfl ?_
    refine R.iloadN X0 hx (hb hby at_42) rfl (pc' := 43) rfl ?_
    refine R.bipush X0 hx (hb hby at_43) (v := (9 : Int32)) (by decide) (pc' := 45) rfl ?_
    refine R.iushr X0 hx (hb hby at_45) (pc' := 46) rfl ?_
    refine R.iconst X0 hx (hb hby at_46) (v := (3 : Int32)) (by decide) (pc' := 47) rfl ?_
    refine R.iand X0 hx (hb hby at_47) rfl (pc' := 48) rfl ?_
    refine R.iconst X0 hx (hb hby at_48) (v := (3 : Int32)) (by decide) (pc' := 49) rfl ?_
    refine R.irem X0 hx (hb hby at_49) (by decide : (3 : Int32) ≠ (0 : Int32)) (pc' := 50) rfl ?_
    show Rn p e below (s₁.setTop (mkF m 50 #[.val (.int p0), .val (.int p1), .val (.int p2), .val (.int p3), .val (.int p4), .val (.int p5), .val (.int i1), .val (.int i2), .val (.int i3), .val (.int i4), .val (.int i5), .unset, .unset, .unset, .unset, .unset, .unset, .unset, .unset, .unset, .unset, .unset, .unset, .unset, .unset, .unset, .unset, .unset, .unset, .unset, .unset, .unset] [(.int ((((p0.toUInt32 >>> ((9 : Int32) &&& 31).toUInt32).toInt32) &&& (3 : Int32)) % (3 : Int32)))])) G
    generalize hi6 : ((((p0.toUInt32 >>> ((9 : Int32) &&& 31).toUInt32).toInt32) &&& (3 : Int32)) % (3 : Int32)) = i6
    refine R.istore X0 hx (hb hby at_50) (L' := #[.val (.int p0), .val (.int p1), .val (.int p2), .val (.int p3), .val (.int p4), .val (.int p5), .val (.int i1), .val (.int i2), .val (.int i3), .val (.int i4), .val (.int i5), .val (.int i6), .unset, .unset, .unset, .unset, .unset, .unset, .unset, .unset, .unset, .unset, .unset, .unset, .unset, .unset, .unset, .unset, .unset, .unset, .unset, .unset]) rfl (pc' := 52) rfl ?_
    refine R.iloadN X0 hx (hb hby at_52) rfl (pc' := 53) rfl ?_
    refine R.bipush X0 hx (hb hby at_53) (v := (11 : Int32)) (by decide) (pc' := 55) rfl ?_
    refine R.ishr X0 hx (hb hby at_55) (pc' := 56) rfl ?_
    refine R.i2d X0 hx (hb hby at_56) (pc' := 57) rfl ?_
    refine R.ldc2D X0 hx hZ hown w_0 (hb hby at_57) (pc' := 60) rfl ?_
    refine R.dadd X0 hx (hb hby at_60) ((own_garb _).nn : NoNaN64 (FP.dadd (FP.i2d (p0 >>> ((11 : Int32) &&& 31))) (4602678819172646912 : UInt64))) (pc' := 61) rfl ?_
    show Rn p e below (s₁.setTop (mkF m 61 #[.val (.int p0), .val (.int p1), .val (.int p2), .val (.int p3), .val (.int p4), .val (.int p5), .val (.int i1), .val (.int i2), .val (.int i3), .val (.int i4), .val (.int i5), .val (.int i6), .unset, .unset, .unset, .unset, .unset, .unset, .unset, .unset, .unset, .unset, .unset, .unset, .unset, .unset, .unset, .unset, .unset, .unset, .unset, .unset] [(.double (FP.dadd (FP.i2d (p0 >>> ((11 : Int32) &&& 31))) (4602678819172646912 : UInt64)))])) G
    generalize hr7 : (FP.dadd (FP.i2d (p0 >>> ((11 : Int32) &&& 31))) (4602678819172646912 : UInt64)) = r7
    refine R.dstore X0 hx (hb hby at_61) (L' := #[.val (.int p0), .val (.int p1), .val (.int p2), .val (.int p3), .val (.int p4), .val (.int p5), .val (.int i1), .val (.int i2), .val (.int i3), .val (.int i4), .val (.int i5), .val (.int i6), .val (.double r7), .second, .unset, .unset, .unset, .unset, .unset, .unset, .unset, .unset, .unset, .unset, .unset, .unset, .unset, .unset, .unset, .unset, .unset, .unset]) rfl (pc' := 63) rfl ?_
    have h6_ := own_bit hi1
    have h7_ := own_tri hi2
    have h8_ := own_tri hi3
    have h9_ := own_tri hi4
    have h10_ := own_tri hi5
    have h11_ := own_tri hi6
    have rA7 := own_02 h7_
    have t4 : (4 : Int32).toInt = 4 := by decide
    have p7 : (i2 + (1 : Int32)).toInt = i2.toInt + 1 := own_p1 (by omega)
    refine R.iconst X0 hx (hb hby at_63) (v := (3 : Int32)) (by decide) (pc' := 64) rfl ?_
    refine R.newP X0 hx hZ (ty := .int) rfl w_1 e0 (by decide) (cap := 3) (by decide) (by decide) (ad := "[I") (by decide) (hb hby at_64) (pc' := 66) rfl (by decide) (by decide) ?_; intro T8 h8 b8 k8 g8 X8 e8 E8 EE8 A8
    have g_b8 : n0 ≤ b8 := Nat.le_trans Z0 (Nat.le_of_eq g8.symm)
    have sz_b8 : h0.size ≤ b8 := Nat.le_trans K0.1 (Nat.le_of_eq g8.symm)
    have K8 : Keep h0 h8 [] := K0.ext E8
    have Z8 : n0 ≤ h8.size := Nat.le_trans Z0 E8.1
    have V_b8 : Arh Z h8 b8 k8 .int (3 : Int32) [] [] (.int (0 : Int32)) := A8
    refine R.astore X8 hx (hb hby at_66) rfl (L' := #[.val (.int p0), .val (.int p1), .val (.int p2), .val (.int p3), .val (.int p4), .val (.int p5), .val (.int i1), .val (.int i2), .val (.int i3), .val (.int i4), .val (.int i5), .val (.int i6), .val (.double r7), .second, .val (.ref b8), .unset, .unset, .unset, .unset, .unset, .unset, .unset, .unset, .unset, .unset, .unset, .unset, .unset, .unset, .unset, .unset, .unset]) rfl (pc' := 68) rfl ?_
    refine R.aload X8 hx (hb hby at_68) rfl rfl (pc' := 70) rfl ?_
    refine R.iconst X8 hx (hb hby at_70) (v := (0 : Int32)) (by decide) (pc' := 71) rfl ?_
    refine R.iconst X8 hx (hb hby at_71) (v := (0 : Int32)) (by decide) (pc' := 72) rfl ?_
    refine R.iastore X8 hx hZ e8 V_b8 (⟨by decide, by decide⟩ : ¬ (0 : Int32) < 0 ∧ (0 : Int32) < (3 : Int32)) (hb hby at_72) (pc' := 73) rfl ?_; intro T9 h9 X9 e9 W9 V9
    have V_b8 : Arh Z h9 b8 k8 .int (3 : Int32) [((0 : Int32), (.int (0 : Int32)))] [] (.int (0 : Int32)) := V9
    have N9 := Fr.snoc X9 N0 g_b8
    have K9 : Keep h0 h9 [] := K8.wr W9 (Or.inr sz_b8)
    have Z9 : n0 ≤ h9.size := Nat.le_trans Z8 (Keep.of_wr W9).1
    refine R.aload X9 hx (hb hby at_73) rfl rfl (pc' := 75) rfl ?_
    refine R.iconst X9 hx (hb hby at_75) (v := (1 : Int32)) (by decide) (pc' := 76) rfl ?_
    refine R.iload X9 hx (hb hby at_76) rfl (pc' := 78) rfl ?_
    refine R.iastore X9 hx hZ e9 V_b8 (⟨by decide, by decide⟩ : ¬ (1 : Int32) < 0 ∧ (1 : Int32) < (3 : Int32)) (hb hby at_78) (pc' := 79) rfl ?_; intro T10 h10 X10 e10 W10 V10
    have V_b8 : Arh Z h10 b8 k8 .int (3 : Int32) [((1 : Int32), (.int i2)), ((0 : Int32), (.int (0 : Int32)))] [] (.int (0 : Int32)) := V10
    have N10 := Fr.snoc X10 N9 g_b8
    have K10 : Keep h0 h10 [] := K9.wr W10 (Or.inr sz_b8)
    have Z10 : n0 ≤ h10.size := Nat.le_trans Z9 (Keep.of_wr W10).1
    refine R.aload X10 hx (hb hby at_79) rfl rfl (pc' := 81) rfl ?_
    refine R.iconst X10 hx (hb hby at_81) (v := (2 : Int32)) (by decide) (pc' := 82) rfl ?_
    refine R.iload X10 hx (hb hby at_82) rfl (pc' := 84) rfl ?_
    refine R.iload X10 hx (hb hby at_84) rfl (pc' := 86) rfl ?_
    refine R.iadd X10 hx (hb hby at_86) rfl (pc' := 87) rfl ?_
    refine R.iastore X10 hx hZ e10 V_b8 (⟨by decide, by decide⟩ : ¬ (2 : Int32) < 0 ∧ (2 : Int32) < (3 : Int32)) (hb hby at_87) (pc' := 88) rfl ?_; intro T11 h11 X11 e11 W11 V11
    have V_b8 : Arh Z h11 b8 k8 .int (3 : Int32) [((2 : Int32), (.int (i2 + i3))), ((1 : Int32), (.int i2)), ((0 : Int32), (.int (0 : Int32)))] [] (.int (0 : Int32)) := V11
    have N11 := Fr.snoc X11 N10 g_b8
    have K11 : Keep h0 h11 [] := K10.wr W11 (Or.inr sz_b8)
    have Z11 : n0 ≤ h11.size := Nat.le_trans Z10 (Keep.of_wr W11).1
    refine R.iconst X11 hx (hb hby at_88) (v := (4 : Int32)) (by decide) (pc' := 89) rfl ?_
    refine R.newP X11 hx hZ (ty := .int) rfl w_1 e11 (by decide) (cap := 4) (by decide) (by decide) (ad := "[I") (by decide) (hb hby at_89) (pc' := 91) rfl (by decide) (by decide) ?_; intro T12 h12 b12 k12 g12 X12 e12 E12 EE12 A12
    have g_b12 : n0 ≤ b12 := Nat.le_trans Z11 (Nat.le_of_eq g12.symm)
    have sz_b12 : h0.size ≤ b12 := Nat.le_trans K11.1 (Nat.le_of_eq g12.symm)
    have ne_b8_b12 : b8 ≠ b12 := Nat.ne_of_lt (Nat.lt_of_lt_of_le V_b8.lt (Nat.le_of_eq g12.symm))
    have K12 : Keep h0 h12 [] := K11.ext E12
    have Z12 : n0 ≤ h12.size := Nat.le_trans Z11 E12.1
    have V_b8 := V_b8.ext E12
    have V_b12 : Arh Z h12 b12 k12 .int (4 : Int32) [] [] (.int (0 : Int32)) := A12
    refine R.astore X12 hx (hb hby at_91) rfl (L' := #[.val (.int p0), .val (.int p1), .val (.int p2), .val (.int p3), .val (.int p4), .val (.int p5), .val (.int i1), .val (.int i2), .val (.int i3), .val (.int i4), .val (.int i5), .val (.int i6), .val (.double r7), .second, .val (.ref b8), .val (.ref b12), .unset, .unset, .unset, .unset, .unset, .unset, .unset, .unset, .unset, .unset, .unset, .unset, .unset, .unset, .unset, .unset]) rfl (pc' := 93) rfl ?_
    refine R.aload X12 hx (hb hby at_93) rfl rfl (pc' := 95) rfl ?_
    refine R.iconst X12 hx (hb hby at_95) (v := (0 : Int32)) (by decide) (pc' := 96) rfl ?_
    refine R.iload X12 hx (hb hby at_96) rfl (pc' := 98) rfl ?_
    refine R.iload X12 hx (hb hby at_98) rfl (pc' := 100) rfl ?_
    refine R.callS X12 hx hZ (y := mY2) hown w_2 w_3 w_4 w_5 (by decide) e12 (rm1 l Z aZ hw [] i2 i4 h12 n0 Z12 ) (by decide) (W := 2) (Nat.le_of_eq rfl) (by decide) (by rw [hml]; rfl) (lenOf pd_2 rfl) rfl (hb hby at_100) (pc' := 103) rfl (by decide) (by decide) ?_; intro v13 T13 L13 X13 hQ13
    obtain ⟨rfl, N13q, e13⟩ := hQ13
    have N13 := Fr.app N11 N13q
    refine R.iastore X13 hx hZ e13 V_b12 (⟨by decide, by decide⟩ : ¬ (0 : Int32) < 0 ∧ (0 : Int32) < (4 : Int32)) (hb hby at_103) (pc' := 104) rfl ?_; intro T14 h14 X14 e14 W14 V14
    have V_b8 := V_b8.other W14 ne_b8_b12
    have V_b12 : Arh Z h14 b12 k12 .int (4 : Int32) [((0 : Int32), (.int (own_rowA i2 i4)))] [] (.int (0 : Int32)) := V14
    have N14 := Fr.snoc X14 N13 g_b12
    have K14 : Keep h0 h14 [] := K12.wr W14 (Or.inr sz_b12)
    have Z14 : n0 ≤ h14.size := Nat.le_trans Z12 (Keep.of_wr W14).1
    refine R.aload X14 hx (hb hby at_104) rfl rfl (pc' := 106) rfl ?_
    refine R.iconst X14 hx (hb hby at_106) (v := (1 : Int32)) (by decide) (pc' := 107) rfl ?_
    refine R.iload X14 hx (hb hby at_107) rfl (pc' := 109) rfl ?_
    refine R.iload X14 hx (hb hby at_109) rfl (pc' := 111) rfl ?_
    refine R.callS X14 hx hZ (y := mY3) hown w_6 w_7 w_4 w_8 (by decide) e14 (rm2 l Z aZ hw [] i2 i4 h14 n0 Z14 ) (by decide) (W := 2) (Nat.le_of_eq rfl) (by decide) (by rw [hml]; rfl) (lenOf pd_2 rfl) rfl (hb hby at_111) (pc' := 114) rfl (by decide) (by decide) ?_; intro v15 T15 L15 X15 hQ15
    obtain ⟨rfl, N15q, e15⟩ := hQ15
    have N15 := Fr.app N14 N15q
    refine R.iastore X15 hx hZ e15 V_b12 (⟨by decide, by decide⟩ : ¬ (1 : Int32) < 0 ∧ (1 : Int32) < (4 : Int32)) (hb hby at_114) (pc' := 115) rfl ?_; intro T16 h16 X16 e16 W16 V16
    have V_b8 := V_b8.other W16 ne_b8_b12
    have V_b12 : Arh Z h16 b12 k12 .int (4 : Int32) [((1 : Int32), (.int (own_rowB i2 i4))), ((0 : Int32), (.int (own_rowA i2 i4)))] [] (.int (0 : Int32)) := V16
    have N16 := Fr.snoc X16 N15 g_b12
    have K16 : Keep h0 h16 [] := K14.wr W16 (Or.inr sz_b12)
    have Z16 : n0 ≤ h16.size := Nat.le_trans Z14 (Keep.of_wr W16).1
    refine R.aload X16 hx (hb hby at_115) rfl rfl (pc' := 117) rfl ?_
    refine R.iload X16 hx (hb hby at_117) rfl (pc' := 119) rfl ?_
    refine R.iload X16 hx (hb hby at_119) rfl (pc' := 121) rfl ?_
    refine R.iload X16 hx (hb hby at_121) rfl (pc' := 123) rfl ?_
    refine R.callS X16 hx hZ (y := mY2) hown w_2 w_3 w_4 w_5 (by decide) e16 (rm1 l Z aZ hw [] i3 i5 h16 n0 Z16 ) (by decide) (W := 2) (Nat.le_of_eq rfl) (by decide) (by rw [hml]; rfl) (lenOf pd_2 rfl) rfl (hb hby at_123) (pc' := 126) rfl (by decide) (by decide) ?_; intro v17 T17 L17 X17 hQ17
    obtain ⟨rfl, N17q, e17⟩ := hQ17
    have N17 := Fr.app N16 N17q
    refine R.iastore X17 hx hZ e17 V_b12 (own_bd (by omega) : ¬ i2 < 0 ∧ i2 < (4 : Int32)) (hb hby at_126) (pc' := 127) rfl ?_; intro T18 h18 X18 e18 W18 V18
    have V_b8 := V_b8.other W18 ne_b8_b12
    have V_b12 : Arh Z h18 b12 k12 .int (4 : Int32) [(i2, (.int (own_rowA i3 i5))), ((1 : Int32), (.int (own_rowB i2 i4))), ((0 : Int32), (.int (own_rowA i2 i4)))] [] (.int (0 : Int32)) := V18
    have N18 := Fr.snoc X18 N17 g_b12
    have K18 : Keep h0 h18 [] := K16.wr W18 (Or.inr sz_b12)
    have Z18 : n0 ≤ h18.size := Nat.le_trans Z16 (Keep.of_wr W18).1
    refine R.aload X18 hx (hb hby at_127) rfl rfl (pc' := 129) rfl ?_
    refine R.iload X18 hx (hb hby at_129) rfl (pc' := 131) rfl ?_
    refine R.iconst X18 hx (hb hby at_131) (v := (1 : Int32)) (by decide) (pc' := 132) rfl ?_
    refine R.iadd X18 hx (hb hby at_132) rfl (pc' := 133) rfl ?_
    refine R.iload X18 hx (hb hby at_133) rfl (pc' := 135) rfl ?_
    refine R.iload X18 hx (hb hby at_135) rfl (pc' := 137) rfl ?_
    refine R.callS X18 hx hZ (y := mY3) hown w_6 w_7 w_4 w_8 (by decide) e18 (rm2 l Z aZ hw [] i3 i5 h18 n0 Z18 ) (by decide) (W := 2) (Nat.le_of_eq rfl) (by decide) (by rw [hml]; rfl) (lenOf pd_2 rfl) rfl (hb hby at_137) (pc' := 140) rfl (by decide) (by decide) ?_; intro v19 T19 L19 X19 hQ19
    obtain ⟨rfl, N19q, e19⟩ := hQ19
    have N19 := Fr.app N18 N19q
    refine R.iastore X19 hx hZ e19 V_b12 (own_bd (by omega) : ¬ (i2 + (1 : Int32)) < 0 ∧ (i2 + (1 : Int32)) < (4 : Int32)) (hb hby at_140) (pc' := 141) rfl ?_; intro T20 h20 X20 e20 W20 V20
    have V_b8 := V_b8.other W20 ne_b8_b12
    have V_b12 : Arh Z h20 b12 k12 .int (4 : Int32) [((i2 + (1 : Int32)), (.int (own_rowB i3 i5))), (i2, (.int (own_rowA i3 i5))), ((1 : Int32), (.int (own_rowB i2 i4))), ((0 : Int32), (.int (own_rowA i2 i4)))] [] (.int (0 : Int32)) := V20
    have N20 := Fr.snoc X20 N19 g_b12
    have K20 : Keep h0 h20 [] := K18.wr W20 (Or.inr sz_b12)
    have Z20 : n0 ≤ h20.size := Nat.le_trans Z18 (Keep.of_wr W20).1
    refine R.iconst X20 hx (hb hby at_141) (v := (4 : Int32)) (by decide) (pc' := 142) rfl ?_
    refine R.newP X20 hx hZ (ty := .double) rfl w_9 e20 (by decide) (cap := 4) (by decide) (by decide) (ad := "[D") (by decide) (hb hby at_142) (pc' := 144) rfl (by decide) (by decide) ?_; intro T21 h21 b21 k21 g21 X21 e21 E21 EE21 A21
    have g_b21 : n0 ≤ b21 := Nat.le_trans Z20 (Nat.le_of_eq g21.symm)
    have sz_b21 : h0.size ≤ b21 := Nat.le_trans K20.1 (Nat.le_of_eq g21.symm)
    have ne_b8_b21 : b8 ≠ b21 := Nat.ne_of_lt (Nat.lt_of_lt_of_le V_b8.lt (Nat.le_of_eq g21.symm))
    have ne_b12_b21 : b12 ≠ b21 := Nat.ne_of_lt (Nat.lt_of_lt_of_le V_b12.lt (Nat.le_of_eq g21.symm))
    have K21 : Keep h0 h21 [] := K20.ext E21
    have Z21 : n0 ≤ h21.size := Nat.le_trans Z20 E21.1
    have V_b8 := V_b8.ext E21
    have V_b12 := V_b12.ext E21
    have V_b21 : Arh Z h21 b21 k21 .double (4 : Int32) [] [] (.double (0 : UInt64)) := A21
    refine R.astore X21 hx (hb hby at_144) rfl (L' := #[.val (.int p0), .val (.int p1), .val (.int p2), .val (.int p3), .val (.int p4), .val (.int p5), .val (.int i1), .val (.int i2), .val (.int i3), .val (.int i4), .val (.int i5), .val (.int i6), .val (.double r7), .second, .val (.ref b8), .val (.ref b12), .val (.ref b21), .unset, .unset, .unset, .unset, .unset, .unset, .unset, .unset, .unset, .unset, .unset, .unset, .unset, .unset, .unset]) rfl (pc' := 146) rfl ?_
    refine R.aload X21 hx (hb hby at_146) rfl rfl (pc' := 148) rfl ?_
    refine R.iconst X21 hx (hb hby at_148) (v := (0 : Int32)) (by decide) (pc' := 149) rfl ?_
    refine R.iconst X21 hx (hb hby at_149) (v := (0 : Int32)) (by decide) (pc' := 150) rfl ?_
    refine R.iloadN X21 hx (hb hby at_150) rfl (pc' := 151) rfl ?_
    refine R.iloadN X21 hx (hb hby at_151) rfl (pc' := 152) rfl ?_
    refine R.callS X21 hx hZ (y := mY4) hown w_10 w_11 w_4 w_12 (by decide) e21 (rm3 l Z aZ hw [] (0 : Int32) p1 p2 h21 n0 Z21 ) (by decide) (W := 2) (Nat.le_of_eq rfl) (by decide) (by rw [hml]; rfl) (lenOf pd_3 rfl) rfl (hb hby at_152) (pc' := 155) rfl (by decide) (by decide) ?_; intro v22 T22 L22 X22 hQ22
    obtain ⟨rfl, N22q, e22⟩ := hQ22
    have N22 := Fr.app N20 N22q
    refine R.l2d X22 hx (hb hby at_155) (pc' := 156) rfl ?_
    refine R.dastore X22 hx hZ e22 V_b21 (⟨by decide, by decide⟩ : ¬ (0 : Int32) < 0 ∧ (0 : Int32) < (4 : Int32)) (hb hby at_156) (pc' := 157) rfl ?_; intro T23 h23 X23 e23 W23 V23
    have V_b8 := V_b8.other W23 ne_b8_b21
    have V_b12 := V_b12.other W23 ne_b12_b21
    have V_b21 : Arh Z h23 b21 k21 .double (4 : Int32) [((0 : Int32), (.double (FP.l2d (own_wAt (0 : Int32) p1 p2))))] [] (.double (0 : UInt64)) := V23
    have N23 := Fr.snoc X23 N22 g_b21
    have K23 : Keep h0 h23 [] := K21.wr W23 (Or.inr sz_b21)
    have Z23 : n0 ≤ h23.size := Nat.le_trans Z21 (Keep.of_wr W23).1
    refine R.aload X23 hx (hb hby at_157) rfl rfl (pc' := 159) rfl ?_
    refine R.iconst X23 hx (hb hby at_159) (v := (1 : Int32)) (by decide) (pc' := 160) rfl ?_
    refine R.iconst X23 hx (hb hby at_160) (v := (1 : Int32)) (by decide) (pc' := 161) rfl ?_
    refine R.iloadN X23 hx (hb hby at_161) rfl (pc' := 162) rfl ?_
    refine R.iloadN X23 hx (hb hby at_162) rfl (pc' := 163) rfl ?_
    refine R.callS X23 hx hZ (y := mY4) hown w_10 w_11 w_4 w_12 (by decide) e23 (rm3 l Z aZ hw [] (1 : Int32) p1 p2 h23 n0 Z23 ) (by decide) (W := 2) (Nat.le_of_eq rfl) (by decide) (by rw [hml]; rfl) (lenOf pd_3 rfl) rfl (hb hby at_163) (pc' := 166) rfl (by decide) (by decide) ?_; intro v24 T24 L24 X24 hQ24
    obtain ⟨rfl, N24q, e24⟩ := hQ24
    have N24 := Fr.app N23 N24q
    refine R.l2d X24 hx (hb hby at_166) (pc' := 167) rfl ?_
    refine R.dastore X24 hx hZ e24 V_b21 (⟨by decide, by decide⟩ : ¬ (1 : Int32) < 0 ∧ (1 : Int32) < (4 : Int32)) (hb hby at_167) (pc' := 168) rfl ?_; intro T25 h25 X25 e25 W25 V25
    have V_b8 := V_b8.other W25 ne_b8_b21
    have V_b12 := V_b12.other W25 ne_b12_b21
    have V_b21 : Arh Z h25 b21 k21 .double (4 : Int32) [((1 : Int32), (.double (FP.l2d (own_wAt (1 : Int32) p1 p2)))), ((0 : Int32), (.double (FP.l2d (own_wAt (0 : Int32) p1 p2))))] [] (.double (0 : UInt64)) := V25
    have N25 := Fr.snoc X25 N24 g_b21
    have K25 : Keep h0 h25 [] := K23.wr W25 (Or.inr sz_b21)
    have Z25 : n0 ≤ h25.size := Nat.le_trans Z23 (Keep.of_wr W25).1
    refine R.aload X25 hx (hb hby at_168) rfl rfl (pc' := 170) rfl ?_
    refine R.iconst X25 hx (hb hby at_170) (v := (2 : Int32)) (by decide) (pc' := 171) rfl ?_
    refine R.iconst X25 hx (hb hby at_171) (v := (2 : Int32)) (by decide) (pc' := 172) rfl ?_
    refine R.iloadN X25 hx (hb hby at_172) rfl (pc' := 173) rfl ?_
    refine R.iloadN X25 hx (hb hby at_173) rfl (pc' := 174) rfl ?_
    refine R.callS X25 hx hZ (y := mY4) hown w_10 w_11 w_4 w_12 (by decide) e25 (rm3 l Z aZ hw [] (2 : Int32) p1 p2 h25 n0 Z25 ) (by decide) (W := 2) (Nat.le_of_eq rfl) (by decide) (by rw [hml]; rfl) (lenOf pd_3 rfl) rfl (hb hby at_174) (pc' := 177) rfl (by decide) (by decide) ?_; intro v26 T26 L26 X26 hQ26
    obtain ⟨rfl, N26q, e26⟩ := hQ26
    have N26 := Fr.app N25 N26q
    refine R.l2d X26 hx (hb hby at_177) (pc' := 178) rfl ?_
    refine R.dastore X26 hx hZ e26 V_b21 (⟨by decide, by decide⟩ : ¬ (2 : Int32) < 0 ∧ (2 : Int32) < (4 : Int32)) (hb hby at_178) (pc' := 179) rfl ?_; intro T27 h27 X27 e27 W27 V27
    have V_b8 := V_b8.other W27 ne_b8_b21
    have V_b12 := V_b12.other W27 ne_b12_b21
    have V_b21 : Arh Z h27 b21 k21 .double (4 : Int32) [((2 : Int32), (.double (FP.l2d (own_wAt (2 : Int32) p1 p2)))), ((1 : Int32), (.double (FP.l2d (own_wAt (1 : Int32) p1 p2)))), ((0 : Int32), (.double (FP.l2d (own_wAt (0 : Int32) p1 p2))))] [] (.double (0 : UInt64)) := V27
    have N27 := Fr.snoc X27 N26 g_b21
    have K27 : Keep h0 h27 [] := K25.wr W27 (Or.inr sz_b21)
    have Z27 : n0 ≤ h27.size := Nat.le_trans Z25 (Keep.of_wr W27).1
    refine R.aload X27 hx (hb hby at_179) rfl rfl (pc' := 181) rfl ?_
    refine R.iconst X27 hx (hb hby at_181) (v := (3 : Int32)) (by decide) (pc' := 182) rfl ?_
    refine R.iconst X27 hx (hb hby at_182) (v := (3 : Int32)) (by decide) (pc' := 183) rfl ?_
    refine R.iloadN X27 hx (hb hby at_183) rfl (pc' := 184) rfl ?_
    refine R.iloadN X27 hx (hb hby at_184) rfl (pc' := 185) rfl ?_
    refine R.callS X27 hx hZ (y := mY4) hown w_10 w_11 w_4 w_12 (by decide) e27 (rm3 l Z aZ hw [] (3 : Int32) p1 p2 h27 n0 Z27 ) (by decide) (W := 2) (Nat.le_of_eq rfl) (by decide) (by rw [hml]; rfl) (lenOf pd_3 rfl) rfl (hb hby at_185) (pc' := 188) rfl (by decide) (by decide) ?_; intro v28 T28 L28 X28 hQ28
    obtain ⟨rfl, N28q, e28⟩ := hQ28
    have N28 := Fr.app N27 N28q
    refine R.l2d X28 hx (hb hby at_188) (pc' := 189) rfl ?_
    refine R.dastore X28 hx hZ e28 V_b21 (⟨by decide, by decide⟩ : ¬ (3 : Int32) < 0 ∧ (3 : Int32) < (4 : Int32)) (hb hby at_189) (pc' := 190) rfl ?_; intro T29 h29 X29 e29 W29 V29
    have V_b8 := V_b8.other W29 ne_b8_b21
    have V_b12 := V_b12.other W29 ne_b12_b21
    have V_b21 : Arh Z h29 b21 k21 .double (4 : Int32) [((3 : Int32), (.double (FP.l2d (own_wAt (3 : Int32) p1 p2)))), ((2 : Int32), (.double (FP.l2d (own_wAt (2 : Int32) p1 p2)))), ((1 : Int32), (.double (FP.l2d (own_wAt (1 : Int32) p1 p2)))), ((0 : Int32), (.double (FP.l2d (own_wAt (0 : Int32) p1 p2))))] [] (.double (0 : UInt64)) := V29
    have N29 := Fr.snoc X29 N28 g_b21
    have K29 : Keep h0 h29 [] := K27.wr W29 (Or.inr sz_b21)
    have Z29 : n0 ≤ h29.size := Nat.le_trans Z27 (Keep.of_wr W29).1
    refine R.bipush X29 hx (hb hby at_190) (v := (6 : Int32)) (by decide) (pc' := 192) rfl ?_
    refine R.newP X29 hx hZ (ty := .double) rfl w_9 e29 (by decide) (cap := 6) (by decide) (by decide) (ad := "[D") (by decide) (hb hby at_192) (pc' := 194) rfl (by decide) (by decide) ?_; intro T30 h30 b30 k30 g30 X30 e30 E30 EE30 A30
    have g_b30 : n0 ≤ b30 := Nat.le_trans Z29 (Nat.le_of_eq g30.symm)
    have sz_b30 : h0.size ≤ b30 := Nat.le_trans K29.1 (Nat.le_of_eq g30.symm)
    have ne_b8_b30 : b8 ≠ b30 := Nat.ne_of_lt (Nat.lt_of_lt_of_le V_b8.lt (Nat.le_of_eq g30.symm))
    have ne_b12_b30 : b12 ≠ b30 := Nat.ne_of_lt (Nat.lt_of_lt_of_le V_b12.lt (Nat.le_of_eq g30.symm))
    have ne_b21_b30 : b21 ≠ b30 := Nat.ne_of_lt (Nat.lt_of_lt_of_le V_b21.lt (Nat.le_of_eq g30.symm))
    have K30 : Keep h0 h30 [] := K29.ext E30
    have Z30 : n0 ≤ h30.size := Nat.le_trans Z29 E30.1
    have V_b8 := V_b8.ext E30
    have V_b12 := V_b12.ext E30
    have V_b21 := V_b21.ext E30
    have V_b30 : Arh Z h30 b30 k30 .double (6 : Int32) [] [] (.double (0 : UInt64)) := A30
    refine R.astore X30 hx (hb hby at_194) rfl (L' := #[.val (.int p0), .val (.int p1), .val (.int p2), .val (.int p3), .val (.int p4), .val (.int p5), .val (.int i1), .val (.int i2), .val (.int i3), .val (.int i4), .val (.int i5), .val (.int i6), .val (.double r7), .second, .val (.ref b8), .val (.ref b12), .val (.ref b21), .val (.ref b30), .unset, .unset, .unset, .unset, .unset, .unset, .unset, .unset, .unset, .unset, .unset, .unset, .unset, .unset]) rfl (pc' := 196) rfl ?_
    refine R.aload X30 hx (hb hby at_196) rfl rfl (pc' := 198) rfl ?_
    refine R.iconst X30 hx (hb hby at_198) (v := (0 : Int32)) (by decide) (pc' := 199) rfl ?_
    refine R.iconst X30 hx (hb hby at_199) (v := (0 : Int32)) (by decide) (pc' := 200) rfl ?_
    refine R.iloadN X30 hx (hb hby at_200) rfl (pc' := 201) rfl ?_
    refine R.iload X30 hx (hb hby at_201) rfl (pc' := 203) rfl ?_
    refine R.iload X30 hx (hb hby at_203) rfl (pc' := 205) rfl ?_
    refine R.callS X30 hx hZ (y := mY5) hown w_13 w_14 w_4 w_15 (by decide) e30 (rm4 l Z aZ hw [] (0 : Int32) p3 p4 p5 h30 n0 Z30 ) (by decide) (W := 2) (Nat.le_of_eq rfl) (by decide) (by rw [hml]; rfl) (lenOf pd_4 rfl) rfl (hb hby at_205) (pc' := 208) rfl (by decide) (by decide) ?_; intro v31 T31 L31 X31 hQ31
    obtain ⟨rfl, N31q, e31⟩ := hQ31
    have N31 := Fr.app N29 N31q
    refine R.l2d X31 hx (hb hby at_208) (pc' := 209) rfl ?_
    refine R.dastore X31 hx hZ e31 V_b30 (⟨by decide, by decide⟩ : ¬ (0 : Int32) < 0 ∧ (0 : Int32) < (6 : Int32)) (hb hby at_209) (pc' := 210) rfl ?_; intro T32 h32 X32 e32 W32 V32
    have V_b8 := V_b8.other W32 ne_b8_b30
    have V_b12 := V_b12.other W32 ne_b12_b30
    have V_b21 := V_b21.other W32 ne_b21_b30
    have V_b30 : Arh Z h32 b30 k30 .double (6 : Int32) [((0 : Int32), (.double (FP.l2d (own_yAt (0 : Int32) p3 p4 p5))))] [] (.double (0 : UInt64)) := V32
    have N32 := Fr.snoc X32 N31 g_b30
    have K32 : Keep h0 h32 [] := K30.wr W32 (Or.inr sz_b30)
    have Z32 : n0 ≤ h32.size := Nat.le_trans Z30 (Keep.of_wr W32).1
    refine R.aload X32 hx (hb hby at_210) rfl rfl (pc' := 212) rfl ?_
    refine R.iconst X32 hx (hb hby at_212) (v := (1 : Int32)) (by decide) (pc' := 213) rfl ?_
    refine R.iconst X32 hx (hb hby at_213) (v := (1 : Int32)) (by decide) (pc' := 214) rfl ?_
    refine R.iloadN X32 hx (hb hby at_214) rfl (pc' := 215) rfl ?_
    refine R.iload X32 hx (hb hby at_215) rfl (pc' := 217) rfl ?_
    refine R.iload X32 hx (hb hby at_217) rfl (pc' := 219) rfl ?_
    refine R.callS X32 hx hZ (y := mY5) hown w_13 w_14 w_4 w_15 (by decide) e32 (rm4 l Z aZ hw [] (1 : Int32) p3 p4 p5 h32 n0 Z32 ) (by decide) (W := 2) (Nat.le_of_eq rfl) (by decide) (by rw [hml]; rfl) (lenOf pd_4 rfl) rfl (hb hby at_219) (pc' := 222) rfl (by decide) (by decide) ?_; intro v33 T33 L33 X33 hQ33
    obtain ⟨rfl, N33q, e33⟩ := hQ33
    have N33 := Fr.app N32 N33q
    refine R.l2d X33 hx (hb hby at_222) (pc' := 223) rfl ?_
    refine R.dastore X33 hx hZ e33 V_b30 (⟨by decide, by decide⟩ : ¬ (1 : Int32) < 0 ∧ (1 : Int32) < (6 : Int32)) (hb hby at_223) (pc' := 224) rfl ?_; intro T34 h34 X34 e34 W34 V34
    have V_b8 := V_b8.other W34 ne_b8_b30
    have V_b12 := V_b12.other W34 ne_b12_b30
    have V_b21 := V_b21.other W34 ne_b21_b30
    have V_b30 : Arh Z h34 b30 k30 .double (6 : Int32) [((1 : Int32), (.double (FP.l2d (own_yAt (1 : Int32) p3 p4 p5)))), ((0 : Int32), (.double (FP.l2d (own_yAt (0 : Int32) p3 p4 p5))))] [] (.double (0 : UInt64)) := V34
    have N34 := Fr.snoc X34 N33 g_b30
    have K34 : Keep h0 h34 [] := K32.wr W34 (Or.inr sz_b30)
    have Z34 : n0 ≤ h34.size := Nat.le_trans Z32 (Keep.of_wr W34).1
    refine R.aload X34 hx (hb hby at_224) rfl rfl (pc' := 226) rfl ?_
    refine R.iconst X34 hx (hb hby at_226) (v := (2 : Int32)) (by decide) (pc' := 227) rfl ?_
    refine R.iconst X34 hx (hb hby at_227) (v := (2 : Int32)) (by decide) (pc' := 228) rfl ?_
    refine R.iloadN X34 hx (hb hby at_228) rfl (pc' := 229) rfl ?_
    refine R.iload X34 hx (hb hby at_229) rfl (pc' := 231) rfl ?_
    refine R.iload X34 hx (hb hby at_231) rfl (pc' := 233) rfl ?_
    refine R.callS X34 hx hZ (y := mY5) hown w_13 w_14 w_4 w_15 (by decide) e34 (rm4 l Z aZ hw [] (2 : Int32) p3 p4 p5 h34 n0 Z34 ) (by decide) (W := 2) (Nat.le_of_eq rfl) (by decide) (by rw [hml]; rfl) (lenOf pd_4 rfl) rfl (hb hby at_233) (pc' := 236) rfl (by decide) (by decide) ?_; intro v35 T35 L35 X35 hQ35
    obtain ⟨rfl, N35q, e35⟩ := hQ35
    have N35 := Fr.app N34 N35q
    refine R.l2d X35 hx (hb hby at_236) (pc' := 237) rfl ?_
    refine R.dastore X35 hx hZ e35 V_b30 (⟨by decide, by decide⟩ : ¬ (2 : Int32) < 0 ∧ (2 : Int32) < (6 : Int32)) (hb hby at_237) (pc' := 238) rfl ?_; intro T36 h36 X36 e36 W36 V36
    have V_b8 := V_b8.other W36 ne_b8_b30
    have V_b12 := V_b12.other W36 ne_b12_b30
    have V_b21 := V_b21.other W36 ne_b21_b30
    have V_b30 : Arh Z h36 b30 k30 .double (6 : Int32) [((2 : Int32), (.double (FP.l2d (own_yAt (2 : Int32) p3 p4 p5)))), ((1 : Int32), (.double (FP.l2d (own_yAt (1 : Int32) p3 p4 p5)))), ((0 : Int32), (.double (FP.l2d (own_yAt (0 : Int32) p3 p4 p5))))] [] (.double (0 : UInt64)) := V36
    have N36 := Fr.snoc X36 N35 g_b30
    have K36 : Keep h0 h36 [] := K34.wr W36 (Or.inr sz_b30)
    have Z36 : n0 ≤ h36.size := Nat.le_trans Z34 (Keep.of_wr W36).1
    refine R.aload X36 hx (hb hby at_238) rfl rfl (pc' := 240) rfl ?_
    refine R.iconst X36 hx (hb hby at_240) (v := (3 : Int32)) (by decide) (pc' := 241) rfl ?_
    refine R.iconst X36 hx (hb hby at_241) (v := (3 : Int32)) (by decide) (pc' := 242) rfl ?_
    refine R.iloadN X36 hx (hb hby at_242) rfl (pc' := 243) rfl ?_
    refine R.iload X36 hx (hb hby at_243) rfl (pc' := 245) rfl ?_
    refine R.iload X36 hx (hb hby at_245) rfl (pc' := 247) rfl ?_
    refine R.callS X36 hx hZ (y := mY5) hown w_13 w_14 w_4 w_15 (by decide) e36 (rm4 l Z aZ hw [] (3 : Int32) p3 p4 p5 h36 n0 Z36 ) (by decide) (W := 2) (Nat.le_of_eq rfl) (by decide) (by rw [hml]; rfl) (lenOf pd_4 rfl) rfl (hb hby at_247) (pc' := 250) rfl (by decide) (by decide) ?_; intro v37 T37 L37 X37 hQ37
    obtain ⟨rfl, N37q, e37⟩ := hQ37
    have N37 := Fr.app N36 N37q
    refine R.l2d X37 hx (hb hby at_250) (pc' := 251) rfl ?_
    refine R.dastore X37 hx hZ e37 V_b30 (⟨by decide, by decide⟩ : ¬ (3 : Int32) < 0 ∧ (3 : Int32) < (6 : Int32)) (hb hby at_251) (pc' := 252) rfl ?_; intro T38 h38 X38 e38 W38 V38
    have V_b8 := V_b8.other W38 ne_b8_b30
    have V_b12 := V_b12.other W38 ne_b12_b30
    have V_b21 := V_b21.other W38 ne_b21_b30
    have V_b30 : Arh Z h38 b30 k30 .double (6 : Int32) [((3 : Int32), (.double (FP.l2d (own_yAt (3 : Int32) p3 p4 p5)))), ((2 : Int32), (.double (FP.l2d (own_yAt (2 : Int32) p3 p4 p5)))), ((1 : Int32), (.double (FP.l2d (own_yAt (1 : Int32) p3 p4 p5)))), ((0 : Int32), (.double (FP.l2d (own_yAt (0 : Int32) p3 p4 p5))))] [] (.double (0 : UInt64)) := V38
    have N38 := Fr.snoc X38 N37 g_b30
    have K38 : Keep h0 h38 [] := K36.wr W38 (Or.inr sz_b30)
    have Z38 : n0 ≤ h38.size := Nat.le_trans Z36 (Keep.of_wr W38).1
    refine R.aload X38 hx (hb hby at_252) rfl rfl (pc' := 254) rfl ?_
    refine R.iconst X38 hx (hb hby at_254) (v := (4 : Int32)) (by decide) (pc' := 255) rfl ?_
    refine R.iconst X38 hx (hb hby at_255) (v := (4 : Int32)) (by decide) (pc' := 256) rfl ?_
    refine R.iloadN X38 hx (hb hby at_256) rfl (pc' := 257) rfl ?_
    refine R.iload X38 hx (hb hby at_257) rfl (pc' := 259) rfl ?_
    refine R.iload X38 hx (hb hby at_259) rfl (pc' := 261) rfl ?_
    refine R.callS X38 hx hZ (y := mY5) hown w_13 w_14 w_4 w_15 (by decide) e38 (rm4 l Z aZ hw [] (4 : Int32) p3 p4 p5 h38 n0 Z38 ) (by decide) (W := 2) (Nat.le_of_eq rfl) (by decide) (by rw [hml]; rfl) (lenOf pd_4 rfl) rfl (hb hby at_261) (pc' := 264) rfl (by decide) (by decide) ?_; intro v39 T39 L39 X39 hQ39
    obtain ⟨rfl, N39q, e39⟩ := hQ39
    have N39 := Fr.app N38 N39q
    refine R.l2d X39 hx (hb hby at_264) (pc' := 265) rfl ?_
    refine R.dastore X39 hx hZ e39 V_b30 (⟨by decide, by decide⟩ : ¬ (4 : Int32) < 0 ∧ (4 : Int32) < (6 : Int32)) (hb hby at_265) (pc' := 266) rfl ?_; intro T40 h40 X40 e40 W40 V40
    have V_b8 := V_b8.other W40 ne_b8_b30
    have V_b12 := V_b12.other W40 ne_b12_b30
    have V_b21 := V_b21.other W40 ne_b21_b30
    have V_b30 : Arh Z h40 b30 k30 .double (6 : Int32) [((4 : Int32), (.double (FP.l2d (own_yAt (4 : Int32) p3 p4 p5)))), ((3 : Int32), (.double (FP.l2d (own_yAt (3 : Int32) p3 p4 p5)))), ((2 : Int32), (.double (FP.l2d (own_yAt (2 : Int32) p3 p4 p5)))), ((1 : Int32), (.double (FP.l2d (own_yAt (1 : Int32) p3 p4 p5)))), ((0 : Int32), (.double (FP.l2d (own_yAt (0 : Int32) p3 p4 p5))))] [] (.double (0 : UInt64)) := V40
    have N40 := Fr.snoc X40 N39 g_b30
    have K40 : Keep h0 h40 [] := K38.wr W40 (Or.inr sz_b30)
    have Z40 : n0 ≤ h40.size := Nat.le_trans Z38 (Keep.of_wr W40).1
    refine R.aload X40 hx (hb hby at_266) rfl rfl (pc' := 268) rfl ?_
    refine R.iconst X40 hx (hb hby at_268) (v := (5 : Int32)) (by decide) (pc' := 269) rfl ?_
    refine R.iconst X40 hx (hb hby at_269) (v := (5 : Int32)) (by decide) (pc' := 270) rfl ?_
    refine R.iloadN X40 hx (hb hby at_270) rfl (pc' := 271) rfl ?_
    refine R.iload X40 hx (hb hby at_271) rfl (pc' := 273) rfl ?_
    refine R.iload X40 hx (hb hby at_273) rfl (pc' := 275) rfl ?_
    refine R.callS X40 hx hZ (y := mY5) hown w_13 w_14 w_4 w_15 (by decide) e40 (rm4 l Z aZ hw [] (5 : Int32) p3 p4 p5 h40 n0 Z40 ) (by decide) (W := 2) (Nat.le_of_eq rfl) (by decide) (by rw [hml]; rfl) (lenOf pd_4 rfl) rfl (hb hby at_275) (pc' := 278) rfl (by decide) (by decide) ?_; intro v41 T41 L41 X41 hQ41
    obtain ⟨rfl, N41q, e41⟩ := hQ41
    have N41 := Fr.app N40 N41q
    refine R.l2d X41 hx (hb hby at_278) (pc' := 279) rfl ?_
    refine R.dastore X41 hx hZ e41 V_b30 (⟨by decide, by decide⟩ : ¬ (5 : Int32) < 0 ∧ (5 : Int32) < (6 : Int32)) (hb hby at_279) (pc' := 280) rfl ?_; intro T42 h42 X42 e42 W42 V42
    have V_b8 := V_b8.other W42 ne_b8_b30
    have V_b12 := V_b12.other W42 ne_b12_b30
    have V_b21 := V_b21.other W42 ne_b21_b30
    have V_b30 : Arh Z h42 b30 k30 .double (6 : Int32) [((5 : Int32), (.double (FP.l2d (own_yAt (5 : Int32) p3 p4 p5)))), ((4 : Int32), (.double (FP.l2d (own_yAt (4 : Int32) p3 p4 p5)))), ((3 : Int32), (.double (FP.l2d (own_yAt (3 : Int32) p3 p4 p5)))), ((2 : Int32), (.double (FP.l2d (own_yAt (2 : Int32) p3 p4 p5)))), ((1 : Int32), (.double (FP.l2d (own_yAt (1 : Int32) p3 p4 p5)))), ((0 : Int32), (.double (FP.l2d (own_yAt (0 : Int32) p3 p4 p5))))] [] (.double (0 : UInt64)) := V42
    have N42 := Fr.snoc X42 N41 g_b30
    have K42 : Keep h0 h42 [] := K40.wr W42 (Or.inr sz_b30)
    have Z42 : n0 ≤ h42.size := Nat.le_trans Z40 (Keep.of_wr W42).1
    refine R.iconst X42 hx (hb hby at_280) (v := (2 : Int32)) (by decide) (pc' := 281) rfl ?_
    refine R.newP X42 hx hZ (ty := .double) rfl w_9 e42 (by decide) (cap := 2) (by decide) (by decide) (ad := "[D") (by decide) (hb hby at_281) (pc' := 283) rfl (by decide) (by decide) ?_; intro T43 h43 b43 k43 g43 X43 e43 E43 EE43 A43
    have g_b43 : n0 ≤ b43 := Nat.le_trans Z42 (Nat.le_of_eq g43.symm)
    have sz_b43 : h0.size ≤ b43 := Nat.le_trans K42.1 (Nat.le_of_eq g43.symm)
    have ne_b8_b43 : b8 ≠ b43 := Nat.ne_of_lt (Nat.lt_of_lt_of_le V_b8.lt (Nat.le_of_eq g43.symm))
    have ne_b12_b43 : b12 ≠ b43 := Nat.ne_of_lt (Nat.lt_of_lt_of_le V_b12.lt (Nat.le_of_eq g43.symm))
    have ne_b21_b43 : b21 ≠ b43 := Nat.ne_of_lt (Nat.lt_of_lt_of_le V_b21.lt (Nat.le_of_eq g43.symm))
    have ne_b30_b43 : b30 ≠ b43 := Nat.ne_of_lt (Nat.lt_of_lt_of_le V_b30.lt (Nat.le_of_eq g43.symm))
    have K43 : Keep h0 h43 [] := K42.ext E43
    have Z43 : n0 ≤ h43.size := Nat.le_trans Z42 E43.1
    have V_b8 := V_b8.ext E43
    have V_b12 := V_b12.ext E43
    have V_b21 := V_b21.ext E43
    have V_b30 := V_b30.ext E43
    have V_b43 : Arh Z h43 b43 k43 .double (2 : Int32) [] [] (.double (0 : UInt64)) := A43
    refine R.astore X43 hx (hb hby at_283) rfl (L' := #[.val (.int p0), .val (.int p1), .val (.int p2), .val (.int p3), .val (.int p4), .val (.int p5), .val (.int i1), .val (.int i2), .val (.int i3), .val (.int i4), .val (.int i5), .val (.int i6), .val (.double r7), .second, .val (.ref b8), .val (.ref b12), .val (.ref b21), .val (.ref b30), .val (.ref b43), .unset, .unset, .unset, .unset, .unset, .unset, .unset, .unset, .unset, .unset, .unset, .unset, .unset]) rfl (pc' := 285) rfl ?_
    refine R.aload X43 hx (hb hby at_285) rfl rfl (pc' := 287) rfl ?_
    refine R.iconst X43 hx (hb hby at_287) (v := (0 : Int32)) (by decide) (pc' := 288) rfl ?_
    refine R.dload X43 hx (hb hby at_288) rfl (pc' := 290) rfl ?_
    refine R.dastore X43 hx hZ e43 V_b43 (⟨by decide, by decide⟩ : ¬ (0 : Int32) < 0 ∧ (0 : Int32) < (2 : Int32)) (hb hby at_290) (pc' := 291) rfl ?_; intro T44 h44 X44 e44 W44 V44
    have V_b8 := V_b8.other W44 ne_b8_b43
    have V_b12 := V_b12.other W44 ne_b12_b43
    have V_b21 := V_b21.other W44 ne_b21_b43
    have V_b30 := V_b30.other W44 ne_b30_b43
    have V_b43 : Arh Z h44 b43 k43 .double (2 : Int32) [((0 : Int32), (.double r7))] [] (.double (0 : UInt64)) := V44
    have N44 := Fr.snoc X44 N42 g_b43
    have K44 : Keep h0 h44 [] := K43.wr W44 (Or.inr sz_b43)
    have Z44 : n0 ≤ h44.size := Nat.le_trans Z43 (Keep.of_wr W44).1
    refine R.aload X44 hx (hb hby at_291) rfl rfl (pc' := 293) rfl ?_
    refine R.iconst X44 hx (hb hby at_293) (v := (1 : Int32)) (by decide) (pc' := 294) rfl ?_
    refine R.dload X44 hx (hb hby at_294) rfl (pc' := 296) rfl ?_
    refine R.dastore X44 hx hZ e44 V_b43 (⟨by decide, by decide⟩ : ¬ (1 : Int32) < 0 ∧ (1 : Int32) < (2 : Int32)) (hb hby at_296) (pc' := 297) rfl ?_; intro T45 h45 X45 e45 W45 V45
    have V_b8 := V_b8.other W45 ne_b8_b43
    have V_b12 := V_b12.other W45 ne_b12_b43
    have V_b21 := V_b21.other W45 ne_b21_b43
    have V_b30 := V_b30.other W45 ne_b30_b43
    have V_b43 : Arh Z h45 b43 k43 .double (2 : Int32) [((1 : Int32), (.double r7)), ((0 : Int32), (.double r7))] [] (.double (0 : UInt64)) := V45
    have N45 := Fr.snoc X45 N44 g_b43
    have K45 : Keep h0 h45 [] := K44.wr W45 (Or.inr sz_b43)
    have Z45 : n0 ≤ h45.size := Nat.le_trans Z44 (Keep.of_wr W45).1
    refine R.newO X45 hx hZ hown w_16 w_17 w_18 e45 (hb hby at_297) (pc' := 300) rfl (by decide) (by decide) ?_; intro T46 h46 b46 g46 X46 e46 E46 A46 D46
    have g_b46 : n0 ≤ b46 := Nat.le_trans Z45 (Nat.le_of_eq g46.symm)
    have sz_b46 : h0.size ≤ b46 := Nat.le_trans K45.1 (Nat.le_of_eq g46.symm)
    have ne_b8_b46 : b8 ≠ b46 := Nat.ne_of_lt (Nat.lt_of_lt_of_le V_b8.lt (Nat.le_of_eq g46.symm))
    have ne_b12_b46 : b12 ≠ b46 := Nat.ne_of_lt (Nat.lt_of_lt_of_le V_b12.lt (Nat.le_of_eq g46.symm))
    have ne_b21_b46 : b21 ≠ b46 := Nat.ne_of_lt (Nat.lt_of_lt_of_le V_b21.lt (Nat.le_of_eq g46.symm))
    have ne_b30_b46 : b30 ≠ b46 := Nat.ne_of_lt (Nat.lt_of_lt_of_le V_b30.lt (Nat.le_of_eq g46.symm))
    have ne_b43_b46 : b43 ≠ b46 := Nat.ne_of_lt (Nat.lt_of_lt_of_le V_b43.lt (Nat.le_of_eq g46.symm))
    have K46 : Keep h0 h46 [] := K45.ext E46
    have Z46 : n0 ≤ h46.size := Nat.le_trans Z45 E46.1
    have V_b8 := V_b8.ext E46
    have V_b12 := V_b12.ext E46
    have V_b21 := V_b21.ext E46
    have V_b30 := V_b30.ext E46
    have V_b43 := V_b43.ext E46
    have E_b46 := A46
    have F_rowCount_b46 : Fld Z h46 b46 "com/example/upupa/upupa/engine/SubspaceIteration$Columns" "rowCount" "I" (.int (0 : Int32)) := D46 (Or.inr w_31) (ty := .int) (by decide)
    have F_start_b46 : Fld Z h46 b46 "com/example/upupa/upupa/engine/SubspaceIteration$Columns" "start" "[I" .null := D46 (Or.inr w_33) (ty := (.array .int)) (by decide)
    have F_rows_b46 : Fld Z h46 b46 "com/example/upupa/upupa/engine/SubspaceIteration$Columns" "rows" "[I" .null := D46 (Or.inr w_35) (ty := (.array .int)) (by decide)
    have F_values_b46 : Fld Z h46 b46 "com/example/upupa/upupa/engine/SubspaceIteration$Columns" "values" "[D" .null := D46 (Or.inr w_37) (ty := (.array .double)) (by decide)
    refine R.dup X46 hx (hb hby at_300) rfl (pc' := 301) rfl ?_
    refine R.iconst X46 hx (hb hby at_301) (v := (3 : Int32)) (by decide) (pc' := 302) rfl ?_
    refine R.aload X46 hx (hb hby at_302) rfl rfl (pc' := 304) rfl ?_
    refine R.aload X46 hx (hb hby at_304) rfl rfl (pc' := 306) rfl ?_
    refine R.aload X46 hx (hb hby at_306) rfl rfl (pc' := 308) rfl ?_
    refine R.special X46 hx hZ (y := mY6) rfl hown w_19 w_20 w_18 w_21 (by decide) e46 (rm5 l Z aZ hw [] b46 (3 : Int32) b8 b12 b21 h46 n0 Z46 E_b46 F_rowCount_b46 F_start_b46 F_rows_b46 F_values_b46 g_b46) (by decide) (W := 1) (Nat.le_of_eq rfl) (by decide) (by rw [hml]; rfl) (lenOf pd_5 rfl) rfl (hb hby at_308) (pc' := 311) rfl (by decide) (by decide) ?_; intro v47 T47 L47 X47 hQ47
    obtain ⟨rfl, N47q, Kc47, P47_0, P47_1, P47_2, P47_3⟩ := hQ47
    have N47 := Fr.app N45 N47q
    generalize e47 : T47.heap = h47 at Kc47 P47_0 P47_1 P47_2 P47_3
    have K47 : Keep h0 h47 [] := K46.trans Kc47 ((allS (Or.inr sz_b46) all0))
    have Z47 : n0 ≤ h47.size := Nat.le_trans Z46 Kc47.1
    have V_b8 := V_b8.keep Kc47 (ninS ne_b8_b46 nin0)
    have V_b12 := V_b12.keep Kc47 (ninS ne_b12_b46 nin0)
    have V_b21 := V_b21.keep Kc47 (ninS ne_b21_b46 nin0)
    have V_b30 := V_b30.keep Kc47 (ninS ne_b30_b46 nin0)
    have V_b43 := V_b43.keep Kc47 (ninS ne_b43_b46 nin0)
    have E_b46 : Exa Z h47 b46 "com/example/upupa/upupa/engine/SubspaceIteration$Columns" := P47_0
    have F_start_b46 : Fld Z h47 b46 "com/example/upupa/upupa/engine/SubspaceIteration$Columns" "start" "[I" (.ref b8) := P47_1
    have F_rows_b46 : Fld Z h47 b46 "com/example/upupa/upupa/engine/SubspaceIteration$Columns" "rows" "[I" (.ref b12) := P47_2
    have F_values_b46 : Fld Z h47 b46 "com/example/upupa/upupa/engine/SubspaceIteration$Columns" "values" "[D" (.ref b21) := P47_3
    refine R.astore X47 hx (hb hby at_311) rfl (L' := #[.val (.int p0), .val (.int p1), .val (.int p2), .val (.int p3), .val (.int p4), .val (.int p5), .val (.int i1), .val (.int i2), .val (.int i3), .val (.int i4), .val (.int i5), .val (.int i6), .val (.double r7), .second, .val (.ref b8), .val (.ref b12), .val (.ref b21), .val (.ref b30), .val (.ref b43), .val (.ref b46), .unset, .unset, .unset, .unset, .unset, .unset, .unset, .unset, .unset, .unset, .unset, .unset]) rfl (pc' := 313) rfl ?_
    rcases h6_ with rfl | rfl
    · rcases h7_ with rfl | rfl | rfl
      · rcases h11_ with rfl | rfl | rfl
        · refine R.aload X47 hx (hb hby at_313) rfl rfl (pc' := 315) rfl ?_
          refine R.iload X47 hx (hb hby at_315) rfl (pc' := 317) rfl ?_
          refine R.aload X47 hx (hb hby at_317) rfl rfl (pc' := 319) rfl ?_
          refine R.iload X47 hx (hb hby at_319) rfl (pc' := 321) rfl ?_
          refine R.aload X47 hx (hb hby at_321) rfl rfl (pc' := 323) rfl ?_
          refine R.virtual X47 hx hZ (y := mY7) (z := mY7) hown w_38 w_39 (notFace_of_selects (args := #[]) (mvT hZ w_41)) w_41 w_40 w_18 w_42 (by decide) e47 E_b46 (rm8 l Z aZ hw [] b46 (0 : Int32) b30 (0 : Int32) b43 b8 b12 b21 k8 k12 k21 k30 k43 [((2 : Int32), (.int ((0 : Int32) + i3))), ((1 : Int32), (.int (0 : Int32))), ((0 : Int32), (.int (0 : Int32)))] [(((0 : Int32) + (1 : Int32)), (.int (own_rowB i3 i5))), ((0 : Int32), (.int (own_rowA i3 i5))), ((1 : Int32), (.int (own_rowB (0 : Int32) i4))), ((0 : Int32), (.int (own_rowA (0 : Int32) i4)))] [((3 : Int32), (.double (FP.l2d (own_wAt (3 : Int32) p1 p2)))), ((2 : Int32), (.double (FP.l2d (own_wAt (2 : Int32) p1 p2)))), ((1 : Int32), (.double (FP.l2d (own_wAt (1 : Int32) p1 p2)))), ((0 : Int32), (.double (FP.l2d (own_wAt (0 : Int32) p1 p2))))] [((5 : Int32), (.double (FP.l2d (own_yAt (5 : Int32) p3 p4 p5)))), ((4 : Int32), (.double (FP.l2d (own_yAt (4 : Int32) p3 p4 p5)))), ((3 : Int32), (.double (FP.l2d (own_yAt (3 : Int32) p3 p4 p5)))), ((2 : Int32), (.double (FP.l2d (own_yAt (2 : Int32) p3 p4 p5)))), ((1 : Int32), (.double (FP.l2d (own_yAt (1 : Int32) p3 p4 p5)))), ((0 : Int32), (.double (FP.l2d (own_yAt (0 : Int32) p3 p4 p5))))] [((1 : Int32), (.double r7)), ((0 : Int32), (.double r7))] (0 : Int32) (0 : Int32) (FP.l2d (own_wAt (0 : Int32) p1 p2)) (FP.l2d (own_wAt ((0 : Int32) + (1 : Int32)) p1 p2)) (own_wAt (0 : Int32) p1 p2).toInt (own_wAt ((0 : Int32) + (1 : Int32)) p1 p2).toInt (own_rowA (0 : Int32) i4) (own_rowB (0 : Int32) i4) (fun i => FP.l2d (own_yAt i p3 p4 p5)) (fun i => (own_yAt i p3 p4 p5).toInt) 0 0 h47 n0 Z47 F_start_b46 F_rows_b46 F_values_b46 V_b8 V_b12 V_b21 V_b30 V_b43 g_b43 (Ne.symm ne_b43_b46) ne_b8_b43 ne_b12_b43 ne_b21_b43 ne_b30_b43 (by decide) (rfl) (rfl) (by decide) (by decide) (own_rA h9_) (own_rB) (Or.inl ⟨rfl, rfl, rfl⟩) (Dy.l2d (by have := own_wb (0 : Int32) p1 p2; omega)) (Dy.l2d (by have := own_wb ((0 : Int32) + (1 : Int32)) p1 p2; omega)) (own_wb _ _ _) (own_wb _ _ _) (own_rdy)) (by decide) (W := 0) (Nat.le_of_eq rfl) (by decide) (by rw [hml]; rfl) (lenOf pd_6 rfl) rfl (hb hby at_323) (pc' := 326) rfl (by decide) (by decide) ?_; intro v48 T48 L48 X48 hQ48
          obtain ⟨hj_48, rfl, N48q, Kc48, P48_0, P48_1, P48_2⟩ := hQ48
          have N48 := Fr.app N47 N48q
          generalize e48 : T48.heap = h48 at Kc48 P48_0 P48_1 P48_2
          have K48 : Keep h0 h48 [] := K47.trans Kc48 ((allS (Or.inr sz_b43) all0))
          have Z48 : n0 ≤ h48.size := Nat.le_trans Z47 Kc48.1
          have V_b8 := V_b8.keep Kc48 (ninS ne_b8_b43 nin0)
          have V_b12 := V_b12.keep Kc48 (ninS ne_b12_b43 nin0)
          have V_b21 := V_b21.keep Kc48 (ninS ne_b21_b43 nin0)
          have V_b30 := V_b30.keep Kc48 (ninS ne_b30_b43 nin0)
          have E_b46 := E_b46.keep Kc48
          have F_start_b46 := F_start_b46.keep Kc48 (ninS (Ne.symm ne_b43_b46) nin0)
          have F_rows_b46 := F_rows_b46.keep Kc48 (ninS (Ne.symm ne_b43_b46) nin0)
          have F_values_b46 := F_values_b46.keep Kc48 (ninS (Ne.symm ne_b43_b46) nin0)
          have V_b43 : Arh Z h48 b43 k43 .double (2 : Int32) hj_48 [] (.double (0 : UInt64)) := P48_0
          have V_b43 : Arh Z h48 b43 k43 .double (2 : Int32) hj_48 [] (.double (0 : UInt64)) := V_b43
          have c0_48 := P48_1
          have c1_48 := P48_2
          refine R.iload X48 hx (hb hby at_326) rfl (pc' := 328) rfl ?_
          refine R.ifNo X48 hx (hb hby at_328) (teq (by decide : (0 : Int32) = (0 : Int32))).2 (pc' := 331) rfl ?_
          refine R.iconst X48 hx (hb hby at_331) (v := (0 : Int32)) (by decide) (pc' := 332) rfl ?_
          refine R.goto X48 hx (hb hby at_332) (by decide) (pc' := 337) (by decide) ?_
          refine R.istore X48 hx (hb hby at_337) (L' := #[.val (.int p0), .val (.int p1), .val (.int p2), .val (.int p3), .val (.int p4), .val (.int p5), .val (.int (0 : Int32)), .val (.int (0 : Int32)), .val (.int i3), .val (.int i4), .val (.int i5), .val (.int (0 : Int32)), .val (.double r7), .second, .val (.ref b8), .val (.ref b12), .val (.ref b21), .val (.ref b30), .val (.ref b43), .val (.ref b46), .val (.int (0 : Int32)), .unset, .unset, .unset, .unset, .unset, .unset, .unset, .unset, .unset, .unset, .unset]) rfl (pc' := 339) rfl ?_
          refine R.iload X48 hx (hb hby at_339) rfl (pc' := 341) rfl ?_
          refine R.ifNo X48 hx (hb hby at_341) (teq (by decide : (0 : Int32) = (0 : Int32))).2 (pc' := 344) rfl ?_
          refine R.iload X48 hx (hb hby at_344) rfl (pc' := 346) rfl ?_
          refine R.goto X48 hx (hb hby at_346) (by decide) (pc' := 351) (by decide) ?_
          refine R.istore X48 hx (hb hby at_351) (L' := #[.val (.int p0), .val (.int p1), .val (.int p2), .val (.int p3), .val (.int p4), .val (.int p5), .val (.int (0 : Int32)), .val (.int (0 : Int32)), .val (.int i3), .val (.int i4), .val (.int i5), .val (.int (0 : Int32)), .val (.double r7), .second, .val (.ref b8), .val (.ref b12), .val (.ref b21), .val (.ref b30), .val (.ref b43), .val (.ref b46), .val (.int (0 : Int32)), .val (.int (0 : Int32)), .unset, .unset, .unset, .unset, .unset, .unset, .unset, .unset, .unset, .unset]) rfl (pc' := 353) rfl ?_
          refine R.iload X48 hx (hb hby at_353) rfl (pc' := 355) rfl ?_
          refine R.ifNo X48 hx (hb hby at_355) (teq (by decide : (0 : Int32) = (0 : Int32))).2 (pc' := 358) rfl ?_
          refine R.iload X48 hx (hb hby at_358) rfl (pc' := 360) rfl ?_
          refine R.goto X48 hx (hb hby at_360) (by decide) (pc' := 365) (by decide) ?_
          refine R.istore X48 hx (hb hby at_365) (L' := #[.val (.int p0), .val (.int p1), .val (.int p2), .val (.int p3), .val (.int p4), .val (.int p5), .val (.int (0 : Int32)), .val (.int (0 : Int32)), .val (.int i3), .val (.int i4), .val (.int i5), .val (.int (0 : Int32)), .val (.double r7), .second, .val (.ref b8), .val (.ref b12), .val (.ref b21), .val (.ref b30), .val (.ref b43), .val (.ref b46), .val (.int (0 : Int32)), .val (.int (0 : Int32)), .val (.int i4), .unset, .unset, .unset, .unset, .unset, .unset, .unset, .unset, .unset]) rfl (pc' := 367) rfl ?_
          refine R.iload X48 hx (hb hby at_367) rfl (pc' := 369) rfl ?_
          refine R.iloadN X48 hx (hb hby at_369) rfl (pc' := 370) rfl ?_
          refine R.iloadN X48 hx (hb hby at_370) rfl (pc' := 371) rfl ?_
          refine R.callS X48 hx hZ (y := mY4) hown w_10 w_11 w_4 w_12 (by decide) e48 (rm3 l Z aZ hw [] (0 : Int32) p1 p2 h48 n0 Z48 ) (by decide) (W := 0) (Nat.le_of_eq rfl) (by decide) (by rw [hml]; rfl) (lenOf pd_3 rfl) rfl (hb hby at_371) (pc' := 374) rfl (by decide) (by decide) ?_; intro v49 T49 L49 X49 hQ49
          obtain ⟨rfl, N49q, e49⟩ := hQ49
          have N49 := Fr.app N48 N49q
          show Rn p e below (T49.setTop (mkF m 374 #[.val (.int p0), .val (.int p1), .val (.int p2), .val (.int p3), .val (.int p4), .val (.int p5), .val (.int (0 : Int32)), .val (.int (0 : Int32)), .val (.int i3), .val (.int i4), .val (.int i5), .val (.int (0 : Int32)), .val (.double r7), .second, .val (.ref b8), .val (.ref b12), .val (.ref b21), .val (.ref b30), .val (.ref b43), .val (.ref b46), .val (.int (0 : Int32)), .val (.int (0 : Int32)), .val (.int i4), .unset, .unset, .unset, .unset, .unset, .unset, .unset, .unset, .unset] [(.long (own_wAt (0 : Int32) p1 p2))])) G
          generalize hj50 : (own_wAt (0 : Int32) p1 p2) = j50
          refine R.lstore X49 hx (hb hby at_374) (L' := #[.val (.int p0), .val (.int p1), .val (.int p2), .val (.int p3), .val (.int p4), .val (.int p5), .val (.int (0 : Int32)), .val (.int (0 : Int32)), .val (.int i3), .val (.int i4), .val (.int i5), .val (.int (0 : Int32)), .val (.double r7), .second, .val (.ref b8), .val (.ref b12), .val (.ref b21), .val (.ref b30), .val (.ref b43), .val (.ref b46), .val (.int (0 : Int32)), .val (.int (0 : Int32)), .val (.int i4), .val (.long j50), .second, .unset, .unset, .unset, .unset, .unset, .unset, .unset]) rfl (pc' := 376) rfl ?_
          refine R.iload X49 hx (hb hby at_376) rfl (pc' := 378) rfl ?_
          refine R.iconst X49 hx (hb hby at_378) (v := (1 : Int32)) (by decide) (pc' := 379) rfl ?_
          refine R.iadd X49 hx (hb hby at_379) (v := (1 : Int32)) (by decide) (pc' := 380) rfl ?_
          refine R.iloadN X49 hx (hb hby at_380) rfl (pc' := 381) rfl ?_
          refine R.iloadN X49 hx (hb hby at_381) rfl (pc' := 382) rfl ?_
          refine R.callS X49 hx hZ (y := mY4) hown w_10 w_11 w_4 w_12 (by decide) e49 (rm3 l Z aZ hw [] (1 : Int32) p1 p2 h48 n0 Z48 ) (by decide) (W := 0) (Nat.le_of_eq rfl) (by decide) (by rw [hml]; rfl) (lenOf pd_3 rfl) rfl (hb hby at_382) (pc' := 385) rfl (by decide) (by decide) ?_; intro v51 T51 L51 X51 hQ51
          obtain ⟨rfl, N51q, e51⟩ := hQ51
          have N51 := Fr.app N49 N51q
          show Rn p e below (T51.setTop (mkF m 385 #[.val (.int p0), .val (.int p1), .val (.int p2), .val (.int p3), .val (.int p4), .val (.int p5), .val (.int (0 : Int32)), .val (.int (0 : Int32)), .val (.int i3), .val (.int i4), .val (.int i5), .val (.int (0 : Int32)), .val (.double r7), .second, .val (.ref b8), .val (.ref b12), .val (.ref b21), .val (.ref b30), .val (.ref b43), .val (.ref b46), .val (.int (0 : Int32)), .val (.int (0 : Int32)), .val (.int i4), .val (.long j50), .second, .unset, .unset, .unset, .unset, .unset, .unset, .unset] [(.long (own_wAt (1 : Int32) p1 p2))])) G
          generalize hj52 : (own_wAt (1 : Int32) p1 p2) = j52
          refine R.lstore X51 hx (hb hby at_385) (L' := #[.val (.int p0), .val (.int p1), .val (.int p2), .val (.int p3), .val (.int p4), .val (.int p5), .val (.int (0 : Int32)), .val (.int (0 : Int32)), .val (.int i3), .val (.int i4), .val (.int i5), .val (.int (0 : Int32)), .val (.double r7), .second, .val (.ref b8), .val (.ref b12), .val (.ref b21), .val (.ref b30), .val (.ref b43), .val (.ref b46), .val (.int (0 : Int32)), .val (.int (0 : Int32)), .val (.int i4), .val (.long j50), .second, .val (.long j52), .second, .unset, .unset, .unset, .unset, .unset]) rfl (pc' := 387) rfl ?_
          refine R.iload X51 hx (hb hby at_387) rfl (pc' := 389) rfl ?_
          refine R.iload X51 hx (hb hby at_389) rfl (pc' := 391) rfl ?_
          refine R.callS X51 hx hZ (y := mY2) hown w_2 w_3 w_4 w_5 (by decide) e51 (rm1 l Z aZ hw [] (0 : Int32) i4 h48 n0 Z48 ) (by decide) (W := 0) (Nat.le_of_eq rfl) (by decide) (by rw [hml]; rfl) (lenOf pd_2 rfl) rfl (hb hby at_391) (pc' := 394) rfl (by decide) (by decide) ?_; intro v53 T53 L53 X53 hQ53
          obtain ⟨rfl, N53q, e53⟩ := hQ53
          have N53 := Fr.app N51 N53q
          show Rn p e below (T53.setTop (mkF m 394 #[.val (.int p0), .val (.int p1), .val (.int p2), .val (.int p3), .val (.int p4), .val (.int p5), .val (.int (0 : Int32)), .val (.int (0 : Int32)), .val (.int i3), .val (.int i4), .val (.int i5), .val (.int (0 : Int32)), .val (.double r7), .second, .val (.ref b8), .val (.ref b12), .val (.ref b21), .val (.ref b30), .val (.ref b43), .val (.ref b46), .val (.int (0 : Int32)), .val (.int (0 : Int32)), .val (.int i4), .val (.long j50), .second, .val (.long j52), .second, .unset, .unset, .unset, .unset, .unset] [(.int (own_rowA (0 : Int32) i4))])) G
          generalize hi54 : (own_rowA (0 : Int32) i4) = i54
          refine R.istore X53 hx (hb hby at_394) (L' := #[.val (.int p0), .val (.int p1), .val (.int p2), .val (.int p3), .val (.int p4), .val (.int p5), .val (.int (0 : Int32)), .val (.int (0 : Int32)), .val (.int i3), .val (.int i4), .val (.int i5), .val (.int (0 : Int32)), .val (.double r7), .second, .val (.ref b8), .val (.ref b12), .val (.ref b21), .val (.ref b30), .val (.ref b43), .val (.ref b46), .val (.int (0 : Int32)), .val (.int (0 : Int32)), .val (.int i4), .val (.long j50), .second, .val (.long j52), .second, .val (.int i54), .unset, .unset, .unset, .unset]) rfl (pc' := 396) rfl ?_
          refine R.iload X53 hx (hb hby at_396) rfl (pc' := 398) rfl ?_
          refine R.iload X53 hx (hb hby at_398) rfl (pc' := 400) rfl ?_
          refine R.callS X53 hx hZ (y := mY3) hown w_6 w_7 w_4 w_8 (by decide) e53 (rm2 l Z aZ hw [] (0 : Int32) i4 h48 n0 Z48 ) (by decide) (W := 0) (Nat.le_of_eq rfl) (by decide) (by rw [hml]; rfl) (lenOf pd_2 rfl) rfl (hb hby at_400) (pc' := 403) rfl (by decide) (by decide) ?_; intro v55 T55 L55 X55 hQ55
          obtain ⟨rfl, N55q, e55⟩ := hQ55
          have N55 := Fr.app N53 N55q
          show Rn p e below (T55.setTop (mkF m 403 #[.val (.int p0), .val (.int p1), .val (.int p2), .val (.int p3), .val (.int p4), .val (.int p5), .val (.int (0 : Int32)), .val (.int (0 : Int32)), .val (.int i3), .val (.int i4), .val (.int i5), .val (.int (0 : Int32)), .val (.double r7), .second, .val (.ref b8), .val (.ref b12), .val (.ref b21), .val (.ref b30), .val (.ref b43), .val (.ref b46), .val (.int (0 : Int32)), .val (.int (0 : Int32)), .val (.int i4), .val (.long j50), .second, .val (.long j52), .second, .val (.int i54), .unset, .unset, .unset, .unset] [(.int (own_rowB (0 : Int32) i4))])) G
          generalize hi56 : (own_rowB (0 : Int32) i4) = i56
          refine R.istore X55 hx (hb hby at_403) (L' := #[.val (.int p0), .val (.int p1), .val (.int p2), .val (.int p3), .val (.int p4), .val (.int p5), .val (.int (0 : Int32)), .val (.int (0 : Int32)), .val (.int i3), .val (.int i4), .val (.int i5), .val (.int (0 : Int32)), .val (.double r7), .second, .val (.ref b8), .val (.ref b12), .val (.ref b21), .val (.ref b30), .val (.ref b43), .val (.ref b46), .val (.int (0 : Int32)), .val (.int (0 : Int32)), .val (.int i4), .val (.long j50), .second, .val (.long j52), .second, .val (.int i54), .val (.int i56), .unset, .unset, .unset]) rfl (pc' := 405) rfl ?_
          refine R.iconst X55 hx (hb hby at_405) (v := (1 : Int32)) (by decide) (pc' := 406) rfl ?_
          refine R.istore X55 hx (hb hby at_406) (L' := #[.val (.int p0), .val (.int p1), .val (.int p2), .val (.int p3), .val (.int p4), .val (.int p5), .val (.int (0 : Int32)), .val (.int (0 : Int32)), .val (.int i3), .val (.int i4), .val (.int i5), .val (.int (0 : Int32)), .val (.double r7), .second, .val (.ref b8), .val (.ref b12), .val (.ref b21), .val (.ref b30), .val (.ref b43), .val (.ref b46), .val (.int (0 : Int32)), .val (.int (0 : Int32)), .val (.int i4), .val (.long j50), .second, .val (.long j52), .second, .val (.int i54), .val (.int i56), .val (.int (1 : Int32)), .unset, .unset]) rfl (pc' := 408) rfl ?_
          refine R.iload X55 hx (hb hby at_408) rfl (pc' := 410) rfl ?_
          refine R.ifYes X55 hx (hb hby at_410) (flt (by decide : ¬ ((0 : Int32) < (0 : Int32)))).2.2.2 (by decide) (pc' := 493) (by decide) ?_
          refine R.iload X55 hx (hb hby at_493) rfl (pc' := 495) rfl ?_
          refine R.iconst X55 hx (hb hby at_495) (v := (1 : Int32)) (by decide) (pc' := 496) rfl ?_
          refine R.icmpYes X55 hx (hb hby at_496) (flt (by decide : ¬ ((1 : Int32) < (0 : Int32)))).2.2.2 (by decide) (pc' := 583) (by decide) ?_
          refine R.iload X55 hx (hb hby at_583) rfl (pc' := 585) rfl ?_
          rw [← hG]
          exact Rn.ret X55 (BodyLoose.notSynchronized Bd) (v := some (.int (1 : Int32))) (fun h => by rw [Bd.returns] at h; cases h) (Q := Q0 Z p0 p1 p2 p3 p4 p5 h0 n0) e55 (fun fs hr => retN X55 hx (t := .boolean) Bd.returns (by simp) (hb hby at_585) hr) ⟨rfl, N55⟩ (by decide) (by decide)
        · refine R.aload X47 hx (hb hby at_313) rfl rfl (pc' := 315) rfl ?_
          refine R.iload X47 hx (hb hby at_315) rfl (pc' := 317) rfl ?_
          refine R.aload X47 hx (hb hby at_317) rfl rfl (pc' := 319) rfl ?_
          refine R.iload X47 hx (hb hby at_319) rfl (pc' := 321) rfl ?_
          refine R.aload X47 hx (hb hby at_321) rfl rfl (pc' := 323) rfl ?_
          refine R.virtual X47 hx hZ (y := mY7) (z := mY7) hown w_38 w_39 (notFace_of_selects (args := #[]) (mvT hZ w_41)) w_41 w_40 w_18 w_42 (by decide) e47 E_b46 (rm8 l Z aZ hw [] b46 (0 : Int32) b30 (1 : Int32) b43 b8 b12 b21 k8 k12 k21 k30 k43 [((2 : Int32), (.int ((0 : Int32) + i3))), ((1 : Int32), (.int (0 : Int32))), ((0 : Int32), (.int (0 : Int32)))] [(((0 : Int32) + (1 : Int32)), (.int (own_rowB i3 i5))), ((0 : Int32), (.int (own_rowA i3 i5))), ((1 : Int32), (.int (own_rowB (0 : Int32) i4))), ((0 : Int32), (.int (own_rowA (0 : Int32) i4)))] [((3 : Int32), (.double (FP.l2d (own_wAt (3 : Int32) p1 p2)))), ((2 : Int32), (.double (FP.l2d (own_wAt (2 : Int32) p1 p2)))), ((1 : Int32), (.double (FP.l2d (own_wAt (1 : Int32) p1 p2)))), ((0 : Int32), (.double (FP.l2d (own_wAt (0 : Int32) p1 p2))))] [((5 : Int32), (.double (FP.l2d (own_yAt (5 : Int32) p3 p4 p5)))), ((4 : Int32), (.double (FP.l2d (own_yAt (4 : Int32) p3 p4 p5)))), ((3 : Int32), (.double (FP.l2d (own_yAt (3 : Int32) p3 p4 p5)))), ((2 : Int32), (.double (FP.l2d (own_yAt (2 : Int32) p3 p4 p5)))), ((1 : Int32), (.double (FP.l2d (own_yAt (1 : Int32) p3 p4 p5)))), ((0 : Int32), (.double (FP.l2d (own_yAt (0 : Int32) p3 p4 p5))))] [((1 : Int32), (.double r7)), ((0 : Int32), (.double r7))] (0 : Int32) (0 : Int32) (FP.l2d (own_wAt (0 : Int32) p1 p2)) (FP.l2d (own_wAt ((0 : Int32) + (1 : Int32)) p1 p2)) (own_wAt (0 : Int32) p1 p2).toInt (own_wAt ((0 : Int32) + (1 : Int32)) p1 p2).toInt (own_rowA (0 : Int32) i4) (own_rowB (0 : Int32) i4) (fun i => FP.l2d (own_yAt i p3 p4 p5)) (fun i => (own_yAt i p3 p4 p5).toInt) 0 0 h47 n0 Z47 F_start_b46 F_rows_b46 F_values_b46 V_b8 V_b12 V_b21 V_b30 V_b43 g_b43 (Ne.symm ne_b43_b46) ne_b8_b43 ne_b12_b43 ne_b21_b43 ne_b30_b43 (by decide) (rfl) (rfl) (by decide) (by decide) (own_rA h9_) (own_rB) (Or.inl ⟨rfl, rfl, rfl⟩) (Dy.l2d (by have := own_wb (0 : Int32) p1 p2; omega)) (Dy.l2d (by have := own_wb ((0 : Int32) + (1 : Int32)) p1 p2; omega)) (own_wb _ _ _) (own_wb _ _ _) (own_rdy)) (by decide) (W := 0) (Nat.le_of_eq rfl) (by decide) (by rw [hml]; rfl) (lenOf pd_6 rfl) rfl (hb hby at_323) (pc' := 326) rfl (by decide) (by decide) ?_; intro v57 T57 L57 X57 hQ57
          obtain ⟨hj_57, rfl, N57q, Kc57, P57_0, P57_1, P57_2⟩ := hQ57
          have N57 := Fr.app N47 N57q
          generalize e57 : T57.heap = h57 at Kc57 P57_0 P57_1 P57_2
          have K57 : Keep h0 h57 [] := K47.trans Kc57 ((allS (Or.inr sz_b43) all0))
          have Z57 : n0 ≤ h57.size := Nat.le_trans Z47 Kc57.1
          have V_b8 := V_b8.keep Kc57 (ninS ne_b8_b43 nin0)
          have V_b12 := V_b12.keep Kc57 (ninS ne_b12_b43 nin0)
          have V_b21 := V_b21.keep Kc57 (ninS ne_b21_b43 nin0)
          have V_b30 := V_b30.keep Kc57 (ninS ne_b30_b43 nin0)
          have E_b46 := E_b46.keep Kc57
          have F_start_b46 := F_start_b46.keep Kc57 (ninS (Ne.symm ne_b43_b46) nin0)
          have F_rows_b46 := F_rows_b46.keep Kc57 (ninS (Ne.symm ne_b43_b46) nin0)
          have F_values_b46 := F_values_b46.keep Kc57 (ninS (Ne.symm ne_b43_b46) nin0)
          have V_b43 : Arh Z h57 b43 k43 .double (2 : Int32) hj_57 [] (.double (0 : UInt64)) := P57_0
          have V_b43 : Arh Z h57 b43 k43 .double (2 : Int32) hj_57 [] (.double (0 : UInt64)) := V_b43
          have c0_57 := P57_1
          have c1_57 := P57_2
          refine R.iload X57 hx (hb hby at_326) rfl (pc' := 328) rfl ?_
          refine R.ifNo X57 hx (hb hby at_328) (teq (by decide : (0 : Int32) = (0 : Int32))).2 (pc' := 331) rfl ?_
          refine R.iconst X57 hx (hb hby at_331) (v := (0 : Int32)) (by decide) (pc' := 332) rfl ?_
          refine R.goto X57 hx (hb hby at_332) (by decide) (pc' := 337) (by decide) ?_
          refine R.istore X57 hx (hb hby at_337) (L' := #[.val (.int p0), .val (.int p1), .val (.int p2), .val (.int p3), .val (.int p4), .val (.int p5), .val (.int (0 : Int32)), .val (.int (0 : Int32)), .val (.int i3), .val (.int i4), .val (.int i5), .val (.int (1 : Int32)), .val (.double r7), .second, .val (.ref b8), .val (.ref b12), .val (.ref b21), .val (.ref b30), .val (.ref b43), .val (.ref b46), .val (.int (0 : Int32)), .unset, .unset, .unset, .unset, .unset, .unset, .unset, .unset, .unset, .unset, .unset]) rfl (pc' := 339) rfl ?_
          refine R.iload X57 hx (hb hby at_339) rfl (pc' := 341) rfl ?_
          refine R.ifNo X57 hx (hb hby at_341) (teq (by decide : (0 : Int32) = (0 : Int32))).2 (pc' := 344) rfl ?_
          refine R.iload X57 hx (hb hby at_344) rfl (pc' := 346) rfl ?_
          refine R.goto X57 hx (hb hby at_346) (by decide) (pc' := 351) (by decide) ?_
          refine R.istore X57 hx (hb hby at_351) (L' := #[.val (.int p0), .val (.int p1), .val (.int p2), .val (.int p3), .val (.int p4), .val (.int p5), .val (.int (0 : Int32)), .val (.int (0 : Int32)), .val (.int i3), .val (.int i4), .val (.int i5), .val (.int (1 : Int32)), .val (.double r7), .second, .val (.ref b8), .val (.ref b12), .val (.ref b21), .val (.ref b30), .val (.ref b43), .val (.ref b46), .val (.int (0 : Int32)), .val (.int (0 : Int32)), .unset, .unset, .unset, .unset, .unset, .unset, .unset, .unset, .unset, .unset]) rfl (pc' := 353) rfl ?_
          refine R.iload X57 hx (hb hby at_353) rfl (pc' := 355) rfl ?_
          refine R.ifNo X57 hx (hb hby at_355) (teq (by decide : (0 : Int32) = (0 : Int32))).2 (pc' := 358) rfl ?_
          refine R.iload X57 hx (hb hby at_358) rfl (pc' := 360) rfl ?_
          refine R.goto X57 hx (hb hby at_360) (by decide) (pc' := 365) (by decide) ?_
          refine R.istore X57 hx (hb hby at_365) (L' := #[.val (.int p0), .val (.int p1), .val (.int p2), .val (.int p3), .val (.int p4), .val (.int p5), .val (.int (0 : Int32)), .val (.int (0 : Int32)), .val (.int i3), .val (.int i4), .val (.int i5), .val (.int (1 : Int32)), .val (.double r7), .second, .val (.ref b8), .val (.ref b12), .val (.ref b21), .val (.ref b30), .val (.ref b43), .val (.ref b46), .val (.int (0 : Int32)), .val (.int (0 : Int32)), .val (.int i4), .unset, .unset, .unset, .unset, .unset, .unset, .unset, .unset, .unset]) rfl (pc' := 367) rfl ?_
          refine R.iload X57 hx (hb hby at_367) rfl (pc' := 369) rfl ?_
          refine R.iloadN X57 hx (hb hby at_369) rfl (pc' := 370) rfl ?_
          refine R.iloadN X57 hx (hb hby at_370) rfl (pc' := 371) rfl ?_
          refine R.callS X57 hx hZ (y := mY4) hown w_10 w_11 w_4 w_12 (by decide) e57 (rm3 l Z aZ hw [] (0 : Int32) p1 p2 h57 n0 Z57 ) (by decide) (W := 0) (Nat.le_of_eq rfl) (by decide) (by rw [hml]; rfl) (lenOf pd_3 rfl) rfl (hb hby at_371) (pc' := 374) rfl (by decide) (by decide) ?_; intro v58 T58 L58 X58 hQ58
          obtain ⟨rfl, N58q, e58⟩ := hQ58
          have N58 := Fr.app N57 N58q
          show Rn p e below (T58.setTop (mkF m 374 #[.val (.int p0), .val (.int p1), .val (.int p2), .val (.int p3), .val (.int p4), .val (.int p5), .val (.int (0 : Int32)), .val (.int (0 : Int32)), .val (.int i3), .val (.int i4), .val (.int i5), .val (.int (1 : Int32)), .val (.double r7), .second, .val (.ref b8), .val (.ref b12), .val (.ref b21), .val (.ref b30), .val (.ref b43), .val (.ref b46), .val (.int (0 : Int32)), .val (.int (0 : Int32)), .val (.int i4), .unset, .unset, .unset, .unset, .unset, .unset, .unset, .unset, .unset] [(.long (own_wAt (0 : Int32) p1 p2))])) G
          generalize hj59 : (own_wAt (0 : Int32) p1 p2) = j59
          refine R.lstore X58 hx (hb hby at_374) (L' := #[.val (.int p0), .val (.int p1), .val (.int p2), .val (.int p3), .val (.int p4), .val (.int p5), .val (.int (0 : Int32)), .val (.int (0 : Int32)), .val (.int i3), .val (.int i4), .val (.int i5), .val (.int (1 : Int32)), .val (.double r7), .second, .val (.ref b8), .val (.ref b12), .val (.ref b21), .val (.ref b30), .val (.ref b43), .val (.ref b46), .val (.int (0 : Int32)), .val (.int (0 : Int32)), .val (.int i4), .val (.long j59), .second, .unset, .unset, .unset, .unset, .unset, .unset, .unset]) rfl (pc' := 376) rfl ?_
          refine R.iload X58 hx (hb hby at_376) rfl (pc' := 378) rfl ?_
          refine R.iconst X58 hx (hb hby at_378) (v := (1 : Int32)) (by decide) (pc' := 379) rfl ?_
          refine R.iadd X58 hx (hb hby at_379) (v := (1 : Int32)) (by decide) (pc' := 380) rfl ?_
          refine R.iloadN X58 hx (hb hby at_380) rfl (pc' := 381) rfl ?_
          refine R.iloadN X58 hx (hb hby at_381) rfl (pc' := 382) rfl ?_
          refine R.callS X58 hx hZ (y := mY4) hown w_10 w_11 w_4 w_12 (by decide) e58 (rm3 l Z aZ hw [] (1 : Int32) p1 p2 h57 n0 Z57 ) (by decide) (W := 0) (Nat.le_of_eq rfl) (by decide) (by rw [hml]; rfl) (lenOf pd_3 rfl) rfl (hb hby at_382) (pc' := 385) rfl (by decide) (by decide) ?_; intro v60 T60 L60 X60 hQ60
          obtain ⟨rfl, N60q, e60⟩ := hQ60
          have N60 := Fr.app N58 N60q
          show Rn p e below (T60.setTop (mkF m 385 #[.val (.int p0), .val (.int p1), .val (.int p2), .val (.int p3), .val (.int p4), .val (.int p5), .val (.int (0 : Int32)), .val (.int (0 : Int32)), .val (.int i3), .val (.int i4), .val (.int i5), .val (.int (1 : Int32)), .val (.double r7), .second, .val (.ref b8), .val (.ref b12), .val (.ref b21), .val (.ref b30), .val (.ref b43), .val (.ref b46), .val (.int (0 : Int32)), .val (.int (0 : Int32)), .val (.int i4), .val (.long j59), .second, .unset, .unset, .unset, .unset, .unset, .unset, .unset] [(.long (own_wAt (1 : Int32) p1 p2))])) G
          generalize hj61 : (own_wAt (1 : Int32) p1 p2) = j61
          refine R.lstore X60 hx (hb hby at_385) (L' := #[.val (.int p0), .val (.int p1), .val (.int p2), .val (.int p3), .val (.int p4), .val (.int p5), .val (.int (0 : Int32)), .val (.int (0 : Int32)), .val (.int i3), .val (.int i4), .val (.int i5), .val (.int (1 : Int32)), .val (.double r7), .second, .val (.ref b8), .val (.ref b12), .val (.ref b21), .val (.ref b30), .val (.ref b43), .val (.ref b46), .val (.int (0 : Int32)), .val (.int (0 : Int32)), .val (.int i4), .val (.long j59), .second, .val (.long j61), .second, .unset, .unset, .unset, .unset, .unset]) rfl (pc' := 387) rfl ?_
          refine R.iload X60 hx (hb hby at_387) rfl (pc' := 389) rfl ?_
          refine R.iload X60 hx (hb hby at_389) rfl (pc' := 391) rfl ?_
          refine R.callS X60 hx hZ (y := mY2) hown w_2 w_3 w_4 w_5 (by decide) e60 (rm1 l Z aZ hw [] (0 : Int32) i4 h57 n0 Z57 ) (by decide) (W := 0) (Nat.le_of_eq rfl) (by decide) (by rw [hml]; rfl) (lenOf pd_2 rfl) rfl (hb hby at_391) (pc' := 394) rfl (by decide) (by decide) ?_; intro v62 T62 L62 X62 hQ62
          obtain ⟨rfl, N62q, e62⟩ := hQ62
          have N62 := Fr.app N60 N62q
          show Rn p e below (T62.setTop (mkF m 394 #[.val (.int p0), .val (.int p1), .val (.int p2), .val (.int p3), .val (.int p4), .val (.int p5), .val (.int (0 : Int32)), .val (.int (0 : Int32)), .val (.int i3), .val (.int i4), .val (.int i5), .val (.int (1 : Int32)), .val (.double r7), .second, .val (.ref b8), .val (.ref b12), .val (.ref b21), .val (.ref b30), .val (.ref b43), .val (.ref b46), .val (.int (0 : Int32)), .val (.int (0 : Int32)), .val (.int i4), .val (.long j59), .second, .val (.long j61), .second, .unset, .unset, .unset, .unset, .unset] [(.int (own_rowA (0 : Int32) i4))])) G
          generalize hi63 : (own_rowA (0 : Int32) i4) = i63
          refine R.istore X62 hx (hb hby at_394) (L' := #[.val (.int p0), .val (.int p1), .val (.int p2), .val (.int p3), .val (.int p4), .val (.int p5), .val (.int (0 : Int32)), .val (.int (0 : Int32)), .val (.int i3), .val (.int i4), .val (.int i5), .val (.int (1 : Int32)), .val (.double r7), .second, .val (.ref b8), .val (.ref b12), .val (.ref b21), .val (.ref b30), .val (.ref b43), .val (.ref b46), .val (.int (0 : Int32)), .val (.int (0 : Int32)), .val (.int i4), .val (.long j59), .second, .val (.long j61), .second, .val (.int i63), .unset, .unset, .unset, .unset]) rfl (pc' := 396) rfl ?_
          refine R.iload X62 hx (hb hby at_396) rfl (pc' := 398) rfl ?_
          refine R.iload X62 hx (hb hby at_398) rfl (pc' := 400) rfl ?_
          refine R.callS X62 hx hZ (y := mY3) hown w_6 w_7 w_4 w_8 (by decide) e62 (rm2 l Z aZ hw [] (0 : Int32) i4 h57 n0 Z57 ) (by decide) (W := 0) (Nat.le_of_eq rfl) (by decide) (by rw [hml]; rfl) (lenOf pd_2 rfl) rfl (hb hby at_400) (pc' := 403) rfl (by decide) (by decide) ?_; intro v64 T64 L64 X64 hQ64
          obtain ⟨rfl, N64q, e64⟩ := hQ64
          have N64 := Fr.app N62 N64q
          show Rn p e below (T64.setTop (mkF m 403 #[.val (.int p0), .val (.int p1), .val (.int p2), .val (.int p3), .val (.int p4), .val (.int p5), .val (.int (0 : Int32)), .val (.int (0 : Int32)), .val (.int i3), .val (.int i4), .val (.int i5), .val (.int (1 : Int32)), .val (.double r7), .second, .val (.ref b8), .val (.ref b12), .val (.ref b21), .val (.ref b30), .val (.ref b43), .val (.ref b46), .val (.int (0 : Int32)), .val (.int (0 : Int32)), .val (.int i4), .val (.long j59), .second, .val (.long j61), .second, .val (.int i63), .unset, .unset, .unset, .unset] [(.int (own_rowB (0 : Int32) i4))])) G
          generalize hi65 : (own_rowB (0 : Int32) i4) = i65
          refine R.istore X64 hx (hb hby at_403) (L' := #[.val (.int p0), .val (.int p1), .val (.int p2), .val (.int p3), .val (.int p4), .val (.int p5), .val (.int (0 : Int32)), .val (.int (0 : Int32)), .val (.int i3), .val (.int i4), .val (.int i5), .val (.int (1 : Int32)), .val (.double r7), .second, .val (.ref b8), .val (.ref b12), .val (.ref b21), .val (.ref b30), .val (.ref b43), .val (.ref b46), .val (.int (0 : Int32)), .val (.int (0 : Int32)), .val (.int i4), .val (.long j59), .second, .val (.long j61), .second, .val (.int i63), .val (.int i65), .unset, .unset, .unset]) rfl (pc' := 405) rfl ?_
          refine R.iconst X64 hx (hb hby at_405) (v := (1 : Int32)) (by decide) (pc' := 406) rfl ?_
          refine R.istore X64 hx (hb hby at_406) (L' := #[.val (.int p0), .val (.int p1), .val (.int p2), .val (.int p3), .val (.int p4), .val (.int p5), .val (.int (0 : Int32)), .val (.int (0 : Int32)), .val (.int i3), .val (.int i4), .val (.int i5), .val (.int (1 : Int32)), .val (.double r7), .second, .val (.ref b8), .val (.ref b12), .val (.ref b21), .val (.ref b30), .val (.ref b43), .val (.ref b46), .val (.int (0 : Int32)), .val (.int (0 : Int32)), .val (.int i4), .val (.long j59), .second, .val (.long j61), .second, .val (.int i63), .val (.int i65), .val (.int (1 : Int32)), .unset, .unset]) rfl (pc' := 408) rfl ?_
          refine R.iload X64 hx (hb hby at_408) rfl (pc' := 410) rfl ?_
          refine R.ifNo X64 hx (hb hby at_410) (tlt (by decide : (0 : Int32) < (1 : Int32))).2.2.2 (pc' := 413) rfl ?_
          refine R.lconst X64 hx (hb hby at_413) (v := (0 : Int64)) (by decide) (pc' := 414) rfl ?_
          refine R.lstore X64 hx (hb hby at_414) (L' := #[.val (.int p0), .val (.int p1), .val (.int p2), .val (.int p3), .val (.int p4), .val (.int p5), .val (.int (0 : Int32)), .val (.int (0 : Int32)), .val (.int i3), .val (.int i4), .val (.int i5), .val (.int (1 : Int32)), .val (.double r7), .second, .val (.ref b8), .val (.ref b12), .val (.ref b21), .val (.ref b30), .val (.ref b43), .val (.ref b46), .val (.int (0 : Int32)), .val (.int (0 : Int32)), .val (.int i4), .val (.long j59), .second, .val (.long j61), .second, .val (.int i63), .val (.int i65), .val (.int (1 : Int32)), .val (.long (0 : Int64)), .second]) rfl (pc' := 416) rfl ?_
          refine R.iload X64 hx (hb hby at_416) rfl (pc' := 418) rfl ?_
          refine R.iconst X64 hx (hb hby at_418) (v := (1 : Int32)) (by decide) (pc' := 419) rfl ?_
          refine R.icmpYes X64 hx (hb hby at_419) (tlt (by decide : (0 : Int32) < (1 : Int32))).1 (by decide) (pc' := 443) (by decide) ?_
          refine R.iload X64 hx (hb hby at_443) rfl (pc' := 445) rfl ?_
          refine R.iconst X64 hx (hb hby at_445) (v := (2 : Int32)) (by decide) (pc' := 446) rfl ?_
          refine R.icmpYes X64 hx (hb hby at_446) (tlt (by decide : (0 : Int32) < (2 : Int32))).1 (by decide) (pc' := 470) (by decide) ?_
          obtain ⟨xv0, hxv0, Dx0⟩ := c0_57 (by decide)
          have tj0 : ((0 : Int64)).toInt = 0 := by decide
          refine R.iload X64 hx (hb hby at_470) rfl (pc' := 472) rfl ?_
          refine R.ifNo X64 hx (hb hby at_472) (feq (by decide : ¬ ((1 : Int32) = (0 : Int32)))).1 (pc' := 475) rfl ?_
          refine R.aload X64 hx (hb hby at_475) rfl rfl (pc' := 477) rfl ?_
          refine R.iconst X64 hx (hb hby at_477) (v := (0 : Int32)) (by decide) (pc' := 478) rfl ?_
          refine R.daload X64 hx hZ e64 V_b43 (⟨by decide, by decide⟩ : ¬ (0 : Int32) < 0 ∧ (0 : Int32) < (2 : Int32)) (v := (.double xv0)) (hxv0) (hb hby at_478) (pc' := 479) rfl ?_
          refine R.lload X64 hx (hb hby at_479) rfl (pc' := 481) rfl ?_
          refine R.l2d X64 hx (hb hby at_481) (pc' := 482) rfl ?_
          refine R.dcmp X64 hx (hb hby at_482) (Dx0.cmp ((Dy.l2d (by rw [tj0]; decide)).cast tj0 rfl) _ : cmpValue (FP.dcmp xv0 (FP.l2d (0 : Int64))) .l = (own_ci 0 0)) (pc' := 483) rfl ?_
          refine R.ifNo X64 hx (hb hby at_483) (teq (own_ci_eq.mpr rfl : (own_ci 0 0) = (0 : Int32))).2 (pc' := 486) rfl ?_
          refine R.iconst X64 hx (hb hby at_486) (v := (1 : Int32)) (by decide) (pc' := 487) rfl ?_
          refine R.goto X64 hx (hb hby at_487) (by decide) (pc' := 491) (by decide) ?_
          refine R.istore X64 hx (hb hby at_491) (L' := #[.val (.int p0), .val (.int p1), .val (.int p2), .val (.int p3), .val (.int p4), .val (.int p5), .val (.int (0 : Int32)), .val (.int (0 : Int32)), .val (.int i3), .val (.int i4), .val (.int i5), .val (.int (1 : Int32)), .val (.double r7), .second, .val (.ref b8), .val (.ref b12), .val (.ref b21), .val (.ref b30), .val (.ref b43), .val (.ref b46), .val (.int (0 : Int32)), .val (.int (0 : Int32)), .val (.int i4), .val (.long j59), .second, .val (.long j61), .second, .val (.int i63), .val (.int i65), .val (.int (1 : Int32)), .val (.long (0 : Int64)), .second]) rfl (pc' := 493) rfl ?_
          refine R.iload X64 hx (hb hby at_493) rfl (pc' := 495) rfl ?_
          refine R.iconst X64 hx (hb hby at_495) (v := (1 : Int32)) (by decide) (pc' := 496) rfl ?_
          refine R.icmpYes X64 hx (hb hby at_496) (flt (by decide : ¬ ((1 : Int32) < (1 : Int32)))).2.2.2 (by decide) (pc' := 583) (by decide) ?_
          refine R.iload X64 hx (hb hby at_583) rfl (pc' := 585) rfl ?_
          rw [← hG]
          exact Rn.ret X64 (BodyLoose.notSynchronized Bd) (v := some (.int (1 : Int32))) (fun h => by rw [Bd.returns] at h; cases h) (Q := Q0 Z p0 p1 p2 p3 p4 p5 h0 n0) e64 (fun fs hr => retN X64 hx (t := .boolean) Bd.returns (by simp) (hb hby at_585) hr) ⟨rfl, N64⟩ (by decide) (by decide)
        · refine R.aload X47 hx (hb hby at_313) rfl rfl (pc' := 315) rfl ?_
          refine R.iload X47 hx (hb hby at_315) rfl (pc' := 317) rfl ?_
          refine R.aload X47 hx (hb hby at_317) rfl rfl (pc' := 319) rfl ?_
          refine R.iload X47 hx (hb hby at_319) rfl (pc' := 321) rfl ?_
          refine R.aload X47 hx (hb hby at_321) rfl rfl (pc' := 323) rfl ?_
          refine R.virtual X47 hx hZ (y := mY7) (z := mY7) hown w_38 w_39 (notFace_of_selects (args := #[]) (mvT hZ w_41)) w_41 w_40 w_18 w_42 (by decide) e47 E_b46 (rm8 l Z aZ hw [] b46 (0 : Int32) b30 (2 : Int32) b43 b8 b12 b21 k8 k12 k21 k30 k43 [((2 : Int32), (.int ((0 : Int32) + i3))), ((1 : Int32), (.int (0 : Int32))), ((0 : Int32), (.int (0 : Int32)))] [(((0 : Int32) + (1 : Int32)), (.int (own_rowB i3 i5))), ((0 : Int32), (.int (own_rowA i3 i5))), ((1 : Int32), (.int (own_rowB (0 : Int32) i4))), ((0 : Int32), (.int (own_rowA (0 : Int32) i4)))] [((3 : Int32), (.double (FP.l2d (own_wAt (3 : Int32) p1 p2)))), ((2 : Int32), (.double (FP.l2d (own_wAt (2 : Int32) p1 p2)))), ((1 : Int32), (.double (FP.l2d (own_wAt (1 : Int32) p1 p2)))), ((0 : Int32), (.double (FP.l2d (own_wAt (0 : Int32) p1 p2))))] [((5 : Int32), (.double (FP.l2d (own_yAt (5 : Int32) p3 p4 p5)))), ((4 : Int32), (.double (FP.l2d (own_yAt (4 : Int32) p3 p4 p5)))), ((3 : Int32), (.double (FP.l2d (own_yAt (3 : Int32) p3 p4 p5)))), ((2 : Int32), (.double (FP.l2d (own_yAt (2 : Int32) p3 p4 p5)))), ((1 : Int32), (.double (FP.l2d (own_yAt (1 : Int32) p3 p4 p5)))), ((0 : Int32), (.double (FP.l2d (own_yAt (0 : Int32) p3 p4 p5))))] [((1 : Int32), (.double r7)), ((0 : Int32), (.double r7))] (0 : Int32) (0 : Int32) (FP.l2d (own_wAt (0 : Int32) p1 p2)) (FP.l2d (own_wAt ((0 : Int32) + (1 : Int32)) p1 p2)) (own_wAt (0 : Int32) p1 p2).toInt (own_wAt ((0 : Int32) + (1 : Int32)) p1 p2).toInt (own_rowA (0 : Int32) i4) (own_rowB (0 : Int32) i4) (fun i => FP.l2d (own_yAt i p3 p4 p5)) (fun i => (own_yAt i p3 p4 p5).toInt) 0 0 h47 n0 Z47 F_start_b46 F_rows_b46 F_values_b46 V_b8 V_b12 V_b21 V_b30 V_b43 g_b43 (Ne.symm ne_b43_b46) ne_b8_b43 ne_b12_b43 ne_b21_b43 ne_b30_b43 (by decide) (rfl) (rfl) (by decide) (by decide) (own_rA h9_) (own_rB) (Or.inl ⟨rfl, rfl, rfl⟩) (Dy.l2d (by have := own_wb (0 : Int32) p1 p2; omega)) (Dy.l2d (by have := own_wb ((0 : Int32) + (1 : Int32)) p1 p2; omega)) (own_wb _ _ _) (own_wb _ _ _) (own_rdy)) (by decide) (W := 0) (Nat.le_of_eq rfl) (by decide) (by rw [hml]; rfl) (lenOf pd_6 rfl) rfl (hb hby at_323) (pc' := 326) rfl (by decide) (by decide) ?_; intro v66 T66 L66 X66 hQ66
          obtain ⟨hj_66, rfl, N66q, Kc66, P66_0, P66_1, P66_2⟩ := hQ66
          have N66 := Fr.app N47 N66q
          generalize e66 : T66.heap = h66 at Kc66 P66_0 P66_1 P66_2
          have K66 : Keep h0 h66 [] := K47.trans Kc66 ((allS (Or.inr sz_b43) all0))
          have Z66 : n0 ≤ h66.size := Nat.le_trans Z47 Kc66.1
          have V_b8 := V_b8.keep Kc66 (ninS ne_b8_b43 nin0)
          have V_b12 := V_b12.keep Kc66 (ninS ne_b12_b43 nin0)
          have V_b21 := V_b21.keep Kc66 (ninS ne_b21_b43 nin0)
          have V_b30 := V_b30.keep Kc66 (ninS ne_b30_b43 nin0)
          have E_b46 := E_b46.keep Kc66
          have F_start_b46 := F_start_b46.keep Kc66 (ninS (Ne.symm ne_b43_b46) nin0)
          have F_rows_b46 := F_rows_b46.keep Kc66 (ninS (Ne.symm ne_b43_b46) nin0)
          have F_values_b46 := F_values_b46.keep Kc66 (ninS (Ne.symm ne_b43_b46) nin0)
          have V_b43 : Arh Z h66 b43 k43 .double (2 : Int32) hj_66 [] (.double (0 : UInt64)) := P66_0
          have V_b43 : Arh Z h66 b43 k43 .double (2 : Int32) hj_66 [] (.double (0 : UInt64)) := V_b43
          have c0_66 := P66_1
          have c1_66 := P66_2
          refine R.iload X66 hx (hb hby at_326) rfl (pc' := 328) rfl ?_
          refine R.ifNo X66 hx (hb hby at_328) (teq (by decide : (0 : Int32) = (0 : Int32))).2 (pc' := 331) rfl ?_
          refine R.iconst X66 hx (hb hby at_331) (v := (0 : Int32)) (by decide) (pc' := 332) rfl ?_
          refine R.goto X66 hx (hb hby at_332) (by decide) (pc' := 337) (by decide) ?_
          refine R.istore X66 hx (hb hby at_337) (L' := #[.val (.int p0), .val (.int p1), .val (.int p2), .val (.int p3), .val (.int p4), .val (.int p5), .val (.int (0 : Int32)), .val (.int (0 : Int32)), .val (.int i3), .val (.int i4), .val (.int i5), .val (.int (2 : Int32)), .val (.double r7), .second, .val (.ref b8), .val (.ref b12), .val (.ref b21), .val (.ref b30), .val (.ref b43), .val (.ref b46), .val (.int (0 : Int32)), .unset, .unset, .unset, .unset, .unset, .unset, .unset, .unset, .unset, .unset, .unset]) rfl (pc' := 339) rfl ?_
          refine R.iload X66 hx (hb hby at_339) rfl (pc' := 341) rfl ?_
          refine R.ifNo X66 hx (hb hby at_341) (teq (by decide : (0 : Int32) = (0 : Int32))).2 (pc' := 344) rfl ?_
          refine R.iload X66 hx (hb hby at_344) rfl (pc' := 346) rfl ?_
          refine R.goto X66 hx (hb hby at_346) (by decide) (pc' := 351) (by decide) ?_
          refine R.istore X66 hx (hb hby at_351) (L' := #[.val (.int p0), .val (.int p1), .val (.int p2), .val (.int p3), .val (.int p4), .val (.int p5), .val (.int (0 : Int32)), .val (.int (0 : Int32)), .val (.int i3), .val (.int i4), .val (.int i5), .val (.int (2 : Int32)), .val (.double r7), .second, .val (.ref b8), .val (.ref b12), .val (.ref b21), .val (.ref b30), .val (.ref b43), .val (.ref b46), .val (.int (0 : Int32)), .val (.int (0 : Int32)), .unset, .unset, .unset, .unset, .unset, .unset, .unset, .unset, .unset, .unset]) rfl (pc' := 353) rfl ?_
          refine R.iload X66 hx (hb hby at_353) rfl (pc' := 355) rfl ?_
          refine R.ifNo X66 hx (hb hby at_355) (teq (by decide : (0 : Int32) = (0 : Int32))).2 (pc' := 358) rfl ?_
          refine R.iload X66 hx (hb hby at_358) rfl (pc' := 360) rfl ?_
          refine R.goto X66 hx (hb hby at_360) (by decide) (pc' := 365) (by decide) ?_
          refine R.istore X66 hx (hb hby at_365) (L' := #[.val (.int p0), .val (.int p1), .val (.int p2), .val (.int p3), .val (.int p4), .val (.int p5), .val (.int (0 : Int32)), .val (.int (0 : Int32)), .val (.int i3), .val (.int i4), .val (.int i5), .val (.int (2 : Int32)), .val (.double r7), .second, .val (.ref b8), .val (.ref b12), .val (.ref b21), .val (.ref b30), .val (.ref b43), .val (.ref b46), .val (.int (0 : Int32)), .val (.int (0 : Int32)), .val (.int i4), .unset, .unset, .unset, .unset, .unset, .unset, .unset, .unset, .unset]) rfl (pc' := 367) rfl ?_
          refine R.iload X66 hx (hb hby at_367) rfl (pc' := 369) rfl ?_
          refine R.iloadN X66 hx (hb hby at_369) rfl (pc' := 370) rfl ?_
          refine R.iloadN X66 hx (hb hby at_370) rfl (pc' := 371) rfl ?_
          refine R.callS X66 hx hZ (y := mY4) hown w_10 w_11 w_4 w_12 (by decide) e66 (rm3 l Z aZ hw [] (0 : Int32) p1 p2 h66 n0 Z66 ) (by decide) (W := 0) (Nat.le_of_eq rfl) (by decide) (by rw [hml]; rfl) (lenOf pd_3 rfl) rfl (hb hby at_371) (pc' := 374) rfl (by decide) (by decide) ?_; intro v67 T67 L67 X67 hQ67
          obtain ⟨rfl, N67q, e67⟩ := hQ67
          have N67 := Fr.app N66 N67q
          show Rn p e below (T67.setTop (mkF m 374 #[.val (.int p0), .val (.int p1), .val (.int p2), .val (.int p3), .val (.int p4), .val (.int p5), .val (.int (0 : Int32)), .val (.int (0 : Int32)), .val (.int i3), .val (.int i4), .val (.int i5), .val (.int (2 : Int32)), .val (.double r7), .second, .val (.ref b8), .val (.ref b12), .val (.ref b21), .val (.ref b30), .val (.ref b43), .val (.ref b46), .val (.int (0 : Int32)), .val (.int (0 : Int32)), .val (.int i4), .unset, .unset, .unset, .unset, .unset, .unset, .unset, .unset, .unset] [(.long (own_wAt (0 : Int32) p1 p2))])) G
          generalize hj68 : (own_wAt (0 : Int32) p1 p2) = j68
          refine R.lstore X67 hx (hb hby at_374) (L' := #[.val (.int p0), .val (.int p1), .val (.int p2), .val (.int p3), .val (.int p4), .val (.int p5), .val (.int (0 : Int32)), .val (.int (0 : Int32)), .val (.int i3), .val (.int i4), .val (.int i5), .val (.int (2 : Int32)), .val (.double r7), .second, .val (.ref b8), .val (.ref b12), .val (.ref b21), .val (.ref b30), .val (.ref b43), .val (.ref b46), .val (.int (0 : Int32)), .val (.int (0 : Int32)), .val (.int i4), .val (.long j68), .second, .unset, .unset, .unset, .unset, .unset, .unset, .unset]) rfl (pc' := 376) rfl ?_
          refine R.iload X67 hx (hb hby at_376) rfl (pc' := 378) rfl ?_
          refine R.iconst X67 hx (hb hby at_378) (v := (1 : Int32)) (by decide) (pc' := 379) rfl ?_
          refine R.iadd X67 hx (hb hby at_379) (v := (1 : Int32)) (by decide) (pc' := 380) rfl ?_
          refine R.iloadN X67 hx (hb hby at_380) rfl (pc' := 381) rfl ?_
          refine R.iloadN X67 hx (hb hby at_381) rfl (pc' := 382) rfl ?_
          refine R.callS X67 hx hZ (y := mY4) hown w_10 w_11 w_4 w_12 (by decide) e67 (rm3 l Z aZ hw [] (1 : Int32) p1 p2 h66 n0 Z66 ) (by decide) (W := 0) (Nat.le_of_eq rfl) (by decide) (by rw [hml]; rfl) (lenOf pd_3 rfl) rfl (hb hby at_382) (pc' := 385) rfl (by decide) (by decide) ?_; intro v69 T69 L69 X69 hQ69
          obtain ⟨rfl, N69q, e69⟩ := hQ69
          have N69 := Fr.app N67 N69q
          show Rn p e below (T69.setTop (mkF m 385 #[.val (.int p0), .val (.int p1), .val (.int p2), .val (.int p3), .val (.int p4), .val (.int p5), .val (.int (0 : Int32)), .val (.int (0 : Int32)), .val (.int i3), .val (.int i4), .val (.int i5), .val (.int (2 : Int32)), .val (.double r7), .second, .val (.ref b8), .val (.ref b12), .val (.ref b21), .val (.ref b30), .val (.ref b43), .val (.ref b46), .val (.int (0 : Int32)), .val (.int (0 : Int32)), .val (.int i4), .val (.long j68), .second, .unset, .unset, .unset, .unset, .unset, .unset, .unset] [(.long (own_wAt (1 : Int32) p1 p2))])) G
          generalize hj70 : (own_wAt (1 : Int32) p1 p2) = j70
          refine R.lstore X69 hx (hb hby at_385) (L' := #[.val (.int p0), .val (.int p1), .val (.int p2), .val (.int p3), .val (.int p4), .val (.int p5), .val (.int (0 : Int32)), .val (.int (0 : Int32)), .val (.int i3), .val (.int i4), .val (.int i5), .val (.int (2 : Int32)), .val (.double r7), .second, .val (.ref b8), .val (.ref b12), .val (.ref b21), .val (.ref b30), .val (.ref b43), .val (.ref b46), .val (.int (0 : Int32)), .val (.int (0 : Int32)), .val (.int i4), .val (.long j68), .second, .val (.long j70), .second, .unset, .unset, .unset, .unset, .unset]) rfl (pc' := 387) rfl ?_
          refine R.iload X69 hx (hb hby at_387) rfl (pc' := 389) rfl ?_
          refine R.iload X69 hx (hb hby at_389) rfl (pc' := 391) rfl ?_
          refine R.callS X69 hx hZ (y := mY2) hown w_2 w_3 w_4 w_5 (by decide) e69 (rm1 l Z aZ hw [] (0 : Int32) i4 h66 n0 Z66 ) (by decide) (W := 0) (Nat.le_of_eq rfl) (by decide) (by rw [hml]; rfl) (lenOf pd_2 rfl) rfl (hb hby at_391) (pc' := 394) rfl (by decide) (by decide) ?_; intro v71 T71 L71 X71 hQ71
          obtain ⟨rfl, N71q, e71⟩ := hQ71
          have N71 := Fr.app N69 N71q
          show Rn p e below (T71.setTop (mkF m 394 #[.val (.int p0), .val (.int p1), .val (.int p2), .val (.int p3), .val (.int p4), .val (.int p5), .val (.int (0 : Int32)), .val (.int (0 : Int32)), .val (.int i3), .val (.int i4), .val (.int i5), .val (.int (2 : Int32)), .val (.double r7), .second, .val (.ref b8), .val (.ref b12), .val (.ref b21), .val (.ref b30), .val (.ref b43), .val (.ref b46), .val (.int (0 : Int32)), .val (.int (0 : Int32)), .val (.int i4), .val (.long j68), .second, .val (.long j70), .second, .unset, .unset, .unset, .unset, .unset] [(.int (own_rowA (0 : Int32) i4))])) G
          generalize hi72 : (own_rowA (0 : Int32) i4) = i72
          refine R.istore X71 hx (hb hby at_394) (L' := #[.val (.int p0), .val (.int p1), .val (.int p2), .val (.int p3), .val (.int p4), .val (.int p5), .val (.int (0 : Int32)), .val (.int (0 : Int32)), .val (.int i3), .val (.int i4), .val (.int i5), .val (.int (2 : Int32)), .val (.double r7), .second, .val (.ref b8), .val (.ref b12), .val (.ref b21), .val (.ref b30), .val (.ref b43), .val (.ref b46), .val (.int (0 : Int32)), .val (.int (0 : Int32)), .val (.int i4), .val (.long j68), .second, .val (.long j70), .second, .val (.int i72), .unset, .unset, .unset, .unset]) rfl (pc' := 396) rfl ?_
          refine R.iload X71 hx (hb hby at_396) rfl (pc' := 398) rfl ?_
          refine R.iload X71 hx (hb hby at_398) rfl (pc' := 400) rfl ?_
          refine R.callS X71 hx hZ (y := mY3) hown w_6 w_7 w_4 w_8 (by decide) e71 (rm2 l Z aZ hw [] (0 : Int32) i4 h66 n0 Z66 ) (by decide) (W := 0) (Nat.le_of_eq rfl) (by decide) (by rw [hml]; rfl) (lenOf pd_2 rfl) rfl (hb hby at_400) (pc' := 403) rfl (by decide) (by decide) ?_; intro v73 T73 L73 X73 hQ73
          obtain ⟨rfl, N73q, e73⟩ := hQ73
          have N73 := Fr.app N71 N73q
          show Rn p e below (T73.setTop (mkF m 403 #[.val (.int p0), .val (.int p1), .val (.int p2), .val (.int p3), .val (.int p4), .val (.int p5), .val (.int (0 : Int32)), .val (.int (0 : Int32)), .val (.int i3), .val (.int i4), .val (.int i5), .val (.int (2 : Int32)), .val (.double r7), .second, .val (.ref b8), .val (.ref b12), .val (.ref b21), .val (.ref b30), .val (.ref b43), .val (.ref b46), .val (.int (0 : Int32)), .val (.int (0 : Int32)), .val (.int i4), .val (.long j68), .second, .val (.long j70), .second, .val (.int i72), .unset, .unset, .unset, .unset] [(.int (own_rowB (0 : Int32) i4))])) G
          generalize hi74 : (own_rowB (0 : Int32) i4) = i74
          refine R.istore X73 hx (hb hby at_403) (L' := #[.val (.int p0), .val (.int p1), .val (.int p2), .val (.int p3), .val (.int p4), .val (.int p5), .val (.int (0 : Int32)), .val (.int (0 : Int32)), .val (.int i3), .val (.int i4), .val (.int i5), .val (.int (2 : Int32)), .val (.double r7), .second, .val (.ref b8), .val (.ref b12), .val (.ref b21), .val (.ref b30), .val (.ref b43), .val (.ref b46), .val (.int (0 : Int32)), .val (.int (0 : Int32)), .val (.int i4), .val (.long j68), .second, .val (.long j70), .second, .val (.int i72), .val (.int i74), .unset, .unset, .unset]) rfl (pc' := 405) rfl ?_
          refine R.iconst X73 hx (hb hby at_405) (v := (1 : Int32)) (by decide) (pc' := 406) rfl ?_
          refine R.istore X73 hx (hb hby at_406) (L' := #[.val (.int p0), .val (.int p1), .val (.int p2), .val (.int p3), .val (.int p4), .val (.int p5), .val (.int (0 : Int32)), .val (.int (0 : Int32)), .val (.int i3), .val (.int i4), .val (.int i5), .val (.int (2 : Int32)), .val (.double r7), .second, .val (.ref b8), .val (.ref b12), .val (.ref b21), .val (.ref b30), .val (.ref b43), .val (.ref b46), .val (.int (0 : Int32)), .val (.int (0 : Int32)), .val (.int i4), .val (.long j68), .second, .val (.long j70), .second, .val (.int i72), .val (.int i74), .val (.int (1 : Int32)), .unset, .unset]) rfl (pc' := 408) rfl ?_
          refine R.iload X73 hx (hb hby at_408) rfl (pc' := 410) rfl ?_
          refine R.ifNo X73 hx (hb hby at_410) (tlt (by decide : (0 : Int32) < (2 : Int32))).2.2.2 (pc' := 413) rfl ?_
          refine R.lconst X73 hx (hb hby at_413) (v := (0 : Int64)) (by decide) (pc' := 414) rfl ?_
          refine R.lstore X73 hx (hb hby at_414) (L' := #[.val (.int p0), .val (.int p1), .val (.int p2), .val (.int p3), .val (.int p4), .val (.int p5), .val (.int (0 : Int32)), .val (.int (0 : Int32)), .val (.int i3), .val (.int i4), .val (.int i5), .val (.int (2 : Int32)), .val (.double r7), .second, .val (.ref b8), .val (.ref b12), .val (.ref b21), .val (.ref b30), .val (.ref b43), .val (.ref b46), .val (.int (0 : Int32)), .val (.int (0 : Int32)), .val (.int i4), .val (.long j68), .second, .val (.long j70), .second, .val (.int i72), .val (.int i74), .val (.int (1 : Int32)), .val (.long (0 : Int64)), .second]) rfl (pc' := 416) rfl ?_
          refine R.iload X73 hx (hb hby at_416) rfl (pc' := 418) rfl ?_
          refine R.iconst X73 hx (hb hby at_418) (v := (1 : Int32)) (by decide) (pc' := 419) rfl ?_
          refine R.icmpYes X73 hx (hb hby at_419) (tlt (by decide : (0 : Int32) < (1 : Int32))).1 (by decide) (pc' := 443) (by decide) ?_
          refine R.iload X73 hx (hb hby at_443) rfl (pc' := 445) rfl ?_
          refine R.iconst X73 hx (hb hby at_445) (v := (2 : Int32)) (by decide) (pc' := 446) rfl ?_
          refine R.icmpYes X73 hx (hb hby at_446) (tlt (by decide : (0 : Int32) < (2 : Int32))).1 (by decide) (pc' := 470) (by decide) ?_
          obtain ⟨xv0, hxv0, Dx0⟩ := c0_66 (by decide)
          have tj0 : ((0 : Int64)).toInt = 0 := by decide
          refine R.iload X73 hx (hb hby at_470) rfl (pc' := 472) rfl ?_
          refine R.ifNo X73 hx (hb hby at_472) (feq (by decide : ¬ ((1 : Int32) = (0 : Int32)))).1 (pc' := 475) rfl ?_
          refine R.aload X73 hx (hb hby at_475) rfl rfl (pc' := 477) rfl ?_
          refine R.iconst X73 hx (hb hby at_477) (v := (0 : Int32)) (by decide) (pc' := 478) rfl ?_
          refine R.daload X73 hx hZ e73 V_b43 (⟨by decide, by decide⟩ : ¬ (0 : Int32) < 0 ∧ (0 : Int32) < (2 : Int32)) (v := (.double xv0)) (hxv0) (hb hby at_478) (pc' := 479) rfl ?_
          refine R.lload X73 hx (hb hby at_479) rfl (pc' := 481) rfl ?_
          refine R.l2d X73 hx (hb hby at_481) (pc' := 482) rfl ?_
          refine R.dcmp X73 hx (hb hby at_482) (Dx0.cmp ((Dy.l2d (by rw [tj0]; decide)).cast tj0 rfl) _ : cmpValue (FP.dcmp xv0 (FP.l2d (0 : Int64))) .l = (own_ci 0 0)) (pc' := 483) rfl ?_
          refine R.ifNo X73 hx (hb hby at_483) (teq (own_ci_eq.mpr rfl : (own_ci 0 0) = (0 : Int32))).2 (pc' := 486) rfl ?_
          refine R.iconst X73 hx (hb hby at_486) (v := (1 : Int32)) (by decide) (pc' := 487) rfl ?_
          refine R.goto X73 hx (hb hby at_487) (by decide) (pc' := 491) (by decide) ?_
          refine R.istore X73 hx (hb hby at_491) (L' := #[.val (.int p0), .val (.int p1), .val (.int p2), .val (.int p3), .val (.int p4), .val (.int p5), .val (.int (0 : Int32)), .val (.int (0 : Int32)), .val (.int i3), .val (.int i4), .val (.int i5), .val (.int (2 : Int32)), .val (.double r7), .second, .val (.ref b8), .val (.ref b12), .val (.ref b21), .val (.ref b30), .val (.ref b43), .val (.ref b46), .val (.int (0 : Int32)), .val (.int (0 : Int32)), .val (.int i4), .val (.long j68), .second, .val (.long j70), .second, .val (.int i72), .val (.int i74), .val (.int (1 : Int32)), .val (.long (0 : Int64)), .second]) rfl (pc' := 493) rfl ?_
          refine R.iload X73 hx (hb hby at_493) rfl (pc' := 495) rfl ?_
          refine R.iconst X73 hx (hb hby at_495) (v := (1 : Int32)) (by decide) (pc' := 496) rfl ?_
          refine R.icmpNo X73 hx (hb hby at_496) (tlt (by decide : (1 : Int32) < (2 : Int32))).2.2.2 (pc' := 499) rfl ?_
          refine R.lconst X73 hx (hb hby at_499) (v := (0 : Int64)) (by decide) (pc' := 500) rfl ?_
          refine R.lstore X73 hx (hb hby at_500) (L' := #[.val (.int p0), .val (.int p1), .val (.int p2), .val (.int p3), .val (.int p4), .val (.int p5), .val (.int (0 : Int32)), .val (.int (0 : Int32)), .val (.int i3), .val (.int i4), .val (.int i5), .val (.int (2 : Int32)), .val (.double r7), .second, .val (.ref b8), .val (.ref b12), .val (.ref b21), .val (.ref b30), .val (.ref b43), .val (.ref b46), .val (.int (0 : Int32)), .val (.int (0 : Int32)), .val (.int i4), .val (.long j68), .second, .val (.long j70), .second, .val (.int i72), .val (.int i74), .val (.int (1 : Int32)), .val (.long (0 : Int64)), .second]) rfl (pc' := 502) rfl ?_
          refine R.iload X73 hx (hb hby at_502) rfl (pc' := 504) rfl ?_
          refine R.iconst X73 hx (hb hby at_504) (v := (1 : Int32)) (by decide) (pc' := 505) rfl ?_
          refine R.icmpYes X73 hx (hb hby at_505) (tlt (by decide : (0 : Int32) < (1 : Int32))).1 (by decide) (pc' := 531) (by decide) ?_
          refine R.iload X73 hx (hb hby at_531) rfl (pc' := 533) rfl ?_
          refine R.iconst X73 hx (hb hby at_533) (v := (2 : Int32)) (by decide) (pc' := 534) rfl ?_
          refine R.icmpYes X73 hx (hb hby at_534) (tlt (by decide : (0 : Int32) < (2 : Int32))).1 (by decide) (pc' := 560) (by decide) ?_
          obtain ⟨xv1, hxv1, Dx1⟩ := c1_66 (by decide)
          have tj1 : ((0 : Int64)).toInt = 0 := by decide
          refine R.iload X73 hx (hb hby at_560) rfl (pc' := 562) rfl ?_
          refine R.ifNo X73 hx (hb hby at_562) (feq (by decide : ¬ ((1 : Int32) = (0 : Int32)))).1 (pc' := 565) rfl ?_
          refine R.aload X73 hx (hb hby at_565) rfl rfl (pc' := 567) rfl ?_
          refine R.iconst X73 hx (hb hby at_567) (v := (1 : Int32)) (by decide) (pc' := 568) rfl ?_
          refine R.daload X73 hx hZ e73 V_b43 (⟨by decide, by decide⟩ : ¬ (1 : Int32) < 0 ∧ (1 : Int32) < (2 : Int32)) (v := (.double xv1)) (hxv1) (hb hby at_568) (pc' := 569) rfl ?_
          refine R.lload X73 hx (hb hby at_569) rfl (pc' := 571) rfl ?_
          refine R.l2d X73 hx (hb hby at_571) (pc' := 572) rfl ?_
          refine R.dcmp X73 hx (hb hby at_572) (Dx1.cmp ((Dy.l2d (by rw [tj1]; decide)).cast tj1 rfl) _ : cmpValue (FP.dcmp xv1 (FP.l2d (0 : Int64))) .l = (own_ci 0 0)) (pc' := 573) rfl ?_
          refine R.ifNo X73 hx (hb hby at_573) (teq (own_ci_eq.mpr rfl : (own_ci 0 0) = (0 : Int32))).2 (pc' := 576) rfl ?_
          refine R.iconst X73 hx (hb hby at_576) (v := (1 : Int32)) (by decide) (pc' := 577) rfl ?_
          refine R.goto X73 hx (hb hby at_577) (by decide) (pc' := 581) (by decide) ?_
          refine R.istore X73 hx (hb hby at_581) (L' := #[.val (.int p0), .val (.int p1), .val (.int p2), .val (.int p3), .val (.int p4), .val (.int p5), .val (.int (0 : Int32)), .val (.int (0 : Int32)), .val (.int i3), .val (.int i4), .val (.int i5), .val (.int (2 : Int32)), .val (.double r7), .second, .val (.ref b8), .val (.ref b12), .val (.ref b21), .val (.ref b30), .val (.ref b43), .val (.ref b46), .val (.int (0 : Int32)), .val (.int (0 : Int32)), .val (.int i4), .val (.long j68), .second, .val (.long j70), .second, .val (.int i72), .val (.int i74), .val (.int (1 : Int32)), .val (.long (0 : Int64)), .second]) rfl (pc' := 583) rfl ?_
          refine R.iload X73 hx (hb hby at_583) rfl (pc' := 585) rfl ?_
          rw [← hG]
          exact Rn.ret X73 (BodyLoose.notSynchronized Bd) (v := some (.int (1 : Int32))) (fun h => by rw [Bd.returns] at h; cases h) (Q := Q0 Z p0 p1 p2 p3 p4 p5 h0 n0) e73 (fun fs hr => retN X73 hx (t := .boolean) Bd.returns (by simp) (hb hby at_585) hr) ⟨rfl, N73⟩ (by decide) (by decide)
      · rcases h11_ with rfl | rfl | rfl
        · refine R.aload X47 hx (hb hby at_313) rfl rfl (pc' := 315) rfl ?_
          refine R.iload X47 hx (hb hby at_315) rfl (pc' := 317) rfl ?_
          refine R.aload X47 hx (hb hby at_317) rfl rfl (pc' := 319) rfl ?_
          refine R.iload X47 hx (hb hby at_319) rfl (pc' := 321) rfl ?_
          refine R.aload X47 hx (hb hby at_321) rfl rfl (pc' := 323) rfl ?_
          refine R.virtual X47 hx hZ (y := mY7) (z := mY7) hown w_38 w_39 (notFace_of_selects (args := #[]) (mvT hZ w_41)) w_41 w_40 w_18 w_42 (by decide) e47 E_b46 (rm8 l Z aZ hw [] b46 (0 : Int32) b30 (0 : Int32) b43 b8 b12 b21 k8 k12 k21 k30 k43 [((2 : Int32), (.int ((1 : Int32) + i3))), ((1 : Int32), (.int (1 : Int32))), ((0 : Int32), (.int (0 : Int32)))] [(((1 : Int32) + (1 : Int32)), (.int (own_rowB i3 i5))), ((1 : Int32), (.int (own_rowA i3 i5))), ((1 : Int32), (.int (own_rowB (1 : Int32) i4))), ((0 : Int32), (.int (own_rowA (1 : Int32) i4)))] [((3 : Int32), (.double (FP.l2d (own_wAt (3 : Int32) p1 p2)))), ((2 : Int32), (.double (FP.l2d (own_wAt (2 : Int32) p1 p2)))), ((1 : Int32), (.double (FP.l2d (own_wAt (1 : Int32) p1 p2)))), ((0 : Int32), (.double (FP.l2d (own_wAt (0 : Int32) p1 p2))))] [((5 : Int32), (.double (FP.l2d (own_yAt (5 : Int32) p3 p4 p5)))), ((4 : Int32), (.double (FP.l2d (own_yAt (4 : Int32) p3 p4 p5)))), ((3 : Int32), (.double (FP.l2d (own_yAt (3 : Int32) p3 p4 p5)))), ((2 : Int32), (.double (FP.l2d (own_yAt (2 : Int32) p3 p4 p5)))), ((1 : Int32), (.double (FP.l2d (own_yAt (1 : Int32) p3 p4 p5)))), ((0 : Int32), (.double (FP.l2d (own_yAt (0 : Int32) p3 p4 p5))))] [((1 : Int32), (.double r7)), ((0 : Int32), (.double r7))] (0 : Int32) (1 : Int32) (FP.l2d (own_wAt (0 : Int32) p1 p2)) (FP.l2d (own_wAt ((0 : Int32) + (1 : Int32)) p1 p2)) (own_wAt (0 : Int32) p1 p2).toInt (own_wAt ((0 : Int32) + (1 : Int32)) p1 p2).toInt (own_rowA (1 : Int32) i4) (own_rowB (1 : Int32) i4) (fun i => FP.l2d (own_yAt i p3 p4 p5)) (fun i => (own_yAt i p3 p4 p5).toInt) ((own_wAt (0 : Int32) p1 p2).toInt * (own_yAt ((own_rowA (1 : Int32) i4) * (0 : Int32)) p3 p4 p5).toInt) ((own_wAt (0 : Int32) p1 p2).toInt * (own_yAt (((own_rowA (1 : Int32) i4) * (0 : Int32)) + (1 : Int32)) p3 p4 p5).toInt) h47 n0 Z47 F_start_b46 F_rows_b46 F_values_b46 V_b8 V_b12 V_b21 V_b30 V_b43 g_b43 (Ne.symm ne_b43_b46) ne_b8_b43 ne_b12_b43 ne_b21_b43 ne_b30_b43 (by decide) (rfl) (rfl) (by decide) (by decide) (own_rA h9_) (own_rB) (Or.inr (Or.inl ⟨rfl, rfl, rfl, rfl, rfl⟩)) (Dy.l2d (by have := own_wb (0 : Int32) p1 p2; omega)) (Dy.l2d (by have := own_wb ((0 : Int32) + (1 : Int32)) p1 p2; omega)) (own_wb _ _ _) (own_wb _ _ _) (own_rdy)) (by decide) (W := 0) (Nat.le_of_eq rfl) (by decide) (by rw [hml]; rfl) (lenOf pd_6 rfl) rfl (hb hby at_323) (pc' := 326) rfl (by decide) (by decide) ?_; intro v75 T75 L75 X75 hQ75
          obtain ⟨hj_75, rfl, N75q, Kc75, P75_0, P75_1, P75_2⟩ := hQ75
          have N75 := Fr.app N47 N75q
          generalize e75 : T75.heap = h75 at Kc75 P75_0 P75_1 P75_2
          have K75 : Keep h0 h75 [] := K47.trans Kc75 ((allS (Or.inr sz_b43) all0))
          have Z75 : n0 ≤ h75.size := Nat.le_trans Z47 Kc75.1
          have V_b8 := V_b8.keep Kc75 (ninS ne_b8_b43 nin0)
          have V_b12 := V_b12.keep Kc75 (ninS ne_b12_b43 nin0)
          have V_b21 := V_b21.keep Kc75 (ninS ne_b21_b43 nin0)
          have V_b30 := V_b30.keep Kc75 (ninS ne_b30_b43 nin0)
          have E_b46 := E_b46.keep Kc75
          have F_start_b46 := F_start_b46.keep Kc75 (ninS (Ne.symm ne_b43_b46) nin0)
          have F_rows_b46 := F_rows_b46.keep Kc75 (ninS (Ne.symm ne_b43_b46) nin0)
          have F_values_b46 := F_values_b46.keep Kc75 (ninS (Ne.symm ne_b43_b46) nin0)
          have V_b43 : Arh Z h75 b43 k43 .double (2 : Int32) hj_75 [] (.double (0 : UInt64)) := P75_0
          have V_b43 : Arh Z h75 b43 k43 .double (2 : Int32) hj_75 [] (.double (0 : UInt64)) := V_b43
          have c0_75 := P75_1
          have c1_75 := P75_2
          refine R.iload X75 hx (hb hby at_326) rfl (pc' := 328) rfl ?_
          refine R.ifNo X75 hx (hb hby at_328) (teq (by decide : (0 : Int32) = (0 : Int32))).2 (pc' := 331) rfl ?_
          refine R.iconst X75 hx (hb hby at_331) (v := (0 : Int32)) (by decide) (pc' := 332) rfl ?_
          refine R.goto X75 hx (hb hby at_332) (by decide) (pc' := 337) (by decide) ?_
          refine R.istore X75 hx (hb hby at_337) (L' := #[.val (.int p0), .val (.int p1), .val (.int p2), .val (.int p3), .val (.int p4), .val (.int p5), .val (.int (0 : Int32)), .val (.int (1 : Int32)), .val (.int i3), .val (.int i4), .val (.int i5), .val (.int (0 : Int32)), .val (.double r7), .second, .val (.ref b8), .val (.ref b12), .val (.ref b21), .val (.ref b30), .val (.ref b43), .val (.ref b46), .val (.int (0 : Int32)), .unset, .unset, .unset, .unset, .unset, .unset, .unset, .unset, .unset, .unset, .unset]) rfl (pc' := 339) rfl ?_
          refine R.iload X75 hx (hb hby at_339) rfl (pc' := 341) rfl ?_
          refine R.ifNo X75 hx (hb hby at_341) (teq (by decide : (0 : Int32) = (0 : Int32))).2 (pc' := 344) rfl ?_
          refine R.iload X75 hx (hb hby at_344) rfl (pc' := 346) rfl ?_
          refine R.goto X75 hx (hb hby at_346) (by decide) (pc' := 351) (by decide) ?_
          refine R.istore X75 hx (hb hby at_351) (L' := #[.val (.int p0), .val (.int p1), .val (.int p2), .val (.int p3), .val (.int p4), .val (.int p5), .val (.int (0 : Int32)), .val (.int (1 : Int32)), .val (.int i3), .val (.int i4), .val (.int i5), .val (.int (0 : Int32)), .val (.double r7), .second, .val (.ref b8), .val (.ref b12), .val (.ref b21), .val (.ref b30), .val (.ref b43), .val (.ref b46), .val (.int (0 : Int32)), .val (.int (1 : Int32)), .unset, .unset, .unset, .unset, .unset, .unset, .unset, .unset, .unset, .unset]) rfl (pc' := 353) rfl ?_
          refine R.iload X75 hx (hb hby at_353) rfl (pc' := 355) rfl ?_
          refine R.ifNo X75 hx (hb hby at_355) (teq (by decide : (0 : Int32) = (0 : Int32))).2 (pc' := 358) rfl ?_
          refine R.iload X75 hx (hb hby at_358) rfl (pc' := 360) rfl ?_
          refine R.goto X75 hx (hb hby at_360) (by decide) (pc' := 365) (by decide) ?_
          refine R.istore X75 hx (hb hby at_365) (L' := #[.val (.int p0), .val (.int p1), .val (.int p2), .val (.int p3), .val (.int p4), .val (.int p5), .val (.int (0 : Int32)), .val (.int (1 : Int32)), .val (.int i3), .val (.int i4), .val (.int i5), .val (.int (0 : Int32)), .val (.double r7), .second, .val (.ref b8), .val (.ref b12), .val (.ref b21), .val (.ref b30), .val (.ref b43), .val (.ref b46), .val (.int (0 : Int32)), .val (.int (1 : Int32)), .val (.int i4), .unset, .unset, .unset, .unset, .unset, .unset, .unset, .unset, .unset]) rfl (pc' := 367) rfl ?_
          refine R.iload X75 hx (hb hby at_367) rfl (pc' := 369) rfl ?_
          refine R.iloadN X75 hx (hb hby at_369) rfl (pc' := 370) rfl ?_
          refine R.iloadN X75 hx (hb hby at_370) rfl (pc' := 371) rfl ?_
          refine R.callS X75 hx hZ (y := mY4) hown w_10 w_11 w_4 w_12 (by decide) e75 (rm3 l Z aZ hw [] (0 : Int32) p1 p2 h75 n0 Z75 ) (by decide) (W := 0) (Nat.le_of_eq rfl) (by decide) (by rw [hml]; rfl) (lenOf pd_3 rfl) rfl (hb hby at_371) (pc' := 374) rfl (by decide) (by decide) ?_; intro v76 T76 L76 X76 hQ76
          obtain ⟨rfl, N76q, e76⟩ := hQ76
          have N76 := Fr.app N75 N76q
          show Rn p e below (T76.setTop (mkF m 374 #[.val (.int p0), .val (.int p1), .val (.int p2), .val (.int p3), .val (.int p4), .val (.int p5), .val (.int (0 : Int32)), .val (.int (1 : Int32)), .val (.int i3), .val (.int i4), .val (.int i5), .val (.int (0 : Int32)), .val (.double r7), .second, .val (.ref b8), .val (.ref b12), .val (.ref b21), .val (.ref b30), .val (.ref b43), .val (.ref b46), .val (.int (0 : Int32)), .val (.int (1 : Int32)), .val (.int i4), .unset, .unset, .unset, .unset, .unset, .unset, .unset, .unset, .unset] [(.long (own_wAt (0 : Int32) p1 p2))])) G
          generalize hj77 : (own_wAt (0 : Int32) p1 p2) = j77
          refine R.lstore X76 hx (hb hby at_374) (L' := #[.val (.int p0), .val (.int p1), .val (.int p2), .val (.int p3), .val (.int p4), .val (.int p5), .val (.int (0 : Int32)), .val (.int (1 : Int32)), .val (.int i3), .val (.int i4), .val (.int i5), .val (.int (0 : Int32)), .val (.double r7), .second, .val (.ref b8), .val (.ref b12), .val (.ref b21), .val (.ref b30), .val (.ref b43), .val (.ref b46), .val (.int (0 : Int32)), .val (.int (1 : Int32)), .val (.int i4), .val (.long j77), .second, .unset, .unset, .unset, .unset, .unset, .unset, .unset]) rfl (pc' := 376) rfl ?_
          refine R.iload X76 hx (hb hby at_376) rfl (pc' := 378) rfl ?_
          refine R.iconst X76 hx (hb hby at_378) (v := (1 : Int32)) (by decide) (pc' := 379) rfl ?_
          refine R.iadd X76 hx (hb hby at_379) (v := (1 : Int32)) (by decide) (pc' := 380) rfl ?_
          refine R.iloadN X76 hx (hb hby at_380) rfl (pc' := 381) rfl ?_
          refine R.iloadN X76 hx (hb hby at_381) rfl (pc' := 382) rfl ?_
          refine R.callS X76 hx hZ (y := mY4) hown w_10 w_11 w_4 w_12 (by decide) e76 (rm3 l Z aZ hw [] (1 : Int32) p1 p2 h75 n0 Z75 ) (by decide) (W := 0) (Nat.le_of_eq rfl) (by decide) (by rw [hml]; rfl) (lenOf pd_3 rfl) rfl (hb hby at_382) (pc' := 385) rfl (by decide) (by decide) ?_; intro v78 T78 L78 X78 hQ78
          obtain ⟨rfl, N78q, e78⟩ := hQ78
          have N78 := Fr.app N76 N78q
          show Rn p e below (T78.setTop (mkF m 385 #[.val (.int p0), .val (.int p1), .val (.int p2), .val (.int p3), .val (.int p4), .val (.int p5), .val (.int (0 : Int32)), .val (.int (1 : Int32)), .val (.int i3), .val (.int i4), .val (.int i5), .val (.int (0 : Int32)), .val (.double r7), .second, .val (.ref b8), .val (.ref b12), .val (.ref b21), .val (.ref b30), .val (.ref b43), .val (.ref b46), .val (.int (0 : Int32)), .val (.int (1 : Int32)), .val (.int i4), .val (.long j77), .second, .unset, .unset, .unset, .unset, .unset, .unset, .unset] [(.long (own_wAt (1 : Int32) p1 p2))])) G
          generalize hj79 : (own_wAt (1 : Int32) p1 p2) = j79
          refine R.lstore X78 hx (hb hby at_385) (L' := #[.val (.int p0), .val (.int p1), .val (.int p2), .val (.int p3), .val (.int p4), .val (.int p5), .val (.int (0 : Int32)), .val (.int (1 : Int32)), .val (.int i3), .val (.int i4), .val (.int i5), .val (.int (0 : Int32)), .val (.double r7), .second, .val (.ref b8), .val (.ref b12), .val (.ref b21), .val (.ref b30), .val (.ref b43), .val (.ref b46), .val (.int (0 : Int32)), .val (.int (1 : Int32)), .val (.int i4), .val (.long j77), .second, .val (.long j79), .second, .unset, .unset, .unset, .unset, .unset]) rfl (pc' := 387) rfl ?_
          refine R.iload X78 hx (hb hby at_387) rfl (pc' := 389) rfl ?_
          refine R.iload X78 hx (hb hby at_389) rfl (pc' := 391) rfl ?_
          refine R.callS X78 hx hZ (y := mY2) hown w_2 w_3 w_4 w_5 (by decide) e78 (rm1 l Z aZ hw [] (1 : Int32) i4 h75 n0 Z75 ) (by decide) (W := 0) (Nat.le_of_eq rfl) (by decide) (by rw [hml]; rfl) (lenOf pd_2 rfl) rfl (hb hby at_391) (pc' := 394) rfl (by decide) (by decide) ?_; intro v80 T80 L80 X80 hQ80
          obtain ⟨rfl, N80q, e80⟩ := hQ80
          have N80 := Fr.app N78 N80q
          show Rn p e below (T80.setTop (mkF m 394 #[.val (.int p0), .val (.int p1), .val (.int p2), .val (.int p3), .val (.int p4), .val (.int p5), .val (.int (0 : Int32)), .val (.int (1 : Int32)), .val (.int i3), .val (.int i4), .val (.int i5), .val (.int (0 : Int32)), .val (.double r7), .second, .val (.ref b8), .val (.ref b12), .val (.ref b21), .val (.ref b30), .val (.ref b43), .val (.ref b46), .val (.int (0 : Int32)), .val (.int (1 : Int32)), .val (.int i4), .val (.long j77), .second, .val (.long j79), .second, .unset, .unset, .unset, .unset, .unset] [(.int (own_rowA (1 : Int32) i4))])) G
          generalize hi81 : (own_rowA (1 : Int32) i4) = i81
          refine R.istore X80 hx (hb hby at_394) (L' := #[.val (.int p0), .val (.int p1), .val (.int p2), .val (.int p3), .val (.int p4), .val (.int p5), .val (.int (0 : Int32)), .val (.int (1 : Int32)), .val (.int i3), .val (.int i4), .val (.int i5), .val (.int (0 : Int32)), .val (.double r7), .second, .val (.ref b8), .val (.ref b12), .val (.ref b21), .val (.ref b30), .val (.ref b43), .val (.ref b46), .val (.int (0 : Int32)), .val (.int (1 : Int32)), .val (.int i4), .val (.long j77), .second, .val (.long j79), .second, .val (.int i81), .unset, .unset, .unset, .unset]) rfl (pc' := 396) rfl ?_
          refine R.iload X80 hx (hb hby at_396) rfl (pc' := 398) rfl ?_
          refine R.iload X80 hx (hb hby at_398) rfl (pc' := 400) rfl ?_
          refine R.callS X80 hx hZ (y := mY3) hown w_6 w_7 w_4 w_8 (by decide) e80 (rm2 l Z aZ hw [] (1 : Int32) i4 h75 n0 Z75 ) (by decide) (W := 0) (Nat.le_of_eq rfl) (by decide) (by rw [hml]; rfl) (lenOf pd_2 rfl) rfl (hb hby at_400) (pc' := 403) rfl (by decide) (by decide) ?_; intro v82 T82 L82 X82 hQ82
          obtain ⟨rfl, N82q, e82⟩ := hQ82
          have N82 := Fr.app N80 N82q
          show Rn p e below (T82.setTop (mkF m 403 #[.val (.int p0), .val (.int p1), .val (.int p2), .val (.int p3), .val (.int p4), .val (.int p5), .val (.int (0 : Int32)), .val (.int (1 : Int32)), .val (.int i3), .val (.int i4), .val (.int i5), .val (.int (0 : Int32)), .val (.double r7), .second, .val (.ref b8), .val (.ref b12), .val (.ref b21), .val (.ref b30), .val (.ref b43), .val (.ref b46), .val (.int (0 : Int32)), .val (.int (1 : Int32)), .val (.int i4), .val (.long j77), .second, .val (.long j79), .second, .val (.int i81), .unset, .unset, .unset, .unset] [(.int (own_rowB (1 : Int32) i4))])) G
          generalize hi83 : (own_rowB (1 : Int32) i4) = i83
          refine R.istore X82 hx (hb hby at_403) (L' := #[.val (.int p0), .val (.int p1), .val (.int p2), .val (.int p3), .val (.int p4), .val (.int p5), .val (.int (0 : Int32)), .val (.int (1 : Int32)), .val (.int i3), .val (.int i4), .val (.int i5), .val (.int (0 : Int32)), .val (.double r7), .second, .val (.ref b8), .val (.ref b12), .val (.ref b21), .val (.ref b30), .val (.ref b43), .val (.ref b46), .val (.int (0 : Int32)), .val (.int (1 : Int32)), .val (.int i4), .val (.long j77), .second, .val (.long j79), .second, .val (.int i81), .val (.int i83), .unset, .unset, .unset]) rfl (pc' := 405) rfl ?_
          refine R.iconst X82 hx (hb hby at_405) (v := (1 : Int32)) (by decide) (pc' := 406) rfl ?_
          refine R.istore X82 hx (hb hby at_406) (L' := #[.val (.int p0), .val (.int p1), .val (.int p2), .val (.int p3), .val (.int p4), .val (.int p5), .val (.int (0 : Int32)), .val (.int (1 : Int32)), .val (.int i3), .val (.int i4), .val (.int i5), .val (.int (0 : Int32)), .val (.double r7), .second, .val (.ref b8), .val (.ref b12), .val (.ref b21), .val (.ref b30), .val (.ref b43), .val (.ref b46), .val (.int (0 : Int32)), .val (.int (1 : Int32)), .val (.int i4), .val (.long j77), .second, .val (.long j79), .second, .val (.int i81), .val (.int i83), .val (.int (1 : Int32)), .unset, .unset]) rfl (pc' := 408) rfl ?_
          refine R.iload X82 hx (hb hby at_408) rfl (pc' := 410) rfl ?_
          refine R.ifYes X82 hx (hb hby at_410) (flt (by decide : ¬ ((0 : Int32) < (0 : Int32)))).2.2.2 (by decide) (pc' := 493) (by decide) ?_
          refine R.iload X82 hx (hb hby at_493) rfl (pc' := 495) rfl ?_
          refine R.iconst X82 hx (hb hby at_495) (v := (1 : Int32)) (by decide) (pc' := 496) rfl ?_
          refine R.icmpYes X82 hx (hb hby at_496) (flt (by decide : ¬ ((1 : Int32) < (0 : Int32)))).2.2.2 (by decide) (pc' := 583) (by decide) ?_
          refine R.iload X82 hx (hb hby at_583) rfl (pc' := 585) rfl ?_
          rw [← hG]
          exact Rn.ret X82 (BodyLoose.notSynchronized Bd) (v := some (.int (1 : Int32))) (fun h => by rw [Bd.returns] at h; cases h) (Q := Q0 Z p0 p1 p2 p3 p4 p5 h0 n0) e82 (fun fs hr => retN X82 hx (t := .boolean) Bd.returns (by simp) (hb hby at_585) hr) ⟨rfl, N82⟩ (by decide) (by decide)
        · refine R.aload X47 hx (hb hby at_313) rfl rfl (pc' := 315) rfl ?_
          refine R.iload X47 hx (hb hby at_315) rfl (pc' := 317) rfl ?_
          refine R.aload X47 hx (hb hby at_317) rfl rfl (pc' := 319) rfl ?_
          refine R.iload X47 hx (hb hby at_319) rfl (pc' := 321) rfl ?_
          refine R.aload X47 hx (hb hby at_321) rfl rfl (pc' := 323) rfl ?_
          refine R.virtual X47 hx hZ (y := mY7) (z := mY7) hown w_38 w_39 (notFace_of_selects (args := #[]) (mvT hZ w_41)) w_41 w_40 w_18 w_42 (by decide) e47 E_b46 (rm8 l Z aZ hw [] b46 (0 : Int32) b30 (1 : Int32) b43 b8 b12 b21 k8 k12 k21 k30 k43 [((2 : Int32), (.int ((1 : Int32) + i3))), ((1 : Int32), (.int (1 : Int32))), ((0 : Int32), (.int (0 : Int32)))] [(((1 : Int32) + (1 : Int32)), (.int (own_rowB i3 i5))), ((1 : Int32), (.int (own_rowA i3 i5))), ((1 : Int32), (.int (own_rowB (1 : Int32) i4))), ((0 : Int32), (.int (own_rowA (1 : Int32) i4)))] [((3 : Int32), (.double (FP.l2d (own_wAt (3 : Int32) p1 p2)))), ((2 : Int32), (.double (FP.l2d (own_wAt (2 : Int32) p1 p2)))), ((1 : Int32), (.double (FP.l2d (own_wAt (1 : Int32) p1 p2)))), ((0 : Int32), (.double (FP.l2d (own_wAt (0 : Int32) p1 p2))))] [((5 : Int32), (.double (FP.l2d (own_yAt (5 : Int32) p3 p4 p5)))), ((4 : Int32), (.double (FP.l2d (own_yAt (4 : Int32) p3 p4 p5)))), ((3 : Int32), (.double (FP.l2d (own_yAt (3 : Int32) p3 p4 p5)))), ((2 : Int32), (.double (FP.l2d (own_yAt (2 : Int32) p3 p4 p5)))), ((1 : Int32), (.double (FP.l2d (own_yAt (1 : Int32) p3 p4 p5)))), ((0 : Int32), (.double (FP.l2d (own_yAt (0 : Int32) p3 p4 p5))))] [((1 : Int32), (.double r7)), ((0 : Int32), (.double r7))] (0 : Int32) (1 : Int32) (FP.l2d (own_wAt (0 : Int32) p1 p2)) (FP.l2d (own_wAt ((0 : Int32) + (1 : Int32)) p1 p2)) (own_wAt (0 : Int32) p1 p2).toInt (own_wAt ((0 : Int32) + (1 : Int32)) p1 p2).toInt (own_rowA (1 : Int32) i4) (own_rowB (1 : Int32) i4) (fun i => FP.l2d (own_yAt i p3 p4 p5)) (fun i => (own_yAt i p3 p4 p5).toInt) ((own_wAt (0 : Int32) p1 p2).toInt * (own_yAt ((own_rowA (1 : Int32) i4) * (1 : Int32)) p3 p4 p5).toInt) ((own_wAt (0 : Int32) p1 p2).toInt * (own_yAt (((own_rowA (1 : Int32) i4) * (1 : Int32)) + (1 : Int32)) p3 p4 p5).toInt) h47 n0 Z47 F_start_b46 F_rows_b46 F_values_b46 V_b8 V_b12 V_b21 V_b30 V_b43 g_b43 (Ne.symm ne_b43_b46) ne_b8_b43 ne_b12_b43 ne_b21_b43 ne_b30_b43 (by decide) (rfl) (rfl) (by decide) (by decide) (own_rA h9_) (own_rB) (Or.inr (Or.inl ⟨rfl, rfl, rfl, rfl, rfl⟩)) (Dy.l2d (by have := own_wb (0 : Int32) p1 p2; omega)) (Dy.l2d (by have := own_wb ((0 : Int32) + (1 : Int32)) p1 p2; omega)) (own_wb _ _ _) (own_wb _ _ _) (own_rdy)) (by decide) (W := 0) (Nat.le_of_eq rfl) (by decide) (by rw [hml]; rfl) (lenOf pd_6 rfl) rfl (hb hby at_323) (pc' := 326) rfl (by decide) (by decide) ?_; intro v84 T84 L84 X84 hQ84
          obtain ⟨hj_84, rfl, N84q, Kc84, P84_0, P84_1, P84_2⟩ := hQ84
          have N84 := Fr.app N47 N84q
          generalize e84 : T84.heap = h84 at Kc84 P84_0 P84_1 P84_2
          have K84 : Keep h0 h84 [] := K47.trans Kc84 ((allS (Or.inr sz_b43) all0))
          have Z84 : n0 ≤ h84.size := Nat.le_trans Z47 Kc84.1
          have V_b8 := V_b8.keep Kc84 (ninS ne_b8_b43 nin0)
          have V_b12 := V_b12.keep Kc84 (ninS ne_b12_b43 nin0)
          have V_b21 := V_b21.keep Kc84 (ninS ne_b21_b43 nin0)
          have V_b30 := V_b30.keep Kc84 (ninS ne_b30_b43 nin0)
          have E_b46 := E_b46.keep Kc84
          have F_start_b46 := F_start_b46.keep Kc84 (ninS (Ne.symm ne_b43_b46) nin0)
          have F_rows_b46 := F_rows_b46.keep Kc84 (ninS (Ne.symm ne_b43_b46) nin0)
          have F_values_b46 := F_values_b46.keep Kc84 (ninS (Ne.symm ne_b43_b46) nin0)
          have V_b43 : Arh Z h84 b43 k43 .double (2 : Int32) hj_84 [] (.double (0 : UInt64)) := P84_0
          have V_b43 : Arh Z h84 b43 k43 .double (2 : Int32) hj_84 [] (.double (0 : UInt64)) := V_b43
          have c0_84 := P84_1
          have c1_84 := P84_2
          refine R.iload X84 hx (hb hby at_326) rfl (pc' := 328) rfl ?_
          refine R.ifNo X84 hx (hb hby at_328) (teq (by decide : (0 : Int32) = (0 : Int32))).2 (pc' := 331) rfl ?_
          refine R.iconst X84 hx (hb hby at_331) (v := (0 : Int32)) (by decide) (pc' := 332) rfl ?_
          refine R.goto X84 hx (hb hby at_332) (by decide) (pc' := 337) (by decide) ?_
          refine R.istore X84 hx (hb hby at_337) (L' := #[.val (.int p0), .val (.int p1), .val (.int p2), .val (.int p3), .val (.int p4), .val (.int p5), .val (.int (0 : Int32)), .val (.int (1 : Int32)), .val (.int i3), .val (.int i4), .val (.int i5), .val (.int (1 : Int32)), .val (.double r7), .second, .val (.ref b8), .val (.ref b12), .val (.ref b21), .val (.ref b30), .val (.ref b43), .val (.ref b46), .val (.int (0 : Int32)), .unset, .unset, .unset, .unset, .unset, .unset, .unset, .unset, .unset, .unset, .unset]) rfl (pc' := 339) rfl ?_
          refine R.iload X84 hx (hb hby at_339) rfl (pc' := 341) rfl ?_
          refine R.ifNo X84 hx (hb hby at_341) (teq (by decide : (0 : Int32) = (0 : Int32))).2 (pc' := 344) rfl ?_
          refine R.iload X84 hx (hb hby at_344) rfl (pc' := 346) rfl ?_
          refine R.goto X84 hx (hb hby at_346) (by decide) (pc' := 351) (by decide) ?_
          refine R.istore X84 hx (hb hby at_351) (L' := #[.val (.int p0), .val (.int p1), .val (.int p2), .val (.int p3), .val (.int p4), .val (.int p5), .val (.int (0 : Int32)), .val (.int (1 : Int32)), .val (.int i3), .val (.int i4), .val (.int i5), .val (.int (1 : Int32)), .val (.double r7), .second, .val (.ref b8), .val (.ref b12), .val (.ref b21), .val (.ref b30), .val (.ref b43), .val (.ref b46), .val (.int (0 : Int32)), .val (.int (1 : Int32)), .unset, .unset, .unset, .unset, .unset, .unset, .unset, .unset, .unset, .unset]) rfl (pc' := 353) rfl ?_
          refine R.iload X84 hx (hb hby at_353) rfl (pc' := 355) rfl ?_
          refine R.ifNo X84 hx (hb hby at_355) (teq (by decide : (0 : Int32) = (0 : Int32))).2 (pc' := 358) rfl ?_
          refine R.iload X84 hx (hb hby at_358) rfl (pc' := 360) rfl ?_
          refine R.goto X84 hx (hb hby at_360) (by decide) (pc' := 365) (by decide) ?_
          refine R.istore X84 hx (hb hby at_365) (L' := #[.val (.int p0), .val (.int p1), .val (.int p2), .val (.int p3), .val (.int p4), .val (.int p5), .val (.int (0 : Int32)), .val (.int (1 : Int32)), .val (.int i3), .val (.int i4), .val (.int i5), .val (.int (1 : Int32)), .val (.double r7), .second, .val (.ref b8), .val (.ref b12), .val (.ref b21), .val (.ref b30), .val (.ref b43), .val (.ref b46), .val (.int (0 : Int32)), .val (.int (1 : Int32)), .val (.int i4), .unset, .unset, .unset, .unset, .unset, .unset, .unset, .unset, .unset]) rfl (pc' := 367) rfl ?_
          refine R.iload X84 hx (hb hby at_367) rfl (pc' := 369) rfl ?_
          refine R.iloadN X84 hx (hb hby at_369) rfl (pc' := 370) rfl ?_
          refine R.iloadN X84 hx (hb hby at_370) rfl (pc' := 371) rfl ?_
          refine R.callS X84 hx hZ (y := mY4) hown w_10 w_11 w_4 w_12 (by decide) e84 (rm3 l Z aZ hw [] (0 : Int32) p1 p2 h84 n0 Z84 ) (by decide) (W := 0) (Nat.le_of_eq rfl) (by decide) (by rw [hml]; rfl) (lenOf pd_3 rfl) rfl (hb hby at_371) (pc' := 374) rfl (by decide) (by decide) ?_; intro v85 T85 L85 X85 hQ85
          obtain ⟨rfl, N85q, e85⟩ := hQ85
          have N85 := Fr.app N84 N85q
          show Rn p e below (T85.setTop (mkF m 374 #[.val (.int p0), .val (.int p1), .val (.int p2), .val (.int p3), .val (.int p4), .val (.int p5), .val (.int (0 : Int32)), .val (.int (1 : Int32)), .val (.int i3), .val (.int i4), .val (.int i5), .val (.int (1 : Int32)), .val (.double r7), .second, .val (.ref b8), .val (.ref b12), .val (.ref b21), .val (.ref b30), .val (.ref b43), .val (.ref b46), .val (.int (0 : Int32)), .val (.int (1 : Int32)), .val (.int i4), .unset, .unset, .unset, .unset, .unset, .unset, .unset, .unset, .unset] [(.long (own_wAt (0 : Int32) p1 p2))])) G
          generalize hj86 : (own_wAt (0 : Int32) p1 p2) = j86
          refine R.lstore X85 hx (hb hby at_374) (L' := #[.val (.int p0), .val (.int p1), .val (.int p2), .val (.int p3), .val (.int p4), .val (.int p5), .val (.int (0 : Int32)), .val (.int (1 : Int32)), .val (.int i3), .val (.int i4), .val (.int i5), .val (.int (1 : Int32)), .val (.double r7), .second, .val (.ref b8), .val (.ref b12), .val (.ref b21), .val (.ref b30), .val (.ref b43), .val (.ref b46), .val (.int (0 : Int32)), .val (.int (1 : Int32)), .val (.int i4), .val (.long j86), .second, .unset, .unset, .unset, .unset, .unset, .unset, .unset]) rfl (pc' := 376) rfl ?_
          refine R.iload X85 hx (hb hby at_376) rfl (pc' := 378) rfl ?_
          refine R.iconst X85 hx (hb hby at_378) (v := (1 : Int32)) (by decide) (pc' := 379) rfl ?_
          refine R.iadd X85 hx (hb hby at_379) (v := (1 : Int32)) (by decide) (pc' := 380) rfl ?_
          refine R.iloadN X85 hx (hb hby at_380) rfl (pc' := 381) rfl ?_
          refine R.iloadN X85 hx (hb hby at_381) rfl (pc' := 382) rfl ?_
          refine R.callS X85 hx hZ (y := mY4) hown w_10 w_11 w_4 w_12 (by decide) e85 (rm3 l Z aZ hw [] (1 : Int32) p1 p2 h84 n0 Z84 ) (by decide) (W := 0) (Nat.le_of_eq rfl) (by decide) (by rw [hml]; rfl) (lenOf pd_3 rfl) rfl (hb hby at_382) (pc' := 385) rfl (by decide) (by decide) ?_; intro v87 T87 L87 X87 hQ87
          obtain ⟨rfl, N87q, e87⟩ := hQ87
          have N87 := Fr.app N85 N87q
          show Rn p e below (T87.setTop (mkF m 385 #[.val (.int p0), .val (.int p1), .val (.int p2), .val (.int p3), .val (.int p4), .val (.int p5), .val (.int (0 : Int32)), .val (.int (1 : Int32)), .val (.int i3), .val (.int i4), .val (.int i5), .val (.int (1 : Int32)), .val (.double r7), .second, .val (.ref b8), .val (.ref b12), .val (.ref b21), .val (.ref b30), .val (.ref b43), .val (.ref b46), .val (.int (0 : Int32)), .val (.int (1 : Int32)), .val (.int i4), .val (.long j86), .second, .unset, .unset, .unset, .unset, .unset, .unset, .unset] [(.long (own_wAt (1 : Int32) p1 p2))])) G
          generalize hj88 : (own_wAt (1 : Int32) p1 p2) = j88
          refine R.lstore X87 hx (hb hby at_385) (L' := #[.val (.int p0), .val (.int p1), .val (.int p2), .val (.int p3), .val (.int p4), .val (.int p5), .val (.int (0 : Int32)), .val (.int (1 : Int32)), .val (.int i3), .val (.int i4), .val (.int i5), .val (.int (1 : Int32)), .val (.double r7), .second, .val (.ref b8), .val (.ref b12), .val (.ref b21), .val (.ref b30), .val (.ref b43), .val (.ref b46), .val (.int (0 : Int32)), .val (.int (1 : Int32)), .val (.int i4), .val (.long j86), .second, .val (.long j88), .second, .unset, .unset, .unset, .unset, .unset]) rfl (pc' := 387) rfl ?_
          refine R.iload X87 hx (hb hby at_387) rfl (pc' := 389) rfl ?_
          refine R.iload X87 hx (hb hby at_389) rfl (pc' := 391) rfl ?_
          refine R.callS X87 hx hZ (y := mY2) hown w_2 w_3 w_4 w_5 (by decide) e87 (rm1 l Z aZ hw [] (1 : Int32) i4 h84 n0 Z84 ) (by decide) (W := 0) (Nat.le_of_eq rfl) (by decide) (by rw [hml]; rfl) (lenOf pd_2 rfl) rfl (hb hby at_391) (pc' := 394) rfl (by decide) (by decide) ?_; intro v89 T89 L89 X89 hQ89
          obtain ⟨rfl, N89q, e89⟩ := hQ89
          have N89 := Fr.app N87 N89q
          show Rn p e below (T89.setTop (mkF m 394 #[.val (.int p0), .val (.int p1), .val (.int p2), .val (.int p3), .val (.int p4), .val (.int p5), .val (.int (0 : Int32)), .val (.int (1 : Int32)), .val (.int i3), .val (.int i4), .val (.int i5), .val (.int (1 : Int32)), .val (.double r7), .second, .val (.ref b8), .val (.ref b12), .val (.ref b21), .val (.ref b30), .val (.ref b43), .val (.ref b46), .val (.int (0 : Int32)), .val (.int (1 : Int32)), .val (.int i4), .val (.long j86), .second, .val (.long j88), .second, .unset, .unset, .unset, .unset, .unset] [(.int (own_rowA (1 : Int32) i4))])) G
          generalize hi90 : (own_rowA (1 : Int32) i4) = i90
          refine R.istore X89 hx (hb hby at_394) (L' := #[.val (.int p0), .val (.int p1), .val (.int p2), .val (.int p3), .val (.int p4), .val (.int p5), .val (.int (0 : Int32)), .val (.int (1 : Int32)), .val (.int i3), .val (.int i4), .val (.int i5), .val (.int (1 : Int32)), .val (.double r7), .second, .val (.ref b8), .val (.ref b12), .val (.ref b21), .val (.ref b30), .val (.ref b43), .val (.ref b46), .val (.int (0 : Int32)), .val (.int (1 : Int32)), .val (.int i4), .val (.long j86), .second, .val (.long j88), .second, .val (.int i90), .unset, .unset, .unset, .unset]) rfl (pc' := 396) rfl ?_
          refine R.iload X89 hx (hb hby at_396) rfl (pc' := 398) rfl ?_
          refine R.iload X89 hx (hb hby at_398) rfl (pc' := 400) rfl ?_
          refine R.callS X89 hx hZ (y := mY3) hown w_6 w_7 w_4 w_8 (by decide) e89 (rm2 l Z aZ hw [] (1 : Int32) i4 h84 n0 Z84 ) (by decide) (W := 0) (Nat.le_of_eq rfl) (by decide) (by rw [hml]; rfl) (lenOf pd_2 rfl) rfl (hb hby at_400) (pc' := 403) rfl (by decide) (by decide) ?_; intro v91 T91 L91 X91 hQ91
          obtain ⟨rfl, N91q, e91⟩ := hQ91
          have N91 := Fr.app N89 N91q
          show Rn p e below (T91.setTop (mkF m 403 #[.val (.int p0), .val (.int p1), .val (.int p2), .val (.int p3), .val (.int p4), .val (.int p5), .val (.int (0 : Int32)), .val (.int (1 : Int32)), .val (.int i3), .val (.int i4), .val (.int i5), .val (.int (1 : Int32)), .val (.double r7), .second, .val (.ref b8), .val (.ref b12), .val (.ref b21), .val (.ref b30), .val (.ref b43), .val (.ref b46), .val (.int (0 : Int32)), .val (.int (1 : Int32)), .val (.int i4), .val (.long j86), .second, .val (.long j88), .second, .val (.int i90), .unset, .unset, .unset, .unset] [(.int (own_rowB (1 : Int32) i4))])) G
          generalize hi92 : (own_rowB (1 : Int32) i4) = i92
          refine R.istore X91 hx (hb hby at_403) (L' := #[.val (.int p0), .val (.int p1), .val (.int p2), .val (.int p3), .val (.int p4), .val (.int p5), .val (.int (0 : Int32)), .val (.int (1 : Int32)), .val (.int i3), .val (.int i4), .val (.int i5), .val (.int (1 : Int32)), .val (.double r7), .second, .val (.ref b8), .val (.ref b12), .val (.ref b21), .val (.ref b30), .val (.ref b43), .val (.ref b46), .val (.int (0 : Int32)), .val (.int (1 : Int32)), .val (.int i4), .val (.long j86), .second, .val (.long j88), .second, .val (.int i90), .val (.int i92), .unset, .unset, .unset]) rfl (pc' := 405) rfl ?_
          refine R.iconst X91 hx (hb hby at_405) (v := (1 : Int32)) (by decide) (pc' := 406) rfl ?_
          refine R.istore X91 hx (hb hby at_406) (L' := #[.val (.int p0), .val (.int p1), .val (.int p2), .val (.int p3), .val (.int p4), .val (.int p5), .val (.int (0 : Int32)), .val (.int (1 : Int32)), .val (.int i3), .val (.int i4), .val (.int i5), .val (.int (1 : Int32)), .val (.double r7), .second, .val (.ref b8), .val (.ref b12), .val (.ref b21), .val (.ref b30), .val (.ref b43), .val (.ref b46), .val (.int (0 : Int32)), .val (.int (1 : Int32)), .val (.int i4), .val (.long j86), .second, .val (.long j88), .second, .val (.int i90), .val (.int i92), .val (.int (1 : Int32)), .unset, .unset]) rfl (pc' := 408) rfl ?_
          refine R.iload X91 hx (hb hby at_408) rfl (pc' := 410) rfl ?_
          refine R.ifNo X91 hx (hb hby at_410) (tlt (by decide : (0 : Int32) < (1 : Int32))).2.2.2 (pc' := 413) rfl ?_
          refine R.lconst X91 hx (hb hby at_413) (v := (0 : Int64)) (by decide) (pc' := 414) rfl ?_
          refine R.lstore X91 hx (hb hby at_414) (L' := #[.val (.int p0), .val (.int p1), .val (.int p2), .val (.int p3), .val (.int p4), .val (.int p5), .val (.int (0 : Int32)), .val (.int (1 : Int32)), .val (.int i3), .val (.int i4), .val (.int i5), .val (.int (1 : Int32)), .val (.double r7), .second, .val (.ref b8), .val (.ref b12), .val (.ref b21), .val (.ref b30), .val (.ref b43), .val (.ref b46), .val (.int (0 : Int32)), .val (.int (1 : Int32)), .val (.int i4), .val (.long j86), .second, .val (.long j88), .second, .val (.int i90), .val (.int i92), .val (.int (1 : Int32)), .val (.long (0 : Int64)), .second]) rfl (pc' := 416) rfl ?_
          refine R.iload X91 hx (hb hby at_416) rfl (pc' := 418) rfl ?_
          refine R.iconst X91 hx (hb hby at_418) (v := (1 : Int32)) (by decide) (pc' := 419) rfl ?_
          refine R.icmpNo X91 hx (hb hby at_419) (flt (by decide : ¬ ((1 : Int32) < (1 : Int32)))).1 (pc' := 422) rfl ?_
          refine R.lload X91 hx (hb hby at_422) rfl (pc' := 424) rfl ?_
          refine R.lload X91 hx (hb hby at_424) rfl (pc' := 426) rfl ?_
          refine R.iload X91 hx (hb hby at_426) rfl (pc' := 428) rfl ?_
          refine R.iload X91 hx (hb hby at_428) rfl (pc' := 430) rfl ?_
          refine R.imul X91 hx (hb hby at_430) rfl (pc' := 431) rfl ?_
          refine R.iloadN X91 hx (hb hby at_431) rfl (pc' := 432) rfl ?_
          refine R.iload X91 hx (hb hby at_432) rfl (pc' := 434) rfl ?_
          refine R.iload X91 hx (hb hby at_434) rfl (pc' := 436) rfl ?_
          refine R.callS X91 hx hZ (y := mY5) hown w_13 w_14 w_4 w_15 (by decide) e91 (rm4 l Z aZ hw [] (i90 * (1 : Int32)) p3 p4 p5 h84 n0 Z84 ) (by decide) (W := 4) (Nat.le_of_eq rfl) (by decide) (by rw [hml]; rfl) (lenOf pd_4 rfl) rfl (hb hby at_436) (pc' := 439) rfl (by decide) (by decide) ?_; intro v93 T93 L93 X93 hQ93
          obtain ⟨rfl, N93q, e93⟩ := hQ93
          have N93 := Fr.app N91 N93q
          refine R.lmul X93 hx (hb hby at_439) rfl (pc' := 440) rfl ?_
          refine R.ladd X93 hx (hb hby at_440) rfl (pc' := 441) rfl ?_
          show Rn p e below (T93.setTop (mkF m 441 #[.val (.int p0), .val (.int p1), .val (.int p2), .val (.int p3), .val (.int p4), .val (.int p5), .val (.int (0 : Int32)), .val (.int (1 : Int32)), .val (.int i3), .val (.int i4), .val (.int i5), .val (.int (1 : Int32)), .val (.double r7), .second, .val (.ref b8), .val (.ref b12), .val (.ref b21), .val (.ref b30), .val (.ref b43), .val (.ref b46), .val (.int (0 : Int32)), .val (.int (1 : Int32)), .val (.int i4), .val (.long j86), .second, .val (.long j88), .second, .val (.int i90), .val (.int i92), .val (.int (1 : Int32)), .val (.long (0 : Int64)), .second] [(.long ((0 : Int64) + (j86 * (own_yAt (i90 * (1 : Int32)) p3 p4 p5))))])) G
          generalize hj94 : ((0 : Int64) + (j86 * (own_yAt (i90 * (1 : Int32)) p3 p4 p5))) = j94
          refine R.lstore X93 hx (hb hby at_441) (L' := #[.val (.int p0), .val (.int p1), .val (.int p2), .val (.int p3), .val (.int p4), .val (.int p5), .val (.int (0 : Int32)), .val (.int (1 : Int32)), .val (.int i3), .val (.int i4), .val (.int i5), .val (.int (1 : Int32)), .val (.double r7), .second, .val (.ref b8), .val (.ref b12), .val (.ref b21), .val (.ref b30), .val (.ref b43), .val (.ref b46), .val (.int (0 : Int32)), .val (.int (1 : Int32)), .val (.int i4), .val (.long j86), .second, .val (.long j88), .second, .val (.int i90), .val (.int i92), .val (.int (1 : Int32)), .val (.long j94), .second]) rfl (pc' := 443) rfl ?_
          have tr0_1 := own_mulY (by rw [← hj86]; exact own_wb _ _ _) (own_yb _ _ _ _) hj94
          rw [← hj86, ← hi90] at tr0_1
          refine R.iload X93 hx (hb hby at_443) rfl (pc' := 445) rfl ?_
          refine R.iconst X93 hx (hb hby at_445) (v := (2 : Int32)) (by decide) (pc' := 446) rfl ?_
          refine R.icmpYes X93 hx (hb hby at_446) (tlt (by decide : (1 : Int32) < (2 : Int32))).1 (by decide) (pc' := 470) (by decide) ?_
          obtain ⟨xv0, hxv0, Dx0⟩ := c0_84 (by decide)
          refine R.iload X93 hx (hb hby at_470) rfl (pc' := 472) rfl ?_
          refine R.ifNo X93 hx (hb hby at_472) (feq (by decide : ¬ ((1 : Int32) = (0 : Int32)))).1 (pc' := 475) rfl ?_
          refine R.aload X93 hx (hb hby at_475) rfl rfl (pc' := 477) rfl ?_
          refine R.iconst X93 hx (hb hby at_477) (v := (0 : Int32)) (by decide) (pc' := 478) rfl ?_
          refine R.daload X93 hx hZ e93 V_b43 (⟨by decide, by decide⟩ : ¬ (0 : Int32) < 0 ∧ (0 : Int32) < (2 : Int32)) (v := (.double xv0)) (hxv0) (hb hby at_478) (pc' := 479) rfl ?_
          refine R.lload X93 hx (hb hby at_479) rfl (pc' := 481) rfl ?_
          refine R.l2d X93 hx (hb hby at_481) (pc' := 482) rfl ?_
          refine R.dcmp X93 hx (hb hby at_482) (Dx0.cmp ((Dy.l2d (by rw [tr0_1]; have q1 := own_pb (own_wb (0 : Int32) p1 p2) (own_yb ((own_rowA (1 : Int32) i4) * (1 : Int32)) p3 p4 p5); have q2 := own_pb (own_wb ((0 : Int32) + (1 : Int32)) p1 p2) (own_yb ((own_rowB (1 : Int32) i4) * (1 : Int32)) p3 p4 p5); first | exact own_nab2 q1 q2 (by decide) | exact own_nab1 q1 (by decide) | omega)).cast tr0_1 rfl) _ : cmpValue (FP.dcmp xv0 (FP.l2d j94)) .l = (own_ci ((own_wAt (0 : Int32) p1 p2).toInt * (own_yAt ((own_rowA (1 : Int32) i4) * (1 : Int32)) p3 p4 p5).toInt) ((own_wAt (0 : Int32) p1 p2).toInt * (own_yAt ((own_rowA (1 : Int32) i4) * (1 : Int32)) p3 p4 p5).toInt))) (pc' := 483) rfl ?_
          refine R.ifNo X93 hx (hb hby at_483) (teq (own_ci_eq.mpr rfl : (own_ci ((own_wAt (0 : Int32) p1 p2).toInt * (own_yAt ((own_rowA (1 : Int32) i4) * (1 : Int32)) p3 p4 p5).toInt) ((own_wAt (0 : Int32) p1 p2).toInt * (own_yAt ((own_rowA (1 : Int32) i4) * (1 : Int32)) p3 p4 p5).toInt)) = (0 : Int32))).2 (pc' := 486) rfl ?_
          refine R.iconst X93 hx (hb hby at_486) (v := (1 : Int32)) (by decide) (pc' := 487) rfl ?_
          refine R.goto X93 hx (hb hby at_487) (by decide) (pc' := 491) (by decide) ?_
          refine R.istore X93 hx (hb hby at_491) (L' := #[.val (.int p0), .val (.int p1), .val (.int p2), .val (.int p3), .val (.int p4), .val (.int p5), .val (.int (0 : Int32)), .val (.int (1 : Int32)), .val (.int i3), .val (.int i4), .val (.int i5), .val (.int (1 : Int32)), .val (.double r7), .second, .val (.ref b8), .val (.ref b12), .val (.ref b21), .val (.ref b30), .val (.ref b43), .val (.ref b46), .val (.int (0 : Int32)), .val (.int (1 : Int32)), .val (.int i4), .val (.long j86), .second, .val (.long j88), .second, .val (.int i90), .val (.int i92), .val (.int (1 : Int32)), .val (.long j94), .second]) rfl (pc' := 493) rfl ?_
          refine R.iload X93 hx (hb hby at_493) rfl (pc' := 495) rfl ?_
          refine R.iconst X93 hx (hb hby at_495) (v := (1 : Int32)) (by decide) (pc' := 496) rfl ?_
          refine R.icmpYes X93 hx (hb hby at_496) (flt (by decide : ¬ ((1 : Int32) < (1 : Int32)))).2.2.2 (by decide) (pc' := 583) (by decide) ?_
          refine R.iload X93 hx (hb hby at_583) rfl (pc' := 585) rfl ?_
          rw [← hG]
          exact Rn.ret X93 (BodyLoose.notSynchronized Bd) (v := some (.int (1 : Int32))) (fun h => by rw [Bd.returns] at h; cases h) (Q := Q0 Z p0 p1 p2 p3 p4 p5 h0 n0) e93 (fun fs hr => retN X93 hx (t := .boolean) Bd.returns (by simp) (hb hby at_585) hr) ⟨rfl, N93⟩ (by decide) (by decide)
        · refine R.aload X47 hx (hb hby at_313) rfl rfl (pc' := 315) rfl ?_
          refine R.iload X47 hx (hb hby at_315) rfl (pc' := 317) rfl ?_
          refine R.aload X47 hx (hb hby at_317) rfl rfl (pc' := 319) rfl ?_
          refine R.iload X47 hx (hb hby at_319) rfl (pc' := 321) rfl ?_
          refine R.aload X47 hx (hb hby at_321) rfl rfl (pc' := 323) rfl ?_
          refine R.virtual X47 hx hZ (y := mY7) (z := mY7) hown w_38 w_39 (notFace_of_selects (args := #[]) (mvT hZ w_41)) w_41 w_40 w_18 w_42 (by decide) e47 E_b46 (rm8 l Z aZ hw [] b46 (0 : Int32) b30 (2 : Int32) b43 b8 b12 b21 k8 k12 k21 k30 k43 [((2 : Int32), (.int ((1 : Int32) + i3))), ((1 : Int32), (.int (1 : Int32))), ((0 : Int32), (.int (0 : Int32)))] [(((1 : Int32) + (1 : Int32)), (.int (own_rowB i3 i5))), ((1 : Int32), (.int (own_rowA i3 i5))), ((1 : Int32), (.int (own_rowB (1 : Int32) i4))), ((0 : Int32), (.int (own_rowA (1 : Int32) i4)))] [((3 : Int32), (.double (FP.l2d (own_wAt (3 : Int32) p1 p2)))), ((2 : Int32), (.double (FP.l2d (own_wAt (2 : Int32) p1 p2)))), ((1 : Int32), (.double (FP.l2d (own_wAt (1 : Int32) p1 p2)))), ((0 : Int32), (.double (FP.l2d (own_wAt (0 : Int32) p1 p2))))] [((5 : Int32), (.double (FP.l2d (own_yAt (5 : Int32) p3 p4 p5)))), ((4 : Int32), (.double (FP.l2d (own_yAt (4 : Int32) p3 p4 p5)))), ((3 : Int32), (.double (FP.l2d (own_yAt (3 : Int32) p3 p4 p5)))), ((2 : Int32), (.double (FP.l2d (own_yAt (2 : Int32) p3 p4 p5)))), ((1 : Int32), (.double (FP.l2d (own_yAt (1 : Int32) p3 p4 p5)))), ((0 : Int32), (.double (FP.l2d (own_yAt (0 : Int32) p3 p4 p5))))] [((1 : Int32), (.double r7)), ((0 : Int32), (.double r7))] (0 : Int32) (1 : Int32) (FP.l2d (own_wAt (0 : Int32) p1 p2)) (FP.l2d (own_wAt ((0 : Int32) + (1 : Int32)) p1 p2)) (own_wAt (0 : Int32) p1 p2).toInt (own_wAt ((0 : Int32) + (1 : Int32)) p1 p2).toInt (own_rowA (1 : Int32) i4) (own_rowB (1 : Int32) i4) (fun i => FP.l2d (own_yAt i p3 p4 p5)) (fun i => (own_yAt i p3 p4 p5).toInt) ((own_wAt (0 : Int32) p1 p2).toInt * (own_yAt ((own_rowA (1 : Int32) i4) * (2 : Int32)) p3 p4 p5).toInt) ((own_wAt (0 : Int32) p1 p2).toInt * (own_yAt (((own_rowA (1 : Int32) i4) * (2 : Int32)) + (1 : Int32)) p3 p4 p5).toInt) h47 n0 Z47 F_start_b46 F_rows_b46 F_values_b46 V_b8 V_b12 V_b21 V_b30 V_b43 g_b43 (Ne.symm ne_b43_b46) ne_b8_b43 ne_b12_b43 ne_b21_b43 ne_b30_b43 (by decide) (rfl) (rfl) (by decide) (by decide) (own_rA h9_) (own_rB) (Or.inr (Or.inl ⟨rfl, rfl, rfl, rfl, rfl⟩)) (Dy.l2d (by have := own_wb (0 : Int32) p1 p2; omega)) (Dy.l2d (by have := own_wb ((0 : Int32) + (1 : Int32)) p1 p2; omega)) (own_wb _ _ _) (own_wb _ _ _) (own_rdy)) (by decide) (W := 0) (Nat.le_of_eq rfl) (by decide) (by rw [hml]; rfl) (lenOf pd_6 rfl) rfl (hb hby at_323) (pc' := 326) rfl (by decide) (by decide) ?_; intro v95 T95 L95 X95 hQ95
          obtain ⟨hj_95, rfl, N95q, Kc95, P95_0, P95_1, P95_2⟩ := hQ95
          have N95 := Fr.app N47 N95q
          generalize e95 : T95.heap = h95 at Kc95 P95_0 P95_1 P95_2
          have K95 : Keep h0 h95 [] := K47.trans Kc95 ((allS (Or.inr sz_b43) all0))
          have Z95 : n0 ≤ h95.size := Nat.le_trans Z47 Kc95.1
          have V_b8 := V_b8.keep Kc95 (ninS ne_b8_b43 nin0)
          have V_b12 := V_b12.keep Kc95 (ninS ne_b12_b43 nin0)
          have V_b21 := V_b21.keep Kc95 (ninS ne_b21_b43 nin0)
          have V_b30 := V_b30.keep Kc95 (ninS ne_b30_b43 nin0)
          have E_b46 := E_b46.keep Kc95
          have F_start_b46 := F_start_b46.keep Kc95 (ninS (Ne.symm ne_b43_b46) nin0)
          have F_rows_b46 := F_rows_b46.keep Kc95 (ninS (Ne.symm ne_b43_b46) nin0)
          have F_values_b46 := F_values_b46.keep Kc95 (ninS (Ne.symm ne_b43_b46) nin0)
          have V_b43 : Arh Z h95 b43 k43 .double (2 : Int32) hj_95 [] (.double (0 : UInt64)) := P95_0
          have V_b43 : Arh Z h95 b43 k43 .double (2 : Int32) hj_95 [] (.double (0 : UInt64)) := V_b43
          have c0_95 := P95_1
          have c1_95 := P95_2
          refine R.iload X95 hx (hb hby at_326) rfl (pc' := 328) rfl ?_
          refine R.ifNo X95 hx (hb hby at_328) (teq (by decide : (0 : Int32) = (0 : Int32))).2 (pc' := 331) rfl ?_
          refine R.iconst X95 hx (hb hby at_331) (v := (0 : Int32)) (by decide) (pc' := 332) rfl ?_
          refine R.goto X95 hx (hb hby at_332) (by decide) (pc' := 337) (by decide) ?_
          refine R.istore X95 hx (hb hby at_337) (L' := #[.val (.int p0), .val (.int p1), .val (.int p2), .val (.int p3), .val (.int p4), .val (.int p5), .val (.int (0 : Int32)), .val (.int (1 : Int32)), .val (.int i3), .val (.int i4), .val (.int i5), .val (.int (2 : Int32)), .val (.double r7), .second, .val (.ref b8), .val (.ref b12), .val (.ref b21), .val (.ref b30), .val (.ref b43), .val (.ref b46), .val (.int (0 : Int32)), .unset, .unset, .unset, .unset, .unset, .unset, .unset, .unset, .unset, .unset, .unset]) rfl (pc' := 339) rfl ?_
          refine R.iload X95 hx (hb hby at_339) rfl (pc' := 341) rfl ?_
          refine R.ifNo X95 hx (hb hby at_341) (teq (by decide : (0 : Int32) = (0 : Int32))).2 (pc' := 344) rfl ?_
          refine R.iload X95 hx (hb hby at_344) rfl (pc' := 346) rfl ?_
          refine R.goto X95 hx (hb hby at_346) (by decide) (pc' := 351) (by decide) ?_
          refine R.istore X95 hx (hb hby at_351) (L' := #[.val (.int p0), .val (.int p1), .val (.int p2), .val (.int p3), .val (.int p4), .val (.int p5), .val (.int (0 : Int32)), .val (.int (1 : Int32)), .val (.int i3), .val (.int i4), .val (.int i5), .val (.int (2 : Int32)), .val (.double r7), .second, .val (.ref b8), .val (.ref b12), .val (.ref b21), .val (.ref b30), .val (.ref b43), .val (.ref b46), .val (.int (0 : Int32)), .val (.int (1 : Int32)), .unset, .unset, .unset, .unset, .unset, .unset, .unset, .unset, .unset, .unset]) rfl (pc' := 353) rfl ?_
          refine R.iload X95 hx (hb hby at_353) rfl (pc' := 355) rfl ?_
          refine R.ifNo X95 hx (hb hby at_355) (teq (by decide : (0 : Int32) = (0 : Int32))).2 (pc' := 358) rfl ?_
          refine R.iload X95 hx (hb hby at_358) rfl (pc' := 360) rfl ?_
          refine R.goto X95 hx (hb hby at_360) (by decide) (pc' := 365) (by decide) ?_
          refine R.istore X95 hx (hb hby at_365) (L' := #[.val (.int p0), .val (.int p1), .val (.int p2), .val (.int p3), .val (.int p4), .val (.int p5), .val (.int (0 : Int32)), .val (.int (1 : Int32)), .val (.int i3), .val (.int i4), .val (.int i5), .val (.int (2 : Int32)), .val (.double r7), .second, .val (.ref b8), .val (.ref b12), .val (.ref b21), .val (.ref b30), .val (.ref b43), .val (.ref b46), .val (.int (0 : Int32)), .val (.int (1 : Int32)), .val (.int i4), .unset, .unset, .unset, .unset, .unset, .unset, .unset, .unset, .unset]) rfl (pc' := 367) rfl ?_
          refine R.iload X95 hx (hb hby at_367) rfl (pc' := 369) rfl ?_
          refine R.iloadN X95 hx (hb hby at_369) rfl (pc' := 370) rfl ?_
          refine R.iloadN X95 hx (hb hby at_370) rfl (pc' := 371) rfl ?_
          refine R.callS X95 hx hZ (y := mY4) hown w_10 w_11 w_4 w_12 (by decide) e95 (rm3 l Z aZ hw [] (0 : Int32) p1 p2 h95 n0 Z95 ) (by decide) (W := 0) (Nat.le_of_eq rfl) (by decide) (by rw [hml]; rfl) (lenOf pd_3 rfl) rfl (hb hby at_371) (pc' := 374) rfl (by decide) (by decide) ?_; intro v96 T96 L96 X96 hQ96
          obtain ⟨rfl, N96q, e96⟩ := hQ96
          have N96 := Fr.app N95 N96q
          show Rn p e below (T96.setTop (mkF m 374 #[.val (.int p0), .val (.int p1), .val (.int p2), .val (.int p3), .val (.int p4), .val (.int p5), .val (.int (0 : Int32)), .val (.int (1 : Int32)), .val (.int i3), .val (.int i4), .val (.int i5), .val (.int (2 : Int32)), .val (.double r7), .second, .val (.ref b8), .val (.ref b12), .val (.ref b21), .val (.ref b30), .val (.ref b43), .val (.ref b46), .val (.int (0 : Int32)), .val (.int (1 : Int32)), .val (.int i4), .unset, .unset, .unset, .unset, .unset, .unset, .unset, .unset, .unset] [(.long (own_wAt (0 : Int32) p1 p2))])) G
          generalize hj97 : (own_wAt (0 : Int32) p1 p2) = j97
          refine R.lstore X96 hx (hb hby at_374) (L' := #[.val (.int p0), .val (.int p1), .val (.int p2), .val (.int p3), .val (.int p4), .val (.int p5), .val (.int (0 : Int32)), .val (.int (1 : Int32)), .val (.int i3), .val (.int i4), .val (.int i5), .val (.int (2 : Int32)), .val (.double r7), .second, .val (.ref b8), .val (.ref b12), .val (.ref b21), .val (.ref b30), .val (.ref b43), .val (.ref b46), .val (.int (0 : Int32)), .val (.int (1 : Int32)), .val (.int i4), .val (.long j97), .second, .unset, .unset, .unset, .unset, .unset, .unset, .unset]) rfl (pc' := 376) rfl ?_
          refine R.iload X96 hx (hb hby at_376) rfl (pc' := 378) rfl ?_
          refine R.iconst X96 hx (hb hby at_378) (v := (1 : Int32)) (by decide) (pc' := 379) rfl ?_
          refine R.iadd X96 hx (hb hby at_379) (v := (1 : Int32)) (by decide) (pc' := 380) rfl ?_
          refine R.iloadN X96 hx (hb hby at_380) rfl (pc' := 381) rfl ?_
          refine R.iloadN X96 hx (hb hby at_381) rfl (pc' := 382) rfl ?_
          refine R.callS X96 hx hZ (y := mY4) hown w_10 w_11 w_4 w_12 (by decide) e96 (rm3 l Z aZ hw [] (1 : Int32) p1 p2 h95 n0 Z95 ) (by decide) (W := 0) (Nat.le_of_eq rfl) (by decide) (by rw [hml]; rfl) (lenOf pd_3 rfl) rfl (hb hby at_382) (pc' := 385) rfl (by decide) (by decide) ?_; intro v98 T98 L98 X98 hQ98
          obtain ⟨rfl, N98q, e98⟩ := hQ98
          have N98 := Fr.app N96 N98q
          show Rn p e below (T98.setTop (mkF m 385 #[.val (.int p0), .val (.int p1), .val (.int p2), .val (.int p3), .val (.int p4), .val (.int p5), .val (.int (0 : Int32)), .val (.int (1 : Int32)), .val (.int i3), .val (.int i4), .val (.int i5), .val (.int (2 : Int32)), .val (.double r7), .second, .val (.ref b8), .val (.ref b12), .val (.ref b21), .val (.ref b30), .val (.ref b43), .val (.ref b46), .val (.int (0 : Int32)), .val (.int (1 : Int32)), .val (.int i4), .val (.long j97), .second, .unset, .unset, .unset, .unset, .unset, .unset, .unset] [(.long (own_wAt (1 : Int32) p1 p2))])) G
          generalize hj99 : (own_wAt (1 : Int32) p1 p2) = j99
          refine R.lstore X98 hx (hb hby at_385) (L' := #[.val (.int p0), .val (.int p1), .val (.int p2), .val (.int p3), .val (.int p4), .val (.int p5), .val (.int (0 : Int32)), .val (.int (1 : Int32)), .val (.int i3), .val (.int i4), .val (.int i5), .val (.int (2 : Int32)), .val (.double r7), .second, .val (.ref b8), .val (.ref b12), .val (.ref b21), .val (.ref b30), .val (.ref b43), .val (.ref b46), .val (.int (0 : Int32)), .val (.int (1 : Int32)), .val (.int i4), .val (.long j97), .second, .val (.long j99), .second, .unset, .unset, .unset, .unset, .unset]) rfl (pc' := 387) rfl ?_
          refine R.iload X98 hx (hb hby at_387) rfl (pc' := 389) rfl ?_
          refine R.iload X98 hx (hb hby at_389) rfl (pc' := 391) rfl ?_
          refine R.callS X98 hx hZ (y := mY2) hown w_2 w_3 w_4 w_5 (by decide) e98 (rm1 l Z aZ hw [] (1 : Int32) i4 h95 n0 Z95 ) (by decide) (W := 0) (Nat.le_of_eq rfl) (by decide) (by rw [hml]; rfl) (lenOf pd_2 rfl) rfl (hb hby at_391) (pc' := 394) rfl (by decide) (by decide) ?_; intro v100 T100 L100 X100 hQ100
          obtain ⟨rfl, N100q, e100⟩ := hQ100
          have N100 := Fr.app N98 N100q
          show Rn p e below (T100.setTop (mkF m 394 #[.val (.int p0), .val (.int p1), .val (.int p2), .val (.int p3), .val (.int p4), .val (.int p5), .val (.int (0 : Int32)), .val (.int (1 : Int32)), .val (.int i3), .val (.int i4), .val (.int i5), .val (.int (2 : Int32)), .val (.double r7), .second, .val (.ref b8), .val (.ref b12), .val (.ref b21), .val (.ref b30), .val (.ref b43), .val (.ref b46), .val (.int (0 : Int32)), .val (.int (1 : Int32)), .val (.int i4), .val (.long j97), .second, .val (.long j99), .second, .unset, .unset, .unset, .unset, .unset] [(.int (own_rowA (1 : Int32) i4))])) G
          generalize hi101 : (own_rowA (1 : Int32) i4) = i101
          refine R.istore X100 hx (hb hby at_394) (L' := #[.val (.int p0), .val (.int p1), .val (.int p2), .val (.int p3), .val (.int p4), .val (.int p5), .val (.int (0 : Int32)), .val (.int (1 : Int32)), .val (.int i3), .val (.int i4), .val (.int i5), .val (.int (2 : Int32)), .val (.double r7), .second, .val (.ref b8), .val (.ref b12), .val (.ref b21), .val (.ref b30), .val (.ref b43), .val (.ref b46), .val (.int (0 : Int32)), .val (.int (1 : Int32)), .val (.int i4), .val (.long j97), .second, .val (.long j99), .second, .val (.int i101), .unset, .unset, .unset, .unset]) rfl (pc' := 396) rfl ?_
          refine R.iload X100 hx (hb hby at_396) rfl (pc' := 398) rfl ?_
          refine R.iload X100 hx (hb hby at_398) rfl (pc' := 400) rfl ?_
          refine R.callS X100 hx hZ (y := mY3) hown w_6 w_7 w_4 w_8 (by decide) e100 (rm2 l Z aZ hw [] (1 : Int32) i4 h95 n0 Z95 ) (by decide) (W := 0) (Nat.le_of_eq rfl) (by decide) (by rw [hml]; rfl) (lenOf pd_2 rfl) rfl (hb hby at_400) (pc' := 403) rfl (by decide) (by decide) ?_; intro v102 T102 L102 X102 hQ102
          obtain ⟨rfl, N102q, e102⟩ := hQ102
          have N102 := Fr.app N100 N102q
          show Rn p e below (T102.setTop (mkF m 403 #[.val (.int p0), .val (.int p1), .val (.int p2), .val (.int p3), .val (.int p4), .val (.int p5), .val (.int (0 : Int32)), .val (.int (1 : Int32)), .val (.int i3), .val (.int i4), .val (.int i5), .val (.int (2 : Int32)), .val (.double r7), .second, .val (.ref b8), .val (.ref b12), .val (.ref b21), .val (.ref b30), .val (.ref b43), .val (.ref b46), .val (.int (0 : Int32)), .val (.int (1 : Int32)), .val (.int i4), .val (.long j97), .second, .val (.long j99), .second, .val (.int i101), .unset, .unset, .unset, .unset] [(.int (own_rowB (1 : Int32) i4))])) G
          generalize hi103 : (own_rowB (1 : Int32) i4) = i103
          refine R.istore X102 hx (hb hby at_403) (L' := #[.val (.int p0), .val (.int p1), .val (.int p2), .val (.int p3), .val (.int p4), .val (.int p5), .val (.int (0 : Int32)), .val (.int (1 : Int32)), .val (.int i3), .val (.int i4), .val (.int i5), .val (.int (2 : Int32)), .val (.double r7), .second, .val (.ref b8), .val (.ref b12), .val (.ref b21), .val (.ref b30), .val (.ref b43), .val (.ref b46), .val (.int (0 : Int32)), .val (.int (1 : Int32)), .val (.int i4), .val (.long j97), .second, .val (.long j99), .second, .val (.int i101), .val (.int i103), .unset, .unset, .unset]) rfl (pc' := 405) rfl ?_
          refine R.iconst X102 hx (hb hby at_405) (v := (1 : Int32)) (by decide) (pc' := 406) rfl ?_
          refine R.istore X102 hx (hb hby at_406) (L' := #[.val (.int p0), .val (.int p1), .val (.int p2), .val (.int p3), .val (.int p4), .val (.int p5), .val (.int (0 : Int32)), .val (.int (1 : Int32)), .val (.int i3), .val (.int i4), .val (.int i5), .val (.int (2 : Int32)), .val (.double r7), .second, .val (.ref b8), .val (.ref b12), .val (.ref b21), .val (.ref b30), .val (.ref b43), .val (.ref b46), .val (.int (0 : Int32)), .val (.int (1 : Int32)), .val (.int i4), .val (.long j97), .second, .val (.long j99), .second, .val (.int i101), .val (.int i103), .val (.int (1 : Int32)), .unset, .unset]) rfl (pc' := 408) rfl ?_
          refine R.iload X102 hx (hb hby at_408) rfl (pc' := 410) rfl ?_
          refine R.ifNo X102 hx (hb hby at_410) (tlt (by decide : (0 : Int32) < (2 : Int32))).2.2.2 (pc' := 413) rfl ?_
          refine R.lconst X102 hx (hb hby at_413) (v := (0 : Int64)) (by decide) (pc' := 414) rfl ?_
          refine R.lstore X102 hx (hb hby at_414) (L' := #[.val (.int p0), .val (.int p1), .val (.int p2), .val (.int p3), .val (.int p4), .val (.int p5), .val (.int (0 : Int32)), .val (.int (1 : Int32)), .val (.int i3), .val (.int i4), .val (.int i5), .val (.int (2 : Int32)), .val (.double r7), .second, .val (.ref b8), .val (.ref b12), .val (.ref b21), .val (.ref b30), .val (.ref b43), .val (.ref b46), .val (.int (0 : Int32)), .val (.int (1 : Int32)), .val (.int i4), .val (.long j97), .second, .val (.long j99), .second, .val (.int i101), .val (.int i103), .val (.int (1 : Int32)), .val (.long (0 : Int64)), .second]) rfl (pc' := 416) rfl ?_
          refine R.iload X102 hx (hb hby at_416) rfl (pc' := 418) rfl ?_
          refine R.iconst X102 hx (hb hby at_418) (v := (1 : Int32)) (by decide) (pc' := 419) rfl ?_
          refine R.icmpNo X102 hx (hb hby at_419) (flt (by decide : ¬ ((1 : Int32) < (1 : Int32)))).1 (pc' := 422) rfl ?_
          refine R.lload X102 hx (hb hby at_422) rfl (pc' := 424) rfl ?_
          refine R.lload X102 hx (hb hby at_424) rfl (pc' := 426) rfl ?_
          refine R.iload X102 hx (hb hby at_426) rfl (pc' := 428) rfl ?_
          refine R.iload X102 hx (hb hby at_428) rfl (pc' := 430) rfl ?_
          refine R.imul X102 hx (hb hby at_430) rfl (pc' := 431) rfl ?_
          refine R.iloadN X102 hx (hb hby at_431) rfl (pc' := 432) rfl ?_
          refine R.iload X102 hx (hb hby at_432) rfl (pc' := 434) rfl ?_
          refine R.iload X102 hx (hb hby at_434) rfl (pc' := 436) rfl ?_
          refine R.callS X102 hx hZ (y := mY5) hown w_13 w_14 w_4 w_15 (by decide) e102 (rm4 l Z aZ hw [] (i101 * (2 : Int32)) p3 p4 p5 h95 n0 Z95 ) (by decide) (W := 4) (Nat.le_of_eq rfl) (by decide) (by rw [hml]; rfl) (lenOf pd_4 rfl) rfl (hb hby at_436) (pc' := 439) rfl (by decide) (by decide) ?_; intro v104 T104 L104 X104 hQ104
          obtain ⟨rfl, N104q, e104⟩ := hQ104
          have N104 := Fr.app N102 N104q
          refine R.lmul X104 hx (hb hby at_439) rfl (pc' := 440) rfl ?_
          refine R.ladd X104 hx (hb hby at_440) rfl (pc' := 441) rfl ?_
          show Rn p e below (T104.setTop (mkF m 441 #[.val (.int p0), .val (.int p1), .val (.int p2), .val (.int p3), .val (.int p4), .val (.int p5), .val (.int (0 : Int32)), .val (.int (1 : Int32)), .val (.int i3), .val (.int i4), .val (.int i5), .val (.int (2 : Int32)), .val (.double r7), .second, .val (.ref b8), .val (.ref b12), .val (.ref b21), .val (.ref b30), .val (.ref b43), .val (.ref b46), .val (.int (0 : Int32)), .val (.int (1 : Int32)), .val (.int i4), .val (.long j97), .second, .val (.long j99), .second, .val (.int i101), .val (.int i103), .val (.int (1 : Int32)), .val (.long (0 : Int64)), .second] [(.long ((0 : Int64) + (j97 * (own_yAt (i101 * (2 : Int32)) p3 p4 p5))))])) G
          generalize hj105 : ((0 : Int64) + (j97 * (own_yAt (i101 * (2 : Int32)) p3 p4 p5))) = j105
          refine R.lstore X104 hx (hb hby at_441) (L' := #[.val (.int p0), .val (.int p1), .val (.int p2), .val (.int p3), .val (.int p4), .val (.int p5), .val (.int (0 : Int32)), .val (.int (1 : Int32)), .val (.int i3), .val (.int i4), .val (.int i5), .val (.int (2 : Int32)), .val (.double r7), .second, .val (.ref b8), .val (.ref b12), .val (.ref b21), .val (.ref b30), .val (.ref b43), .val (.ref b46), .val (.int (0 : Int32)), .val (.int (1 : Int32)), .val (.int i4), .val (.long j97), .second, .val (.long j99), .second, .val (.int i101), .val (.int i103), .val (.int (1 : Int32)), .val (.long j105), .second]) rfl (pc' := 443) rfl ?_
          have tr0_1 := own_mulY (by rw [← hj97]; exact own_wb _ _ _) (own_yb _ _ _ _) hj105
          rw [← hj97, ← hi101] at tr0_1
          refine R.iload X104 hx (hb hby at_443) rfl (pc' := 445) rfl ?_
          refine R.iconst X104 hx (hb hby at_445) (v := (2 : Int32)) (by decide) (pc' := 446) rfl ?_
          refine R.icmpYes X104 hx (hb hby at_446) (tlt (by decide : (1 : Int32) < (2 : Int32))).1 (by decide) (pc' := 470) (by decide) ?_
          obtain ⟨xv0, hxv0, Dx0⟩ := c0_95 (by decide)
          refine R.iload X104 hx (hb hby at_470) rfl (pc' := 472) rfl ?_
          refine R.ifNo X104 hx (hb hby at_472) (feq (by decide : ¬ ((1 : Int32) = (0 : Int32)))).1 (pc' := 475) rfl ?_
          refine R.aload X104 hx (hb hby at_475) rfl rfl (pc' := 477) rfl ?_
          refine R.iconst X104 hx (hb hby at_477) (v := (0 : Int32)) (by decide) (pc' := 478) rfl ?_
          refine R.daload X104 hx hZ e104 V_b43 (⟨by decide, by decide⟩ : ¬ (0 : Int32) < 0 ∧ (0 : Int32) < (2 : Int32)) (v := (.double xv0)) (hxv0) (hb hby at_478) (pc' := 479) rfl ?_
          refine R.lload X104 hx (hb hby at_479) rfl (pc' := 481) rfl ?_
          refine R.l2d X104 hx (hb hby at_481) (pc' := 482) rfl ?_
          refine R.dcmp X104 hx (hb hby at_482) (Dx0.cmp ((Dy.l2d (by rw [tr0_1]; have q1 := own_pb (own_wb (0 : Int32) p1 p2) (own_yb ((own_rowA (1 : Int32) i4) * (2 : Int32)) p3 p4 p5); have q2 := own_pb (own_wb ((0 : Int32) + (1 : Int32)) p1 p2) (own_yb ((own_rowB (1 : Int32) i4) * (2 : Int32)) p3 p4 p5); first | exact own_nab2 q1 q2 (by decide) | exact own_nab1 q1 (by decide) | omega)).cast tr0_1 rfl) _ : cmpValue (FP.dcmp xv0 (FP.l2d j105)) .l = (own_ci ((own_wAt (0 : Int32) p1 p2).toInt * (own_yAt ((own_rowA (1 : Int32) i4) * (2 : Int32)) p3 p4 p5).toInt) ((own_wAt (0 : Int32) p1 p2).toInt * (own_yAt ((own_rowA (1 : Int32) i4) * (2 : Int32)) p3 p4 p5).toInt))) (pc' := 483) rfl ?_
          refine R.ifNo X104 hx (hb hby at_483) (teq (own_ci_eq.mpr rfl : (own_ci ((own_wAt (0 : Int32) p1 p2).toInt * (own_yAt ((own_rowA (1 : Int32) i4) * (2 : Int32)) p3 p4 p5).toInt) ((own_wAt (0 : Int32) p1 p2).toInt * (own_yAt ((own_rowA (1 : Int32) i4) * (2 : Int32)) p3 p4 p5).toInt)) = (0 : Int32))).2 (pc' := 486) rfl ?_
          refine R.iconst X104 hx (hb hby at_486) (v := (1 : Int32)) (by decide) (pc' := 487) rfl ?_
          refine R.goto X104 hx (hb hby at_487) (by decide) (pc' := 491) (by decide) ?_
          refine R.istore X104 hx (hb hby at_491) (L' := #[.val (.int p0), .val (.int p1), .val (.int p2), .val (.int p3), .val (.int p4), .val (.int p5), .val (.int (0 : Int32)), .val (.int (1 : Int32)), .val (.int i3), .val (.int i4), .val (.int i5), .val (.int (2 : Int32)), .val (.double r7), .second, .val (.ref b8), .val (.ref b12), .val (.ref b21), .val (.ref b30), .val (.ref b43), .val (.ref b46), .val (.int (0 : Int32)), .val (.int (1 : Int32)), .val (.int i4), .val (.long j97), .second, .val (.long j99), .second, .val (.int i101), .val (.int i103), .val (.int (1 : Int32)), .val (.long j105), .second]) rfl (pc' := 493) rfl ?_
          refine R.iload X104 hx (hb hby at_493) rfl (pc' := 495) rfl ?_
          refine R.iconst X104 hx (hb hby at_495) (v := (1 : Int32)) (by decide) (pc' := 496) rfl ?_
          refine R.icmpNo X104 hx (hb hby at_496) (tlt (by decide : (1 : Int32) < (2 : Int32))).2.2.2 (pc' := 499) rfl ?_
          refine R.lconst X104 hx (hb hby at_499) (v := (0 : Int64)) (by decide) (pc' := 500) rfl ?_
          refine R.lstore X104 hx (hb hby at_500) (L' := #[.val (.int p0), .val (.int p1), .val (.int p2), .val (.int p3), .val (.int p4), .val (.int p5), .val (.int (0 : Int32)), .val (.int (1 : Int32)), .val (.int i3), .val (.int i4), .val (.int i5), .val (.int (2 : Int32)), .val (.double r7), .second, .val (.ref b8), .val (.ref b12), .val (.ref b21), .val (.ref b30), .val (.ref b43), .val (.ref b46), .val (.int (0 : Int32)), .val (.int (1 : Int32)), .val (.int i4), .val (.long j97), .second, .val (.long j99), .second, .val (.int i101), .val (.int i103), .val (.int (1 : Int32)), .val (.long (0 : Int64)), .second]) rfl (pc' := 502) rfl ?_
          refine R.iload X104 hx (hb hby at_502) rfl (pc' := 504) rfl ?_
          refine R.iconst X104 hx (hb hby at_504) (v := (1 : Int32)) (by decide) (pc' := 505) rfl ?_
          refine R.icmpNo X104 hx (hb hby at_505) (flt (by decide : ¬ ((1 : Int32) < (1 : Int32)))).1 (pc' := 508) rfl ?_
          refine R.lload X104 hx (hb hby at_508) rfl (pc' := 510) rfl ?_
          refine R.lload X104 hx (hb hby at_510) rfl (pc' := 512) rfl ?_
          refine R.iload X104 hx (hb hby at_512) rfl (pc' := 514) rfl ?_
          refine R.iload X104 hx (hb hby at_514) rfl (pc' := 516) rfl ?_
          refine R.imul X104 hx (hb hby at_516) rfl (pc' := 517) rfl ?_
          refine R.iconst X104 hx (hb hby at_517) (v := (1 : Int32)) (by decide) (pc' := 518) rfl ?_
          refine R.iadd X104 hx (hb hby at_518) rfl (pc' := 519) rfl ?_
          refine R.iloadN X104 hx (hb hby at_519) rfl (pc' := 520) rfl ?_
          refine R.iload X104 hx (hb hby at_520) rfl (pc' := 522) rfl ?_
          refine R.iload X104 hx (hb hby at_522) rfl (pc' := 524) rfl ?_
          refine R.callS X104 hx hZ (y := mY5) hown w_13 w_14 w_4 w_15 (by decide) e104 (rm4 l Z aZ hw [] ((i101 * (2 : Int32)) + (1 : Int32)) p3 p4 p5 h95 n0 Z95 ) (by decide) (W := 4) (Nat.le_of_eq rfl) (by decide) (by rw [hml]; rfl) (lenOf pd_4 rfl) rfl (hb hby at_524) (pc' := 527) rfl (by decide) (by decide) ?_; intro v106 T106 L106 X106 hQ106
          obtain ⟨rfl, N106q, e106⟩ := hQ106
          have N106 := Fr.app N104 N106q
          refine R.lmul X106 hx (hb hby at_527) rfl (pc' := 528) rfl ?_
          refine R.ladd X106 hx (hb hby at_528) rfl (pc' := 529) rfl ?_
          show Rn p e below (T106.setTop (mkF m 529 #[.val (.int p0), .val (.int p1), .val (.int p2), .val (.int p3), .val (.int p4), .val (.int p5), .val (.int (0 : Int32)), .val (.int (1 : Int32)), .val (.int i3), .val (.int i4), .val (.int i5), .val (.int (2 : Int32)), .val (.double r7), .second, .val (.ref b8), .val (.ref b12), .val (.ref b21), .val (.ref b30), .val (.ref b43), .val (.ref b46), .val (.int (0 : Int32)), .val (.int (1 : Int32)), .val (.int i4), .val (.long j97), .second, .val (.long j99), .second, .val (.int i101), .val (.int i103), .val (.int (1 : Int32)), .val (.long (0 : Int64)), .second] [(.long ((0 : Int64) + (j97 * (own_yAt ((i101 * (2 : Int32)) + (1 : Int32)) p3 p4 p5))))])) G
          generalize hj107 : ((0 : Int64) + (j97 * (own_yAt ((i101 * (2 : Int32)) + (1 : Int32)) p3 p4 p5))) = j107
          refine R.lstore X106 hx (hb hby at_529) (L' := #[.val (.int p0), .val (.int p1), .val (.int p2), .val (.int p3), .val (.int p4), .val (.int p5), .val (.int (0 : Int32)), .val (.int (1 : Int32)), .val (.int i3), .val (.int i4), .val (.int i5), .val (.int (2 : Int32)), .val (.double r7), .second, .val (.ref b8), .val (.ref b12), .val (.ref b21), .val (.ref b30), .val (.ref b43), .val (.ref b46), .val (.int (0 : Int32)), .val (.int (1 : Int32)), .val (.int i4), .val (.long j97), .second, .val (.long j99), .second, .val (.int i101), .val (.int i103), .val (.int (1 : Int32)), .val (.long j107), .second]) rfl (pc' := 531) rfl ?_
          have tr1_1 := own_mulY (by rw [← hj97]; exact own_wb _ _ _) (own_yb _ _ _ _) hj107
          rw [← hj97, ← hi101] at tr1_1
          refine R.iload X106 hx (hb hby at_531) rfl (pc' := 533) rfl ?_
          refine R.iconst X106 hx (hb hby at_533) (v := (2 : Int32)) (by decide) (pc' := 534) rfl ?_
          refine R.icmpYes X106 hx (hb hby at_534) (tlt (by decide : (1 : Int32) < (2 : Int32))).1 (by decide) (pc' := 560) (by decide) ?_
          obtain ⟨xv1, hxv1, Dx1⟩ := c1_95 (by decide)
          refine R.iload X106 hx (hb hby at_560) rfl (pc' := 562) rfl ?_
          refine R.ifNo X106 hx (hb hby at_562) (feq (by decide : ¬ ((1 : Int32) = (0 : Int32)))).1 (pc' := 565) rfl ?_
          refine R.aload X106 hx (hb hby at_565) rfl rfl (pc' := 567) rfl ?_
          refine R.iconst X106 hx (hb hby at_567) (v := (1 : Int32)) (by decide) (pc' := 568) rfl ?_
          refine R.daload X106 hx hZ e106 V_b43 (⟨by decide, by decide⟩ : ¬ (1 : Int32) < 0 ∧ (1 : Int32) < (2 : Int32)) (v := (.double xv1)) (hxv1) (hb hby at_568) (pc' := 569) rfl ?_
          refine R.lload X106 hx (hb hby at_569) rfl (pc' := 571) rfl ?_
          refine R.l2d X106 hx (hb hby at_571) (pc' := 572) rfl ?_
          refine R.dcmp X106 hx (hb hby at_572) (Dx1.cmp ((Dy.l2d (by rw [tr1_1]; have q1 := own_pb (own_wb (0 : Int32) p1 p2) (own_yb (((own_rowA (1 : Int32) i4) * (2 : Int32)) + (1 : Int32)) p3 p4 p5); have q2 := own_pb (own_wb ((0 : Int32) + (1 : Int32)) p1 p2) (own_yb (((own_rowB (1 : Int32) i4) * (2 : Int32)) + (1 : Int32)) p3 p4 p5); first | exact own_nab2 q1 q2 (by decide) | exact own_nab1 q1 (by decide) | omega)).cast tr1_1 rfl) _ : cmpValue (FP.dcmp xv1 (FP.l2d j107)) .l = (own_ci ((own_wAt (0 : Int32) p1 p2).toInt * (own_yAt (((own_rowA (1 : Int32) i4) * (2 : Int32)) + (1 : Int32)) p3 p4 p5).toInt) ((own_wAt (0 : Int32) p1 p2).toInt * (own_yAt (((own_rowA (1 : Int32) i4) * (2 : Int32)) + (1 : Int32)) p3 p4 p5).toInt))) (pc' := 573) rfl ?_
          refine R.ifNo X106 hx (hb hby at_573) (teq (own_ci_eq.mpr rfl : (own_ci ((own_wAt (0 : Int32) p1 p2).toInt * (own_yAt (((own_rowA (1 : Int32) i4) * (2 : Int32)) + (1 : Int32)) p3 p4 p5).toInt) ((own_wAt (0 : Int32) p1 p2).toInt * (own_yAt (((own_rowA (1 : Int32) i4) * (2 : Int32)) + (1 : Int32)) p3 p4 p5).toInt)) = (0 : Int32))).2 (pc' := 576) rfl ?_
          refine R.iconst X106 hx (hb hby at_576) (v := (1 : Int32)) (by decide) (pc' := 577) rfl ?_
          refine R.goto X106 hx (hb hby at_577) (by decide) (pc' := 581) (by decide) ?_
          refine R.istore X106 hx (hb hby at_581) (L' := #[.val (.int p0), .val (.int p1), .val (.int p2), .val (.int p3), .val (.int p4), .val (.int p5), .val (.int (0 : Int32)), .val (.int (1 : Int32)), .val (.int i3), .val (.int i4), .val (.int i5), .val (.int (2 : Int32)), .val (.double r7), .second, .val (.ref b8), .val (.ref b12), .val (.ref b21), .val (.ref b30), .val (.ref b43), .val (.ref b46), .val (.int (0 : Int32)), .val (.int (1 : Int32)), .val (.int i4), .val (.long j97), .second, .val (.long j99), .second, .val (.int i101), .val (.int i103), .val (.int (1 : Int32)), .val (.long j107), .second]) rfl (pc' := 583) rfl ?_
          refine R.iload X106 hx (hb hby at_583) rfl (pc' := 585) rfl ?_
          rw [← hG]
          exact Rn.ret X106 (BodyLoose.notSynchronized Bd) (v := some (.int (1 : Int32))) (fun h => by rw [Bd.returns] at h; cases h) (Q := Q0 Z p0 p1 p2 p3 p4 p5 h0 n0) e106 (fun fs hr => retN X106 hx (t := .boolean) Bd.returns (by simp) (hb hby at_585) hr) ⟨rfl, N106⟩ (by decide) (by decide)
      · rcases h11_ with rfl | rfl | rfl
        · refine R.aload X47 hx (hb hby at_313) rfl rfl (pc' := 315) rfl ?_
          refine R.iload X47 hx (hb hby at_315) rfl (pc' := 317) rfl ?_
          refine R.aload X47 hx (hb hby at_317) rfl rfl (pc' := 319) rfl ?_
          refine R.iload X47 hx (hb hby at_319) rfl (pc' := 321) rfl ?_
          refine R.aload X47 hx (hb hby at_321) rfl rfl (pc' := 323) rfl ?_
          refine R.virtual X47 hx hZ (y := mY7) (z := mY7) hown w_38 w_39 (notFace_of_selects (args := #[]) (mvT hZ w_41)) w_41 w_40 w_18 w_42 (by decide) e47 E_b46 (rm8 l Z aZ hw [] b46 (0 : Int32) b30 (0 : Int32) b43 b8 b12 b21 k8 k12 k21 k30 k43 [((2 : Int32), (.int ((2 : Int32) + i3))), ((1 : Int32), (.int (2 : Int32))), ((0 : Int32), (.int (0 : Int32)))] [(((2 : Int32) + (1 : Int32)), (.int (own_rowB i3 i5))), ((2 : Int32), (.int (own_rowA i3 i5))), ((1 : Int32), (.int (own_rowB (2 : Int32) i4))), ((0 : Int32), (.int (own_rowA (2 : Int32) i4)))] [((3 : Int32), (.double (FP.l2d (own_wAt (3 : Int32) p1 p2)))), ((2 : Int32), (.double (FP.l2d (own_wAt (2 : Int32) p1 p2)))), ((1 : Int32), (.double (FP.l2d (own_wAt (1 : Int32) p1 p2)))), ((0 : Int32), (.double (FP.l2d (own_wAt (0 : Int32) p1 p2))))] [((5 : Int32), (.double (FP.l2d (own_yAt (5 : Int32) p3 p4 p5)))), ((4 : Int32), (.double (FP.l2d (own_yAt (4 : Int32) p3 p4 p5)))), ((3 : Int32), (.double (FP.l2d (own_yAt (3 : Int32) p3 p4 p5)))), ((2 : Int32), (.double (FP.l2d (own_yAt (2 : Int32) p3 p4 p5)))), ((1 : Int32), (.double (FP.l2d (own_yAt (1 : Int32) p3 p4 p5)))), ((0 : Int32), (.double (FP.l2d (own_yAt (0 : Int32) p3 p4 p5))))] [((1 : Int32), (.double r7)), ((0 : Int32), (.double r7))] (0 : Int32) (2 : Int32) (FP.l2d (own_wAt (0 : Int32) p1 p2)) (FP.l2d (own_wAt ((0 : Int32) + (1 : Int32)) p1 p2)) (own_wAt (0 : Int32) p1 p2).toInt (own_wAt ((0 : Int32) + (1 : Int32)) p1 p2).toInt (own_rowA (2 : Int32) i4) (own_rowB (2 : Int32) i4) (fun i => FP.l2d (own_yAt i p3 p4 p5)) (fun i => (own_yAt i p3 p4 p5).toInt) ((own_wAt (0 : Int32) p1 p2).toInt * (own_yAt ((own_rowA (2 : Int32) i4) * (0 : Int32)) p3 p4 p5).toInt + (own_wAt ((0 : Int32) + (1 : Int32)) p1 p2).toInt * (own_yAt ((own_rowB (2 : Int32) i4) * (0 : Int32)) p3 p4 p5).toInt) ((own_wAt (0 : Int32) p1 p2).toInt * (own_yAt (((own_rowA (2 : Int32) i4) * (0 : Int32)) + (1 : Int32)) p3 p4 p5).toInt + (own_wAt ((0 : Int32) + (1 : Int32)) p1 p2).toInt * (own_yAt (((own_rowB (2 : Int32) i4) * (0 : Int32)) + (1 : Int32)) p3 p4 p5).toInt) h47 n0 Z47 F_start_b46 F_rows_b46 F_values_b46 V_b8 V_b12 V_b21 V_b30 V_b43 g_b43 (Ne.symm ne_b43_b46) ne_b8_b43 ne_b12_b43 ne_b21_b43 ne_b30_b43 (by decide) (rfl) (rfl) (by decide) (by decide) (own_rA h9_) (own_rB) (Or.inr (Or.inr ⟨rfl, rfl, rfl, rfl, rfl, rfl, rfl⟩)) (Dy.l2d (by have := own_wb (0 : Int32) p1 p2; omega)) (Dy.l2d (by have := own_wb ((0 : Int32) + (1 : Int32)) p1 p2; omega)) (own_wb _ _ _) (own_wb _ _ _) (own_rdy)) (by decide) (W := 0) (Nat.le_of_eq rfl) (by decide) (by rw [hml]; rfl) (lenOf pd_6 rfl) rfl (hb hby at_323) (pc' := 326) rfl (by decide) (by decide) ?_; intro v108 T108 L108 X108 hQ108
          obtain ⟨hj_108, rfl, N108q, Kc108, P108_0, P108_1, P108_2⟩ := hQ108
          have N108 := Fr.app N47 N108q
          generalize e108 : T108.heap = h108 at Kc108 P108_0 P108_1 P108_2
          have K108 : Keep h0 h108 [] := K47.trans Kc108 ((allS (Or.inr sz_b43) all0))
          have Z108 : n0 ≤ h108.size := Nat.le_trans Z47 Kc108.1
          have V_b8 := V_b8.keep Kc108 (ninS ne_b8_b43 nin0)
          have V_b12 := V_b12.keep Kc108 (ninS ne_b12_b43 nin0)
          have V_b21 := V_b21.keep Kc108 (ninS ne_b21_b43 nin0)
          have V_b30 := V_b30.keep Kc108 (ninS ne_b30_b43 nin0)
          have E_b46 := E_b46.keep Kc108
          have F_start_b46 := F_start_b46.keep Kc108 (ninS (Ne.symm ne_b43_b46) nin0)
          have F_rows_b46 := F_rows_b46.keep Kc108 (ninS (Ne.symm ne_b43_b46) nin0)
          have F_values_b46 := F_values_b46.keep Kc108 (ninS (Ne.symm ne_b43_b46) nin0)
          have V_b43 : Arh Z h108 b43 k43 .double (2 : Int32) hj_108 [] (.double (0 : UInt64)) := P108_0
          have V_b43 : Arh Z h108 b43 k43 .double (2 : Int32) hj_108 [] (.double (0 : UInt64)) := V_b43
          have c0_108 := P108_1
          have c1_108 := P108_2
          refine R.iload X108 hx (hb hby at_326) rfl (pc' := 328) rfl ?_
          refine R.ifNo X108 hx (hb hby at_328) (teq (by decide : (0 : Int32) = (0 : Int32))).2 (pc' := 331) rfl ?_
          refine R.iconst X108 hx (hb hby at_331) (v := (0 : Int32)) (by decide) (pc' := 332) rfl ?_
          refine R.goto X108 hx (hb hby at_332) (by decide) (pc' := 337) (by decide) ?_
          refine R.istore X108 hx (hb hby at_337) (L' := #[.val (.int p0), .val (.int p1), .val (.int p2), .val (.int p3), .val (.int p4), .val (.int p5), .val (.int (0 : Int32)), .val (.int (2 : Int32)), .val (.int i3), .val (.int i4), .val (.int i5), .val (.int (0 : Int32)), .val (.double r7), .second, .val (.ref b8), .val (.ref b12), .val (.ref b21), .val (.ref b30), .val (.ref b43), .val (.ref b46), .val (.int (0 : Int32)), .unset, .unset, .unset, .unset, .unset, .unset, .unset, .unset, .unset, .unset, .unset]) rfl (pc' := 339) rfl ?_
          refine R.iload X108 hx (hb hby at_339) rfl (pc' := 341) rfl ?_
          refine R.ifNo X108 hx (hb hby at_341) (teq (by decide : (0 : Int32) = (0 : Int32))).2 (pc' := 344) rfl ?_
          refine R.iload X108 hx (hb hby at_344) rfl (pc' := 346) rfl ?_
          refine R.goto X108 hx (hb hby at_346) (by decide) (pc' := 351) (by decide) ?_
          refine R.istore X108 hx (hb hby at_351) (L' := #[.val (.int p0), .val (.int p1), .val (.int p2), .val (.int p3), .val (.int p4), .val (.int p5), .val (.int (0 : Int32)), .val (.int (2 : Int32)), .val (.int i3), .val (.int i4), .val (.int i5), .val (.int (0 : Int32)), .val (.double r7), .second, .val (.ref b8), .val (.ref b12), .val (.ref b21), .val (.ref b30), .val (.ref b43), .val (.ref b46), .val (.int (0 : Int32)), .val (.int (2 : Int32)), .unset, .unset, .unset, .unset, .unset, .unset, .unset, .unset, .unset, .unset]) rfl (pc' := 353) rfl ?_
          refine R.iload X108 hx (hb hby at_353) rfl (pc' := 355) rfl ?_
          refine R.ifNo X108 hx (hb hby at_355) (teq (by decide : (0 : Int32) = (0 : Int32))).2 (pc' := 358) rfl ?_
          refine R.iload X108 hx (hb hby at_358) rfl (pc' := 360) rfl ?_
          refine R.goto X108 hx (hb hby at_360) (by decide) (pc' := 365) (by decide) ?_
          refine R.istore X108 hx (hb hby at_365) (L' := #[.val (.int p0), .val (.int p1), .val (.int p2), .val (.int p3), .val (.int p4), .val (.int p5), .val (.int (0 : Int32)), .val (.int (2 : Int32)), .val (.int i3), .val (.int i4), .val (.int i5), .val (.int (0 : Int32)), .val (.double r7), .second, .val (.ref b8), .val (.ref b12), .val (.ref b21), .val (.ref b30), .val (.ref b43), .val (.ref b46), .val (.int (0 : Int32)), .val (.int (2 : Int32)), .val (.int i4), .unset, .unset, .unset, .unset, .unset, .unset, .unset, .unset, .unset]) rfl (pc' := 367) rfl ?_
          refine R.iload X108 hx (hb hby at_367) rfl (pc' := 369) rfl ?_
          refine R.iloadN X108 hx (hb hby at_369) rfl (pc' := 370) rfl ?_
          refine R.iloadN X108 hx (hb hby at_370) rfl (pc' := 371) rfl ?_
          refine R.callS X108 hx hZ (y := mY4) hown w_10 w_11 w_4 w_12 (by decide) e108 (rm3 l Z aZ hw [] (0 : Int32) p1 p2 h108 n0 Z108 ) (by decide) (W := 0) (Nat.le_of_eq rfl) (by decide) (by rw [hml]; rfl) (lenOf pd_3 rfl) rfl (hb hby at_371) (pc' := 374) rfl (by decide) (by decide) ?_; intro v109 T109 L109 X109 hQ109
          obtain ⟨rfl, N109q, e109⟩ := hQ109
          have N109 := Fr.app N108 N109q
          show Rn p e below (T109.setTop (mkF m 374 #[.val (.int p0), .val (.int p1), .val (.int p2), .val (.int p3), .val (.int p4), .val (.int p5), .val (.int (0 : Int32)), .val (.int (2 : Int32)), .val (.int i3), .val (.int i4), .val (.int i5), .val (.int (0 : Int32)), .val (.double r7), .second, .val (.ref b8), .val (.ref b12), .val (.ref b21), .val (.ref b30), .val (.ref b43), .val (.ref b46), .val (.int (0 : Int32)), .val (.int (2 : Int32)), .val (.int i4), .unset, .unset, .unset, .unset, .unset, .unset, .unset, .unset, .unset] [(.long (own_wAt (0 : Int32) p1 p2))])) G
          generalize hj110 : (own_wAt (0 : Int32) p1 p2) = j110
          refine R.lstore X109 hx (hb hby at_374) (L' := #[.val (.int p0), .val (.int p1), .val (.int p2), .val (.int p3), .val (.int p4), .val (.int p5), .val (.int (0 : Int32)), .val (.int (2 : Int32)), .val (.int i3), .val (.int i4), .val (.int i5), .val (.int (0 : Int32)), .val (.double r7), .second, .val (.ref b8), .val (.ref b12), .val (.ref b21), .val (.ref b30), .val (.ref b43), .val (.ref b46), .val (.int (0 : Int32)), .val (.int (2 : Int32)), .val (.int i4), .val (.long j110), .second, .unset, .unset, .unset, .unset, .unset, .unset, .unset]) rfl (pc' := 376) rfl ?_
          refine R.iload X109 hx (hb hby at_376) rfl (pc' := 378) rfl ?_
          refine R.iconst X109 hx (hb hby at_378) (v := (1 : Int32)) (by decide) (pc' := 379) rfl ?_
          refine R.iadd X109 hx (hb hby at_379) (v := (1 : Int32)) (by decide) (pc' := 380) rfl ?_
          refine R.iloadN X109 hx (hb hby at_380) rfl (pc' := 381) rfl ?_
          refine R.iloadN X109 hx (hb hby at_381) rfl (pc' := 382) rfl ?_
          refine R.callS X109 hx hZ (y := mY4) hown w_10 w_11 w_4 w_12 (by decide) e109 (rm3 l Z aZ hw [] (1 : Int32) p1 p2 h108 n0 Z108 ) (by decide) (W := 0) (Nat.le_of_eq rfl) (by decide) (by rw [hml]; rfl) (lenOf pd_3 rfl) rfl (hb hby at_382) (pc' := 385) rfl (by decide) (by decide) ?_; intro v111 T111 L111 X111 hQ111
          obtain ⟨rfl, N111q, e111⟩ := hQ111
          have N111 := Fr.app N109 N111q
          show Rn p e below (T111.setTop (mkF m 385 #[.val (.int p0), .val (.int p1), .val (.int p2), .val (.int p3), .val (.int p4), .val (.int p5), .val (.int (0 : Int32)), .val (.int (2 : Int32)), .val (.int i3), .val (.int i4), .val (.int i5), .val (.int (0 : Int32)), .val (.double r7), .second, .val (.ref b8), .val (.ref b12), .val (.ref b21), .val (.ref b30), .val (.ref b43), .val (.ref b46), .val (.int (0 : Int32)), .val (.int (2 : Int32)), .val (.int i4), .val (.long j110), .second, .unset, .unset, .unset, .unset, .unset, .unset, .unset] [(.long (own_wAt (1 : Int32) p1 p2))])) G
          generalize hj112 : (own_wAt (1 : Int32) p1 p2) = j112
          refine R.lstore X111 hx (hb hby at_385) (L' := #[.val (.int p0), .val (.int p1), .val (.int p2), .val (.int p3), .val (.int p4), .val (.int p5), .val (.int (0 : Int32)), .val (.int (2 : Int32)), .val (.int i3), .val (.int i4), .val (.int i5), .val (.int (0 : Int32)), .val (.double r7), .second, .val (.ref b8), .val (.ref b12), .val (.ref b21), .val (.ref b30), .val (.ref b43), .val (.ref b46), .val (.int (0 : Int32)), .val (.int (2 : Int32)), .val (.int i4), .val (.long j110), .second, .val (.long j112), .second, .unset, .unset, .unset, .unset, .unset]) rfl (pc' := 387) rfl ?_
          refine R.iload X111 hx (hb hby at_387) rfl (pc' := 389) rfl ?_
          refine R.iload X111 hx (hb hby at_389) rfl (pc' := 391) rfl ?_
          refine R.callS X111 hx hZ (y := mY2) hown w_2 w_3 w_4 w_5 (by decide) e111 (rm1 l Z aZ hw [] (2 : Int32) i4 h108 n0 Z108 ) (by decide) (W := 0) (Nat.le_of_eq rfl) (by decide) (by rw [hml]; rfl) (lenOf pd_2 rfl) rfl (hb hby at_391) (pc' := 394) rfl (by decide) (by decide) ?_; intro v113 T113 L113 X113 hQ113
          obtain ⟨rfl, N113q, e113⟩ := hQ113
          have N113 := Fr.app N111 N113q
          show Rn p e below (T113.setTop (mkF m 394 #[.val (.int p0), .val (.int p1), .val (.int p2), .val (.int p3), .val (.int p4), .val (.int p5), .val (.int (0 : Int32)), .val (.int (2 : Int32)), .val (.int i3), .val (.int i4), .val (.int i5), .val (.int (0 : Int32)), .val (.double r7), .second, .val (.ref b8), .val (.ref b12), .val (.ref b21), .val (.ref b30), .val (.ref b43), .val (.ref b46), .val (.int (0 : Int32)), .val (.int (2 : Int32)), .val (.int i4), .val (.long j110), .second, .val (.long j112), .second, .unset, .unset, .unset, .unset, .unset] [(.int (own_rowA (2 : Int32) i4))])) G
          generalize hi114 : (own_rowA (2 : Int32) i4) = i114
          refine R.istore X113 hx (hb hby at_394) (L' := #[.val (.int p0), .val (.int p1), .val (.int p2), .val (.int p3), .val (.int p4), .val (.int p5), .val (.int (0 : Int32)), .val (.int (2 : Int32)), .val (.int i3), .val (.int i4), .val (.int i5), .val (.int (0 : Int32)), .val (.double r7), .second, .val (.ref b8), .val (.ref b12), .val (.ref b21), .val (.ref b30), .val (.ref b43), .val (.ref b46), .val (.int (0 : Int32)), .val (.int (2 : Int32)), .val (.int i4), .val (.long j110), .second, .val (.long j112), .second, .val (.int i114), .unset, .unset, .unset, .unset]) rfl (pc' := 396) rfl ?_
          refine R.iload X113 hx (hb hby at_396) rfl (pc' := 398) rfl ?_
          refine R.iload X113 hx (hb hby at_398) rfl (pc' := 400) rfl ?_
          refine R.callS X113 hx hZ (y := mY3) hown w_6 w_7 w_4 w_8 (by decide) e113 (rm2 l Z aZ hw [] (2 : Int32) i4 h108 n0 Z108 ) (by decide) (W := 0) (Nat.le_of_eq rfl) (by decide) (by rw [hml]; rfl) (lenOf pd_2 rfl) rfl (hb hby at_400) (pc' := 403) rfl (by decide) (by decide) ?_; intro v115 T115 L115 X115 hQ115
          obtain ⟨rfl, N115q, e115⟩ := hQ115
          have N115 := Fr.app N113 N115q
          show Rn p e below (T115.setTop (mkF m 403 #[.val (.int p0), .val (.int p1), .val (.int p2), .val (.int p3), .val (.int p4), .val (.int p5), .val (.int (0 : Int32)), .val (.int (2 : Int32)), .val (.int i3), .val (.int i4), .val (.int i5), .val (.int (0 : Int32)), .val (.double r7), .second, .val (.ref b8), .val (.ref b12), .val (.ref b21), .val (.ref b30), .val (.ref b43), .val (.ref b46), .val (.int (0 : Int32)), .val (.int (2 : Int32)), .val (.int i4), .val (.long j110), .second, .val (.long j112), .second, .val (.int i114), .unset, .unset, .unset, .unset] [(.int (own_rowB (2 : Int32) i4))])) G
          generalize hi116 : (own_rowB (2 : Int32) i4) = i116
          refine R.istore X115 hx (hb hby at_403) (L' := #[.val (.int p0), .val (.int p1), .val (.int p2), .val (.int p3), .val (.int p4), .val (.int p5), .val (.int (0 : Int32)), .val (.int (2 : Int32)), .val (.int i3), .val (.int i4), .val (.int i5), .val (.int (0 : Int32)), .val (.double r7), .second, .val (.ref b8), .val (.ref b12), .val (.ref b21), .val (.ref b30), .val (.ref b43), .val (.ref b46), .val (.int (0 : Int32)), .val (.int (2 : Int32)), .val (.int i4), .val (.long j110), .second, .val (.long j112), .second, .val (.int i114), .val (.int i116), .unset, .unset, .unset]) rfl (pc' := 405) rfl ?_
          refine R.iconst X115 hx (hb hby at_405) (v := (1 : Int32)) (by decide) (pc' := 406) rfl ?_
          refine R.istore X115 hx (hb hby at_406) (L' := #[.val (.int p0), .val (.int p1), .val (.int p2), .val (.int p3), .val (.int p4), .val (.int p5), .val (.int (0 : Int32)), .val (.int (2 : Int32)), .val (.int i3), .val (.int i4), .val (.int i5), .val (.int (0 : Int32)), .val (.double r7), .second, .val (.ref b8), .val (.ref b12), .val (.ref b21), .val (.ref b30), .val (.ref b43), .val (.ref b46), .val (.int (0 : Int32)), .val (.int (2 : Int32)), .val (.int i4), .val (.long j110), .second, .val (.long j112), .second, .val (.int i114), .val (.int i116), .val (.int (1 : Int32)), .unset, .unset]) rfl (pc' := 408) rfl ?_
          refine R.iload X115 hx (hb hby at_408) rfl (pc' := 410) rfl ?_
          refine R.ifYes X115 hx (hb hby at_410) (flt (by decide : ¬ ((0 : Int32) < (0 : Int32)))).2.2.2 (by decide) (pc' := 493) (by decide) ?_
          refine R.iload X115 hx (hb hby at_493) rfl (pc' := 495) rfl ?_
          refine R.iconst X115 hx (hb hby at_495) (v := (1 : Int32)) (by decide) (pc' := 496) rfl ?_
          refine R.icmpYes X115 hx (hb hby at_496) (flt (by decide : ¬ ((1 : Int32) < (0 : Int32)))).2.2.2 (by decide) (pc' := 583) (by decide) ?_
          refine R.iload X115 hx (hb hby at_583) rfl (pc' := 585) rfl ?_
          rw [← hG]
          exact Rn.ret X115 (BodyLoose.notSynchronized Bd) (v := some (.int (1 : Int32))) (fun h => by rw [Bd.returns] at h; cases h) (Q := Q0 Z p0 p1 p2 p3 p4 p5 h0 n0) e115 (fun fs hr => retN X115 hx (t := .boolean) Bd.returns (by simp) (hb hby at_585) hr) ⟨rfl, N115⟩ (by decide) (by decide)
        · refine R.aload X47 hx (hb hby at_313) rfl rfl (pc' := 315) rfl ?_
          refine R.iload X47 hx (hb hby at_315) rfl (pc' := 317) rfl ?_
          refine R.aload X47 hx (hb hby at_317) rfl rfl (pc' := 319) rfl ?_
          refine R.iload X47 hx (hb hby at_319) rfl (pc' := 321) rfl ?_
          refine R.aload X47 hx (hb hby at_321) rfl rfl (pc' := 323) rfl ?_
          refine R.virtual X47 hx hZ (y := mY7) (z := mY7) hown w_38 w_39 (notFace_of_selects (args := #[]) (mvT hZ w_41)) w_41 w_40 w_18 w_42 (by decide) e47 E_b46 (rm8 l Z aZ hw [] b46 (0 : Int32) b30 (1 : Int32) b43 b8 b12 b21 k8 k12 k21 k30 k43 [((2 : Int32), (.int ((2 : Int32) + i3))), ((1 : Int32), (.int (2 : Int32))), ((0 : Int32), (.int (0 : Int32)))] [(((2 : Int32) + (1 : Int32)), (.int (own_rowB i3 i5))), ((2 : Int32), (.int (own_rowA i3 i5))), ((1 : Int32), (.int (own_rowB (2 : Int32) i4))), ((0 : Int32), (.int (own_rowA (2 : Int32) i4)))] [((3 : Int32), (.double (FP.l2d (own_wAt (3 : Int32) p1 p2)))), ((2 : Int32), (.double (FP.l2d (own_wAt (2 : Int32) p1 p2)))), ((1 : Int32), (.double (FP.l2d (own_wAt (1 : Int32) p1 p2)))), ((0 : Int32), (.double (FP.l2d (own_wAt (0 : Int32) p1 p2))))] [((5 : Int32), (.double (FP.l2d (own_yAt (5 : Int32) p3 p4 p5)))), ((4 : Int32), (.double (FP.l2d (own_yAt (4 : Int32) p3 p4 p5)))), ((3 : Int32), (.double (FP.l2d (own_yAt (3 : Int32) p3 p4 p5)))), ((2 : Int32), (.double (FP.l2d (own_yAt (2 : Int32) p3 p4 p5)))), ((1 : Int32), (.double (FP.l2d (own_yAt (1 : Int32) p3 p4 p5)))), ((0 : Int32), (.double (FP.l2d (own_yAt (0 : Int32) p3 p4 p5))))] [((1 : Int32), (.double r7)), ((0 : Int32), (.double r7))] (0 : Int32) (2 : Int32) (FP.l2d (own_wAt (0 : Int32) p1 p2)) (FP.l2d (own_wAt ((0 : Int32) + (1 : Int32)) p1 p2)) (own_wAt (0 : Int32) p1 p2).toInt (own_wAt ((0 : Int32) + (1 : Int32)) p1 p2).toInt (own_rowA (2 : Int32) i4) (own_rowB (2 : Int32) i4) (fun i => FP.l2d (own_yAt i p3 p4 p5)) (fun i => (own_yAt i p3 p4 p5).toInt) ((own_wAt (0 : Int32) p1 p2).toInt * (own_yAt ((own_rowA (2 : Int32) i4) * (1 : Int32)) p3 p4 p5).toInt + (own_wAt ((0 : Int32) + (1 : Int32)) p1 p2).toInt * (own_yAt ((own_rowB (2 : Int32) i4) * (1 : Int32)) p3 p4 p5).toInt) ((own_wAt (0 : Int32) p1 p2).toInt * (own_yAt (((own_rowA (2 : Int32) i4) * (1 : Int32)) + (1 : Int32)) p3 p4 p5).toInt + (own_wAt ((0 : Int32) + (1 : Int32)) p1 p2).toInt * (own_yAt (((own_rowB (2 : Int32) i4) * (1 : Int32)) + (1 : Int32)) p3 p4 p5).toInt) h47 n0 Z47 F_start_b46 F_rows_b46 F_values_b46 V_b8 V_b12 V_b21 V_b30 V_b43 g_b43 (Ne.symm ne_b43_b46) ne_b8_b43 ne_b12_b43 ne_b21_b43 ne_b30_b43 (by decide) (rfl) (rfl) (by decide) (by decide) (own_rA h9_) (own_rB) (Or.inr (Or.inr ⟨rfl, rfl, rfl, rfl, rfl, rfl, rfl⟩)) (Dy.l2d (by have := own_wb (0 : Int32) p1 p2; omega)) (Dy.l2d (by have := own_wb ((0 : Int32) + (1 : Int32)) p1 p2; omega)) (own_wb _ _ _) (own_wb _ _ _) (own_rdy)) (by decide) (W := 0) (Nat.le_of_eq rfl) (by decide) (by rw [hml]; rfl) (lenOf pd_6 rfl) rfl (hb hby at_323) (pc' := 326) rfl (by decide) (by decide) ?_; intro v117 T117 L117 X117 hQ117
          obtain ⟨hj_117, rfl, N117q, Kc117, P117_0, P117_1, P117_2⟩ := hQ117
          have N117 := Fr.app N47 N117q
          generalize e117 : T117.heap = h117 at Kc117 P117_0 P117_1 P117_2
          have K117 : Keep h0 h117 [] := K47.trans Kc117 ((allS (Or.inr sz_b43) all0))
          have Z117 : n0 ≤ h117.size := Nat.le_trans Z47 Kc117.1
          have V_b8 := V_b8.keep Kc117 (ninS ne_b8_b43 nin0)
          have V_b12 := V_b12.keep Kc117 (ninS ne_b12_b43 nin0)
          have V_b21 := V_b21.keep Kc117 (ninS ne_b21_b43 nin0)
          have V_b30 := V_b30.keep Kc117 (ninS ne_b30_b43 nin0)
          have E_b46 := E_b46.keep Kc117
          have F_start_b46 := F_start_b46.keep Kc117 (ninS (Ne.symm ne_b43_b46) nin0)
          have F_rows_b46 := F_rows_b46.keep Kc117 (ninS (Ne.symm ne_b43_b46) nin0)
          have F_values_b46 := F_values_b46.keep Kc117 (ninS (Ne.symm ne_b43_b46) nin0)
          have V_b43 : Arh Z h117 b43 k43 .double (2 : Int32) hj_117 [] (.double (0 : UInt64)) := P117_0
          have V_b43 : Arh Z h117 b43 k43 .double (2 : Int32) hj_117 [] (.double (0 : UInt64)) := V_b43
          have c0_117 := P117_1
          have c1_117 := P117_2
          refine R.iload X117 hx (hb hby at_326) rfl (pc' := 328) rfl ?_
          refine R.ifNo X117 hx (hb hby at_328) (teq (by decide : (0 : Int32) = (0 : Int32))).2 (pc' := 331) rfl ?_
          refine R.iconst X117 hx (hb hby at_331) (v := (0 : Int32)) (by decide) (pc' := 332) rfl ?_
          refine R.goto X117 hx (hb hby at_332) (by decide) (pc' := 337) (by decide) ?_
          refine R.istore X117 hx (hb hby at_337) (L' := #[.val (.int p0), .val (.int p1), .val (.int p2), .val (.int p3), .val (.int p4), .val (.int p5), .val (.int (0 : Int32)), .val (.int (2 : Int32)), .val (.int i3), .val (.int i4), .val (.int i5), .val (.int (1 : Int32)), .val (.double r7), .second, .val (.ref b8), .val (.ref b12), .val (.ref b21), .val (.ref b30), .val (.ref b43), .val (.ref b46), .val (.int (0 : Int32)), .unset, .unset, .unset, .unset, .unset, .unset, .unset, .unset, .unset, .unset, .unset]) rfl (pc' := 339) rfl ?_
          refine R.iload X117 hx (hb hby at_339) rfl (pc' := 341) rfl ?_
          refine R.ifNo X117 hx (hb hby at_341) (teq (by decide : (0 : Int32) = (0 : Int32))).2 (pc' := 344) rfl ?_
          refine R.iload X117 hx (hb hby at_344) rfl (pc' := 346) rfl ?_
          refine R.goto X117 hx (hb hby at_346) (by decide) (pc' := 351) (by decide) ?_
          refine R.istore X117 hx (hb hby at_351) (L' := #[.val (.int p0), .val (.int p1), .val (.int p2), .val (.int p3), .val (.int p4), .val (.int p5), .val (.int (0 : Int32)), .val (.int (2 : Int32)), .val (.int i3), .val (.int i4), .val (.int i5), .val (.int (1 : Int32)), .val (.double r7), .second, .val (.ref b8), .val (.ref b12), .val (.ref b21), .val (.ref b30), .val (.ref b43), .val (.ref b46), .val (.int (0 : Int32)), .val (.int (2 : Int32)), .unset, .unset, .unset, .unset, .unset, .unset, .unset, .unset, .unset, .unset]) rfl (pc' := 353) rfl ?_
          refine R.iload X117 hx (hb hby at_353) rfl (pc' := 355) rfl ?_
          refine R.ifNo X117 hx (hb hby at_355) (teq (by decide : (0 : Int32) = (0 : Int32))).2 (pc' := 358) rfl ?_
          refine R.iload X117 hx (hb hby at_358) rfl (pc' := 360) rfl ?_
          refine R.goto X117 hx (hb hby at_360) (by decide) (pc' := 365) (by decide) ?_
          refine R.istore X117 hx (hb hby at_365) (L' := #[.val (.int p0), .val (.int p1), .val (.int p2), .val (.int p3), .val (.int p4), .val (.int p5), .val (.int (0 : Int32)), .val (.int (2 : Int32)), .val (.int i3), .val (.int i4), .val (.int i5), .val (.int (1 : Int32)), .val (.double r7), .second, .val (.ref b8), .val (.ref b12), .val (.ref b21), .val (.ref b30), .val (.ref b43), .val (.ref b46), .val (.int (0 : Int32)), .val (.int (2 : Int32)), .val (.int i4), .unset, .unset, .unset, .unset, .unset, .unset, .unset, .unset, .unset]) rfl (pc' := 367) rfl ?_
          refine R.iload X117 hx (hb hby at_367) rfl (pc' := 369) rfl ?_
          refine R.iloadN X117 hx (hb hby at_369) rfl (pc' := 370) rfl ?_
          refine R.iloadN X117 hx (hb hby at_370) rfl (pc' := 371) rfl ?_
          refine R.callS X117 hx hZ (y := mY4) hown w_10 w_11 w_4 w_12 (by decide) e117 (rm3 l Z aZ hw [] (0 : Int32) p1 p2 h117 n0 Z117 ) (by decide) (W := 0) (Nat.le_of_eq rfl) (by decide) (by rw [hml]; rfl) (lenOf pd_3 rfl) rfl (hb hby at_371) (pc' := 374) rfl (by decide) (by decide) ?_; intro v118 T118 L118 X118 hQ118
          obtain ⟨rfl, N118q, e118⟩ := hQ118
          have N118 := Fr.app N117 N118q
          show Rn p e below (T118.setTop (mkF m 374 #[.val (.int p0), .val (.int p1), .val (.int p2), .val (.int p3), .val (.int p4), .val (.int p5), .val (.int (0 : Int32)), .val (.int (2 : Int32)), .val (.int i3), .val (.int i4), .val (.int i5), .val (.int (1 : Int32)), .val (.double r7), .second, .val (.ref b8), .val (.ref b12), .val (.ref b21), .val (.ref b30), .val (.ref b43), .val (.ref b46), .val (.int (0 : Int32)), .val (.int (2 : Int32)), .val (.int i4), .unset, .unset, .unset, .unset, .unset, .unset, .unset, .unset, .unset] [(.long (own_wAt (0 : Int32) p1 p2))])) G
          generalize hj119 : (own_wAt (0 : Int32) p1 p2) = j119
          refine R.lstore X118 hx (hb hby at_374) (L' := #[.val (.int p0), .val (.int p1), .val (.int p2), .val (.int p3), .val (.int p4), .val (.int p5), .val (.int (0 : Int32)), .val (.int (2 : Int32)), .val (.int i3), .val (.int i4), .val (.int i5), .val (.int (1 : Int32)), .val (.double r7), .second, .val (.ref b8), .val (.ref b12), .val (.ref b21), .val (.ref b30), .val (.ref b43), .val (.ref b46), .val (.int (0 : Int32)), .val (.int (2 : Int32)), .val (.int i4), .val (.long j119), .second, .unset, .unset, .unset, .unset, .unset, .unset, .unset]) rfl (pc' := 376) rfl ?_
          refine R.iload X118 hx (hb hby at_376) rfl (pc' := 378) rfl ?_
          refine R.iconst X118 hx (hb hby at_378) (v := (1 : Int32)) (by decide) (pc' := 379) rfl ?_
          refine R.iadd X118 hx (hb hby at_379) (v := (1 : Int32)) (by decide) (pc' := 380) rfl ?_
          refine R.iloadN X118 hx (hb hby at_380) rfl (pc' := 381) rfl ?_
          refine R.iloadN X118 hx (hb hby at_381) rfl (pc' := 382) rfl ?_
          refine R.callS X118 hx hZ (y := mY4) hown w_10 w_11 w_4 w_12 (by decide) e118 (rm3 l Z aZ hw [] (1 : Int32) p1 p2 h117 n0 Z117 ) (by decide) (W := 0) (Nat.le_of_eq rfl) (by decide) (by rw [hml]; rfl) (lenOf pd_3 rfl) rfl (hb hby at_382) (pc' := 385) rfl (by decide) (by decide) ?_; intro v120 T120 L120 X120 hQ120
          obtain ⟨rfl, N120q, e120⟩ := hQ120
          have N120 := Fr.app N118 N120q
          show Rn p e below (T120.setTop (mkF m 385 #[.val (.int p0), .val (.int p1), .val (.int p2), .val (.int p3), .val (.int p4), .val (.int p5), .val (.int (0 : Int32)), .val (.int (2 : Int32)), .val (.int i3), .val (.int i4), .val (.int i5), .val (.int (1 : Int32)), .val (.double r7), .second, .val (.ref b8), .val (.ref b12), .val (.ref b21), .val (.ref b30), .val (.ref b43), .val (.ref b46), .val (.int (0 : Int32)), .val (.int (2 : Int32)), .val (.int i4), .val (.long j119), .second, .unset, .unset, .unset, .unset, .unset, .unset, .unset] [(.long (own_wAt (1 : Int32) p1 p2))])) G
          generalize hj121 : (own_wAt (1 : Int32) p1 p2) = j121
          refine R.lstore X120 hx (hb hby at_385) (L' := #[.val (.int p0), .val (.int p1), .val (.int p2), .val (.int p3), .val (.int p4), .val (.int p5), .val (.int (0 : Int32)), .val (.int (2 : Int32)), .val (.int i3), .val (.int i4), .val (.int i5), .val (.int (1 : Int32)), .val (.double r7), .second, .val (.ref b8), .val (.ref b12), .val (.ref b21), .val (.ref b30), .val (.ref b43), .val (.ref b46), .val (.int (0 : Int32)), .val (.int (2 : Int32)), .val (.int i4), .val (.long j119), .second, .val (.long j121), .second, .unset, .unset, .unset, .unset, .unset]) rfl (pc' := 387) rfl ?_
          refine R.iload X120 hx (hb hby at_387) rfl (pc' := 389) rfl ?_
          refine R.iload X120 hx (hb hby at_389) rfl (pc' := 391) rfl ?_
          refine R.callS X120 hx hZ (y := mY2) hown w_2 w_3 w_4 w_5 (by decide) e120 (rm1 l Z aZ hw [] (2 : Int32) i4 h117 n0 Z117 ) (by decide) (W := 0) (Nat.le_of_eq rfl) (by decide) (by rw [hml]; rfl) (lenOf pd_2 rfl) rfl (hb hby at_391) (pc' := 394) rfl (by decide) (by decide) ?_; intro v122 T122 L122 X122 hQ122
          obtain ⟨rfl, N122q, e122⟩ := hQ122
          have N122 := Fr.app N120 N122q
          show Rn p e below (T122.setTop (mkF m 394 #[.val (.int p0), .val (.int p1), .val (.int p2), .val (.int p3), .val (.int p4), .val (.int p5), .val (.int (0 : Int32)), .val (.int (2 : Int32)), .val (.int i3), .val (.int i4), .val (.int i5), .val (.int (1 : Int32)), .val (.double r7), .second, .val (.ref b8), .val (.ref b12), .val (.ref b21), .val (.ref b30), .val (.ref b43), .val (.ref b46), .val (.int (0 : Int32)), .val (.int (2 : Int32)), .val (.int i4), .val (.long j119), .second, .val (.long j121), .second, .unset, .unset, .unset, .unset, .unset] [(.int (own_rowA (2 : Int32) i4))])) G
          generalize hi123 : (own_rowA (2 : Int32) i4) = i123
          refine R.istore X122 hx (hb hby at_394) (L' := #[.val (.int p0), .val (.int p1), .val (.int p2), .val (.int p3), .val (.int p4), .val (.int p5), .val (.int (0 : Int32)), .val (.int (2 : Int32)), .val (.int i3), .val (.int i4), .val (.int i5), .val (.int (1 : Int32)), .val (.double r7), .second, .val (.ref b8), .val (.ref b12), .val (.ref b21), .val (.ref b30), .val (.ref b43), .val (.ref b46), .val (.int (0 : Int32)), .val (.int (2 : Int32)), .val (.int i4), .val (.long j119), .second, .val (.long j121), .second, .val (.int i123), .unset, .unset, .unset, .unset]) rfl (pc' := 396) rfl ?_
          refine R.iload X122 hx (hb hby at_396) rfl (pc' := 398) rfl ?_
          refine R.iload X122 hx (hb hby at_398) rfl (pc' := 400) rfl ?_
          refine R.callS X122 hx hZ (y := mY3) hown w_6 w_7 w_4 w_8 (by decide) e122 (rm2 l Z aZ hw [] (2 : Int32) i4 h117 n0 Z117 ) (by decide) (W := 0) (Nat.le_of_eq rfl) (by decide) (by rw [hml]; rfl) (lenOf pd_2 rfl) rfl (hb hby at_400) (pc' := 403) rfl (by decide) (by decide) ?_; intro v124 T124 L124 X124 hQ124
          obtain ⟨rfl, N124q, e124⟩ := hQ124
          have N124 := Fr.app N122 N124q
          show Rn p e below (T124.setTop (mkF m 403 #[.val (.int p0), .val (.int p1), .val (.int p2), .val (.int p3), .val (.int p4), .val (.int p5), .val (.int (0 : Int32)), .val (.int (2 : Int32)), .val (.int i3), .val (.int i4), .val (.int i5), .val (.int (1 : Int32)), .val (.double r7), .second, .val (.ref b8), .val (.ref b12), .val (.ref b21), .val (.ref b30), .val (.ref b43), .val (.ref b46), .val (.int (0 : Int32)), .val (.int (2 : Int32)), .val (.int i4), .val (.long j119), .second, .val (.long j121), .second, .val (.int i123), .unset, .unset, .unset, .unset] [(.int (own_rowB (2 : Int32) i4))])) G
          generalize hi125 : (own_rowB (2 : Int32) i4) = i125
          refine R.istore X124 hx (hb hby at_403) (L' := #[.val (.int p0), .val (.int p1), .val (.int p2), .val (.int p3), .val (.int p4), .val (.int p5), .val (.int (0 : Int32)), .val (.int (2 : Int32)), .val (.int i3), .val (.int i4), .val (.int i5), .val (.int (1 : Int32)), .val (.double r7), .second, .val (.ref b8), .val (.ref b12), .val (.ref b21), .val (.ref b30), .val (.ref b43), .val (.ref b46), .val (.int (0 : Int32)), .val (.int (2 : Int32)), .val (.int i4), .val (.long j119), .second, .val (.long j121), .second, .val (.int i123), .val (.int i125), .unset, .unset, .unset]) rfl (pc' := 405) rfl ?_
          refine R.iconst X124 hx (hb hby at_405) (v := (1 : Int32)) (by decide) (pc' := 406) rfl ?_
          refine R.istore X124 hx (hb hby at_406) (L' := #[.val (.int p0), .val (.int p1), .val (.int p2), .val (.int p3), .val (.int p4), .val (.int p5), .val (.int (0 : Int32)), .val (.int (2 : Int32)), .val (.int i3), .val (.int i4), .val (.int i5), .val (.int (1 : Int32)), .val (.double r7), .second, .val (.ref b8), .val (.ref b12), .val (.ref b21), .val (.ref b30), .val (.ref b43), .val (.ref b46), .val (.int (0 : Int32)), .val (.int (2 : Int32)), .val (.int i4), .val (.long j119), .second, .val (.long j121), .second, .val (.int i123), .val (.int i125), .val (.int (1 : Int32)), .unset, .unset]) rfl (pc' := 408) rfl ?_
          refine R.iload X124 hx (hb hby at_408) rfl (pc' := 410) rfl ?_
          refine R.ifNo X124 hx (hb hby at_410) (tlt (by decide : (0 : Int32) < (1 : Int32))).2.2.2 (pc' := 413) rfl ?_
          refine R.lconst X124 hx (hb hby at_413) (v := (0 : Int64)) (by decide) (pc' := 414) rfl ?_
          refine R.lstore X124 hx (hb hby at_414) (L' := #[.val (.int p0), .val (.int p1), .val (.int p2), .val (.int p3), .val (.int p4), .val (.int p5), .val (.int (0 : Int32)), .val (.int (2 : Int32)), .val (.int i3), .val (.int i4), .val (.int i5), .val (.int (1 : Int32)), .val (.double r7), .second, .val (.ref b8), .val (.ref b12), .val (.ref b21), .val (.ref b30), .val (.ref b43), .val (.ref b46), .val (.int (0 : Int32)), .val (.int (2 : Int32)), .val (.int i4), .val (.long j119), .second, .val (.long j121), .second, .val (.int i123), .val (.int i125), .val (.int (1 : Int32)), .val (.long (0 : Int64)), .second]) rfl (pc' := 416) rfl ?_
          refine R.iload X124 hx (hb hby at_416) rfl (pc' := 418) rfl ?_
          refine R.iconst X124 hx (hb hby at_418) (v := (1 : Int32)) (by decide) (pc' := 419) rfl ?_
          refine R.icmpNo X124 hx (hb hby at_419) (flt (by decide : ¬ ((2 : Int32) < (1 : Int32)))).1 (pc' := 422) rfl ?_
          refine R.lload X124 hx (hb hby at_422) rfl (pc' := 424) rfl ?_
          refine R.lload X124 hx (hb hby at_424) rfl (pc' := 426) rfl ?_
          refine R.iload X124 hx (hb hby at_426) rfl (pc' := 428) rfl ?_
          refine R.iload X124 hx (hb hby at_428) rfl (pc' := 430) rfl ?_
          refine R.imul X124 hx (hb hby at_430) rfl (pc' := 431) rfl ?_
          refine R.iloadN X124 hx (hb hby at_431) rfl (pc' := 432) rfl ?_
          refine R.iload X124 hx (hb hby at_432) rfl (pc' := 434) rfl ?_
          refine R.iload X124 hx (hb hby at_434) rfl (pc' := 436) rfl ?_
          refine R.callS X124 hx hZ (y := mY5) hown w_13 w_14 w_4 w_15 (by decide) e124 (rm4 l Z aZ hw [] (i123 * (1 : Int32)) p3 p4 p5 h117 n0 Z117 ) (by decide) (W := 4) (Nat.le_of_eq rfl) (by decide) (by rw [hml]; rfl) (lenOf pd_4 rfl) rfl (hb hby at_436) (pc' := 439) rfl (by decide) (by decide) ?_; intro v126 T126 L126 X126 hQ126
          obtain ⟨rfl, N126q, e126⟩ := hQ126
          have N126 := Fr.app N124 N126q
          refine R.lmul X126 hx (hb hby at_439) rfl (pc' := 440) rfl ?_
          refine R.ladd X126 hx (hb hby at_440) rfl (pc' := 441) rfl ?_
          show Rn p e below (T126.setTop (mkF m 441 #[.val (.int p0), .val (.int p1), .val (.int p2), .val (.int p3), .val (.int p4), .val (.int p5), .val (.int (0 : Int32)), .val (.int (2 : Int32)), .val (.int i3), .val (.int i4), .val (.int i5), .val (.int (1 : Int32)), .val (.double r7), .second, .val (.ref b8), .val (.ref b12), .val (.ref b21), .val (.ref b30), .val (.ref b43), .val (.ref b46), .val (.int (0 : Int32)), .val (.int (2 : Int32)), .val (.int i4), .val (.long j119), .second, .val (.long j121), .second, .val (.int i123), .val (.int i125), .val (.int (1 : Int32)), .val (.long (0 : Int64)), .second] [(.long ((0 : Int64) + (j119 * (own_yAt (i123 * (1 : Int32)) p3 p4 p5))))])) G
          generalize hj127 : ((0 : Int64) + (j119 * (own_yAt (i123 * (1 : Int32)) p3 p4 p5))) = j127
          refine R.lstore X126 hx (hb hby at_441) (L' := #[.val (.int p0), .val (.int p1), .val (.int p2), .val (.int p3), .val (.int p4), .val (.int p5), .val (.int (0 : Int32)), .val (.int (2 : Int32)), .val (.int i3), .val (.int i4), .val (.int i5), .val (.int (1 : Int32)), .val (.double r7), .second, .val (.ref b8), .val (.ref b12), .val (.ref b21), .val (.ref b30), .val (.ref b43), .val (.ref b46), .val (.int (0 : Int32)), .val (.int (2 : Int32)), .val (.int i4), .val (.long j119), .second, .val (.long j121), .second, .val (.int i123), .val (.int i125), .val (.int (1 : Int32)), .val (.long j127), .second]) rfl (pc' := 443) rfl ?_
          have tr0_1 := own_mulY (by rw [← hj119]; exact own_wb _ _ _) (own_yb _ _ _ _) hj127
          rw [← hj119, ← hi123] at tr0_1
          refine R.iload X126 hx (hb hby at_443) rfl (pc' := 445) rfl ?_
          refine R.iconst X126 hx (hb hby at_445) (v := (2 : Int32)) (by decide) (pc' := 446) rfl ?_
          refine R.icmpNo X126 hx (hb hby at_446) (flt (by decide : ¬ ((2 : Int32) < (2 : Int32)))).1 (pc' := 449) rfl ?_
          refine R.lload X126 hx (hb hby at_449) rfl (pc' := 451) rfl ?_
          refine R.lload X126 hx (hb hby at_451) rfl (pc' := 453) rfl ?_
          refine R.iload X126 hx (hb hby at_453) rfl (pc' := 455) rfl ?_
          refine R.iload X126 hx (hb hby at_455) rfl (pc' := 457) rfl ?_
          refine R.imul X126 hx (hb hby at_457) rfl (pc' := 458) rfl ?_
          refine R.iloadN X126 hx (hb hby at_458) rfl (pc' := 459) rfl ?_
          refine R.iload X126 hx (hb hby at_459) rfl (pc' := 461) rfl ?_
          refine R.iload X126 hx (hb hby at_461) rfl (pc' := 463) rfl ?_
          refine R.callS X126 hx hZ (y := mY5) hown w_13 w_14 w_4 w_15 (by decide) e126 (rm4 l Z aZ hw [] (i125 * (1 : Int32)) p3 p4 p5 h117 n0 Z117 ) (by decide) (W := 4) (Nat.le_of_eq rfl) (by decide) (by rw [hml]; rfl) (lenOf pd_4 rfl) rfl (hb hby at_463) (pc' := 466) rfl (by decide) (by decide) ?_; intro v128 T128 L128 X128 hQ128
          obtain ⟨rfl, N128q, e128⟩ := hQ128
          have N128 := Fr.app N126 N128q
          refine R.lmul X128 hx (hb hby at_466) rfl (pc' := 467) rfl ?_
          refine R.ladd X128 hx (hb hby at_467) rfl (pc' := 468) rfl ?_
          show Rn p e below (T128.setTop (mkF m 468 #[.val (.int p0), .val (.int p1), .val (.int p2), .val (.int p3), .val (.int p4), .val (.int p5), .val (.int (0 : Int32)), .val (.int (2 : Int32)), .val (.int i3), .val (.int i4), .val (.int i5), .val (.int (1 : Int32)), .val (.double r7), .second, .val (.ref b8), .val (.ref b12), .val (.ref b21), .val (.ref b30), .val (.ref b43), .val (.ref b46), .val (.int (0 : Int32)), .val (.int (2 : Int32)), .val (.int i4), .val (.long j119), .second, .val (.long j121), .second, .val (.int i123), .val (.int i125), .val (.int (1 : Int32)), .val (.long j127), .second] [(.long (j127 + (j121 * (own_yAt (i125 * (1 : Int32)) p3 p4 p5))))])) G
          generalize hj129 : (j127 + (j121 * (own_yAt (i125 * (1 : Int32)) p3 p4 p5))) = j129
          refine R.lstore X128 hx (hb hby at_468) (L' := #[.val (.int p0), .val (.int p1), .val (.int p2), .val (.int p3), .val (.int p4), .val (.int p5), .val (.int (0 : Int32)), .val (.int (2 : Int32)), .val (.int i3), .val (.int i4), .val (.int i5), .val (.int (1 : Int32)), .val (.double r7), .second, .val (.ref b8), .val (.ref b12), .val (.ref b21), .val (.ref b30), .val (.ref b43), .val (.ref b46), .val (.int (0 : Int32)), .val (.int (2 : Int32)), .val (.int i4), .val (.long j119), .second, .val (.long j121), .second, .val (.int i123), .val (.int i125), .val (.int (1 : Int32)), .val (.long j129), .second]) rfl (pc' := 470) rfl ?_
          have tr0_2 := own_mulY2 tr0_1 (by have q := own_pb (own_wb (0 : Int32) p1 p2) (own_yb ((own_rowA (2 : Int32) i4) * (1 : Int32)) p3 p4 p5); omega) (by rw [← hj121]; exact own_wb _ _ _) (own_yb _ _ _ _) hj129
          rw [← hj121, ← hi125] at tr0_2
          obtain ⟨xv0, hxv0, Dx0⟩ := c0_117 (by decide)
          refine R.iload X128 hx (hb hby at_470) rfl (pc' := 472) rfl ?_
          refine R.ifNo X128 hx (hb hby at_472) (feq (by decide : ¬ ((1 : Int32) = (0 : Int32)))).1 (pc' := 475) rfl ?_
          refine R.aload X128 hx (hb hby at_475) rfl rfl (pc' := 477) rfl ?_
          refine R.iconst X128 hx (hb hby at_477) (v := (0 : Int32)) (by decide) (pc' := 478) rfl ?_
          refine R.daload X128 hx hZ e128 V_b43 (⟨by decide, by decide⟩ : ¬ (0 : Int32) < 0 ∧ (0 : Int32) < (2 : Int32)) (v := (.double xv0)) (hxv0) (hb hby at_478) (pc' := 479) rfl ?_
          refine R.lload X128 hx (hb hby at_479) rfl (pc' := 481) rfl ?_
          refine R.l2d X128 hx (hb hby at_481) (pc' := 482) rfl ?_
          refine R.dcmp X128 hx (hb hby at_482) (Dx0.cmp ((Dy.l2d (by rw [tr0_2]; have q1 := own_pb (own_wb (0 : Int32) p1 p2) (own_yb ((own_rowA (2 : Int32) i4) * (1 : Int32)) p3 p4 p5); have q2 := own_pb (own_wb ((0 : Int32) + (1 : Int32)) p1 p2) (own_yb ((own_rowB (2 : Int32) i4) * (1 : Int32)) p3 p4 p5); first | exact own_nab2 q1 q2 (by decide) | exact own_nab1 q1 (by decide) | omega)).cast tr0_2 rfl) _ : cmpValue (FP.dcmp xv0 (FP.l2d j129)) .l = (own_ci ((own_wAt (0 : Int32) p1 p2).toInt * (own_yAt ((own_rowA (2 : Int32) i4) * (1 : Int32)) p3 p4 p5).toInt + (own_wAt ((0 : Int32) + (1 : Int32)) p1 p2).toInt * (own_yAt ((own_rowB (2 : Int32) i4) * (1 : Int32)) p3 p4 p5).toInt) ((own_wAt (0 : Int32) p1 p2).toInt * (own_yAt ((own_rowA (2 : Int32) i4) * (1 : Int32)) p3 p4 p5).toInt + (own_wAt ((0 : Int32) + (1 : Int32)) p1 p2).toInt * (own_yAt ((own_rowB (2 : Int32) i4) * (1 : Int32)) p3 p4 p5).toInt))) (pc' := 483) rfl ?_
          refine R.ifNo X128 hx (hb hby at_483) (teq (own_ci_eq.mpr rfl : (own_ci ((own_wAt (0 : Int32) p1 p2).toInt * (own_yAt ((own_rowA (2 : Int32) i4) * (1 : Int32)) p3 p4 p5).toInt + (own_wAt ((0 : Int32) + (1 : Int32)) p1 p2).toInt * (own_yAt ((own_rowB (2 : Int32) i4) * (1 : Int32)) p3 p4 p5).toInt) ((own_wAt (0 : Int32) p1 p2).toInt * (own_yAt ((own_rowA (2 : Int32) i4) * (1 : Int32)) p3 p4 p5).toInt + (own_wAt ((0 : Int32) + (1 : Int32)) p1 p2).toInt * (own_yAt ((own_rowB (2 : Int32) i4) * (1 : Int32)) p3 p4 p5).toInt)) = (0 : Int32))).2 (pc' := 486) rfl ?_
          refine R.iconst X128 hx (hb hby at_486) (v := (1 : Int32)) (by decide) (pc' := 487) rfl ?_
          refine R.goto X128 hx (hb hby at_487) (by decide) (pc' := 491) (by decide) ?_
          refine R.istore X128 hx (hb hby at_491) (L' := #[.val (.int p0), .val (.int p1), .val (.int p2), .val (.int p3), .val (.int p4), .val (.int p5), .val (.int (0 : Int32)), .val (.int (2 : Int32)), .val (.int i3), .val (.int i4), .val (.int i5), .val (.int (1 : Int32)), .val (.double r7), .second, .val (.ref b8), .val (.ref b12), .val (.ref b21), .val (.ref b30), .val (.ref b43), .val (.ref b46), .val (.int (0 : Int32)), .val (.int (2 : Int32)), .val (.int i4), .val (.long j119), .second, .val (.long j121), .second, .val (.int i123), .val (.int i125), .val (.int (1 : Int32)), .val (.long j129), .second]) rfl (pc' := 493) rfl ?_
          refine R.iload X128 hx (hb hby at_493) rfl (pc' := 495) rfl ?_
          refine R.iconst X128 hx (hb hby at_495) (v := (1 : Int32)) (by decide) (pc' := 496) rfl ?_
          refine R.icmpYes X128 hx (hb hby at_496) (flt (by decide : ¬ ((1 : Int32) < (1 : Int32)))).2.2.2 (by decide) (pc' := 583) (by decide) ?_
          refine R.iload X128 hx (hb hby at_583) rfl (pc' := 585) rfl ?_
          rw [← hG]
          exact Rn.ret X128 (BodyLoose.notSynchronized Bd) (v := some (.int (1 : Int32))) (fun h => by rw [Bd.returns] at h; cases h) (Q := Q0 Z p0 p1 p2 p3 p4 p5 h0 n0) e128 (fun fs hr => retN X128 hx (t := .boolean) Bd.returns (by simp) (hb hby at_585) hr) ⟨rfl, N128⟩ (by decide) (by decide)
        · refine R.aload X47 hx (hb hby at_313) rfl rfl (pc' := 315) rfl ?_
          refine R.iload X47 hx (hb hby at_315) rfl (pc' := 317) rfl ?_
          refine R.aload X47 hx (hb hby at_317) rfl rfl (pc' := 319) rfl ?_
          refine R.iload X47 hx (hb hby at_319) rfl (pc' := 321) rfl ?_
          refine R.aload X47 hx (hb hby at_321) rfl rfl (pc' := 323) rfl ?_
          refine R.virtual X47 hx hZ (y := mY7) (z := mY7) hown w_38 w_39 (notFace_of_selects (args := #[]) (mvT hZ w_41)) w_41 w_40 w_18 w_42 (by decide) e47 E_b46 (rm8 l Z aZ hw [] b46 (0 : Int32) b30 (2 : Int32) b43 b8 b12 b21 k8 k12 k21 k30 k43 [((2 : Int32), (.int ((2 : Int32) + i3))), ((1 : Int32), (.int (2 : Int32))), ((0 : Int32), (.int (0 : Int32)))] [(((2 : Int32) + (1 : Int32)), (.int (own_rowB i3 i5))), ((2 : Int32), (.int (own_rowA i3 i5))), ((1 : Int32), (.int (own_rowB (2 : Int32) i4))), ((0 : Int32), (.int (own_rowA (2 : Int32) i4)))] [((3 : Int32), (.double (FP.l2d (own_wAt (3 : Int32) p1 p2)))), ((2 : Int32), (.double (FP.l2d (own_wAt (2 : Int32) p1 p2)))), ((1 : Int32), (.double (FP.l2d (own_wAt (1 : Int32) p1 p2)))), ((0 : Int32), (.double (FP.l2d (own_wAt (0 : Int32) p1 p2))))] [((5 : Int32), (.double (FP.l2d (own_yAt (5 : Int32) p3 p4 p5)))), ((4 : Int32), (.double (FP.l2d (own_yAt (4 : Int32) p3 p4 p5)))), ((3 : Int32), (.double (FP.l2d (own_yAt (3 : Int32) p3 p4 p5)))), ((2 : Int32), (.double (FP.l2d (own_yAt (2 : Int32) p3 p4 p5)))), ((1 : Int32), (.double (FP.l2d (own_yAt (1 : Int32) p3 p4 p5)))), ((0 : Int32), (.double (FP.l2d (own_yAt (0 : Int32) p3 p4 p5))))] [((1 : Int32), (.double r7)), ((0 : Int32), (.double r7))] (0 : Int32) (2 : Int32) (FP.l2d (own_wAt (0 : Int32) p1 p2)) (FP.l2d (own_wAt ((0 : Int32) + (1 : Int32)) p1 p2)) (own_wAt (0 : Int32) p1 p2).toInt (own_wAt ((0 : Int32) + (1 : Int32)) p1 p2).toInt (own_rowA (2 : Int32) i4) (own_rowB (2 : Int32) i4) (fun i => FP.l2d (own_yAt i p3 p4 p5)) (fun i => (own_yAt i p3 p4 p5).toInt) ((own_wAt (0 : Int32) p1 p2).toInt * (own_yAt ((own_rowA (2 : Int32) i4) * (2 : Int32)) p3 p4 p5).toInt + (own_wAt ((0 : Int32) + (1 : Int32)) p1 p2).toInt * (own_yAt ((own_rowB (2 : Int32) i4) * (2 : Int32)) p3 p4 p5).toInt) ((own_wAt (0 : Int32) p1 p2).toInt * (own_yAt (((own_rowA (2 : Int32) i4) * (2 : Int32)) + (1 : Int32)) p3 p4 p5).toInt + (own_wAt ((0 : Int32) + (1 : Int32)) p1 p2).toInt * (own_yAt (((own_rowB (2 : Int32) i4) * (2 : Int32)) + (1 : Int32)) p3 p4 p5).toInt) h47 n0 Z47 F_start_b46 F_rows_b46 F_values_b46 V_b8 V_b12 V_b21 V_b30 V_b43 g_b43 (Ne.symm ne_b43_b46) ne_b8_b43 ne_b12_b43 ne_b21_b43 ne_b30_b43 (by decide) (rfl) (rfl) (by decide) (by decide) (own_rA h9_) (own_rB) (Or.inr (Or.inr ⟨rfl, rfl, rfl, rfl, rfl, rfl, rfl⟩)) (Dy.l2d (by have := own_wb (0 : Int32) p1 p2; omega)) (Dy.l2d (by have := own_wb ((0 : Int32) + (1 : Int32)) p1 p2; omega)) (own_wb _ _ _) (own_wb _ _ _) (own_rdy)) (by decide) (W := 0) (Nat.le_of_eq rfl) (by decide) (by rw [hml]; rfl) (lenOf pd_6 rfl) rfl (hb hby at_323) (pc' := 326) rfl (by decide) (by decide) ?_; intro v130 T130 L130 X130 hQ130
          obtain ⟨hj_130, rfl, N130q, Kc130, P130_0, P130_1, P130_2⟩ := hQ130
          have N130 := Fr.app N47 N130q
          generalize e130 : T130.heap = h130 at Kc130 P130_0 P130_1 P130_2
          have K130 : Keep h0 h130 [] := K47.trans Kc130 ((allS (Or.inr sz_b43) all0))
          have Z130 : n0 ≤ h130.size := Nat.le_trans Z47 Kc130.1
          have V_b8 := V_b8.keep Kc130 (ninS ne_b8_b43 nin0)
          have V_b12 := V_b12.keep Kc130 (ninS ne_b12_b43 nin0)
          have V_b21 := V_b21.keep Kc130 (ninS ne_b21_b43 nin0)
          have V_b30 := V_b30.keep Kc130 (ninS ne_b30_b43 nin0)
          have E_b46 := E_b46.keep Kc130
          have F_start_b46 := F_start_b46.keep Kc130 (ninS (Ne.symm ne_b43_b46) nin0)
          have F_rows_b46 := F_rows_b46.keep Kc130 (ninS (Ne.symm ne_b43_b46) nin0)
          have F_values_b46 := F_values_b46.keep Kc130 (ninS (Ne.symm ne_b43_b46) nin0)
          have V_b43 : Arh Z h130 b43 k43 .double (2 : Int32) hj_130 [] (.double (0 : UInt64)) := P130_0
          have V_b43 : Arh Z h130 b43 k43 .double (2 : Int32) hj_130 [] (.double (0 : UInt64)) := V_b43
          have c0_130 := P130_1
          have c1_130 := P130_2
          refine R.iload X130 hx (hb hby at_326) rfl (pc' := 328) rfl ?_
          refine R.ifNo X130 hx (hb hby at_328) (teq (by decide : (0 : Int32) = (0 : Int32))).2 (pc' := 331) rfl ?_
          refine R.iconst X130 hx (hb hby at_331) (v := (0 : Int32)) (by decide) (pc' := 332) rfl ?_
          refine R.goto X130 hx (hb hby at_332) (by decide) (pc' := 337) (by decide) ?_
          refine R.istore X130 hx (hb hby at_337) (L' := #[.val (.int p0), .val (.int p1), .val (.int p2), .val (.int p3), .val (.int p4), .val (.int p5), .val (.int (0 : Int32)), .val (.int (2 : Int32)), .val (.int i3), .val (.int i4), .val (.int i5), .val (.int (2 : Int32)), .val (.double r7), .second, .val (.ref b8), .val (.ref b12), .val (.ref b21), .val (.ref b30), .val (.ref b43), .val (.ref b46), .val (.int (0 : Int32)), .unset, .unset, .unset, .unset, .unset, .unset, .unset, .unset, .unset, .unset, .unset]) rfl (pc' := 339) rfl ?_
          refine R.iload X130 hx (hb hby at_339) rfl (pc' := 341) rfl ?_
          refine R.ifNo X130 hx (hb hby at_341) (teq (by decide : (0 : Int32) = (0 : Int32))).2 (pc' := 344) rfl ?_
          refine R.iload X130 hx (hb hby at_344) rfl (pc' := 346) rfl ?_
          refine R.goto X130 hx (hb hby at_346) (by decide) (pc' := 351) (by decide) ?_
          refine R.istore X130 hx (hb hby at_351) (L' := #[.val (.int p0), .val (.int p1), .val (.int p2), .val (.int p3), .val (.int p4), .val (.int p5), .val (.int (0 : Int32)), .val (.int (2 : Int32)), .val (.int i3), .val (.int i4), .val (.int i5), .val (.int (2 : Int32)), .val (.double r7), .second, .val (.ref b8), .val (.ref b12), .val (.ref b21), .val (.ref b30), .val (.ref b43), .val (.ref b46), .val (.int (0 : Int32)), .val (.int (2 : Int32)), .unset, .unset, .unset, .unset, .unset, .unset, .unset, .unset, .unset, .unset]) rfl (pc' := 353) rfl ?_
          refine R.iload X130 hx (hb hby at_353) rfl (pc' := 355) rfl ?_
          refine R.ifNo X130 hx (hb hby at_355) (teq (by decide : (0 : Int32) = (0 : Int32))).2 (pc' := 358) rfl ?_
          refine R.iload X130 hx (hb hby at_358) rfl (pc' := 360) rfl ?_
          refine R.goto X130 hx (hb hby at_360) (by decide) (pc' := 365) (by decide) ?_
          refine R.istore X130 hx (hb hby at_365) (L' := #[.val (.int p0), .val (.int p1), .val (.int p2), .val (.int p3), .val (.int p4), .val (.int p5), .val (.int (0 : Int32)), .val (.int (2 : Int32)), .val (.int i3), .val (.int i4), .val (.int i5), .val (.int (2 : Int32)), .val (.double r7), .second, .val (.ref b8), .val (.ref b12), .val (.ref b21), .val (.ref b30), .val (.ref b43), .val (.ref b46), .val (.int (0 : Int32)), .val (.int (2 : Int32)), .val (.int i4), .unset, .unset, .unset, .unset, .unset, .unset, .unset, .unset, .unset]) rfl (pc' := 367) rfl ?_
          refine R.iload X130 hx (hb hby at_367) rfl (pc' := 369) rfl ?_
          refine R.iloadN X130 hx (hb hby at_369) rfl (pc' := 370) rfl ?_
          refine R.iloadN X130 hx (hb hby at_370) rfl (pc' := 371) rfl ?_
          refine R.callS X130 hx hZ (y := mY4) hown w_10 w_11 w_4 w_12 (by decide) e130 (rm3 l Z aZ hw [] (0 : Int32) p1 p2 h130 n0 Z130 ) (by decide) (W := 0) (Nat.le_of_eq rfl) (by decide) (by rw [hml]; rfl) (lenOf pd_3 rfl) rfl (hb hby at_371) (pc' := 374) rfl (by decide) (by decide) ?_; intro v131 T131 L131 X131 hQ131
          obtain ⟨rfl, N131q, e131⟩ := hQ131
          have N131 := Fr.app N130 N131q
          show Rn p e below (T131.setTop (mkF m 374 #[.val (.int p0), .val (.int p1), .val (.int p2), .val (.int p3), .val (.int p4), .val (.int p5), .val (.int (0 : Int32)), .val (.int (2 : Int32)), .val (.int i3), .val (.int i4), .val (.int i5), .val (.int (2 : Int32)), .val (.double r7), .second, .val (.ref b8), .val (.ref b12), .val (.ref b21), .val (.ref b30), .val (.ref b43), .val (.ref b46), .val (.int (0 : Int32)), .val (.int (2 : Int32)), .val (.int i4), .unset, .unset, .unset, .unset, .unset, .unset, .unset, .unset, .unset] [(.long (own_wAt (0 : Int32) p1 p2))])) G
          generalize hj132 : (own_wAt (0 : Int32) p1 p2) = j132
          refine R.lstore X131 hx (hb hby at_374) (L' := #[.val (.int p0), .val (.int p1), .val (.int p2), .val (.int p3), .val (.int p4), .val (.int p5), .val (.int (0 : Int32)), .val (.int (2 : Int32)), .val (.int i3), .val (.int i4), .val (.int i5), .val (.int (2 : Int32)), .val (.double r7), .second, .val (.ref b8), .val (.ref b12), .val (.ref b21), .val (.ref b30), .val (.ref b43), .val (.ref b46), .val (.int (0 : Int32)), .val (.int (2 : Int32)), .val (.int i4), .val (.long j132), .second, .unset, .unset, .unset, .unset, .unset, .unset, .unset]) rfl (pc' := 376) rfl ?_
          refine R.iload X131 hx (hb hby at_376) rfl (pc' := 378) rfl ?_
          refine R.iconst X131 hx (hb hby at_378) (v := (1 : Int32)) (by decide) (pc' := 379) rfl ?_
          refine R.iadd X131 hx (hb hby at_379) (v := (1 : Int32)) (by decide) (pc' := 380) rfl ?_
          refine R.iloadN X131 hx (hb hby at_380) rfl (pc' := 381) rfl ?_
          refine R.iloadN X131 hx (hb hby at_381) rfl (pc' := 382) rfl ?_
          refine R.callS X131 hx hZ (y := mY4) hown w_10 w_11 w_4 w_12 (by decide) e131 (rm3 l Z aZ hw [] (1 : Int32) p1 p2 h130 n0 Z130 ) (by decide) (W := 0) (Nat.le_of_eq rfl) (by decide) (by rw [hml]; rfl) (lenOf pd_3 rfl) rfl (hb hby at_382) (pc' := 385) rfl (by decide) (by decide) ?_; intro v133 T133 L133 X133 hQ133
          obtain ⟨rfl, N133q, e133⟩ := hQ133
          have N133 := Fr.app N131 N133q
          show Rn p e below (T133.setTop (mkF m 385 #[.val (.int p0), .val (.int p1), .val (.int p2), .val (.int p3), .val (.int p4), .val (.int p5), .val (.int (0 : Int32)), .val (.int (2 : Int32)), .val (.int i3), .val (.int i4), .val (.int i5), .val (.int (2 : Int32)), .val (.double r7), .second, .val (.ref b8), .val (.ref b12), .val (.ref b21), .val (.ref b30), .val (.ref b43), .val (.ref b46), .val (.int (0 : Int32)), .val (.int (2 : Int32)), .val (.int i4), .val (.long j132), .second, .unset, .unset, .unset, .unset, .unset, .unset, .unset] [(.long (own_wAt (1 : Int32) p1 p2))])) G
          generalize hj134 : (own_wAt (1 : Int32) p1 p2) = j134
          refine R.lstore X133 hx (hb hby at_385) (L' := #[.val (.int p0), .val (.int p1), .val (.int p2), .val (.int p3), .val (.int p4), .val (.int p5), .val (.int (0 : Int32)), .val (.int (2 : Int32)), .val (.int i3), .val (.int i4), .val (.int i5), .val (.int (2 : Int32)), .val (.double r7), .second, .val (.ref b8), .val (.ref b12), .val (.ref b21), .val (.ref b30), .val (.ref b43), .val (.ref b46), .val (.int (0 : Int32)), .val (.int (2 : Int32)), .val (.int i4), .val (.long j132), .second, .val (.long j134), .second, .unset, .unset, .unset, .unset, .unset]) rfl (pc' := 387) rfl ?_
          refine R.iload X133 hx (hb hby at_387) rfl (pc' := 389) rfl ?_
          refine R.iload X133 hx (hb hby at_389) rfl (pc' := 391) rfl ?_
          refine R.callS X133 hx hZ (y := mY2) hown w_2 w_3 w_4 w_5 (by decide) e133 (rm1 l Z aZ hw [] (2 : Int32) i4 h130 n0 Z130 ) (by decide) (W := 0) (Nat.le_of_eq rfl) (by decide) (by rw [hml]; rfl) (lenOf pd_2 rfl) rfl (hb hby at_391) (pc' := 394) rfl (by decide) (by decide) ?_; intro v135 T135 L135 X135 hQ135
          obtain ⟨rfl, N135q, e135⟩ := hQ135
          have N135 := Fr.app N133 N135q
          show Rn p e below (T135.setTop (mkF m 394 #[.val (.int p0), .val (.int p1), .val (.int p2), .val (.int p3), .val (.int p4), .val (.int p5), .val (.int (0 : Int32)), .val (.int (2 : Int32)), .val (.int i3), .val (.int i4), .val (.int i5), .val (.int (2 : Int32)), .val (.double r7), .second, .val (.ref b8), .val (.ref b12), .val (.ref b21), .val (.ref b30), .val (.ref b43), .val (.ref b46), .val (.int (0 : Int32)), .val (.int (2 : Int32)), .val (.int i4), .val (.long j132), .second, .val (.long j134), .second, .unset, .unset, .unset, .unset, .unset] [(.int (own_rowA (2 : Int32) i4))])) G
          generalize hi136 : (own_rowA (2 : Int32) i4) = i136
          refine R.istore X135 hx (hb hby at_394) (L' := #[.val (.int p0), .val (.int p1), .val (.int p2), .val (.int p3), .val (.int p4), .val (.int p5), .val (.int (0 : Int32)), .val (.int (2 : Int32)), .val (.int i3), .val (.int i4), .val (.int i5), .val (.int (2 : Int32)), .val (.double r7), .second, .val (.ref b8), .val (.ref b12), .val (.ref b21), .val (.ref b30), .val (.ref b43), .val (.ref b46), .val (.int (0 : Int32)), .val (.int (2 : Int32)), .val (.int i4), .val (.long j132), .second, .val (.long j134), .second, .val (.int i136), .unset, .unset, .unset, .unset]) rfl (pc' := 396) rfl ?_
          refine R.iload X135 hx (hb hby at_396) rfl (pc' := 398) rfl ?_
          refine R.iload X135 hx (hb hby at_398) rfl (pc' := 400) rfl ?_
          refine R.callS X135 hx hZ (y := mY3) hown w_6 w_7 w_4 w_8 (by decide) e135 (rm2 l Z aZ hw [] (2 : Int32) i4 h130 n0 Z130 ) (by decide) (W := 0) (Nat.le_of_eq rfl) (by decide) (by rw [hml]; rfl) (lenOf pd_2 rfl) rfl (hb hby at_400) (pc' := 403) rfl (by decide) (by decide) ?_; intro v137 T137 L137 X137 hQ137
          obtain ⟨rfl, N137q, e137⟩ := hQ137
          have N137 := Fr.app N135 N137q
          show Rn p e below (T137.setTop (mkF m 403 #[.val (.int p0), .val (.int p1), .val (.int p2), .val (.int p3), .val (.int p4), .val (.int p5), .val (.int (0 : Int32)), .val (.int (2 : Int32)), .val (.int i3), .val (.int i4), .val (.int i5), .val (.int (2 : Int32)), .val (.double r7), .second, .val (.ref b8), .val (.ref b12), .val (.ref b21), .val (.ref b30), .val (.ref b43), .val (.ref b46), .val (.int (0 : Int32)), .val (.int (2 : Int32)), .val (.int i4), .val (.long j132), .second, .val (.long j134), .second, .val (.int i136), .unset, .unset, .unset, .unset] [(.int (own_rowB (2 : Int32) i4))])) G
          generalize hi138 : (own_rowB (2 : Int32) i4) = i138
          refine R.istore X137 hx (hb hby at_403) (L' := #[.val (.int p0), .val (.int p1), .val (.int p2), .val (.int p3), .val (.int p4), .val (.int p5), .val (.int (0 : Int32)), .val (.int (2 : Int32)), .val (.int i3), .val (.int i4), .val (.int i5), .val (.int (2 : Int32)), .val (.double r7), .second, .val (.ref b8), .val (.ref b12), .val (.ref b21), .val (.ref b30), .val (.ref b43), .val (.ref b46), .val (.int (0 : Int32)), .val (.int (2 : Int32)), .val (.int i4), .val (.long j132), .second, .val (.long j134), .second, .val (.int i136), .val (.int i138), .unset, .unset, .unset]) rfl (pc' := 405) rfl ?_
          refine R.iconst X137 hx (hb hby at_405) (v := (1 : Int32)) (by decide) (pc' := 406) rfl ?_
          refine R.istore X137 hx (hb hby at_406) (L' := #[.val (.int p0), .val (.int p1), .val (.int p2), .val (.int p3), .val (.int p4), .val (.int p5), .val (.int (0 : Int32)), .val (.int (2 : Int32)), .val (.int i3), .val (.int i4), .val (.int i5), .val (.int (2 : Int32)), .val (.double r7), .second, .val (.ref b8), .val (.ref b12), .val (.ref b21), .val (.ref b30), .val (.ref b43), .val (.ref b46), .val (.int (0 : Int32)), .val (.int (2 : Int32)), .val (.int i4), .val (.long j132), .second, .val (.long j134), .second, .val (.int i136), .val (.int i138), .val (.int (1 : Int32)), .unset, .unset]) rfl (pc' := 408) rfl ?_
          refine R.iload X137 hx (hb hby at_408) rfl (pc' := 410) rfl ?_
          refine R.ifNo X137 hx (hb hby at_410) (tlt (by decide : (0 : Int32) < (2 : Int32))).2.2.2 (pc' := 413) rfl ?_
          refine R.lconst X137 hx (hb hby at_413) (v := (0 : Int64)) (by decide) (pc' := 414) rfl ?_
          refine R.lstore X137 hx (hb hby at_414) (L' := #[.val (.int p0), .val (.int p1), .val (.int p2), .val (.int p3), .val (.int p4), .val (.int p5), .val (.int (0 : Int32)), .val (.int (2 : Int32)), .val (.int i3), .val (.int i4), .val (.int i5), .val (.int (2 : Int32)), .val (.double r7), .second, .val (.ref b8), .val (.ref b12), .val (.ref b21), .val (.ref b30), .val (.ref b43), .val (.ref b46), .val (.int (0 : Int32)), .val (.int (2 : Int32)), .val (.int i4), .val (.long j132), .second, .val (.long j134), .second, .val (.int i136), .val (.int i138), .val (.int (1 : Int32)), .val (.long (0 : Int64)), .second]) rfl (pc' := 416) rfl ?_
          refine R.iload X137 hx (hb hby at_416) rfl (pc' := 418) rfl ?_
          refine R.iconst X137 hx (hb hby at_418) (v := (1 : Int32)) (by decide) (pc' := 419) rfl ?_
          refine R.icmpNo X137 hx (hb hby at_419) (flt (by decide : ¬ ((2 : Int32) < (1 : Int32)))).1 (pc' := 422) rfl ?_
          refine R.lload X137 hx (hb hby at_422) rfl (pc' := 424) rfl ?_
          refine R.lload X137 hx (hb hby at_424) rfl (pc' := 426) rfl ?_
          refine R.iload X137 hx (hb hby at_426) rfl (pc' := 428) rfl ?_
          refine R.iload X137 hx (hb hby at_428) rfl (pc' := 430) rfl ?_
          refine R.imul X137 hx (hb hby at_430) rfl (pc' := 431) rfl ?_
          refine R.iloadN X137 hx (hb hby at_431) rfl (pc' := 432) rfl ?_
          refine R.iload X137 hx (hb hby at_432) rfl (pc' := 434) rfl ?_
          refine R.iload X137 hx (hb hby at_434) rfl (pc' := 436) rfl ?_
          refine R.callS X137 hx hZ (y := mY5) hown w_13 w_14 w_4 w_15 (by decide) e137 (rm4 l Z aZ hw [] (i136 * (2 : Int32)) p3 p4 p5 h130 n0 Z130 ) (by decide) (W := 4) (Nat.le_of_eq rfl) (by decide) (by rw [hml]; rfl) (lenOf pd_4 rfl) rfl (hb hby at_436) (pc' := 439) rfl (by decide) (by decide) ?_; intro v139 T139 L139 X139 hQ139
          obtain ⟨rfl, N139q, e139⟩ := hQ139
          have N139 := Fr.app N137 N139q
          refine R.lmul X139 hx (hb hby at_439) rfl (pc' := 440) rfl ?_
          refine R.ladd X139 hx (hb hby at_440) rfl (pc' := 441) rfl ?_
          show Rn p e below (T139.setTop (mkF m 441 #[.val (.int p0), .val (.int p1), .val (.int p2), .val (.int p3), .val (.int p4), .val (.int p5), .val (.int (0 : Int32)), .val (.int (2 : Int32)), .val (.int i3), .val (.int i4), .val (.int i5), .val (.int (2 : Int32)), .val (.double r7), .second, .val (.ref b8), .val (.ref b12), .val (.ref b21), .val (.ref b30), .val (.ref b43), .val (.ref b46), .val (.int (0 : Int32)), .val (.int (2 : Int32)), .val (.int i4), .val (.long j132), .second, .val (.long j134), .second, .val (.int i136), .val (.int i138), .val (.int (1 : Int32)), .val (.long (0 : Int64)), .second] [(.long ((0 : Int64) + (j132 * (own_yAt (i136 * (2 : Int32)) p3 p4 p5))))])) G
          generalize hj140 : ((0 : Int64) + (j132 * (own_yAt (i136 * (2 : Int32)) p3 p4 p5))) = j140
          refine R.lstore X139 hx (hb hby at_441) (L' := #[.val (.int p0), .val (.int p1), .val (.int p2), .val (.int p3), .val (.int p4), .val (.int p5), .val (.int (0 : Int32)), .val (.int (2 : Int32)), .val (.int i3), .val (.int i4), .val (.int i5), .val (.int (2 : Int32)), .val (.double r7), .second, .val (.ref b8), .val (.ref b12), .val (.ref b21), .val (.ref b30), .val (.ref b43), .val (.ref b46), .val (.int (0 : Int32)), .val (.int (2 : Int32)), .val (.int i4), .val (.long j132), .second, .val (.long j134), .second, .val (.int i136), .val (.int i138), .val (.int (1 : Int32)), .val (.long j140), .second]) rfl (pc' := 443) rfl ?_
          have tr0_1 := own_mulY (by rw [← hj132]; exact own_wb _ _ _) (own_yb _ _ _ _) hj140
          rw [← hj132, ← hi136] at tr0_1
          refine R.iload X139 hx (hb hby at_443) rfl (pc' := 445) rfl ?_
          refine R.iconst X139 hx (hb hby at_445) (v := (2 : Int32)) (by decide) (pc' := 446) rfl ?_
          refine R.icmpNo X139 hx (hb hby at_446) (flt (by decide : ¬ ((2 : Int32) < (2 : Int32)))).1 (pc' := 449) rfl ?_
          refine R.lload X139 hx (hb hby at_449) rfl (pc' := 451) rfl ?_
          refine R.lload X139 hx (hb hby at_451) rfl (pc' := 453) rfl ?_
          refine R.iload X139 hx (hb hby at_453) rfl (pc' := 455) rfl ?_
          refine R.iload X139 hx (hb hby at_455) rfl (pc' := 457) rfl ?_
          refine R.imul X139 hx (hb hby at_457) rfl (pc' := 458) rfl ?_
          refine R.iloadN X139 hx (hb hby at_458) rfl (pc' := 459) rfl ?_
          refine R.iload X139 hx (hb hby at_459) rfl (pc' := 461) rfl ?_
          refine R.iload X139 hx (hb hby at_461) rfl (pc' := 463) rfl ?_
          refine R.callS X139 hx hZ (y := mY5) hown w_13 w_14 w_4 w_15 (by decide) e139 (rm4 l Z aZ hw [] (i138 * (2 : Int32)) p3 p4 p5 h130 n0 Z130 ) (by decide) (W := 4) (Nat.le_of_eq rfl) (by decide) (by rw [hml]; rfl) (lenOf pd_4 rfl) rfl (hb hby at_463) (pc' := 466) rfl (by decide) (by decide) ?_; intro v141 T141 L141 X141 hQ141
          obtain ⟨rfl, N141q, e141⟩ := hQ141
          have N141 := Fr.app N139 N141q
          refine R.lmul X141 hx (hb hby at_466) rfl (pc' := 467) rfl ?_
          refine R.ladd X141 hx (hb hby at_467) rfl (pc' := 468) rfl ?_
          show Rn p e below (T141.setTop (mkF m 468 #[.val (.int p0), .val (.int p1), .val (.int p2), .val (.int p3), .val (.int p4), .val (.int p5), .val (.int (0 : Int32)), .val (.int (2 : Int32)), .val (.int i3), .val (.int i4), .val (.int i5), .val (.int (2 : Int32)), .val (.double r7), .second, .val (.ref b8), .val (.ref b12), .val (.ref b21), .val (.ref b30), .val (.ref b43), .val (.ref b46), .val (.int (0 : Int32)), .val (.int (2 : Int32)), .val (.int i4), .val (.long j132), .second, .val (.long j134), .second, .val (.int i136), .val (.int i138), .val (.int (1 : Int32)), .val (.long j140), .second] [(.long (j140 + (j134 * (own_yAt (i138 * (2 : Int32)) p3 p4 p5))))])) G
          generalize hj142 : (j140 + (j134 * (own_yAt (i138 * (2 : Int32)) p3 p4 p5))) = j142
          refine R.lstore X141 hx (hb hby at_468) (L' := #[.val (.int p0), .val (.int p1), .val (.int p2), .val (.int p3), .val (.int p4), .val (.int p5), .val (.int (0 : Int32)), .val (.int (2 : Int32)), .val (.int i3), .val (.int i4), .val (.int i5), .val (.int (2 : Int32)), .val (.double r7), .second, .val (.ref b8), .val (.ref b12), .val (.ref b21), .val (.ref b30), .val (.ref b43), .val (.ref b46), .val (.int (0 : Int32)), .val (.int (2 : Int32)), .val (.int i4), .val (.long j132), .second, .val (.long j134), .second, .val (.int i136), .val (.int i138), .val (.int (1 : Int32)), .val (.long j142), .second]) rfl (pc' := 470) rfl ?_
          have tr0_2 := own_mulY2 tr0_1 (by have q := own_pb (own_wb (0 : Int32) p1 p2) (own_yb ((own_rowA (2 : Int32) i4) * (2 : Int32)) p3 p4 p5); omega) (by rw [← hj134]; exact own_wb _ _ _) (own_yb _ _ _ _) hj142
          rw [← hj134, ← hi138] at tr0_2
          obtain ⟨xv0, hxv0, Dx0⟩ := c0_130 (by decide)
          refine R.iload X141 hx (hb hby at_470) rfl (pc' := 472) rfl ?_
          refine R.ifNo X141 hx (hb hby at_472) (feq (by decide : ¬ ((1 : Int32) = (0 : Int32)))).1 (pc' := 475) rfl ?_
          refine R.aload X141 hx (hb hby at_475) rfl rfl (pc' := 477) rfl ?_
          refine R.iconst X141 hx (hb hby at_477) (v := (0 : Int32)) (by decide) (pc' := 478) rfl ?_
          refine R.daload X141 hx hZ e141 V_b43 (⟨by decide, by decide⟩ : ¬ (0 : Int32) < 0 ∧ (0 : Int32) < (2 : Int32)) (v := (.double xv0)) (hxv0) (hb hby at_478) (pc' := 479) rfl ?_
          refine R.lload X141 hx (hb hby at_479) rfl (pc' := 481) rfl ?_
          refine R.l2d X141 hx (hb hby at_481) (pc' := 482) rfl ?_
          refine R.dcmp X141 hx (hb hby at_482) (Dx0.cmp ((Dy.l2d (by rw [tr0_2]; have q1 := own_pb (own_wb (0 : Int32) p1 p2) (own_yb ((own_rowA (2 : Int32) i4) * (2 : Int32)) p3 p4 p5); have q2 := own_pb (own_wb ((0 : Int32) + (1 : Int32)) p1 p2) (own_yb ((own_rowB (2 : Int32) i4) * (2 : Int32)) p3 p4 p5); first | exact own_nab2 q1 q2 (by decide) | exact own_nab1 q1 (by decide) | omega)).cast tr0_2 rfl) _ : cmpValue (FP.dcmp xv0 (FP.l2d j142)) .l = (own_ci ((own_wAt (0 : Int32) p1 p2).toInt * (own_yAt ((own_rowA (2 : Int32) i4) * (2 : Int32)) p3 p4 p5).toInt + (own_wAt ((0 : Int32) + (1 : Int32)) p1 p2).toInt * (own_yAt ((own_rowB (2 : Int32) i4) * (2 : Int32)) p3 p4 p5).toInt) ((own_wAt (0 : Int32) p1 p2).toInt * (own_yAt ((own_rowA (2 : Int32) i4) * (2 : Int32)) p3 p4 p5).toInt + (own_wAt ((0 : Int32) + (1 : Int32)) p1 p2).toInt * (own_yAt ((own_rowB (2 : Int32) i4) * (2 : Int32)) p3 p4 p5).toInt))) (pc' := 483) rfl ?_
          refine R.ifNo X141 hx (hb hby at_483) (teq (own_ci_eq.mpr rfl : (own_ci ((own_wAt (0 : Int32) p1 p2).toInt * (own_yAt ((own_rowA (2 : Int32) i4) * (2 : Int32)) p3 p4 p5).toInt + (own_wAt ((0 : Int32) + (1 : Int32)) p1 p2).toInt * (own_yAt ((own_rowB (2 : Int32) i4) * (2 : Int32)) p3 p4 p5).toInt) ((own_wAt (0 : Int32) p1 p2).toInt * (own_yAt ((own_rowA (2 : Int32) i4) * (2 : Int32)) p3 p4 p5).toInt + (own_wAt ((0 : Int32) + (1 : Int32)) p1 p2).toInt * (own_yAt ((own_rowB (2 : Int32) i4) * (2 : Int32)) p3 p4 p5).toInt)) = (0 : Int32))).2 (pc' := 486) rfl ?_
          refine R.iconst X141 hx (hb hby at_486) (v := (1 : Int32)) (by decide) (pc' := 487) rfl ?_
          refine R.goto X141 hx (hb hby at_487) (by decide) (pc' := 491) (by decide) ?_
          refine R.istore X141 hx (hb hby at_491) (L' := #[.val (.int p0), .val (.int p1), .val (.int p2), .val (.int p3), .val (.int p4), .val (.int p5), .val (.int (0 : Int32)), .val (.int (2 : Int32)), .val (.int i3), .val (.int i4), .val (.int i5), .val (.int (2 : Int32)), .val (.double r7), .second, .val (.ref b8), .val (.ref b12), .val (.ref b21), .val (.ref b30), .val (.ref b43), .val (.ref b46), .val (.int (0 : Int32)), .val (.int (2 : Int32)), .val (.int i4), .val (.long j132), .second, .val (.long j134), .second, .val (.int i136), .val (.int i138), .val (.int (1 : Int32)), .val (.long j142), .second]) rfl (pc' := 493) rfl ?_
          refine R.iload X141 hx (hb hby at_493) rfl (pc' := 495) rfl ?_
          refine R.iconst X141 hx (hb hby at_495) (v := (1 : Int32)) (by decide) (pc' := 496) rfl ?_
          refine R.icmpNo X141 hx (hb hby at_496) (tlt (by decide : (1 : Int32) < (2 : Int32))).2.2.2 (pc' := 499) rfl ?_
          refine R.lconst X141 hx (hb hby at_499) (v := (0 : Int64)) (by decide) (pc' := 500) rfl ?_
          refine R.lstore X141 hx (hb hby at_500) (L' := #[.val (.int p0), .val (.int p1), .val (.int p2), .val (.int p3), .val (.int p4), .val (.int p5), .val (.int (0 : Int32)), .val (.int (2 : Int32)), .val (.int i3), .val (.int i4), .val (.int i5), .val (.int (2 : Int32)), .val (.double r7), .second, .val (.ref b8), .val (.ref b12), .val (.ref b21), .val (.ref b30), .val (.ref b43), .val (.ref b46), .val (.int (0 : Int32)), .val (.int (2 : Int32)), .val (.int i4), .val (.long j132), .second, .val (.long j134), .second, .val (.int i136), .val (.int i138), .val (.int (1 : Int32)), .val (.long (0 : Int64)), .second]) rfl (pc' := 502) rfl ?_
          refine R.iload X141 hx (hb hby at_502) rfl (pc' := 504) rfl ?_
          refine R.iconst X141 hx (hb hby at_504) (v := (1 : Int32)) (by decide) (pc' := 505) rfl ?_
          refine R.icmpNo X141 hx (hb hby at_505) (flt (by decide : ¬ ((2 : Int32) < (1 : Int32)))).1 (pc' := 508) rfl ?_
          refine R.lload X141 hx (hb hby at_508) rfl (pc' := 510) rfl ?_
          refine R.lload X141 hx (hb hby at_510) rfl (pc' := 512) rfl ?_
          refine R.iload X141 hx (hb hby at_512) rfl (pc' := 514) rfl ?_
          refine R.iload X141 hx (hb hby at_514) rfl (pc' := 516) rfl ?_
          refine R.imul X141 hx (hb hby at_516) rfl (pc' := 517) rfl ?_
          refine R.iconst X141 hx (hb hby at_517) (v := (1 : Int32)) (by decide) (pc' := 518) rfl ?_
          refine R.iadd X141 hx (hb hby at_518) rfl (pc' := 519) rfl ?_
          refine R.iloadN X141 hx (hb hby at_519) rfl (pc' := 520) rfl ?_
          refine R.iload X141 hx (hb hby at_520) rfl (pc' := 522) rfl ?_
          refine R.iload X141 hx (hb hby at_522) rfl (pc' := 524) rfl ?_
          refine R.callS X141 hx hZ (y := mY5) hown w_13 w_14 w_4 w_15 (by decide) e141 (rm4 l Z aZ hw [] ((i136 * (2 : Int32)) + (1 : Int32)) p3 p4 p5 h130 n0 Z130 ) (by decide) (W := 4) (Nat.le_of_eq rfl) (by decide) (by rw [hml]; rfl) (lenOf pd_4 rfl) rfl (hb hby at_524) (pc' := 527) rfl (by decide) (by decide) ?_; intro v143 T143 L143 X143 hQ143
          obtain ⟨rfl, N143q, e143⟩ := hQ143
          have N143 := Fr.app N141 N143q
          refine R.lmul X143 hx (hb hby at_527) rfl (pc' := 528) rfl ?_
          refine R.ladd X143 hx (hb hby at_528) rfl (pc' := 529) rfl ?_
          show Rn p e below (T143.setTop (mkF m 529 #[.val (.int p0), .val (.int p1), .val (.int p2), .val (.int p3), .val (.int p4), .val (.int p5), .val (.int (0 : Int32)), .val (.int (2 : Int32)), .val (.int i3), .val (.int i4), .val (.int i5), .val (.int (2 : Int32)), .val (.double r7), .second, .val (.ref b8), .val (.ref b12), .val (.ref b21), .val (.ref b30), .val (.ref b43), .val (.ref b46), .val (.int (0 : Int32)), .val (.int (2 : Int32)), .val (.int i4), .val (.long j132), .second, .val (.long j134), .second, .val (.int i136), .val (.int i138), .val (.int (1 : Int32)), .val (.long (0 : Int64)), .second] [(.long ((0 : Int64) + (j132 * (own_yAt ((i136 * (2 : Int32)) + (1 : Int32)) p3 p4 p5))))])) G
          generalize hj144 : ((0 : Int64) + (j132 * (own_yAt ((i136 * (2 : Int32)) + (1 : Int32)) p3 p4 p5))) = j144
          refine R.lstore X143 hx (hb hby at_529) (L' := #[.val (.int p0), .val (.int p1), .val (.int p2), .val (.int p3), .val (.int p4), .val (.int p5), .val (.int (0 : Int32)), .val (.int (2 : Int32)), .val (.int i3), .val (.int i4), .val (.int i5), .val (.int (2 : Int32)), .val (.double r7), .second, .val (.ref b8), .val (.ref b12), .val (.ref b21), .val (.ref b30), .val (.ref b43), .val (.ref b46), .val (.int (0 : Int32)), .val (.int (2 : Int32)), .val (.int i4), .val (.long j132), .second, .val (.long j134), .second, .val (.int i136), .val (.int i138), .val (.int (1 : Int32)), .val (.long j144), .second]) rfl (pc' := 531) rfl ?_
          have tr1_1 := own_mulY (by rw [← hj132]; exact own_wb _ _ _) (own_yb _ _ _ _) hj144
          rw [← hj132, ← hi136] at tr1_1
          refine R.iload X143 hx (hb hby at_531) rfl (pc' := 533) rfl ?_
          refine R.iconst X143 hx (hb hby at_533) (v := (2 : Int32)) (by decide) (pc' := 534) rfl ?_
          refine R.icmpNo X143 hx (hb hby at_534) (flt (by decide : ¬ ((2 : Int32) < (2 : Int32)))).1 (pc' := 537) rfl ?_
          refine R.lload X143 hx (hb hby at_537) rfl (pc' := 539) rfl ?_
          refine R.lload X143 hx (hb hby at_539) rfl (pc' := 541) rfl ?_
          refine R.iload X143 hx (hb hby at_541) rfl (pc' := 543) rfl ?_
          refine R.iload X143 hx (hb hby at_543) rfl (pc' := 545) rfl ?_
          refine R.imul X143 hx (hb hby at_545) rfl (pc' := 546) rfl ?_
          refine R.iconst X143 hx (hb hby at_546) (v := (1 : Int32)) (by decide) (pc' := 547) rfl ?_
          refine R.iadd X143 hx (hb hby at_547) rfl (pc' := 548) rfl ?_
          refine R.iloadN X143 hx (hb hby at_548) rfl (pc' := 549) rfl ?_
          refine R.iload X143 hx (hb hby at_549) rfl (pc' := 551) rfl ?_
          refine R.iload X143 hx (hb hby at_551) rfl (pc' := 553) rfl ?_
          refine R.callS X143 hx hZ (y := mY5) hown w_13 w_14 w_4 w_15 (by decide) e143 (rm4 l Z aZ hw [] ((i138 * (2 : Int32)) + (1 : Int32)) p3 p4 p5 h130 n0 Z130 ) (by decide) (W := 4) (Nat.le_of_eq rfl) (by decide) (by rw [hml]; rfl) (lenOf pd_4 rfl) rfl (hb hby at_553) (pc' := 556) rfl (by decide) (by decide) ?_; intro v145 T145 L145 X145 hQ145
          obtain ⟨rfl, N145q, e145⟩ := hQ145
          have N145 := Fr.app N143 N145q
          refine R.lmul X145 hx (hb hby at_556) rfl (pc' := 557) rfl ?_
          refine R.ladd X145 hx (hb hby at_557) rfl (pc' := 558) rfl ?_
          show Rn p e below (T145.setTop (mkF m 558 #[.val (.int p0), .val (.int p1), .val (.int p2), .val (.int p3), .val (.int p4), .val (.int p5), .val (.int (0 : Int32)), .val (.int (2 : Int32)), .val (.int i3), .val (.int i4), .val (.int i5), .val (.int (2 : Int32)), .val (.double r7), .second, .val (.ref b8), .val (.ref b12), .val (.ref b21), .val (.ref b30), .val (.ref b43), .val (.ref b46), .val (.int (0 : Int32)), .val (.int (2 : Int32)), .val (.int i4), .val (.long j132), .second, .val (.long j134), .second, .val (.int i136), .val (.int i138), .val (.int (1 : Int32)), .val (.long j144), .second] [(.long (j144 + (j134 * (own_yAt ((i138 * (2 : Int32)) + (1 : Int32)) p3 p4 p5))))])) G
          generalize hj146 : (j144 + (j134 * (own_yAt ((i138 * (2 : Int32)) + (1 : Int32)) p3 p4 p5))) = j146
          refine R.lstore X145 hx (hb hby at_558) (L' := #[.val (.int p0), .val (.int p1), .val (.int p2), .val (.int p3), .val (.int p4), .val (.int p5), .val (.int (0 : Int32)), .val (.int (2 : Int32)), .val (.int i3), .val (.int i4), .val (.int i5), .val (.int (2 : Int32)), .val (.double r7), .second, .val (.ref b8), .val (.ref b12), .val (.ref b21), .val (.ref b30), .val (.ref b43), .val (.ref b46), .val (.int (0 : Int32)), .val (.int (2 : Int32)), .val (.int i4), .val (.long j132), .second, .val (.long j134), .second, .val (.int i136), .val (.int i138), .val (.int (1 : Int32)), .val (.long j146), .second]) rfl (pc' := 560) rfl ?_
          have tr1_2 := own_mulY2 tr1_1 (by have q := own_pb (own_wb (0 : Int32) p1 p2) (own_yb (((own_rowA (2 : Int32) i4) * (2 : Int32)) + (1 : Int32)) p3 p4 p5); omega) (by rw [← hj134]; exact own_wb _ _ _) (own_yb _ _ _ _) hj146
          rw [← hj134, ← hi138] at tr1_2
          obtain ⟨xv1, hxv1, Dx1⟩ := c1_130 (by decide)
          refine R.iload X145 hx (hb hby at_560) rfl (pc' := 562) rfl ?_
          refine R.ifNo X145 hx (hb hby at_562) (feq (by decide : ¬ ((1 : Int32) = (0 : Int32)))).1 (pc' := 565) rfl ?_
          refine R.aload X145 hx (hb hby at_565) rfl rfl (pc' := 567) rfl ?_
          refine R.iconst X145 hx (hb hby at_567) (v := (1 : Int32)) (by decide) (pc' := 568) rfl ?_
          refine R.daload X145 hx hZ e145 V_b43 (⟨by decide, by decide⟩ : ¬ (1 : Int32) < 0 ∧ (1 : Int32) < (2 : Int32)) (v := (.double xv1)) (hxv1) (hb hby at_568) (pc' := 569) rfl ?_
          refine R.lload X145 hx (hb hby at_569) rfl (pc' := 571) rfl ?_
          refine R.l2d X145 hx (hb hby at_571) (pc' := 572) rfl ?_
          refine R.dcmp X145 hx (hb hby at_572) (Dx1.cmp ((Dy.l2d (by rw [tr1_2]; have q1 := own_pb (own_wb (0 : Int32) p1 p2) (own_yb (((own_rowA (2 : Int32) i4) * (2 : Int32)) + (1 : Int32)) p3 p4 p5); have q2 := own_pb (own_wb ((0 : Int32) + (1 : Int32)) p1 p2) (own_yb (((own_rowB (2 : Int32) i4) * (2 : Int32)) + (1 : Int32)) p3 p4 p5); first | exact own_nab2 q1 q2 (by decide) | exact own_nab1 q1 (by decide) | omega)).cast tr1_2 rfl) _ : cmpValue (FP.dcmp xv1 (FP.l2d j146)) .l = (own_ci ((own_wAt (0 : Int32) p1 p2).toInt * (own_yAt (((own_rowA (2 : Int32) i4) * (2 : Int32)) + (1 : Int32)) p3 p4 p5).toInt + (own_wAt ((0 : Int32) + (1 : Int32)) p1 p2).toInt * (own_yAt (((own_rowB (2 : Int32) i4) * (2 : Int32)) + (1 : Int32)) p3 p4 p5).toInt) ((own_wAt (0 : Int32) p1 p2).toInt * (own_yAt (((own_rowA (2 : Int32) i4) * (2 : Int32)) + (1 : Int32)) p3 p4 p5).toInt + (own_wAt ((0 : Int32) + (1 : Int32)) p1 p2).toInt * (own_yAt (((own_rowB (2 : Int32) i4) * (2 : Int32)) + (1 : Int32)) p3 p4 p5).toInt))) (pc' := 573) rfl ?_
          refine R.ifNo X145 hx (hb hby at_573) (teq (own_ci_eq.mpr rfl : (own_ci ((own_wAt (0 : Int32) p1 p2).toInt * (own_yAt (((own_rowA (2 : Int32) i4) * (2 : Int32)) + (1 : Int32)) p3 p4 p5).toInt + (own_wAt ((0 : Int32) + (1 : Int32)) p1 p2).toInt * (own_yAt (((own_rowB (2 : Int32) i4) * (2 : Int32)) + (1 : Int32)) p3 p4 p5).toInt) ((own_wAt (0 : Int32) p1 p2).toInt * (own_yAt (((own_rowA (2 : Int32) i4) * (2 : Int32)) + (1 : Int32)) p3 p4 p5).toInt + (own_wAt ((0 : Int32) + (1 : Int32)) p1 p2).toInt * (own_yAt (((own_rowB (2 : Int32) i4) * (2 : Int32)) + (1 : Int32)) p3 p4 p5).toInt)) = (0 : Int32))).2 (pc' := 576) rfl ?_
          refine R.iconst X145 hx (hb hby at_576) (v := (1 : Int32)) (by decide) (pc' := 577) rfl ?_
          refine R.goto X145 hx (hb hby at_577) (by decide) (pc' := 581) (by decide) ?_
          refine R.istore X145 hx (hb hby at_581) (L' := #[.val (.int p0), .val (.int p1), .val (.int p2), .val (.int p3), .val (.int p4), .val (.int p5), .val (.int (0 : Int32)), .val (.int (2 : Int32)), .val (.int i3), .val (.int i4), .val (.int i5), .val (.int (2 : Int32)), .val (.double r7), .second, .val (.ref b8), .val (.ref b12), .val (.ref b21), .val (.ref b30), .val (.ref b43), .val (.ref b46), .val (.int (0 : Int32)), .val (.int (2 : Int32)), .val (.int i4), .val (.long j132), .second, .val (.long j134), .second, .val (.int i136), .val (.int i138), .val (.int (1 : Int32)), .val (.long j146), .second]) rfl (pc' := 583) rfl ?_
          refine R.iload X145 hx (hb hby at_583) rfl (pc' := 585) rfl ?_
          rw [← hG]
          exact Rn.ret X145 (BodyLoose.notSynchronized Bd) (v := some (.int (1 : Int32))) (fun h => by rw [Bd.returns] at h; cases h) (Q := Q0 Z p0 p1 p2 p3 p4 p5 h0 n0) e145 (fun fs hr => retN X145 hx (t := .boolean) Bd.returns (by simp) (hb hby at_585) hr) ⟨rfl, N145⟩ (by decide) (by decide)
    · rcases h8_ with rfl | rfl | rfl
      · rcases h11_ with rfl | rfl | rfl
        · refine R.aload X47 hx (hb hby at_313) rfl rfl (pc' := 315) rfl ?_
          refine R.iload X47 hx (hb hby at_315) rfl (pc' := 317) rfl ?_
          refine R.aload X47 hx (hb hby at_317) rfl rfl (pc' := 319) rfl ?_
          refine R.iload X47 hx (hb hby at_319) rfl (pc' := 321) rfl ?_
          refine R.aload X47 hx (hb hby at_321) rfl rfl (pc' := 323) rfl ?_
          refine R.virtual X47 hx hZ (y := mY7) (z := mY7) hown w_38 w_39 (notFace_of_selects (args := #[]) (mvT hZ w_41)) w_41 w_40 w_18 w_42 (by decide) e47 E_b46 (rm8 l Z aZ hw [] b46 (1 : Int32) b30 (0 : Int32) b43 b8 b12 b21 k8 k12 k21 k30 k43 [((2 : Int32), (.int (i2 + (0 : Int32)))), ((1 : Int32), (.int i2)), ((0 : Int32), (.int (0 : Int32)))] [((i2 + (1 : Int32)), (.int (own_rowB (0 : Int32) i5))), (i2, (.int (own_rowA (0 : Int32) i5))), ((1 : Int32), (.int (own_rowB i2 i4))), ((0 : Int32), (.int (own_rowA i2 i4)))] [((3 : Int32), (.double (FP.l2d (own_wAt (3 : Int32) p1 p2)))), ((2 : Int32), (.double (FP.l2d (own_wAt (2 : Int32) p1 p2)))), ((1 : Int32), (.double (FP.l2d (own_wAt (1 : Int32) p1 p2)))), ((0 : Int32), (.double (FP.l2d (own_wAt (0 : Int32) p1 p2))))] [((5 : Int32), (.double (FP.l2d (own_yAt (5 : Int32) p3 p4 p5)))), ((4 : Int32), (.double (FP.l2d (own_yAt (4 : Int32) p3 p4 p5)))), ((3 : Int32), (.double (FP.l2d (own_yAt (3 : Int32) p3 p4 p5)))), ((2 : Int32), (.double (FP.l2d (own_yAt (2 : Int32) p3 p4 p5)))), ((1 : Int32), (.double (FP.l2d (own_yAt (1 : Int32) p3 p4 p5)))), ((0 : Int32), (.double (FP.l2d (own_yAt (0 : Int32) p3 p4 p5))))] [((1 : Int32), (.double r7)), ((0 : Int32), (.double r7))] i2 (i2 + (0 : Int32)) (FP.l2d (own_wAt i2 p1 p2)) (FP.l2d (own_wAt (i2 + (1 : Int32)) p1 p2)) (own_wAt i2 p1 p2).toInt (own_wAt (i2 + (1 : Int32)) p1 p2).toInt (own_rowA (0 : Int32) i5) (own_rowB (0 : Int32) i5) (fun i => FP.l2d (own_yAt i p3 p4 p5)) (fun i => (own_yAt i p3 p4 p5).toInt) 0 0 h47 n0 Z47 F_start_b46 F_rows_b46 F_values_b46 V_b8 V_b12 V_b21 V_b30 V_b43 g_b43 (Ne.symm ne_b43_b46) ne_b8_b43 ne_b12_b43 ne_b21_b43 ne_b30_b43 (by decide) (by rcases h7_ with q | q | q <;> (rw [q]; try rfl)) (by rcases h7_ with q | q | q <;> (rw [q]; try rfl)) (rA7) (by decide) (own_rA h10_) (own_rB) (Or.inl ⟨by rcases h7_ with q | q | q <;> (rw [q]; try rfl), rfl, rfl⟩) (Dy.l2d (by have := own_wb i2 p1 p2; omega)) (Dy.l2d (by have := own_wb (i2 + (1 : Int32)) p1 p2; omega)) (own_wb _ _ _) (own_wb _ _ _) (own_rdy)) (by decide) (W := 0) (Nat.le_of_eq rfl) (by decide) (by rw [hml]; rfl) (lenOf pd_6 rfl) rfl (hb hby at_323) (pc' := 326) rfl (by decide) (by decide) ?_; intro v147 T147 L147 X147 hQ147
          obtain ⟨hj_147, rfl, N147q, Kc147, P147_0, P147_1, P147_2⟩ := hQ147
          have N147 := Fr.app N47 N147q
          generalize e147 : T147.heap = h147 at Kc147 P147_0 P147_1 P147_2
          have K147 : Keep h0 h147 [] := K47.trans Kc147 ((allS (Or.inr sz_b43) all0))
          have Z147 : n0 ≤ h147.size := Nat.le_trans Z47 Kc147.1
          have V_b8 := V_b8.keep Kc147 (ninS ne_b8_b43 nin0)
          have V_b12 := V_b12.keep Kc147 (ninS ne_b12_b43 nin0)
          have V_b21 := V_b21.keep Kc147 (ninS ne_b21_b43 nin0)
          have V_b30 := V_b30.keep Kc147 (ninS ne_b30_b43 nin0)
          have E_b46 := E_b46.keep Kc147
          have F_start_b46 := F_start_b46.keep Kc147 (ninS (Ne.symm ne_b43_b46) nin0)
          have F_rows_b46 := F_rows_b46.keep Kc147 (ninS (Ne.symm ne_b43_b46) nin0)
          have F_values_b46 := F_values_b46.keep Kc147 (ninS (Ne.symm ne_b43_b46) nin0)
          have V_b43 : Arh Z h147 b43 k43 .double (2 : Int32) hj_147 [] (.double (0 : UInt64)) := P147_0
          have V_b43 : Arh Z h147 b43 k43 .double (2 : Int32) hj_147 [] (.double (0 : UInt64)) := V_b43
          have c0_147 := P147_1
          have c1_147 := P147_2
          refine R.iload X147 hx (hb hby at_326) rfl (pc' := 328) rfl ?_
          refine R.ifYes X147 hx (hb hby at_328) (feq (by decide : ¬ ((1 : Int32) = (0 : Int32)))).2 (by decide) (pc' := 335) (by decide) ?_
          refine R.iload X147 hx (hb hby at_335) rfl (pc' := 337) rfl ?_
          refine R.istore X147 hx (hb hby at_337) (L' := #[.val (.int p0), .val (.int p1), .val (.int p2), .val (.int p3), .val (.int p4), .val (.int p5), .val (.int (1 : Int32)), .val (.int i2), .val (.int (0 : Int32)), .val (.int i4), .val (.int i5), .val (.int (0 : Int32)), .val (.double r7), .second, .val (.ref b8), .val (.ref b12), .val (.ref b21), .val (.ref b30), .val (.ref b43), .val (.ref b46), .val (.int i2), .unset, .unset, .unset, .unset, .unset, .unset, .unset, .unset, .unset, .unset, .unset]) rfl (pc' := 339) rfl ?_
          refine R.iload X147 hx (hb hby at_339) rfl (pc' := 341) rfl ?_
          refine R.ifYes X147 hx (hb hby at_341) (feq (by decide : ¬ ((1 : Int32) = (0 : Int32)))).2 (by decide) (pc' := 349) (by decide) ?_
          refine R.iload X147 hx (hb hby at_349) rfl (pc' := 351) rfl ?_
          refine R.istore X147 hx (hb hby at_351) (L' := #[.val (.int p0), .val (.int p1), .val (.int p2), .val (.int p3), .val (.int p4), .val (.int p5), .val (.int (1 : Int32)), .val (.int i2), .val (.int (0 : Int32)), .val (.int i4), .val (.int i5), .val (.int (0 : Int32)), .val (.double r7), .second, .val (.ref b8), .val (.ref b12), .val (.ref b21), .val (.ref b30), .val (.ref b43), .val (.ref b46), .val (.int i2), .val (.int (0 : Int32)), .unset, .unset, .unset, .unset, .unset, .unset, .unset, .unset, .unset, .unset]) rfl (pc' := 353) rfl ?_
          refine R.iload X147 hx (hb hby at_353) rfl (pc' := 355) rfl ?_
          refine R.ifYes X147 hx (hb hby at_355) (feq (by decide : ¬ ((1 : Int32) = (0 : Int32)))).2 (by decide) (pc' := 363) (by decide) ?_
          refine R.iload X147 hx (hb hby at_363) rfl (pc' := 365) rfl ?_
          refine R.istore X147 hx (hb hby at_365) (L' := #[.val (.int p0), .val (.int p1), .val (.int p2), .val (.int p3), .val (.int p4), .val (.int p5), .val (.int (1 : Int32)), .val (.int i2), .val (.int (0 : Int32)), .val (.int i4), .val (.int i5), .val (.int (0 : Int32)), .val (.double r7), .second, .val (.ref b8), .val (.ref b12), .val (.ref b21), .val (.ref b30), .val (.ref b43), .val (.ref b46), .val (.int i2), .val (.int (0 : Int32)), .val (.int i5), .unset, .unset, .unset, .unset, .unset, .unset, .unset, .unset, .unset]) rfl (pc' := 367) rfl ?_
          refine R.iload X147 hx (hb hby at_367) rfl (pc' := 369) rfl ?_
          refine R.iloadN X147 hx (hb hby at_369) rfl (pc' := 370) rfl ?_
          refine R.iloadN X147 hx (hb hby at_370) rfl (pc' := 371) rfl ?_
          refine R.callS X147 hx hZ (y := mY4) hown w_10 w_11 w_4 w_12 (by decide) e147 (rm3 l Z aZ hw [] i2 p1 p2 h147 n0 Z147 ) (by decide) (W := 0) (Nat.le_of_eq rfl) (by decide) (by rw [hml]; rfl) (lenOf pd_3 rfl) rfl (hb hby at_371) (pc' := 374) rfl (by decide) (by decide) ?_; intro v148 T148 L148 X148 hQ148
          obtain ⟨rfl, N148q, e148⟩ := hQ148
          have N148 := Fr.app N147 N148q
          show Rn p e below (T148.setTop (mkF m 374 #[.val (.int p0), .val (.int p1), .val (.int p2), .val (.int p3), .val (.int p4), .val (.int p5), .val (.int (1 : Int32)), .val (.int i2), .val (.int (0 : Int32)), .val (.int i4), .val (.int i5), .val (.int (0 : Int32)), .val (.double r7), .second, .val (.ref b8), .val (.ref b12), .val (.ref b21), .val (.ref b30), .val (.ref b43), .val (.ref b46), .val (.int i2), .val (.int (0 : Int32)), .val (.int i5), .unset, .unset, .unset, .unset, .unset, .unset, .unset, .unset, .unset] [(.long (own_wAt i2 p1 p2))])) G
          generalize hj149 : (own_wAt i2 p1 p2) = j149
          refine R.lstore X148 hx (hb hby at_374) (L' := #[.val (.int p0), .val (.int p1), .val (.int p2), .val (.int p3), .val (.int p4), .val (.int p5), .val (.int (1 : Int32)), .val (.int i2), .val (.int (0 : Int32)), .val (.int i4), .val (.int i5), .val (.int (0 : Int32)), .val (.double r7), .second, .val (.ref b8), .val (.ref b12), .val (.ref b21), .val (.ref b30), .val (.ref b43), .val (.ref b46), .val (.int i2), .val (.int (0 : Int32)), .val (.int i5), .val (.long j149), .second, .unset, .unset, .unset, .unset, .unset, .unset, .unset]) rfl (pc' := 376) rfl ?_
          refine R.iload X148 hx (hb hby at_376) rfl (pc' := 378) rfl ?_
          refine R.iconst X148 hx (hb hby at_378) (v := (1 : Int32)) (by decide) (pc' := 379) rfl ?_
          refine R.iadd X148 hx (hb hby at_379) rfl (pc' := 380) rfl ?_
          refine R.iloadN X148 hx (hb hby at_380) rfl (pc' := 381) rfl ?_
          refine R.iloadN X148 hx (hb hby at_381) rfl (pc' := 382) rfl ?_
          refine R.callS X148 hx hZ (y := mY4) hown w_10 w_11 w_4 w_12 (by decide) e148 (rm3 l Z aZ hw [] (i2 + (1 : Int32)) p1 p2 h147 n0 Z147 ) (by decide) (W := 0) (Nat.le_of_eq rfl) (by decide) (by rw [hml]; rfl) (lenOf pd_3 rfl) rfl (hb hby at_382) (pc' := 385) rfl (by decide) (by decide) ?_; intro v150 T150 L150 X150 hQ150
          obtain ⟨rfl, N150q, e150⟩ := hQ150
          have N150 := Fr.app N148 N150q
          show Rn p e below (T150.setTop (mkF m 385 #[.val (.int p0), .val (.int p1), .val (.int p2), .val (.int p3), .val (.int p4), .val (.int p5), .val (.int (1 : Int32)), .val (.int i2), .val (.int (0 : Int32)), .val (.int i4), .val (.int i5), .val (.int (0 : Int32)), .val (.double r7), .second, .val (.ref b8), .val (.ref b12), .val (.ref b21), .val (.ref b30), .val (.ref b43), .val (.ref b46), .val (.int i2), .val (.int (0 : Int32)), .val (.int i5), .val (.long j149), .second, .unset, .unset, .unset, .unset, .unset, .unset, .unset] [(.long (own_wAt (i2 + (1 : Int32)) p1 p2))])) G
          generalize hj151 : (own_wAt (i2 + (1 : Int32)) p1 p2) = j151
          refine R.lstore X150 hx (hb hby at_385) (L' := #[.val (.int p0), .val (.int p1), .val (.int p2), .val (.int p3), .val (.int p4), .val (.int p5), .val (.int (1 : Int32)), .val (.int i2), .val (.int (0 : Int32)), .val (.int i4), .val (.int i5), .val (.int (0 : Int32)), .val (.double r7), .second, .val (.ref b8), .val (.ref b12), .val (.ref b21), .val (.ref b30), .val (.ref b43), .val (.ref b46), .val (.int i2), .val (.int (0 : Int32)), .val (.int i5), .val (.long j149), .second, .val (.long j151), .second, .unset, .unset, .unset, .unset, .unset]) rfl (pc' := 387) rfl ?_
          refine R.iload X150 hx (hb hby at_387) rfl (pc' := 389) rfl ?_
          refine R.iload X150 hx (hb hby at_389) rfl (pc' := 391) rfl ?_
          refine R.callS X150 hx hZ (y := mY2) hown w_2 w_3 w_4 w_5 (by decide) e150 (rm1 l Z aZ hw [] (0 : Int32) i5 h147 n0 Z147 ) (by decide) (W := 0) (Nat.le_of_eq rfl) (by decide) (by rw [hml]; rfl) (lenOf pd_2 rfl) rfl (hb hby at_391) (pc' := 394) rfl (by decide) (by decide) ?_; intro v152 T152 L152 X152 hQ152
          obtain ⟨rfl, N152q, e152⟩ := hQ152
          have N152 := Fr.app N150 N152q
          show Rn p e below (T152.setTop (mkF m 394 #[.val (.int p0), .val (.int p1), .val (.int p2), .val (.int p3), .val (.int p4), .val (.int p5), .val (.int (1 : Int32)), .val (.int i2), .val (.int (0 : Int32)), .val (.int i4), .val (.int i5), .val (.int (0 : Int32)), .val (.double r7), .second, .val (.ref b8), .val (.ref b12), .val (.ref b21), .val (.ref b30), .val (.ref b43), .val (.ref b46), .val (.int i2), .val (.int (0 : Int32)), .val (.int i5), .val (.long j149), .second, .val (.long j151), .second, .unset, .unset, .unset, .unset, .unset] [(.int (own_rowA (0 : Int32) i5))])) G
          generalize hi153 : (own_rowA (0 : Int32) i5) = i153
          refine R.istore X152 hx (hb hby at_394) (L' := #[.val (.int p0), .val (.int p1), .val (.int p2), .val (.int p3), .val (.int p4), .val (.int p5), .val (.int (1 : Int32)), .val (.int i2), .val (.int (0 : Int32)), .val (.int i4), .val (.int i5), .val (.int (0 : Int32)), .val (.double r7), .second, .val (.ref b8), .val (.ref b12), .val (.ref b21), .val (.ref b30), .val (.ref b43), .val (.ref b46), .val (.int i2), .val (.int (0 : Int32)), .val (.int i5), .val (.long j149), .second, .val (.long j151), .second, .val (.int i153), .unset, .unset, .unset, .unset]) rfl (pc' := 396) rfl ?_
          refine R.iload X152 hx (hb hby at_396) rfl (pc' := 398) rfl ?_
          refine R.iload X152 hx (hb hby at_398) rfl (pc' := 400) rfl ?_
          refine R.callS X152 hx hZ (y := mY3) hown w_6 w_7 w_4 w_8 (by decide) e152 (rm2 l Z aZ hw [] (0 : Int32) i5 h147 n0 Z147 ) (by decide) (W := 0) (Nat.le_of_eq rfl) (by decide) (by rw [hml]; rfl) (lenOf pd_2 rfl) rfl (hb hby at_400) (pc' := 403) rfl (by decide) (by decide) ?_; intro v154 T154 L154 X154 hQ154
          obtain ⟨rfl, N154q, e154⟩ := hQ154
          have N154 := Fr.app N152 N154q
          show Rn p e below (T154.setTop (mkF m 403 #[.val (.int p0), .val (.int p1), .val (.int p2), .val (.int p3), .val (.int p4), .val (.int p5), .val (.int (1 : Int32)), .val (.int i2), .val (.int (0 : Int32)), .val (.int i4), .val (.int i5), .val (.int (0 : Int32)), .val (.double r7), .second, .val (.ref b8), .val (.ref b12), .val (.ref b21), .val (.ref b30), .val (.ref b43), .val (.ref b46), .val (.int i2), .val (.int (0 : Int32)), .val (.int i5), .val (.long j149), .second, .val (.long j151), .second, .val (.int i153), .unset, .unset, .unset, .unset] [(.int (own_rowB (0 : Int32) i5))])) G
          generalize hi155 : (own_rowB (0 : Int32) i5) = i155
          refine R.istore X154 hx (hb hby at_403) (L' := #[.val (.int p0), .val (.int p1), .val (.int p2), .val (.int p3), .val (.int p4), .val (.int p5), .val (.int (1 : Int32)), .val (.int i2), .val (.int (0 : Int32)), .val (.int i4), .val (.int i5), .val (.int (0 : Int32)), .val (.double r7), .second, .val (.ref b8), .val (.ref b12), .val (.ref b21), .val (.ref b30), .val (.ref b43), .val (.ref b46), .val (.int i2), .val (.int (0 : Int32)), .val (.int i5), .val (.long j149), .second, .val (.long j151), .second, .val (.int i153), .val (.int i155), .unset, .unset, .unset]) rfl (pc' := 405) rfl ?_
          refine R.iconst X154 hx (hb hby at_405) (v := (1 : Int32)) (by decide) (pc' := 406) rfl ?_
          refine R.istore X154 hx (hb hby at_406) (L' := #[.val (.int p0), .val (.int p1), .val (.int p2), .val (.int p3), .val (.int p4), .val (.int p5), .val (.int (1 : Int32)), .val (.int i2), .val (.int (0 : Int32)), .val (.int i4), .val (.int i5), .val (.int (0 : Int32)), .val (.double r7), .second, .val (.ref b8), .val (.ref b12), .val (.ref b21), .val (.ref b30), .val (.ref b43), .val (.ref b46), .val (.int i2), .val (.int (0 : Int32)), .val (.int i5), .val (.long j149), .second, .val (.long j151), .second, .val (.int i153), .val (.int i155), .val (.int (1 : Int32)), .unset, .unset]) rfl (pc' := 408) rfl ?_
          refine R.iload X154 hx (hb hby at_408) rfl (pc' := 410) rfl ?_
          refine R.ifYes X154 hx (hb hby at_410) (flt (by decide : ¬ ((0 : Int32) < (0 : Int32)))).2.2.2 (by decide) (pc' := 493) (by decide) ?_
          refine R.iload X154 hx (hb hby at_493) rfl (pc' := 495) rfl ?_
          refine R.iconst X154 hx (hb hby at_495) (v := (1 : Int32)) (by decide) (pc' := 496) rfl ?_
          refine R.icmpYes X154 hx (hb hby at_496) (flt (by decide : ¬ ((1 : Int32) < (0 : Int32)))).2.2.2 (by decide) (pc' := 583) (by decide) ?_
          refine R.iload X154 hx (hb hby at_583) rfl (pc' := 585) rfl ?_
          rw [← hG]
          exact Rn.ret X154 (BodyLoose.notSynchronized Bd) (v := some (.int (1 : Int32))) (fun h => by rw [Bd.returns] at h; cases h) (Q := Q0 Z p0 p1 p2 p3 p4 p5 h0 n0) e154 (fun fs hr => retN X154 hx (t := .boolean) Bd.returns (by simp) (hb hby at_585) hr) ⟨rfl, N154⟩ (by decide) (by decide)
        · refine R.aload X47 hx (hb hby at_313) rfl rfl (pc' := 315) rfl ?_
          refine R.iload X47 hx (hb hby at_315) rfl (pc' := 317) rfl ?_
          refine R.aload X47 hx (hb hby at_317) rfl rfl (pc' := 319) rfl ?_
          refine R.iload X47 hx (hb hby at_319) rfl (pc' := 321) rfl ?_
          refine R.aload X47 hx (hb hby at_321) rfl rfl (pc' := 323) rfl ?_
          refine R.virtual X47 hx hZ (y := mY7) (z := mY7) hown w_38 w_39 (notFace_of_selects (args := #[]) (mvT hZ w_41)) w_41 w_40 w_18 w_42 (by decide) e47 E_b46 (rm8 l Z aZ hw [] b46 (1 : Int32) b30 (1 : Int32) b43 b8 b12 b21 k8 k12 k21 k30 k43 [((2 : Int32), (.int (i2 + (0 : Int32)))), ((1 : Int32), (.int i2)), ((0 : Int32), (.int (0 : Int32)))] [((i2 + (1 : Int32)), (.int (own_rowB (0 : Int32) i5))), (i2, (.int (own_rowA (0 : Int32) i5))), ((1 : Int32), (.int (own_rowB i2 i4))), ((0 : Int32), (.int (own_rowA i2 i4)))] [((3 : Int32), (.double (FP.l2d (own_wAt (3 : Int32) p1 p2)))), ((2 : Int32), (.double (FP.l2d (own_wAt (2 : Int32) p1 p2)))), ((1 : Int32), (.double (FP.l2d (own_wAt (1 : Int32) p1 p2)))), ((0 : Int32), (.double (FP.l2d (own_wAt (0 : Int32) p1 p2))))] [((5 : Int32), (.double (FP.l2d (own_yAt (5 : Int32) p3 p4 p5)))), ((4 : Int32), (.double (FP.l2d (own_yAt (4 : Int32) p3 p4 p5)))), ((3 : Int32), (.double (FP.l2d (own_yAt (3 : Int32) p3 p4 p5)))), ((2 : Int32), (.double (FP.l2d (own_yAt (2 : Int32) p3 p4 p5)))), ((1 : Int32), (.double (FP.l2d (own_yAt (1 : Int32) p3 p4 p5)))), ((0 : Int32), (.double (FP.l2d (own_yAt (0 : Int32) p3 p4 p5))))] [((1 : Int32), (.double r7)), ((0 : Int32), (.double r7))] i2 (i2 + (0 : Int32)) (FP.l2d (own_wAt i2 p1 p2)) (FP.l2d (own_wAt (i2 + (1 : Int32)) p1 p2)) (own_wAt i2 p1 p2).toInt (own_wAt (i2 + (1 : Int32)) p1 p2).toInt (own_rowA (0 : Int32) i5) (own_rowB (0 : Int32) i5) (fun i => FP.l2d (own_yAt i p3 p4 p5)) (fun i => (own_yAt i p3 p4 p5).toInt) 0 0 h47 n0 Z47 F_start_b46 F_rows_b46 F_values_b46 V_b8 V_b12 V_b21 V_b30 V_b43 g_b43 (Ne.symm ne_b43_b46) ne_b8_b43 ne_b12_b43 ne_b21_b43 ne_b30_b43 (by decide) (by rcases h7_ with q | q | q <;> (rw [q]; try rfl)) (by rcases h7_ with q | q | q <;> (rw [q]; try rfl)) (rA7) (by decide) (own_rA h10_) (own_rB) (Or.inl ⟨by rcases h7_ with q | q | q <;> (rw [q]; try rfl), rfl, rfl⟩) (Dy.l2d (by have := own_wb i2 p1 p2; omega)) (Dy.l2d (by have := own_wb (i2 + (1 : Int32)) p1 p2; omega)) (own_wb _ _ _) (own_wb _ _ _) (own_rdy)) (by decide) (W := 0) (Nat.le_of_eq rfl) (by decide) (by rw [hml]; rfl) (lenOf pd_6 rfl) rfl (hb hby at_323) (pc' := 326) rfl (by decide) (by decide) ?_; intro v156 T156 L156 X156 hQ156
          obtain ⟨hj_156, rfl, N156q, Kc156, P156_0, P156_1, P156_2⟩ := hQ156
          have N156 := Fr.app N47 N156q
          generalize e156 : T156.heap = h156 at Kc156 P156_0 P156_1 P156_2
          have K156 : Keep h0 h156 [] := K47.trans Kc156 ((allS (Or.inr sz_b43) all0))
          have Z156 : n0 ≤ h156.size := Nat.le_trans Z47 Kc156.1
          have V_b8 := V_b8.keep Kc156 (ninS ne_b8_b43 nin0)
          have V_b12 := V_b12.keep Kc156 (ninS ne_b12_b43 nin0)
          have V_b21 := V_b21.keep Kc156 (ninS ne_b21_b43 nin0)
          have V_b30 := V_b30.keep Kc156 (ninS ne_b30_b43 nin0)
          have E_b46 := E_b46.keep Kc156
          have F_start_b46 := F_start_b46.keep Kc156 (ninS (Ne.symm ne_b43_b46) nin0)
          have F_rows_b46 := F_rows_b46.keep Kc156 (ninS (Ne.symm ne_b43_b46) nin0)
          have F_values_b46 := F_values_b46.keep Kc156 (ninS (Ne.symm ne_b43_b46) nin0)
          have V_b43 : Arh Z h156 b43 k43 .double (2 : Int32) hj_156 [] (.double (0 : UInt64)) := P156_0
          have V_b43 : Arh Z h156 b43 k43 .double (2 : Int32) hj_156 [] (.double (0 : UInt64)) := V_b43
          have c0_156 := P156_1
          have c1_156 := P156_2
          refine R.iload X156 hx (hb hby at_326) rfl (pc' := 328) rfl ?_
          refine R.ifYes X156 hx (hb hby at_328) (feq (by decide : ¬ ((1 : Int32) = (0 : Int32)))).2 (by decide) (pc' := 335) (by decide) ?_
          refine R.iload X156 hx (hb hby at_335) rfl (pc' := 337) rfl ?_
          refine R.istore X156 hx (hb hby at_337) (L' := #[.val (.int p0), .val (.int p1), .val (.int p2), .val (.int p3), .val (.int p4), .val (.int p5), .val (.int (1 : Int32)), .val (.int i2), .val (.int (0 : Int32)), .val (.int i4), .val (.int i5), .val (.int (1 : Int32)), .val (.double r7), .second, .val (.ref b8), .val (.ref b12), .val (.ref b21), .val (.ref b30), .val (.ref b43), .val (.ref b46), .val (.int i2), .unset, .unset, .unset, .unset, .unset, .unset, .unset, .unset, .unset, .unset, .unset]) rfl (pc' := 339) rfl ?_
          refine R.iload X156 hx (hb hby at_339) rfl (pc' := 341) rfl ?_
          refine R.ifYes X156 hx (hb hby at_341) (feq (by decide : ¬ ((1 : Int32) = (0 : Int32)))).2 (by decide) (pc' := 349) (by decide) ?_
          refine R.iload X156 hx (hb hby at_349) rfl (pc' := 351) rfl ?_
          refine R.istore X156 hx (hb hby at_351) (L' := #[.val (.int p0), .val (.int p1), .val (.int p2), .val (.int p3), .val (.int p4), .val (.int p5), .val (.int (1 : Int32)), .val (.int i2), .val (.int (0 : Int32)), .val (.int i4), .val (.int i5), .val (.int (1 : Int32)), .val (.double r7), .second, .val (.ref b8), .val (.ref b12), .val (.ref b21), .val (.ref b30), .val (.ref b43), .val (.ref b46), .val (.int i2), .val (.int (0 : Int32)), .unset, .unset, .unset, .unset, .unset, .unset, .unset, .unset, .unset, .unset]) rfl (pc' := 353) rfl ?_
          refine R.iload X156 hx (hb hby at_353) rfl (pc' := 355) rfl ?_
          refine R.ifYes X156 hx (hb hby at_355) (feq (by decide : ¬ ((1 : Int32) = (0 : Int32)))).2 (by decide) (pc' := 363) (by decide) ?_
          refine R.iload X156 hx (hb hby at_363) rfl (pc' := 365) rfl ?_
          refine R.istore X156 hx (hb hby at_365) (L' := #[.val (.int p0), .val (.int p1), .val (.int p2), .val (.int p3), .val (.int p4), .val (.int p5), .val (.int (1 : Int32)), .val (.int i2), .val (.int (0 : Int32)), .val (.int i4), .val (.int i5), .val (.int (1 : Int32)), .val (.double r7), .second, .val (.ref b8), .val (.ref b12), .val (.ref b21), .val (.ref b30), .val (.ref b43), .val (.ref b46), .val (.int i2), .val (.int (0 : Int32)), .val (.int i5), .unset, .unset, .unset, .unset, .unset, .unset, .unset, .unset, .unset]) rfl (pc' := 367) rfl ?_
          refine R.iload X156 hx (hb hby at_367) rfl (pc' := 369) rfl ?_
          refine R.iloadN X156 hx (hb hby at_369) rfl (pc' := 370) rfl ?_
          refine R.iloadN X156 hx (hb hby at_370) rfl (pc' := 371) rfl ?_
          refine R.callS X156 hx hZ (y := mY4) hown w_10 w_11 w_4 w_12 (by decide) e156 (rm3 l Z aZ hw [] i2 p1 p2 h156 n0 Z156 ) (by decide) (W := 0) (Nat.le_of_eq rfl) (by decide) (by rw [hml]; rfl) (lenOf pd_3 rfl) rfl (hb hby at_371) (pc' := 374) rfl (by decide) (by decide) ?_; intro v157 T157 L157 X157 hQ157
          obtain ⟨rfl, N157q, e157⟩ := hQ157
          have N157 := Fr.app N156 N157q
          show Rn p e below (T157.setTop (mkF m 374 #[.val (.int p0), .val (.int p1), .val (.int p2), .val (.int p3), .val (.int p4), .val (.int p5), .val (.int (1 : Int32)), .val (.int i2), .val (.int (0 : Int32)), .val (.int i4), .val (.int i5), .val (.int (1 : Int32)), .val (.double r7), .second, .val (.ref b8), .val (.ref b12), .val (.ref b21), .val (.ref b30), .val (.ref b43), .val (.ref b46), .val (.int i2), .val (.int (0 : Int32)), .val (.int i5), .unset, .unset, .unset, .unset, .unset, .unset, .unset, .unset, .unset] [(.long (own_wAt i2 p1 p2))])) G
          generalize hj158 : (own_wAt i2 p1 p2) = j158
          refine R.lstore X157 hx (hb hby at_374) (L' := #[.val (.int p0), .val (.int p1), .val (.int p2), .val (.int p3), .val (.int p4), .val (.int p5), .val (.int (1 : Int32)), .val (.int i2), .val (.int (0 : Int32)), .val (.int i4), .val (.int i5), .val (.int (1 : Int32)), .val (.double r7), .second, .val (.ref b8), .val (.ref b12), .val (.ref b21), .val (.ref b30), .val (.ref b43), .val (.ref b46), .val (.int i2), .val (.int (0 : Int32)), .val (.int i5), .val (.long j158), .second, .unset, .unset, .unset, .unset, .unset, .unset, .unset]) rfl (pc' := 376) rfl ?_
          refine R.iload X157 hx (hb hby at_376) rfl (pc' := 378) rfl ?_
          refine R.iconst X157 hx (hb hby at_378) (v := (1 : Int32)) (by decide) (pc' := 379) rfl ?_
          refine R.iadd X157 hx (hb hby at_379) rfl (pc' := 380) rfl ?_
          refine R.iloadN X157 hx (hb hby at_380) rfl (pc' := 381) rfl ?_
          refine R.iloadN X157 hx (hb hby at_381) rfl (pc' := 382) rfl ?_
          refine R.callS X157 hx hZ (y := mY4) hown w_10 w_11 w_4 w_12 (by decide) e157 (rm3 l Z aZ hw [] (i2 + (1 : Int32)) p1 p2 h156 n0 Z156 ) (by decide) (W := 0) (Nat.le_of_eq rfl) (by decide) (by rw [hml]; rfl) (lenOf pd_3 rfl) rfl (hb hby at_382) (pc' := 385) rfl (by decide) (by decide) ?_; intro v159 T159 L159 X159 hQ159
          obtain ⟨rfl, N159q, e159⟩ := hQ159
          have N159 := Fr.app N157 N159q
          show Rn p e below (T159.setTop (mkF m 385 #[.val (.int p0), .val (.int p1), .val (.int p2), .val (.int p3), .val (.int p4), .val (.int p5), .val (.int (1 : Int32)), .val (.int i2), .val (.int (0 : Int32)), .val (.int i4), .val (.int i5), .val (.int (1 : Int32)), .val (.double r7), .second, .val (.ref b8), .val (.ref b12), .val (.ref b21), .val (.ref b30), .val (.ref b43), .val (.ref b46), .val (.int i2), .val (.int (0 : Int32)), .val (.int i5), .val (.long j158), .second, .unset, .unset, .unset, .unset, .unset, .unset, .unset] [(.long (own_wAt (i2 + (1 : Int32)) p1 p2))])) G
          generalize hj160 : (own_wAt (i2 + (1 : Int32)) p1 p2) = j160
          refine R.lstore X159 hx (hb hby at_385) (L' := #[.val (.int p0), .val (.int p1), .val (.int p2), .val (.int p3), .val (.int p4), .val (.int p5), .val (.int (1 : Int32)), .val (.int i2), .val (.int (0 : Int32)), .val (.int i4), .val (.int i5), .val (.int (1 : Int32)), .val (.double r7), .second, .val (.ref b8), .val (.ref b12), .val (.ref b21), .val (.ref b30), .val (.ref b43), .val (.ref b46), .val (.int i2), .val (.int (0 : Int32)), .val (.int i5), .val (.long j158), .second, .val (.long j160), .second, .unset, .unset, .unset, .unset, .unset]) rfl (pc' := 387) rfl ?_
          refine R.iload X159 hx (hb hby at_387) rfl (pc' := 389) rfl ?_
          refine R.iload X159 hx (hb hby at_389) rfl (pc' := 391) rfl ?_
          refine R.callS X159 hx hZ (y := mY2) hown w_2 w_3 w_4 w_5 (by decide) e159 (rm1 l Z aZ hw [] (0 : Int32) i5 h156 n0 Z156 ) (by decide) (W := 0) (Nat.le_of_eq rfl) (by decide) (by rw [hml]; rfl) (lenOf pd_2 rfl) rfl (hb hby at_391) (pc' := 394) rfl (by decide) (by decide) ?_; intro v161 T161 L161 X161 hQ161
          obtain ⟨rfl, N161q, e161⟩ := hQ161
          have N161 := Fr.app N159 N161q
          show Rn p e below (T161.setTop (mkF m 394 #[.val (.int p0), .val (.int p1), .val (.int p2), .val (.int p3), .val (.int p4), .val (.int p5), .val (.int (1 : Int32)), .val (.int i2), .val (.int (0 : Int32)), .val (.int i4), .val (.int i5), .val (.int (1 : Int32)), .val (.double r7), .second, .val (.ref b8), .val (.ref b12), .val (.ref b21), .val (.ref b30), .val (.ref b43), .val (.ref b46), .val (.int i2), .val (.int (0 : Int32)), .val (.int i5), .val (.long j158), .second, .val (.long j160), .second, .unset, .unset, .unset, .unset, .unset] [(.int (own_rowA (0 : Int32) i5))])) G
          generalize hi162 : (own_rowA (0 : Int32) i5) = i162
          refine R.istore X161 hx (hb hby at_394) (L' := #[.val (.int p0), .val (.int p1), .val (.int p2), .val (.int p3), .val (.int p4), .val (.int p5), .val (.int (1 : Int32)), .val (.int i2), .val (.int (0 : Int32)), .val (.int i4), .val (.int i5), .val (.int (1 : Int32)), .val (.double r7), .second, .val (.ref b8), .val (.ref b12), .val (.ref b21), .val (.ref b30), .val (.ref b43), .val (.ref b46), .val (.int i2), .val (.int (0 : Int32)), .val (.int i5), .val (.long j158), .second, .val (.long j160), .second, .val (.int i162), .unset, .unset, .unset, .unset]) rfl (pc' := 396) rfl ?_
          refine R.iload X161 hx (hb hby at_396) rfl (pc' := 398) rfl ?_
          refine R.iload X161 hx (hb hby at_398) rfl (pc' := 400) rfl ?_
          refine R.callS X161 hx hZ (y := mY3) hown w_6 w_7 w_4 w_8 (by decide) e161 (rm2 l Z aZ hw [] (0 : Int32) i5 h156 n0 Z156 ) (by decide) (W := 0) (Nat.le_of_eq rfl) (by decide) (by rw [hml]; rfl) (lenOf pd_2 rfl) rfl (hb hby at_400) (pc' := 403) rfl (by decide) (by decide) ?_; intro v163 T163 L163 X163 hQ163
          obtain ⟨rfl, N163q, e163⟩ := hQ163
          have N163 := Fr.app N161 N163q
          show Rn p e below (T163.setTop (mkF m 403 #[.val (.int p0), .val (.int p1), .val (.int p2), .val (.int p3), .val (.int p4), .val (.int p5), .val (.int (1 : Int32)), .val (.int i2), .val (.int (0 : Int32)), .val (.int i4), .val (.int i5), .val (.int (1 : Int32)), .val (.double r7), .second, .val (.ref b8), .val (.ref b12), .val (.ref b21), .val (.ref b30), .val (.ref b43), .val (.ref b46), .val (.int i2), .val (.int (0 : Int32)), .val (.int i5), .val (.long j158), .second, .val (.long j160), .second, .val (.int i162), .unset, .unset, .unset, .unset] [(.int (own_rowB (0 : Int32) i5))])) G
          generalize hi164 : (own_rowB (0 : Int32) i5) = i164
          refine R.istore X163 hx (hb hby at_403) (L' := #[.val (.int p0), .val (.int p1), .val (.int p2), .val (.int p3), .val (.int p4), .val (.int p5), .val (.int (1 : Int32)), .val (.int i2), .val (.int (0 : Int32)), .val (.int i4), .val (.int i5), .val (.int (1 : Int32)), .val (.double r7), .second, .val (.ref b8), .val (.ref b12), .val (.ref b21), .val (.ref b30), .val (.ref b43), .val (.ref b46), .val (.int i2), .val (.int (0 : Int32)), .val (.int i5), .val (.long j158), .second, .val (.long j160), .second, .val (.int i162), .val (.int i164), .unset, .unset, .unset]) rfl (pc' := 405) rfl ?_
          refine R.iconst X163 hx (hb hby at_405) (v := (1 : Int32)) (by decide) (pc' := 406) rfl ?_
          refine R.istore X163 hx (hb hby at_406) (L' := #[.val (.int p0), .val (.int p1), .val (.int p2), .val (.int p3), .val (.int p4), .val (.int p5), .val (.int (1 : Int32)), .val (.int i2), .val (.int (0 : Int32)), .val (.int i4), .val (.int i5), .val (.int (1 : Int32)), .val (.double r7), .second, .val (.ref b8), .val (.ref b12), .val (.ref b21), .val (.ref b30), .val (.ref b43), .val (.ref b46), .val (.int i2), .val (.int (0 : Int32)), .val (.int i5), .val (.long j158), .second, .val (.long j160), .second, .val (.int i162), .val (.int i164), .val (.int (1 : Int32)), .unset, .unset]) rfl (pc' := 408) rfl ?_
          refine R.iload X163 hx (hb hby at_408) rfl (pc' := 410) rfl ?_
          refine R.ifNo X163 hx (hb hby at_410) (tlt (by decide : (0 : Int32) < (1 : Int32))).2.2.2 (pc' := 413) rfl ?_
          refine R.lconst X163 hx (hb hby at_413) (v := (0 : Int64)) (by decide) (pc' := 414) rfl ?_
          refine R.lstore X163 hx (hb hby at_414) (L' := #[.val (.int p0), .val (.int p1), .val (.int p2), .val (.int p3), .val (.int p4), .val (.int p5), .val (.int (1 : Int32)), .val (.int i2), .val (.int (0 : Int32)), .val (.int i4), .val (.int i5), .val (.int (1 : Int32)), .val (.double r7), .second, .val (.ref b8), .val (.ref b12), .val (.ref b21), .val (.ref b30), .val (.ref b43), .val (.ref b46), .val (.int i2), .val (.int (0 : Int32)), .val (.int i5), .val (.long j158), .second, .val (.long j160), .second, .val (.int i162), .val (.int i164), .val (.int (1 : Int32)), .val (.long (0 : Int64)), .second]) rfl (pc' := 416) rfl ?_
          refine R.iload X163 hx (hb hby at_416) rfl (pc' := 418) rfl ?_
          refine R.iconst X163 hx (hb hby at_418) (v := (1 : Int32)) (by decide) (pc' := 419) rfl ?_
          refine R.icmpYes X163 hx (hb hby at_419) (tlt (by decide : (0 : Int32) < (1 : Int32))).1 (by decide) (pc' := 443) (by decide) ?_
          refine R.iload X163 hx (hb hby at_443) rfl (pc' := 445) rfl ?_
          refine R.iconst X163 hx (hb hby at_445) (v := (2 : Int32)) (by decide) (pc' := 446) rfl ?_
          refine R.icmpYes X163 hx (hb hby at_446) (tlt (by decide : (0 : Int32) < (2 : Int32))).1 (by decide) (pc' := 470) (by decide) ?_
          obtain ⟨xv0, hxv0, Dx0⟩ := c0_156 (by decide)
          have tj0 : ((0 : Int64)).toInt = 0 := by decide
          refine R.iload X163 hx (hb hby at_470) rfl (pc' := 472) rfl ?_
          refine R.ifNo X163 hx (hb hby at_472) (feq (by decide : ¬ ((1 : Int32) = (0 : Int32)))).1 (pc' := 475) rfl ?_
          refine R.aload X163 hx (hb hby at_475) rfl rfl (pc' := 477) rfl ?_
          refine R.iconst X163 hx (hb hby at_477) (v := (0 : Int32)) (by decide) (pc' := 478) rfl ?_
          refine R.daload X163 hx hZ e163 V_b43 (⟨by decide, by decide⟩ : ¬ (0 : Int32) < 0 ∧ (0 : Int32) < (2 : Int32)) (v := (.double xv0)) (hxv0) (hb hby at_478) (pc' := 479) rfl ?_
          refine R.lload X163 hx (hb hby at_479) rfl (pc' := 481) rfl ?_
          refine R.l2d X163 hx (hb hby at_481) (pc' := 482) rfl ?_
          refine R.dcmp X163 hx (hb hby at_482) (Dx0.cmp ((Dy.l2d (by rw [tj0]; decide)).cast tj0 rfl) _ : cmpValue (FP.dcmp xv0 (FP.l2d (0 : Int64))) .l = (own_ci 0 0)) (pc' := 483) rfl ?_
          refine R.ifNo X163 hx (hb hby at_483) (teq (own_ci_eq.mpr rfl : (own_ci 0 0) = (0 : Int32))).2 (pc' := 486) rfl ?_
          refine R.iconst X163 hx (hb hby at_486) (v := (1 : Int32)) (by decide) (pc' := 487) rfl ?_
          refine R.goto X163 hx (hb hby at_487) (by decide) (pc' := 491) (by decide) ?_
          refine R.istore X163 hx (hb hby at_491) (L' := #[.val (.int p0), .val (.int p1), .val (.int p2), .val (.int p3), .val (.int p4), .val (.int p5), .val (.int (1 : Int32)), .val (.int i2), .val (.int (0 : Int32)), .val (.int i4), .val (.int i5), .val (.int (1 : Int32)), .val (.double r7), .second, .val (.ref b8), .val (.ref b12), .val (.ref b21), .val (.ref b30), .val (.ref b43), .val (.ref b46), .val (.int i2), .val (.int (0 : Int32)), .val (.int i5), .val (.long j158), .second, .val (.long j160), .second, .val (.int i162), .val (.int i164), .val (.int (1 : Int32)), .val (.long (0 : Int64)), .second]) rfl (pc' := 493) rfl ?_
          refine R.iload X163 hx (hb hby at_493) rfl (pc' := 495) rfl ?_
          refine R.iconst X163 hx (hb hby at_495) (v := (1 : Int32)) (by decide) (pc' := 496) rfl ?_
          refine R.icmpYes X163 hx (hb hby at_496) (flt (by decide : ¬ ((1 : Int32) < (1 : Int32)))).2.2.2 (by decide) (pc' := 583) (by decide) ?_
          refine R.iload X163 hx (hb hby at_583) rfl (pc' := 585) rfl ?_
          rw [← hG]
          exact Rn.ret X163 (BodyLoose.notSynchronized Bd) (v := some (.int (1 : Int32))) (fun h => by rw [Bd.returns] at h; cases h) (Q := Q0 Z p0 p1 p2 p3 p4 p5 h0 n0) e163 (fun fs hr => retN X163 hx (t := .boolean) Bd.returns (by simp) (hb hby at_585) hr) ⟨rfl, N163⟩ (by decide) (by decide)
        · refine R.aload X47 hx (hb hby at_313) rfl rfl (pc' := 315) rfl ?_
          refine R.iload X47 hx (hb hby at_315) rfl (pc' := 317) rfl ?_
          refine R.aload X47 hx (hb hby at_317) rfl rfl (pc' := 319) rfl ?_
          refine R.iload X47 hx (hb hby at_319) rfl (pc' := 321) rfl ?_
          refine R.aload X47 hx (hb hby at_321) rfl rfl (pc' := 323) rfl ?_
          refine R.virtual X47 hx hZ (y := mY7) (z := mY7) hown w_38 w_39 (notFace_of_selects (args := #[]) (mvT hZ w_41)) w_41 w_40 w_18 w_42 (by decide) e47 E_b46 (rm8 l Z aZ hw [] b46 (1 : Int32) b30 (2 : Int32) b43 b8 b12 b21 k8 k12 k21 k30 k43 [((2 : Int32), (.int (i2 + (0 : Int32)))), ((1 : Int32), (.int i2)), ((0 : Int32), (.int (0 : Int32)))] [((i2 + (1 : Int32)), (.int (own_rowB (0 : Int32) i5))), (i2, (.int (own_rowA (0 : Int32) i5))), ((1 : Int32), (.int (own_rowB i2 i4))), ((0 : Int32), (.int (own_rowA i2 i4)))] [((3 : Int32), (.double (FP.l2d (own_wAt (3 : Int32) p1 p2)))), ((2 : Int32), (.double (FP.l2d (own_wAt (2 : Int32) p1 p2)))), ((1 : Int32), (.double (FP.l2d (own_wAt (1 : Int32) p1 p2)))), ((0 : Int32), (.double (FP.l2d (own_wAt (0 : Int32) p1 p2))))] [((5 : Int32), (.double (FP.l2d (own_yAt (5 : Int32) p3 p4 p5)))), ((4 : Int32), (.double (FP.l2d (own_yAt (4 : Int32) p3 p4 p5)))), ((3 : Int32), (.double (FP.l2d (own_yAt (3 : Int32) p3 p4 p5)))), ((2 : Int32), (.double (FP.l2d (own_yAt (2 : Int32) p3 p4 p5)))), ((1 : Int32), (.double (FP.l2d (own_yAt (1 : Int32) p3 p4 p5)))), ((0 : Int32), (.double (FP.l2d (own_yAt (0 : Int32) p3 p4 p5))))] [((1 : Int32), (.double r7)), ((0 : Int32), (.double r7))] i2 (i2 + (0 : Int32)) (FP.l2d (own_wAt i2 p1 p2)) (FP.l2d (own_wAt (i2 + (1 : Int32)) p1 p2)) (own_wAt i2 p1 p2).toInt (own_wAt (i2 + (1 : Int32)) p1 p2).toInt (own_rowA (0 : Int32) i5) (own_rowB (0 : Int32) i5) (fun i => FP.l2d (own_yAt i p3 p4 p5)) (fun i => (own_yAt i p3 p4 p5).toInt) 0 0 h47 n0 Z47 F_start_b46 F_rows_b46 F_values_b46 V_b8 V_b12 V_b21 V_b30 V_b43 g_b43 (Ne.symm ne_b43_b46) ne_b8_b43 ne_b12_b43 ne_b21_b43 ne_b30_b43 (by decide) (by rcases h7_ with q | q | q <;> (rw [q]; try rfl)) (by rcases h7_ with q | q | q <;> (rw [q]; try rfl)) (rA7) (by decide) (own_rA h10_) (own_rB) (Or.inl ⟨by rcases h7_ with q | q | q <;> (rw [q]; try rfl), rfl, rfl⟩) (Dy.l2d (by have := own_wb i2 p1 p2; omega)) (Dy.l2d (by have := own_wb (i2 + (1 : Int32)) p1 p2; omega)) (own_wb _ _ _) (own_wb _ _ _) (own_rdy)) (by decide) (W := 0) (Nat.le_of_eq rfl) (by decide) (by rw [hml]; rfl) (lenOf pd_6 rfl) rfl (hb hby at_323) (pc' := 326) rfl (by decide) (by decide) ?_; intro v165 T165 L165 X165 hQ165
          obtain ⟨hj_165, rfl, N165q, Kc165, P165_0, P165_1, P165_2⟩ := hQ165
          have N165 := Fr.app N47 N165q
          generalize e165 : T165.heap = h165 at Kc165 P165_0 P165_1 P165_2
          have K165 : Keep h0 h165 [] := K47.trans Kc165 ((allS (Or.inr sz_b43) all0))
          have Z165 : n0 ≤ h165.size := Nat.le_trans Z47 Kc165.1
          have V_b8 := V_b8.keep Kc165 (ninS ne_b8_b43 nin0)
          have V_b12 := V_b12.keep Kc165 (ninS ne_b12_b43 nin0)
          have V_b21 := V_b21.keep Kc165 (ninS ne_b21_b43 nin0)
          have V_b30 := V_b30.keep Kc165 (ninS ne_b30_b43 nin0)
          have E_b46 := E_b46.keep Kc165
          have F_start_b46 := F_start_b46.keep Kc165 (ninS (Ne.symm ne_b43_b46) nin0)
          have F_rows_b46 := F_rows_b46.keep Kc165 (ninS (Ne.symm ne_b43_b46) nin0)
          have F_values_b46 := F_values_b46.keep Kc165 (ninS (Ne.symm ne_b43_b46) nin0)
          have V_b43 : Arh Z h165 b43 k43 .double (2 : Int32) hj_165 [] (.double (0 : UInt64)) := P165_0
          have V_b43 : Arh Z h165 b43 k43 .double (2 : Int32) hj_165 [] (.double (0 : UInt64)) := V_b43
          have c0_165 := P165_1
          have c1_165 := P165_2
          refine R.iload X165 hx (hb hby at_326) rfl (pc' := 328) rfl ?_
          refine R.ifYes X165 hx (hb hby at_328) (feq (by decide : ¬ ((1 : Int32) = (0 : Int32)))).2 (by decide) (pc' := 335) (by decide) ?_
          refine R.iload X165 hx (hb hby at_335) rfl (pc' := 337) rfl ?_
          refine R.istore X165 hx (hb hby at_337) (L' := #[.val (.int p0), .val (.int p1), .val (.int p2), .val (.int p3), .val (.int p4), .val (.int p5), .val (.int (1 : Int32)), .val (.int i2), .val (.int (0 : Int32)), .val (.int i4), .val (.int i5), .val (.int (2 : Int32)), .val (.double r7), .second, .val (.ref b8), .val (.ref b12), .val (.ref b21), .val (.ref b30), .val (.ref b43), .val (.ref b46), .val (.int i2), .unset, .unset, .unset, .unset, .unset, .unset, .unset, .unset, .unset, .unset, .unset]) rfl (pc' := 339) rfl ?_
          refine R.iload X165 hx (hb hby at_339) rfl (pc' := 341) rfl ?_
          refine R.ifYes X165 hx (hb hby at_341) (feq (by decide : ¬ ((1 : Int32) = (0 : Int32)))).2 (by decide) (pc' := 349) (by decide) ?_
          refine R.iload X165 hx (hb hby at_349) rfl (pc' := 351) rfl ?_
          refine R.istore X165 hx (hb hby at_351) (L' := #[.val (.int p0), .val (.int p1), .val (.int p2), .val (.int p3), .val (.int p4), .val (.int p5), .val (.int (1 : Int32)), .val (.int i2), .val (.int (0 : Int32)), .val (.int i4), .val (.int i5), .val (.int (2 : Int32)), .val (.double r7), .second, .val (.ref b8), .val (.ref b12), .val (.ref b21), .val (.ref b30), .val (.ref b43), .val (.ref b46), .val (.int i2), .val (.int (0 : Int32)), .unset, .unset, .unset, .unset, .unset, .unset, .unset, .unset, .unset, .unset]) rfl (pc' := 353) rfl ?_
          refine R.iload X165 hx (hb hby at_353) rfl (pc' := 355) rfl ?_
          refine R.ifYes X165 hx (hb hby at_355) (feq (by decide : ¬ ((1 : Int32) = (0 : Int32)))).2 (by decide) (pc' := 363) (by decide) ?_
          refine R.iload X165 hx (hb hby at_363) rfl (pc' := 365) rfl ?_
          refine R.istore X165 hx (hb hby at_365) (L' := #[.val (.int p0), .val (.int p1), .val (.int p2), .val (.int p3), .val (.int p4), .val (.int p5), .val (.int (1 : Int32)), .val (.int i2), .val (.int (0 : Int32)), .val (.int i4), .val (.int i5), .val (.int (2 : Int32)), .val (.double r7), .second, .val (.ref b8), .val (.ref b12), .val (.ref b21), .val (.ref b30), .val (.ref b43), .val (.ref b46), .val (.int i2), .val (.int (0 : Int32)), .val (.int i5), .unset, .unset, .unset, .unset, .unset, .unset, .unset, .unset, .unset]) rfl (pc' := 367) rfl ?_
          refine R.iload X165 hx (hb hby at_367) rfl (pc' := 369) rfl ?_
          refine R.iloadN X165 hx (hb hby at_369) rfl (pc' := 370) rfl ?_
          refine R.iloadN X165 hx (hb hby at_370) rfl (pc' := 371) rfl ?_
          refine R.callS X165 hx hZ (y := mY4) hown w_10 w_11 w_4 w_12 (by decide) e165 (rm3 l Z aZ hw [] i2 p1 p2 h165 n0 Z165 ) (by decide) (W := 0) (Nat.le_of_eq rfl) (by decide) (by rw [hml]; rfl) (lenOf pd_3 rfl) rfl (hb hby at_371) (pc' := 374) rfl (by decide) (by decide) ?_; intro v166 T166 L166 X166 hQ166
          obtain ⟨rfl, N166q, e166⟩ := hQ166
          have N166 := Fr.app N165 N166q
          show Rn p e below (T166.setTop (mkF m 374 #[.val (.int p0), .val (.int p1), .val (.int p2), .val (.int p3), .val (.int p4), .val (.int p5), .val (.int (1 : Int32)), .val (.int i2), .val (.int (0 : Int32)), .val (.int i4), .val (.int i5), .val (.int (2 : Int32)), .val (.double r7), .second, .val (.ref b8), .val (.ref b12), .val (.ref b21), .val (.ref b30), .val (.ref b43), .val (.ref b46), .val (.int i2), .val (.int (0 : Int32)), .val (.int i5), .unset, .unset, .unset, .unset, .unset, .unset, .unset, .unset, .unset] [(.long (own_wAt i2 p1 p2))])) G
          generalize hj167 : (own_wAt i2 p1 p2) = j167
          refine R.lstore X166 hx (hb hby at_374) (L' := #[.val (.int p0), .val (.int p1), .val (.int p2), .val (.int p3), .val (.int p4), .val (.int p5), .val (.int (1 : Int32)), .val (.int i2), .val (.int (0 : Int32)), .val (.int i4), .val (.int i5), .val (.int (2 : Int32)), .val (.double r7), .second, .val (.ref b8), .val (.ref b12), .val (.ref b21), .val (.ref b30), .val (.ref b43), .val (.ref b46), .val (.int i2), .val (.int (0 : Int32)), .val (.int i5), .val (.long j167), .second, .unset, .unset, .unset, .unset, .unset, .unset, .unset]) rfl (pc' := 376) rfl ?_
          refine R.iload X166 hx (hb hby at_376) rfl (pc' := 378) rfl ?_
          refine R.iconst X166 hx (hb hby at_378) (v := (1 : Int32)) (by decide) (pc' := 379) rfl ?_
          refine R.iadd X166 hx (hb hby at_379) rfl (pc' := 380) rfl ?_
          refine R.iloadN X166 hx (hb hby at_380) rfl (pc' := 381) rfl ?_
          refine R.iloadN X166 hx (hb hby at_381) rfl (pc' := 382) rfl ?_
          refine R.callS X166 hx hZ (y := mY4) hown w_10 w_11 w_4 w_12 (by decide) e166 (rm3 l Z aZ hw [] (i2 + (1 : Int32)) p1 p2 h165 n0 Z165 ) (by decide) (W := 0) (Nat.le_of_eq rfl) (by decide) (by rw [hml]; rfl) (lenOf pd_3 rfl) rfl (hb hby at_382) (pc' := 385) rfl (by decide) (by decide) ?_; intro v168 T168 L168 X168 hQ168
          obtain ⟨rfl, N168q, e168⟩ := hQ168
          have N168 := Fr.app N166 N168q
          show Rn p e below (T168.setTop (mkF m 385 #[.val (.int p0), .val (.int p1), .val (.int p2), .val (.int p3), .val (.int p4), .val (.int p5), .val (.int (1 : Int32)), .val (.int i2), .val (.int (0 : Int32)), .val (.int i4), .val (.int i5), .val (.int (2 : Int32)), .val (.double r7), .second, .val (.ref b8), .val (.ref b12), .val (.ref b21), .val (.ref b30), .val (.ref b43), .val (.ref b46), .val (.int i2), .val (.int (0 : Int32)), .val (.int i5), .val (.long j167), .second, .unset, .unset, .unset, .unset, .unset, .unset, .unset] [(.long (own_wAt (i2 + (1 : Int32)) p1 p2))])) G
          generalize hj169 : (own_wAt (i2 + (1 : Int32)) p1 p2) = j169
          refine R.lstore X168 hx (hb hby at_385) (L' := #[.val (.int p0), .val (.int p1), .val (.int p2), .val (.int p3), .val (.int p4), .val (.int p5), .val (.int (1 : Int32)), .val (.int i2), .val (.int (0 : Int32)), .val (.int i4), .val (.int i5), .val (.int (2 : Int32)), .val (.double r7), .second, .val (.ref b8), .val (.ref b12), .val (.ref b21), .val (.ref b30), .val (.ref b43), .val (.ref b46), .val (.int i2), .val (.int (0 : Int32)), .val (.int i5), .val (.long j167), .second, .val (.long j169), .second, .unset, .unset, .unset, .unset, .unset]) rfl (pc' := 387) rfl ?_
          refine R.iload X168 hx (hb hby at_387) rfl (pc' := 389) rfl ?_
          refine R.iload X168 hx (hb hby at_389) rfl (pc' := 391) rfl ?_
          refine R.callS X168 hx hZ (y := mY2) hown w_2 w_3 w_4 w_5 (by decide) e168 (rm1 l Z aZ hw [] (0 : Int32) i5 h165 n0 Z165 ) (by decide) (W := 0) (Nat.le_of_eq rfl) (by decide) (by rw [hml]; rfl) (lenOf pd_2 rfl) rfl (hb hby at_391) (pc' := 394) rfl (by decide) (by decide) ?_; intro v170 T170 L170 X170 hQ170
          obtain ⟨rfl, N170q, e170⟩ := hQ170
          have N170 := Fr.app N168 N170q
          show Rn p e below (T170.setTop (mkF m 394 #[.val (.int p0), .val (.int p1), .val (.int p2), .val (.int p3), .val (.int p4), .val (.int p5), .val (.int (1 : Int32)), .val (.int i2), .val (.int (0 : Int32)), .val (.int i4), .val (.int i5), .val (.int (2 : Int32)), .val (.double r7), .second, .val (.ref b8), .val (.ref b12), .val (.ref b21), .val (.ref b30), .val (.ref b43), .val (.ref b46), .val (.int i2), .val (.int (0 : Int32)), .val (.int i5), .val (.long j167), .second, .val (.long j169), .second, .unset, .unset, .unset, .unset, .unset] [(.int (own_rowA (0 : Int32) i5))])) G
          generalize hi171 : (own_rowA (0 : Int32) i5) = i171
          refine R.istore X170 hx (hb hby at_394) (L' := #[.val (.int p0), .val (.int p1), .val (.int p2), .val (.int p3), .val (.int p4), .val (.int p5), .val (.int (1 : Int32)), .val (.int i2), .val (.int (0 : Int32)), .val (.int i4), .val (.int i5), .val (.int (2 : Int32)), .val (.double r7), .second, .val (.ref b8), .val (.ref b12), .val (.ref b21), .val (.ref b30), .val (.ref b43), .val (.ref b46), .val (.int i2), .val (.int (0 : Int32)), .val (.int i5), .val (.long j167), .second, .val (.long j169), .second, .val (.int i171), .unset, .unset, .unset, .unset]) rfl (pc' := 396) rfl ?_
          refine R.iload X170 hx (hb hby at_396) rfl (pc' := 398) rfl ?_
          refine R.iload X170 hx (hb hby at_398) rfl (pc' := 400) rfl ?_
          refine R.callS X170 hx hZ (y := mY3) hown w_6 w_7 w_4 w_8 (by decide) e170 (rm2 l Z aZ hw [] (0 : Int32) i5 h165 n0 Z165 ) (by decide) (W := 0) (Nat.le_of_eq rfl) (by decide) (by rw [hml]; rfl) (lenOf pd_2 rfl) rfl (hb hby at_400) (pc' := 403) rfl (by decide) (by decide) ?_; intro v172 T172 L172 X172 hQ172
          obtain ⟨rfl, N172q, e172⟩ := hQ172
          have N172 := Fr.app N170 N172q
          show Rn p e below (T172.setTop (mkF m 403 #[.val (.int p0), .val (.int p1), .val (.int p2), .val (.int p3), .val (.int p4), .val (.int p5), .val (.int (1 : Int32)), .val (.int i2), .val (.int (0 : Int32)), .val (.int i4), .val (.int i5), .val (.int (2 : Int32)), .val (.double r7), .second, .val (.ref b8), .val (.ref b12), .val (.ref b21), .val (.ref b30), .val (.ref b43), .val (.ref b46), .val (.int i2), .val (.int (0 : Int32)), .val (.int i5), .val (.long j167), .second, .val (.long j169), .second, .val (.int i171), .unset, .unset, .unset, .unset] [(.int (own_rowB (0 : Int32) i5))])) G
          generalize hi173 : (own_rowB (0 : Int32) i5) = i173
          refine R.istore X172 hx (hb hby at_403) (L' := #[.val (.int p0), .val (.int p1), .val (.int p2), .val (.int p3), .val (.int p4), .val (.int p5), .val (.int (1 : Int32)), .val (.int i2), .val (.int (0 : Int32)), .val (.int i4), .val (.int i5), .val (.int (2 : Int32)), .val (.double r7), .second, .val (.ref b8), .val (.ref b12), .val (.ref b21), .val (.ref b30), .val (.ref b43), .val (.ref b46), .val (.int i2), .val (.int (0 : Int32)), .val (.int i5), .val (.long j167), .second, .val (.long j169), .second, .val (.int i171), .val (.int i173), .unset, .unset, .unset]) rfl (pc' := 405) rfl ?_
          refine R.iconst X172 hx (hb hby at_405) (v := (1 : Int32)) (by decide) (pc' := 406) rfl ?_
          refine R.istore X172 hx (hb hby at_406) (L' := #[.val (.int p0), .val (.int p1), .val (.int p2), .val (.int p3), .val (.int p4), .val (.int p5), .val (.int (1 : Int32)), .val (.int i2), .val (.int (0 : Int32)), .val (.int i4), .val (.int i5), .val (.int (2 : Int32)), .val (.double r7), .second, .val (.ref b8), .val (.ref b12), .val (.ref b21), .val (.ref b30), .val (.ref b43), .val (.ref b46), .val (.int i2), .val (.int (0 : Int32)), .val (.int i5), .val (.long j167), .second, .val (.long j169), .second, .val (.int i171), .val (.int i173), .val (.int (1 : Int32)), .unset, .unset]) rfl (pc' := 408) rfl ?_
          refine R.iload X172 hx (hb hby at_408) rfl (pc' := 410) rfl ?_
          refine R.ifNo X172 hx (hb hby at_410) (tlt (by decide : (0 : Int32) < (2 : Int32))).2.2.2 (pc' := 413) rfl ?_
          refine R.lconst X172 hx (hb hby at_413) (v := (0 : Int64)) (by decide) (pc' := 414) rfl ?_
          refine R.lstore X172 hx (hb hby at_414) (L' := #[.val (.int p0), .val (.int p1), .val (.int p2), .val (.int p3), .val (.int p4), .val (.int p5), .val (.int (1 : Int32)), .val (.int i2), .val (.int (0 : Int32)), .val (.int i4), .val (.int i5), .val (.int (2 : Int32)), .val (.double r7), .second, .val (.ref b8), .val (.ref b12), .val (.ref b21), .val (.ref b30), .val (.ref b43), .val (.ref b46), .val (.int i2), .val (.int (0 : Int32)), .val (.int i5), .val (.long j167), .second, .val (.long j169), .second, .val (.int i171), .val (.int i173), .val (.int (1 : Int32)), .val (.long (0 : Int64)), .second]) rfl (pc' := 416) rfl ?_
          refine R.iload X172 hx (hb hby at_416) rfl (pc' := 418) rfl ?_
          refine R.iconst X172 hx (hb hby at_418) (v := (1 : Int32)) (by decide) (pc' := 419) rfl ?_
          refine R.icmpYes X172 hx (hb hby at_419) (tlt (by decide : (0 : Int32) < (1 : Int32))).1 (by decide) (pc' := 443) (by decide) ?_
          refine R.iload X172 hx (hb hby at_443) rfl (pc' := 445) rfl ?_
          refine R.iconst X172 hx (hb hby at_445) (v := (2 : Int32)) (by decide) (pc' := 446) rfl ?_
          refine R.icmpYes X172 hx (hb hby at_446) (tlt (by decide : (0 : Int32) < (2 : Int32))).1 (by decide) (pc' := 470) (by decide) ?_
          obtain ⟨xv0, hxv0, Dx0⟩ := c0_165 (by decide)
          have tj0 : ((0 : Int64)).toInt = 0 := by decide
          refine R.iload X172 hx (hb hby at_470) rfl (pc' := 472) rfl ?_
          refine R.ifNo X172 hx (hb hby at_472) (feq (by decide : ¬ ((1 : Int32) = (0 : Int32)))).1 (pc' := 475) rfl ?_
          refine R.aload X172 hx (hb hby at_475) rfl rfl (pc' := 477) rfl ?_
          refine R.iconst X172 hx (hb hby at_477) (v := (0 : Int32)) (by decide) (pc' := 478) rfl ?_
          refine R.daload X172 hx hZ e172 V_b43 (⟨by decide, by decide⟩ : ¬ (0 : Int32) < 0 ∧ (0 : Int32) < (2 : Int32)) (v := (.double xv0)) (hxv0) (hb hby at_478) (pc' := 479) rfl ?_
          refine R.lload X172 hx (hb hby at_479) rfl (pc' := 481) rfl ?_
          refine R.l2d X172 hx (hb hby at_481) (pc' := 482) rfl ?_
          refine R.dcmp X172 hx (hb hby at_482) (Dx0.cmp ((Dy.l2d (by rw [tj0]; decide)).cast tj0 rfl) _ : cmpValue (FP.dcmp xv0 (FP.l2d (0 : Int64))) .l = (own_ci 0 0)) (pc' := 483) rfl ?_
          refine R.ifNo X172 hx (hb hby at_483) (teq (own_ci_eq.mpr rfl : (own_ci 0 0) = (0 : Int32))).2 (pc' := 486) rfl ?_
          refine R.iconst X172 hx (hb hby at_486) (v := (1 : Int32)) (by decide) (pc' := 487) rfl ?_
          refine R.goto X172 hx (hb hby at_487) (by decide) (pc' := 491) (by decide) ?_
          refine R.istore X172 hx (hb hby at_491) (L' := #[.val (.int p0), .val (.int p1), .val (.int p2), .val (.int p3), .val (.int p4), .val (.int p5), .val (.int (1 : Int32)), .val (.int i2), .val (.int (0 : Int32)), .val (.int i4), .val (.int i5), .val (.int (2 : Int32)), .val (.double r7), .second, .val (.ref b8), .val (.ref b12), .val (.ref b21), .val (.ref b30), .val (.ref b43), .val (.ref b46), .val (.int i2), .val (.int (0 : Int32)), .val (.int i5), .val (.long j167), .second, .val (.long j169), .second, .val (.int i171), .val (.int i173), .val (.int (1 : Int32)), .val (.long (0 : Int64)), .second]) rfl (pc' := 493) rfl ?_
          refine R.iload X172 hx (hb hby at_493) rfl (pc' := 495) rfl ?_
          refine R.iconst X172 hx (hb hby at_495) (v := (1 : Int32)) (by decide) (pc' := 496) rfl ?_
          refine R.icmpNo X172 hx (hb hby at_496) (tlt (by decide : (1 : Int32) < (2 : Int32))).2.2.2 (pc' := 499) rfl ?_
          refine R.lconst X172 hx (hb hby at_499) (v := (0 : Int64)) (by decide) (pc' := 500) rfl ?_
          refine R.lstore X172 hx (hb hby at_500) (L' := #[.val (.int p0), .val (.int p1), .val (.int p2), .val (.int p3), .val (.int p4), .val (.int p5), .val (.int (1 : Int32)), .val (.int i2), .val (.int (0 : Int32)), .val (.int i4), .val (.int i5), .val (.int (2 : Int32)), .val (.double r7), .second, .val (.ref b8), .val (.ref b12), .val (.ref b21), .val (.ref b30), .val (.ref b43), .val (.ref b46), .val (.int i2), .val (.int (0 : Int32)), .val (.int i5), .val (.long j167), .second, .val (.long j169), .second, .val (.int i171), .val (.int i173), .val (.int (1 : Int32)), .val (.long (0 : Int64)), .second]) rfl (pc' := 502) rfl ?_
          refine R.iload X172 hx (hb hby at_502) rfl (pc' := 504) rfl ?_
          refine R.iconst X172 hx (hb hby at_504) (v := (1 : Int32)) (by decide) (pc' := 505) rfl ?_
          refine R.icmpYes X172 hx (hb hby at_505) (tlt (by decide : (0 : Int32) < (1 : Int32))).1 (by decide) (pc' := 531) (by decide) ?_
          refine R.iload X172 hx (hb hby at_531) rfl (pc' := 533) rfl ?_
          refine R.iconst X172 hx (hb hby at_533) (v := (2 : Int32)) (by decide) (pc' := 534) rfl ?_
          refine R.icmpYes X172 hx (hb hby at_534) (tlt (by decide : (0 : Int32) < (2 : Int32))).1 (by decide) (pc' := 560) (by decide) ?_
          obtain ⟨xv1, hxv1, Dx1⟩ := c1_165 (by decide)
          have tj1 : ((0 : Int64)).toInt = 0 := by decide
          refine R.iload X172 hx (hb hby at_560) rfl (pc' := 562) rfl ?_
          refine R.ifNo X172 hx (hb hby at_562) (feq (by decide : ¬ ((1 : Int32) = (0 : Int32)))).1 (pc' := 565) rfl ?_
          refine R.aload X172 hx (hb hby at_565) rfl rfl (pc' := 567) rfl ?_
          refine R.iconst X172 hx (hb hby at_567) (v := (1 : Int32)) (by decide) (pc' := 568) rfl ?_
          refine R.daload X172 hx hZ e172 V_b43 (⟨by decide, by decide⟩ : ¬ (1 : Int32) < 0 ∧ (1 : Int32) < (2 : Int32)) (v := (.double xv1)) (hxv1) (hb hby at_568) (pc' := 569) rfl ?_
          refine R.lload X172 hx (hb hby at_569) rfl (pc' := 571) rfl ?_
          refine R.l2d X172 hx (hb hby at_571) (pc' := 572) rfl ?_
          refine R.dcmp X172 hx (hb hby at_572) (Dx1.cmp ((Dy.l2d (by rw [tj1]; decide)).cast tj1 rfl) _ : cmpValue (FP.dcmp xv1 (FP.l2d (0 : Int64))) .l = (own_ci 0 0)) (pc' := 573) rfl ?_
          refine R.ifNo X172 hx (hb hby at_573) (teq (own_ci_eq.mpr rfl : (own_ci 0 0) = (0 : Int32))).2 (pc' := 576) rfl ?_
          refine R.iconst X172 hx (hb hby at_576) (v := (1 : Int32)) (by decide) (pc' := 577) rfl ?_
          refine R.goto X172 hx (hb hby at_577) (by decide) (pc' := 581) (by decide) ?_
          refine R.istore X172 hx (hb hby at_581) (L' := #[.val (.int p0), .val (.int p1), .val (.int p2), .val (.int p3), .val (.int p4), .val (.int p5), .val (.int (1 : Int32)), .val (.int i2), .val (.int (0 : Int32)), .val (.int i4), .val (.int i5), .val (.int (2 : Int32)), .val (.double r7), .second, .val (.ref b8), .val (.ref b12), .val (.ref b21), .val (.ref b30), .val (.ref b43), .val (.ref b46), .val (.int i2), .val (.int (0 : Int32)), .val (.int i5), .val (.long j167), .second, .val (.long j169), .second, .val (.int i171), .val (.int i173), .val (.int (1 : Int32)), .val (.long (0 : Int64)), .second]) rfl (pc' := 583) rfl ?_
          refine R.iload X172 hx (hb hby at_583) rfl (pc' := 585) rfl ?_
          rw [← hG]
          exact Rn.ret X172 (BodyLoose.notSynchronized Bd) (v := some (.int (1 : Int32))) (fun h => by rw [Bd.returns] at h; cases h) (Q := Q0 Z p0 p1 p2 p3 p4 p5 h0 n0) e172 (fun fs hr => retN X172 hx (t := .boolean) Bd.returns (by simp) (hb hby at_585) hr) ⟨rfl, N172⟩ (by decide) (by decide)
      · rcases h11_ with rfl | rfl | rfl
        · refine R.aload X47 hx (hb hby at_313) rfl rfl (pc' := 315) rfl ?_
          refine R.iload X47 hx (hb hby at_315) rfl (pc' := 317) rfl ?_
          refine R.aload X47 hx (hb hby at_317) rfl rfl (pc' := 319) rfl ?_
          refine R.iload X47 hx (hb hby at_319) rfl (pc' := 321) rfl ?_
          refine R.aload X47 hx (hb hby at_321) rfl rfl (pc' := 323) rfl ?_
          refine R.virtual X47 hx hZ (y := mY7) (z := mY7) hown w_38 w_39 (notFace_of_selects (args := #[]) (mvT hZ w_41)) w_41 w_40 w_18 w_42 (by decide) e47 E_b46 (rm8 l Z aZ hw [] b46 (1 : Int32) b30 (0 : Int32) b43 b8 b12 b21 k8 k12 k21 k30 k43 [((2 : Int32), (.int (i2 + (1 : Int32)))), ((1 : Int32), (.int i2)), ((0 : Int32), (.int (0 : Int32)))] [((i2 + (1 : Int32)), (.int (own_rowB (1 : Int32) i5))), (i2, (.int (own_rowA (1 : Int32) i5))), ((1 : Int32), (.int (own_rowB i2 i4))), ((0 : Int32), (.int (own_rowA i2 i4)))] [((3 : Int32), (.double (FP.l2d (own_wAt (3 : Int32) p1 p2)))), ((2 : Int32), (.double (FP.l2d (own_wAt (2 : Int32) p1 p2)))), ((1 : Int32), (.double (FP.l2d (own_wAt (1 : Int32) p1 p2)))), ((0 : Int32), (.double (FP.l2d (own_wAt (0 : Int32) p1 p2))))] [((5 : Int32), (.double (FP.l2d (own_yAt (5 : Int32) p3 p4 p5)))), ((4 : Int32), (.double (FP.l2d (own_yAt (4 : Int32) p3 p4 p5)))), ((3 : Int32), (.double (FP.l2d (own_yAt (3 : Int32) p3 p4 p5)))), ((2 : Int32), (.double (FP.l2d (own_yAt (2 : Int32) p3 p4 p5)))), ((1 : Int32), (.double (FP.l2d (own_yAt (1 : Int32) p3 p4 p5)))), ((0 : Int32), (.double (FP.l2d (own_yAt (0 : Int32) p3 p4 p5))))] [((1 : Int32), (.double r7)), ((0 : Int32), (.double r7))] i2 (i2 + (1 : Int32)) (FP.l2d (own_wAt i2 p1 p2)) (FP.l2d (own_wAt (i2 + (1 : Int32)) p1 p2)) (own_wAt i2 p1 p2).toInt (own_wAt (i2 + (1 : Int32)) p1 p2).toInt (own_rowA (1 : Int32) i5) (own_rowB (1 : Int32) i5) (fun i => FP.l2d (own_yAt i p3 p4 p5)) (fun i => (own_yAt i p3 p4 p5).toInt) ((own_wAt i2 p1 p2).toInt * (own_yAt ((own_rowA (1 : Int32) i5) * (0 : Int32)) p3 p4 p5).toInt) ((own_wAt i2 p1 p2).toInt * (own_yAt (((own_rowA (1 : Int32) i5) * (0 : Int32)) + (1 : Int32)) p3 p4 p5).toInt) h47 n0 Z47 F_start_b46 F_rows_b46 F_values_b46 V_b8 V_b12 V_b21 V_b30 V_b43 g_b43 (Ne.symm ne_b43_b46) ne_b8_b43 ne_b12_b43 ne_b21_b43 ne_b30_b43 (by decide) (by rcases h7_ with q | q | q <;> (rw [q]; try rfl)) (by rcases h7_ with q | q | q <;> (rw [q]; try rfl)) (rA7) (by decide) (own_rA h10_) (own_rB) (Or.inr (Or.inl ⟨by rcases h7_ with q | q | q <;> (rw [q]; try rfl), by rcases h7_ with q | q | q <;> (rw [q]; try rfl), by rcases h7_ with q | q | q <;> (rw [q]; try rfl), rfl, rfl⟩)) (Dy.l2d (by have := own_wb i2 p1 p2; omega)) (Dy.l2d (by have := own_wb (i2 + (1 : Int32)) p1 p2; omega)) (own_wb _ _ _) (own_wb _ _ _) (own_rdy)) (by decide) (W := 0) (Nat.le_of_eq rfl) (by decide) (by rw [hml]; rfl) (lenOf pd_6 rfl) rfl (hb hby at_323) (pc' := 326) rfl (by decide) (by decide) ?_; intro v174 T174 L174 X174 hQ174
          obtain ⟨hj_174, rfl, N174q, Kc174, P174_0, P174_1, P174_2⟩ := hQ174
          have N174 := Fr.app N47 N174q
          generalize e174 : T174.heap = h174 at Kc174 P174_0 P174_1 P174_2
          have K174 : Keep h0 h174 [] := K47.trans Kc174 ((allS (Or.inr sz_b43) all0))
          have Z174 : n0 ≤ h174.size := Nat.le_trans Z47 Kc174.1
          have V_b8 := V_b8.keep Kc174 (ninS ne_b8_b43 nin0)
          have V_b12 := V_b12.keep Kc174 (ninS ne_b12_b43 nin0)
          have V_b21 := V_b21.keep Kc174 (ninS ne_b21_b43 nin0)
          have V_b30 := V_b30.keep Kc174 (ninS ne_b30_b43 nin0)
          have E_b46 := E_b46.keep Kc174
          have F_start_b46 := F_start_b46.keep Kc174 (ninS (Ne.symm ne_b43_b46) nin0)
          have F_rows_b46 := F_rows_b46.keep Kc174 (ninS (Ne.symm ne_b43_b46) nin0)
          have F_values_b46 := F_values_b46.keep Kc174 (ninS (Ne.symm ne_b43_b46) nin0)
          have V_b43 : Arh Z h174 b43 k43 .double (2 : Int32) hj_174 [] (.double (0 : UInt64)) := P174_0
          have V_b43 : Arh Z h174 b43 k43 .double (2 : Int32) hj_174 [] (.double (0 : UInt64)) := V_b43
          have c0_174 := P174_1
          have c1_174 := P174_2
          refine R.iload X174 hx (hb hby at_326) rfl (pc' := 328) rfl ?_
          refine R.ifYes X174 hx (hb hby at_328) (feq (by decide : ¬ ((1 : Int32) = (0 : Int32)))).2 (by decide) (pc' := 335) (by decide) ?_
          refine R.iload X174 hx (hb hby at_335) rfl (pc' := 337) rfl ?_
          refine R.istore X174 hx (hb hby at_337) (L' := #[.val (.int p0), .val (.int p1), .val (.int p2), .val (.int p3), .val (.int p4), .val (.int p5), .val (.int (1 : Int32)), .val (.int i2), .val (.int (1 : Int32)), .val (.int i4), .val (.int i5), .val (.int (0 : Int32)), .val (.double r7), .second, .val (.ref b8), .val (.ref b12), .val (.ref b21), .val (.ref b30), .val (.ref b43), .val (.ref b46), .val (.int i2), .unset, .unset, .unset, .unset, .unset, .unset, .unset, .unset, .unset, .unset, .unset]) rfl (pc' := 339) rfl ?_
          refine R.iload X174 hx (hb hby at_339) rfl (pc' := 341) rfl ?_
          refine R.ifYes X174 hx (hb hby at_341) (feq (by decide : ¬ ((1 : Int32) = (0 : Int32)))).2 (by decide) (pc' := 349) (by decide) ?_
          refine R.iload X174 hx (hb hby at_349) rfl (pc' := 351) rfl ?_
          refine R.istore X174 hx (hb hby at_351) (L' := #[.val (.int p0), .val (.int p1), .val (.int p2), .val (.int p3), .val (.int p4), .val (.int p5), .val (.int (1 : Int32)), .val (.int i2), .val (.int (1 : Int32)), .val (.int i4), .val (.int i5), .val (.int (0 : Int32)), .val (.double r7), .second, .val (.ref b8), .val (.ref b12), .val (.ref b21), .val (.ref b30), .val (.ref b43), .val (.ref b46), .val (.int i2), .val (.int (1 : Int32)), .unset, .unset, .unset, .unset, .unset, .unset, .unset, .unset, .unset, .unset]) rfl (pc' := 353) rfl ?_
          refine R.iload X174 hx (hb hby at_353) rfl (pc' := 355) rfl ?_
          refine R.ifYes X174 hx (hb hby at_355) (feq (by decide : ¬ ((1 : Int32) = (0 : Int32)))).2 (by decide) (pc' := 363) (by decide) ?_
          refine R.iload X174 hx (hb hby at_363) rfl (pc' := 365) rfl ?_
          refine R.istore X174 hx (hb hby at_365) (L' := #[.val (.int p0), .val (.int p1), .val (.int p2), .val (.int p3), .val (.int p4), .val (.int p5), .val (.int (1 : Int32)), .val (.int i2), .val (.int (1 : Int32)), .val (.int i4), .val (.int i5), .val (.int (0 : Int32)), .val (.double r7), .second, .val (.ref b8), .val (.ref b12), .val (.ref b21), .val (.ref b30), .val (.ref b43), .val (.ref b46), .val (.int i2), .val (.int (1 : Int32)), .val (.int i5), .unset, .unset, .unset, .unset, .unset, .unset, .unset, .unset, .unset]) rfl (pc' := 367) rfl ?_
          refine R.iload X174 hx (hb hby at_367) rfl (pc' := 369) rfl ?_
          refine R.iloadN X174 hx (hb hby at_369) rfl (pc' := 370) rfl ?_
          refine R.iloadN X174 hx (hb hby at_370) rfl (pc' := 371) rfl ?_
          refine R.callS X174 hx hZ (y := mY4) hown w_10 w_11 w_4 w_12 (by decide) e174 (rm3 l Z aZ hw [] i2 p1 p2 h174 n0 Z174 ) (by decide) (W := 0) (Nat.le_of_eq rfl) (by decide) (by rw [hml]; rfl) (lenOf pd_3 rfl) rfl (hb hby at_371) (pc' := 374) rfl (by decide) (by decide) ?_; intro v175 T175 L175 X175 hQ175
          obtain ⟨rfl, N175q, e175⟩ := hQ175
          have N175 := Fr.app N174 N175q
          show Rn p e below (T175.setTop (mkF m 374 #[.val (.int p0), .val (.int p1), .val (.int p2), .val (.int p3), .val (.int p4), .val (.int p5), .val (.int (1 : Int32)), .val (.int i2), .val (.int (1 : Int32)), .val (.int i4), .val (.int i5), .val (.int (0 : Int32)), .val (.double r7), .second, .val (.ref b8), .val (.ref b12), .val (.ref b21), .val (.ref b30), .val (.ref b43), .val (.ref b46), .val (.int i2), .val (.int (1 : Int32)), .val (.int i5), .unset, .unset, .unset, .unset, .unset, .unset, .unset, .unset, .unset] [(.long (own_wAt i2 p1 p2))])) G
          generalize hj176 : (own_wAt i2 p1 p2) = j176
          refine R.lstore X175 hx (hb hby at_374) (L' := #[.val (.int p0), .val (.int p1), .val (.int p2), .val (.int p3), .val (.int p4), .val (.int p5), .val (.int (1 : Int32)), .val (.int i2), .val (.int (1 : Int32)), .val (.int i4), .val (.int i5), .val (.int (0 : Int32)), .val (.double r7), .second, .val (.ref b8), .val (.ref b12), .val (.ref b21), .val (.ref b30), .val (.ref b43), .val (.ref b46), .val (.int i2), .val (.int (1 : Int32)), .val (.int i5), .val (.long j176), .second, .unset, .unset, .unset, .unset, .unset, .unset, .unset]) rfl (pc' := 376) rfl ?_
          refine R.iload X175 hx (hb hby at_376) rfl (pc' := 378) rfl ?_
          refine R.iconst X175 hx (hb hby at_378) (v := (1 : Int32)) (by decide) (pc' := 379) rfl ?_
          refine R.iadd X175 hx (hb hby at_379) rfl (pc' := 380) rfl ?_
          refine R.iloadN X175 hx (hb hby at_380) rfl (pc' := 381) rfl ?_
          refine R.iloadN X175 hx (hb hby at_381) rfl (pc' := 382) rfl ?_
          refine R.callS X175 hx hZ (y := mY4) hown w_10 w_11 w_4 w_12 (by decide) e175 (rm3 l Z aZ hw [] (i2 + (1 : Int32)) p1 p2 h174 n0 Z174 ) (by decide) (W := 0) (Nat.le_of_eq rfl) (by decide) (by rw [hml]; rfl) (lenOf pd_3 rfl) rfl (hb hby at_382) (pc' := 385) rfl (by decide) (by decide) ?_; intro v177 T177 L177 X177 hQ177
          obtain ⟨rfl, N177q, e177⟩ := hQ177
          have N177 := Fr.app N175 N177q
          show Rn p e below (T177.setTop (mkF m 385 #[.val (.int p0), .val (.int p1), .val (.int p2), .val (.int p3), .val (.int p4), .val (.int p5), .val (.int (1 : Int32)), .val (.int i2), .val (.int (1 : Int32)), .val (.int i4), .val (.int i5), .val (.int (0 : Int32)), .val (.double r7), .second, .val (.ref b8), .val (.ref b12), .val (.ref b21), .val (.ref b30), .val (.ref b43), .val (.ref b46), .val (.int i2), .val (.int (1 : Int32)), .val (.int i5), .val (.long j176), .second, .unset, .unset, .unset, .unset, .unset, .unset, .unset] [(.long (own_wAt (i2 + (1 : Int32)) p1 p2))])) G
          generalize hj178 : (own_wAt (i2 + (1 : Int32)) p1 p2) = j178
          refine R.lstore X177 hx (hb hby at_385) (L' := #[.val (.int p0), .val (.int p1), .val (.int p2), .val (.int p3), .val (.int p4), .val (.int p5), .val (.int (1 : Int32)), .val (.int i2), .val (.int (1 : Int32)), .val (.int i4), .val (.int i5), .val (.int (0 : Int32)), .val (.double r7), .second, .val (.ref b8), .val (.ref b12), .val (.ref b21), .val (.ref b30), .val (.ref b43), .val (.ref b46), .val (.int i2), .val (.int (1 : Int32)), .val (.int i5), .val (.long j176), .second, .val (.long j178), .second, .unset, .unset, .unset, .unset, .unset]) rfl (pc' := 387) rfl ?_
          refine R.iload X177 hx (hb hby at_387) rfl (pc' := 389) rfl ?_
          refine R.iload X177 hx (hb hby at_389) rfl (pc' := 391) rfl ?_
          refine R.callS X177 hx hZ (y := mY2) hown w_2 w_3 w_4 w_5 (by decide) e177 (rm1 l Z aZ hw [] (1 : Int32) i5 h174 n0 Z174 ) (by decide) (W := 0) (Nat.le_of_eq rfl) (by decide) (by rw [hml]; rfl) (lenOf pd_2 rfl) rfl (hb hby at_391) (pc' := 394) rfl (by decide) (by decide) ?_; intro v179 T179 L179 X179 hQ179
          obtain ⟨rfl, N179q, e179⟩ := hQ179
          have N179 := Fr.app N177 N179q
          show Rn p e below (T179.setTop (mkF m 394 #[.val (.int p0), .val (.int p1), .val (.int p2), .val (.int p3), .val (.int p4), .val (.int p5), .val (.int (1 : Int32)), .val (.int i2), .val (.int (1 : Int32)), .val (.int i4), .val (.int i5), .val (.int (0 : Int32)), .val (.double r7), .second, .val (.ref b8), .val (.ref b12), .val (.ref b21), .val (.ref b30), .val (.ref b43), .val (.ref b46), .val (.int i2), .val (.int (1 : Int32)), .val (.int i5), .val (.long j176), .second, .val (.long j178), .second, .unset, .unset, .unset, .unset, .unset] [(.int (own_rowA (1 : Int32) i5))])) G
          generalize hi180 : (own_rowA (1 : Int32) i5) = i180
          refine R.istore X179 hx (hb hby at_394) (L' := #[.val (.int p0), .val (.int p1), .val (.int p2), .val (.int p3), .val (.int p4), .val (.int p5), .val (.int (1 : Int32)), .val (.int i2), .val (.int (1 : Int32)), .val (.int i4), .val (.int i5), .val (.int (0 : Int32)), .val (.double r7), .second, .val (.ref b8), .val (.ref b12), .val (.ref b21), .val (.ref b30), .val (.ref b43), .val (.ref b46), .val (.int i2), .val (.int (1 : Int32)), .val (.int i5), .val (.long j176), .second, .val (.long j178), .second, .val (.int i180), .unset, .unset, .unset, .unset]) rfl (pc' := 396) rfl ?_
          refine R.iload X179 hx (hb hby at_396) rfl (pc' := 398) rfl ?_
          refine R.iload X179 hx (hb hby at_398) rfl (pc' := 400) rfl ?_
          refine R.callS X179 hx hZ (y := mY3) hown w_6 w_7 w_4 w_8 (by decide) e179 (rm2 l Z aZ hw [] (1 : Int32) i5 h174 n0 Z174 ) (by decide) (W := 0) (Nat.le_of_eq rfl) (by decide) (by rw [hml]; rfl) (lenOf pd_2 rfl) rfl (hb hby at_400) (pc' := 403) rfl (by decide) (by decide) ?_; intro v181 T181 L181 X181 hQ181
          obtain ⟨rfl, N181q, e181⟩ := hQ181
          have N181 := Fr.app N179 N181q
          show Rn p e below (T181.setTop (mkF m 403 #[.val (.int p0), .val (.int p1), .val (.int p2), .val (.int p3), .val (.int p4), .val (.int p5), .val (.int (1 : Int32)), .val (.int i2), .val (.int (1 : Int32)), .val (.int i4), .val (.int i5), .val (.int (0 : Int32)), .val (.double r7), .second, .val (.ref b8), .val (.ref b12), .val (.ref b21), .val (.ref b30), .val (.ref b43), .val (.ref b46), .val (.int i2), .val (.int (1 : Int32)), .val (.int i5), .val (.long j176), .second, .val (.long j178), .second, .val (.int i180), .unset, .unset, .unset, .unset] [(.int (own_rowB (1 : Int32) i5))])) G
          generalize hi182 : (own_rowB (1 : Int32) i5) = i182
          refine R.istore X181 hx (hb hby at_403) (L' := #[.val (.int p0), .val (.int p1), .val (.int p2), .val (.int p3), .val (.int p4), .val (.int p5), .val (.int (1 : Int32)), .val (.int i2), .val (.int (1 : Int32)), .val (.int i4), .val (.int i5), .val (.int (0 : Int32)), .val (.double r7), .second, .val (.ref b8), .val (.ref b12), .val (.ref b21), .val (.ref b30), .val (.ref b43), .val (.ref b46), .val (.int i2), .val (.int (1 : Int32)), .val (.int i5), .val (.long j176), .second, .val (.long j178), .second, .val (.int i180), .val (.int i182), .unset, .unset, .unset]) rfl (pc' := 405) rfl ?_
          refine R.iconst X181 hx (hb hby at_405) (v := (1 : Int32)) (by decide) (pc' := 406) rfl ?_
          refine R.istore X181 hx (hb hby at_406) (L' := #[.val (.int p0), .val (.int p1), .val (.int p2), .val (.int p3), .val (.int p4), .val (.int p5), .val (.int (1 : Int32)), .val (.int i2), .val (.int (1 : Int32)), .val (.int i4), .val (.int i5), .val (.int (0 : Int32)), .val (.double r7), .second, .val (.ref b8), .val (.ref b12), .val (.ref b21), .val (.ref b30), .val (.ref b43), .val (.ref b46), .val (.int i2), .val (.int (1 : Int32)), .val (.int i5), .val (.long j176), .second, .val (.long j178), .second, .val (.int i180), .val (.int i182), .val (.int (1 : Int32)), .unset, .unset]) rfl (pc' := 408) rfl ?_
          refine R.iload X181 hx (hb hby at_408) rfl (pc' := 410) rfl ?_
          refine R.ifYes X181 hx (hb hby at_410) (flt (by decide : ¬ ((0 : Int32) < (0 : Int32)))).2.2.2 (by decide) (pc' := 493) (by decide) ?_
          refine R.iload X181 hx (hb hby at_493) rfl (pc' := 495) rfl ?_
          refine R.iconst X181 hx (hb hby at_495) (v := (1 : Int32)) (by decide) (pc' := 496) rfl ?_
          refine R.icmpYes X181 hx (hb hby at_496) (flt (by decide : ¬ ((1 : Int32) < (0 : Int32)))).2.2.2 (by decide) (pc' := 583) (by decide) ?_
          refine R.iload X181 hx (hb hby at_583) rfl (pc' := 585) rfl ?_
          rw [← hG]
          exact Rn.ret X181 (BodyLoose.notSynchronized Bd) (v := some (.int (1 : Int32))) (fun h => by rw [Bd.returns] at h; cases h) (Q := Q0 Z p0 p1 p2 p3 p4 p5 h0 n0) e181 (fun fs hr => retN X181 hx (t := .boolean) Bd.returns (by simp) (hb hby at_585) hr) ⟨rfl, N181⟩ (by decide) (by decide)
        · refine R.aload X47 hx (hb hby at_313) rfl rfl (pc' := 315) rfl ?_
          refine R.iload X47 hx (hb hby at_315) rfl (pc' := 317) rfl ?_
          refine R.aload X47 hx (hb hby at_317) rfl rfl (pc' := 319) rfl ?_
          refine R.iload X47 hx (hb hby at_319) rfl (pc' := 321) rfl ?_
          refine R.aload X47 hx (hb hby at_321) rfl rfl (pc' := 323) rfl ?_
          refine R.virtual X47 hx hZ (y := mY7) (z := mY7) hown w_38 w_39 (notFace_of_selects (args := #[]) (mvT hZ w_41)) w_41 w_40 w_18 w_42 (by decide) e47 E_b46 (rm8 l Z aZ hw [] b46 (1 : Int32) b30 (1 : Int32) b43 b8 b12 b21 k8 k12 k21 k30 k43 [((2 : Int32), (.int (i2 + (1 : Int32)))), ((1 : Int32), (.int i2)), ((0 : Int32), (.int (0 : Int32)))] [((i2 + (1 : Int32)), (.int (own_rowB (1 : Int32) i5))), (i2, (.int (own_rowA (1 : Int32) i5))), ((1 : Int32), (.int (own_rowB i2 i4))), ((0 : Int32), (.int (own_rowA i2 i4)))] [((3 : Int32), (.double (FP.l2d (own_wAt (3 : Int32) p1 p2)))), ((2 : Int32), (.double (FP.l2d (own_wAt (2 : Int32) p1 p2)))), ((1 : Int32), (.double (FP.l2d (own_wAt (1 : Int32) p1 p2)))), ((0 : Int32), (.double (FP.l2d (own_wAt (0 : Int32) p1 p2))))] [((5 : Int32), (.double (FP.l2d (own_yAt (5 : Int32) p3 p4 p5)))), ((4 : Int32), (.double (FP.l2d (own_yAt (4 : Int32) p3 p4 p5)))), ((3 : Int32), (.double (FP.l2d (own_yAt (3 : Int32) p3 p4 p5)))), ((2 : Int32), (.double (FP.l2d (own_yAt (2 : Int32) p3 p4 p5)))), ((1 : Int32), (.double (FP.l2d (own_yAt (1 : Int32) p3 p4 p5)))), ((0 : Int32), (.double (FP.l2d (own_yAt (0 : Int32) p3 p4 p5))))] [((1 : Int32), (.double r7)), ((0 : Int32), (.double r7))] i2 (i2 + (1 : Int32)) (FP.l2d (own_wAt i2 p1 p2)) (FP.l2d (own_wAt (i2 + (1 : Int32)) p1 p2)) (own_wAt i2 p1 p2).toInt (own_wAt (i2 + (1 : Int32)) p1 p2).toInt (own_rowA (1 : Int32) i5) (own_rowB (1 : Int32) i5) (fun i => FP.l2d (own_yAt i p3 p4 p5)) (fun i => (own_yAt i p3 p4 p5).toInt) ((own_wAt i2 p1 p2).toInt * (own_yAt ((own_rowA (1 : Int32) i5) * (1 : Int32)) p3 p4 p5).toInt) ((own_wAt i2 p1 p2).toInt * (own_yAt (((own_rowA (1 : Int32) i5) * (1 : Int32)) + (1 : Int32)) p3 p4 p5).toInt) h47 n0 Z47 F_start_b46 F_rows_b46 F_values_b46 V_b8 V_b12 V_b21 V_b30 V_b43 g_b43 (Ne.symm ne_b43_b46) ne_b8_b43 ne_b12_b43 ne_b21_b43 ne_b30_b43 (by decide) (by rcases h7_ with q | q | q <;> (rw [q]; try rfl)) (by rcases h7_ with q | q | q <;> (rw [q]; try rfl)) (rA7) (by decide) (own_rA h10_) (own_rB) (Or.inr (Or.inl ⟨by rcases h7_ with q | q | q <;> (rw [q]; try rfl), by rcases h7_ with q | q | q <;> (rw [q]; try rfl), by rcases h7_ with q | q | q <;> (rw [q]; try rfl), rfl, rfl⟩)) (Dy.l2d (by have := own_wb i2 p1 p2; omega)) (Dy.l2d (by have := own_wb (i2 + (1 : Int32)) p1 p2; omega)) (own_wb _ _ _) (own_wb _ _ _) (own_rdy)) (by decide) (W := 0) (Nat.le_of_eq rfl) (by decide) (by rw [hml]; rfl) (lenOf pd_6 rfl) rfl (hb hby at_323) (pc' := 326) rfl (by decide) (by decide) ?_; intro v183 T183 L183 X183 hQ183
          obtain ⟨hj_183, rfl, N183q, Kc183, P183_0, P183_1, P183_2⟩ := hQ183
          have N183 := Fr.app N47 N183q
          generalize e183 : T183.heap = h183 at Kc183 P183_0 P183_1 P183_2
          have K183 : Keep h0 h183 [] := K47.trans Kc183 ((allS (Or.inr sz_b43) all0))
          have Z183 : n0 ≤ h183.size := Nat.le_trans Z47 Kc183.1
          have V_b8 := V_b8.keep Kc183 (ninS ne_b8_b43 nin0)
          have V_b12 := V_b12.keep Kc183 (ninS ne_b12_b43 nin0)
          have V_b21 := V_b21.keep Kc183 (ninS ne_b21_b43 nin0)
          have V_b30 := V_b30.keep Kc183 (ninS ne_b30_b43 nin0)
          have E_b46 := E_b46.keep Kc183
          have F_start_b46 := F_start_b46.keep Kc183 (ninS (Ne.symm ne_b43_b46) nin0)
          have F_rows_b46 := F_rows_b46.keep Kc183 (ninS (Ne.symm ne_b43_b46) nin0)
          have F_values_b46 := F_values_b46.keep Kc183 (ninS (Ne.symm ne_b43_b46) nin0)
          have V_b43 : Arh Z h183 b43 k43 .double (2 : Int32) hj_183 [] (.double (0 : UInt64)) := P183_0
          have V_b43 : Arh Z h183 b43 k43 .double (2 : Int32) hj_183 [] (.double (0 : UInt64)) := V_b43
          have c0_183 := P183_1
          have c1_183 := P183_2
          refine R.iload X183 hx (hb hby at_326) rfl (pc' := 328) rfl ?_
          refine R.ifYes X183 hx (hb hby at_328) (feq (by decide : ¬ ((1 : Int32) = (0 : Int32)))).2 (by decide) (pc' := 335) (by decide) ?_
          refine R.iload X183 hx (hb hby at_335) rfl (pc' := 337) rfl ?_
          refine R.istore X183 hx (hb hby at_337) (L' := #[.val (.int p0), .val (.int p1), .val (.int p2), .val (.int p3), .val (.int p4), .val (.int p5), .val (.int (1 : Int32)), .val (.int i2), .val (.int (1 : Int32)), .val (.int i4), .val (.int i5), .val (.int (1 : Int32)), .val (.double r7), .second, .val (.ref b8), .val (.ref b12), .val (.ref b21), .val (.ref b30), .val (.ref b43), .val (.ref b46), .val (.int i2), .unset, .unset, .unset, .unset, .unset, .unset, .unset, .unset, .unset, .unset, .unset]) rfl (pc' := 339) rfl ?_
          refine R.iload X183 hx (hb hby at_339) rfl (pc' := 341) rfl ?_
          refine R.ifYes X183 hx (hb hby at_341) (feq (by decide : ¬ ((1 : Int32) = (0 : Int32)))).2 (by decide) (pc' := 349) (by decide) ?_
          refine R.iload X183 hx (hb hby at_349) rfl (pc' := 351) rfl ?_
          refine R.istore X183 hx (hb hby at_351) (L' := #[.val (.int p0), .val (.int p1), .val (.int p2), .val (.int p3), .val (.int p4), .val (.int p5), .val (.int (1 : Int32)), .val (.int i2), .val (.int (1 : Int32)), .val (.int i4), .val (.int i5), .val (.int (1 : Int32)), .val (.double r7), .second, .val (.ref b8), .val (.ref b12), .val (.ref b21), .val (.ref b30), .val (.ref b43), .val (.ref b46), .val (.int i2), .val (.int (1 : Int32)), .unset, .unset, .unset, .unset, .unset, .unset, .unset, .unset, .unset, .unset]) rfl (pc' := 353) rfl ?_
          refine R.iload X183 hx (hb hby at_353) rfl (pc' := 355) rfl ?_
          refine R.ifYes X183 hx (hb hby at_355) (feq (by decide : ¬ ((1 : Int32) = (0 : Int32)))).2 (by decide) (pc' := 363) (by decide) ?_
          refine R.iload X183 hx (hb hby at_363) rfl (pc' := 365) rfl ?_
          refine R.istore X183 hx (hb hby at_365) (L' := #[.val (.int p0), .val (.int p1), .val (.int p2), .val (.int p3), .val (.int p4), .val (.int p5), .val (.int (1 : Int32)), .val (.int i2), .val (.int (1 : Int32)), .val (.int i4), .val (.int i5), .val (.int (1 : Int32)), .val (.double r7), .second, .val (.ref b8), .val (.ref b12), .val (.ref b21), .val (.ref b30), .val (.ref b43), .val (.ref b46), .val (.int i2), .val (.int (1 : Int32)), .val (.int i5), .unset, .unset, .unset, .unset, .unset, .unset, .unset, .unset, .unset]) rfl (pc' := 367) rfl ?_
          refine R.iload X183 hx (hb hby at_367) rfl (pc' := 369) rfl ?_
          refine R.iloadN X183 hx (hb hby at_369) rfl (pc' := 370) rfl ?_
          refine R.iloadN X183 hx (hb hby at_370) rfl (pc' := 371) rfl ?_
          refine R.callS X183 hx hZ (y := mY4) hown w_10 w_11 w_4 w_12 (by decide) e183 (rm3 l Z aZ hw [] i2 p1 p2 h183 n0 Z183 ) (by decide) (W := 0) (Nat.le_of_eq rfl) (by decide) (by rw [hml]; rfl) (lenOf pd_3 rfl) rfl (hb hby at_371) (pc' := 374) rfl (by decide) (by decide) ?_; intro v184 T184 L184 X184 hQ184
          obtain ⟨rfl, N184q, e184⟩ := hQ184
          have N184 := Fr.app N183 N184q
          show Rn p e below (T184.setTop (mkF m 374 #[.val (.int p0), .val (.int p1), .val (.int p2), .val (.int p3), .val (.int p4), .val (.int p5), .val (.int (1 : Int32)), .val (.int i2), .val (.int (1 : Int32)), .val (.int i4), .val (.int i5), .val (.int (1 : Int32)), .val (.double r7), .second, .val (.ref b8), .val (.ref b12), .val (.ref b21), .val (.ref b30), .val (.ref b43), .val (.ref b46), .val (.int i2), .val (.int (1 : Int32)), .val (.int i5), .unset, .unset, .unset, .unset, .unset, .unset, .unset, .unset, .unset] [(.long (own_wAt i2 p1 p2))])) G
          generalize hj185 : (own_wAt i2 p1 p2) = j185
          refine R.lstore X184 hx (hb hby at_374) (L' := #[.val (.int p0), .val (.int p1), .val (.int p2), .val (.int p3), .val (.int p4), .val (.int p5), .val (.int (1 : Int32)), .val (.int i2), .val (.int (1 : Int32)), .val (.int i4), .val (.int i5), .val (.int (1 : Int32)), .val (.double r7), .second, .val (.ref b8), .val (.ref b12), .val (.ref b21), .val (.ref b30), .val (.ref b43), .val (.ref b46), .val (.int i2), .val (.int (1 : Int32)), .val (.int i5), .val (.long j185), .second, .unset, .unset, .unset, .unset, .unset, .unset, .unset]) rfl (pc' := 376) rfl ?_
          refine R.iload X184 hx (hb hby at_376) rfl (pc' := 378) rfl ?_
          refine R.iconst X184 hx (hb hby at_378) (v := (1 : Int32)) (by decide) (pc' := 379) rfl ?_
          refine R.iadd X184 hx (hb hby at_379) rfl (pc' := 380) rfl ?_
          refine R.iloadN X184 hx (hb hby at_380) rfl (pc' := 381) rfl ?_
          refine R.iloadN X184 hx (hb hby at_381) rfl (pc' := 382) rfl ?_
          refine R.callS X184 hx hZ (y := mY4) hown w_10 w_11 w_4 w_12 (by decide) e184 (rm3 l Z aZ hw [] (i2 + (1 : Int32)) p1 p2 h183 n0 Z183 ) (by decide) (W := 0) (Nat.le_of_eq rfl) (by decide) (by rw [hml]; rfl) (lenOf pd_3 rfl) rfl (hb hby at_382) (pc' := 385) rfl (by decide) (by decide) ?_; intro v186 T186 L186 X186 hQ186
          obtain ⟨rfl, N186q, e186⟩ := hQ186
          have N186 := Fr.app N184 N186q
          show Rn p e below (T186.setTop (mkF m 385 #[.val (.int p0), .val (.int p1), .val (.int p2), .val (.int p3), .val (.int p4), .val (.int p5), .val (.int (1 : Int32)), .val (.int i2), .val (.int (1 : Int32)), .val (.int i4), .val (.int i5), .val (.int (1 : Int32)), .val (.double r7), .second, .val (.ref b8), .val (.ref b12), .val (.ref b21), .val (.ref b30), .val (.ref b43), .val (.ref b46), .val (.int i2), .val (.int (1 : Int32)), .val (.int i5), .val (.long j185), .second, .unset, .unset, .unset, .unset, .unset, .unset, .unset] [(.long (own_wAt (i2 + (1 : Int32)) p1 p2))])) G
          generalize hj187 : (own_wAt (i2 + (1 : Int32)) p1 p2) = j187
          refine R.lstore X186 hx (hb hby at_385) (L' := #[.val (.int p0), .val (.int p1), .val (.int p2), .val (.int p3), .val (.int p4), .val (.int p5), .val (.int (1 : Int32)), .val (.int i2), .val (.int (1 : Int32)), .val (.int i4), .val (.int i5), .val (.int (1 : Int32)), .val (.double r7), .second, .val (.ref b8), .val (.ref b12), .val (.ref b21), .val (.ref b30), .val (.ref b43), .val (.ref b46), .val (.int i2), .val (.int (1 : Int32)), .val (.int i5), .val (.long j185), .second, .val (.long j187), .second, .unset, .unset, .unset, .unset, .unset]) rfl (pc' := 387) rfl ?_
          refine R.iload X186 hx (hb hby at_387) rfl (pc' := 389) rfl ?_
          refine R.iload X186 hx (hb hby at_389) rfl (pc' := 391) rfl ?_
          refine R.callS X186 hx hZ (y := mY2) hown w_2 w_3 w_4 w_5 (by decide) e186 (rm1 l Z aZ hw [] (1 : Int32) i5 h183 n0 Z183 ) (by decide) (W := 0) (Nat.le_of_eq rfl) (by decide) (by rw [hml]; rfl) (lenOf pd_2 rfl) rfl (hb hby at_391) (pc' := 394) rfl (by decide) (by decide) ?_; intro v188 T188 L188 X188 hQ188
          obtain ⟨rfl, N188q, e188⟩ := hQ188
          have N188 := Fr.app N186 N188q
          show Rn p e below (T188.setTop (mkF m 394 #[.val (.int p0), .val (.int p1), .val (.int p2), .val (.int p3), .val (.int p4), .val (.int p5), .val (.int (1 : Int32)), .val (.int i2), .val (.int (1 : Int32)), .val (.int i4), .val (.int i5), .val (.int (1 : Int32)), .val (.double r7), .second, .val (.ref b8), .val (.ref b12), .val (.ref b21), .val (.ref b30), .val (.ref b43), .val (.ref b46), .val (.int i2), .val (.int (1 : Int32)), .val (.int i5), .val (.long j185), .second, .val (.long j187), .second, .unset, .unset, .unset, .unset, .unset] [(.int (own_rowA (1 : Int32) i5))])) G
          generalize hi189 : (own_rowA (1 : Int32) i5) = i189
          refine R.istore X188 hx (hb hby at_394) (L' := #[.val (.int p0), .val (.int p1), .val (.int p2), .val (.int p3), .val (.int p4), .val (.int p5), .val (.int (1 : Int32)), .val (.int i2), .val (.int (1 : Int32)), .val (.int i4), .val (.int i5), .val (.int (1 : Int32)), .val (.double r7), .second, .val (.ref b8), .val (.ref b12), .val (.ref b21), .val (.ref b30), .val (.ref b43), .val (.ref b46), .val (.int i2), .val (.int (1 : Int32)), .val (.int i5), .val (.long j185), .second, .val (.long j187), .second, .val (.int i189), .unset, .unset, .unset, .unset]) rfl (pc' := 396) rfl ?_
          refine R.iload X188 hx (hb hby at_396) rfl (pc' := 398) rfl ?_
          refine R.iload X188 hx (hb hby at_398) rfl (pc' := 400) rfl ?_
          refine R.callS X188 hx hZ (y := mY3) hown w_6 w_7 w_4 w_8 (by decide) e188 (rm2 l Z aZ hw [] (1 : Int32) i5 h183 n0 Z183 ) (by decide) (W := 0) (Nat.le_of_eq rfl) (by decide) (by rw [hml]; rfl) (lenOf pd_2 rfl) rfl (hb hby at_400) (pc' := 403) rfl (by decide) (by decide) ?_; intro v190 T190 L190 X190 hQ190
          obtain ⟨rfl, N190q, e190⟩ := hQ190
          have N190 := Fr.app N188 N190q
          show Rn p e below (T190.setTop (mkF m 403 #[.val (.int p0), .val (.int p1), .val (.int p2), .val (.int p3), .val (.int p4), .val (.int p5), .val (.int (1 : Int32)), .val (.int i2), .val (.int (1 : Int32)), .val (.int i4), .val (.int i5), .val (.int (1 : Int32)), .val (.double r7), .second, .val (.ref b8), .val (.ref b12), .val (.ref b21), .val (.ref b30), .val (.ref b43), .val (.ref b46), .val (.int i2), .val (.int (1 : Int32)), .val (.int i5), .val (.long j185), .second, .val (.long j187), .second, .val (.int i189), .unset, .unset, .unset, .unset] [(.int (own_rowB (1 : Int32) i5))])) G
          generalize hi191 : (own_rowB (1 : Int32) i5) = i191
          refine R.istore X190 hx (hb hby at_403) (L' := #[.val (.int p0), .val (.int p1), .val (.int p2), .val (.int p3), .val (.int p4), .val (.int p5), .val (.int (1 : Int32)), .val (.int i2), .val (.int (1 : Int32)), .val (.int i4), .val (.int i5), .val (.int (1 : Int32)), .val (.double r7), .second, .val (.ref b8), .val (.ref b12), .val (.ref b21), .val (.ref b30), .val (.ref b43), .val (.ref b46), .val (.int i2), .val (.int (1 : Int32)), .val (.int i5), .val (.long j185), .second, .val (.long j187), .second, .val (.int i189), .val (.int i191), .unset, .unset, .unset]) rfl (pc' := 405) rfl ?_
          refine R.iconst X190 hx (hb hby at_405) (v := (1 : Int32)) (by decide) (pc' := 406) rfl ?_
          refine R.istore X190 hx (hb hby at_406) (L' := #[.val (.int p0), .val (.int p1), .val (.int p2), .val (.int p3), .val (.int p4), .val (.int p5), .val (.int (1 : Int32)), .val (.int i2), .val (.int (1 : Int32)), .val (.int i4), .val (.int i5), .val (.int (1 : Int32)), .val (.double r7), .second, .val (.ref b8), .val (.ref b12), .val (.ref b21), .val (.ref b30), .val (.ref b43), .val (.ref b46), .val (.int i2), .val (.int (1 : Int32)), .val (.int i5), .val (.long j185), .second, .val (.long j187), .second, .val (.int i189), .val (.int i191), .val (.int (1 : Int32)), .unset, .unset]) rfl (pc' := 408) rfl ?_
          refine R.iload X190 hx (hb hby at_408) rfl (pc' := 410) rfl ?_
          refine R.ifNo X190 hx (hb hby at_410) (tlt (by decide : (0 : Int32) < (1 : Int32))).2.2.2 (pc' := 413) rfl ?_
          refine R.lconst X190 hx (hb hby at_413) (v := (0 : Int64)) (by decide) (pc' := 414) rfl ?_
          refine R.lstore X190 hx (hb hby at_414) (L' := #[.val (.int p0), .val (.int p1), .val (.int p2), .val (.int p3), .val (.int p4), .val (.int p5), .val (.int (1 : Int32)), .val (.int i2), .val (.int (1 : Int32)), .val (.int i4), .val (.int i5), .val (.int (1 : Int32)), .val (.double r7), .second, .val (.ref b8), .val (.ref b12), .val (.ref b21), .val (.ref b30), .val (.ref b43), .val (.ref b46), .val (.int i2), .val (.int (1 : Int32)), .val (.int i5), .val (.long j185), .second, .val (.long j187), .second, .val (.int i189), .val (.int i191), .val (.int (1 : Int32)), .val (.long (0 : Int64)), .second]) rfl (pc' := 416) rfl ?_
          refine R.iload X190 hx (hb hby at_416) rfl (pc' := 418) rfl ?_
          refine R.iconst X190 hx (hb hby at_418) (v := (1 : Int32)) (by decide) (pc' := 419) rfl ?_
          refine R.icmpNo X190 hx (hb hby at_419) (flt (by decide : ¬ ((1 : Int32) < (1 : Int32)))).1 (pc' := 422) rfl ?_
          refine R.lload X190 hx (hb hby at_422) rfl (pc' := 424) rfl ?_
          refine R.lload X190 hx (hb hby at_424) rfl (pc' := 426) rfl ?_
          refine R.iload X190 hx (hb hby at_426) rfl (pc' := 428) rfl ?_
          refine R.iload X190 hx (hb hby at_428) rfl (pc' := 430) rfl ?_
          refine R.imul X190 hx (hb hby at_430) rfl (pc' := 431) rfl ?_
          refine R.iloadN X190 hx (hb hby at_431) rfl (pc' := 432) rfl ?_
          refine R.iload X190 hx (hb hby at_432) rfl (pc' := 434) rfl ?_
          refine R.iload X190 hx (hb hby at_434) rfl (pc' := 436) rfl ?_
          refine R.callS X190 hx hZ (y := mY5) hown w_13 w_14 w_4 w_15 (by decide) e190 (rm4 l Z aZ hw [] (i189 * (1 : Int32)) p3 p4 p5 h183 n0 Z183 ) (by decide) (W := 4) (Nat.le_of_eq rfl) (by decide) (by rw [hml]; rfl) (lenOf pd_4 rfl) rfl (hb hby at_436) (pc' := 439) rfl (by decide) (by decide) ?_; intro v192 T192 L192 X192 hQ192
          obtain ⟨rfl, N192q, e192⟩ := hQ192
          have N192 := Fr.app N190 N192q
          refine R.lmul X192 hx (hb hby at_439) rfl (pc' := 440) rfl ?_
          refine R.ladd X192 hx (hb hby at_440) rfl (pc' := 441) rfl ?_
          show Rn p e below (T192.setTop (mkF m 441 #[.val (.int p0), .val (.int p1), .val (.int p2), .val (.int p3), .val (.int p4), .val (.int p5), .val (.int (1 : Int32)), .val (.int i2), .val (.int (1 : Int32)), .val (.int i4), .val (.int i5), .val (.int (1 : Int32)), .val (.double r7), .second, .val (.ref b8), .val (.ref b12), .val (.ref b21), .val (.ref b30), .val (.ref b43), .val (.ref b46), .val (.int i2), .val (.int (1 : Int32)), .val (.int i5), .val (.long j185), .second, .val (.long j187), .second, .val (.int i189), .val (.int i191), .val (.int (1 : Int32)), .val (.long (0 : Int64)), .second] [(.long ((0 : Int64) + (j185 * (own_yAt (i189 * (1 : Int32)) p3 p4 p5))))])) G
          generalize hj193 : ((0 : Int64) + (j185 * (own_yAt (i189 * (1 : Int32)) p3 p4 p5))) = j193
          refine R.lstore X192 hx (hb hby at_441) (L' := #[.val (.int p0), .val (.int p1), .val (.int p2), .val (.int p3), .val (.int p4), .val (.int p5), .val (.int (1 : Int32)), .val (.int i2), .val (.int (1 : Int32)), .val (.int i4), .val (.int i5), .val (.int (1 : Int32)), .val (.double r7), .second, .val (.ref b8), .val (.ref b12), .val (.ref b21), .val (.ref b30), .val (.ref b43), .val (.ref b46), .val (.int i2), .val (.int (1 : Int32)), .val (.int i5), .val (.long j185), .second, .val (.long j187), .second, .val (.int i189), .val (.int i191), .val (.int (1 : Int32)), .val (.long j193), .second]) rfl (pc' := 443) rfl ?_
          have tr0_1 := own_mulY (by rw [← hj185]; exact own_wb _ _ _) (own_yb _ _ _ _) hj193
          rw [← hj185, ← hi189] at tr0_1
          refine R.iload X192 hx (hb hby at_443) rfl (pc' := 445) rfl ?_
          refine R.iconst X192 hx (hb hby at_445) (v := (2 : Int32)) (by decide) (pc' := 446) rfl ?_
          refine R.icmpYes X192 hx (hb hby at_446) (tlt (by decide : (1 : Int32) < (2 : Int32))).1 (by decide) (pc' := 470) (by decide) ?_
          obtain ⟨xv0, hxv0, Dx0⟩ := c0_183 (by decide)
          refine R.iload X192 hx (hb hby at_470) rfl (pc' := 472) rfl ?_
          refine R.ifNo X192 hx (hb hby at_472) (feq (by decide : ¬ ((1 : Int32) = (0 : Int32)))).1 (pc' := 475) rfl ?_
          refine R.aload X192 hx (hb hby at_475) rfl rfl (pc' := 477) rfl ?_
          refine R.iconst X192 hx (hb hby at_477) (v := (0 : Int32)) (by decide) (pc' := 478) rfl ?_
          refine R.daload X192 hx hZ e192 V_b43 (⟨by decide, by decide⟩ : ¬ (0 : Int32) < 0 ∧ (0 : Int32) < (2 : Int32)) (v := (.double xv0)) (hxv0) (hb hby at_478) (pc' := 479) rfl ?_
          refine R.lload X192 hx (hb hby at_479) rfl (pc' := 481) rfl ?_
          refine R.l2d X192 hx (hb hby at_481) (pc' := 482) rfl ?_
          refine R.dcmp X192 hx (hb hby at_482) (Dx0.cmp ((Dy.l2d (by rw [tr0_1]; have q1 := own_pb (own_wb i2 p1 p2) (own_yb ((own_rowA (1 : Int32) i5) * (1 : Int32)) p3 p4 p5); have q2 := own_pb (own_wb (i2 + (1 : Int32)) p1 p2) (own_yb ((own_rowB (1 : Int32) i5) * (1 : Int32)) p3 p4 p5); first | exact own_nab2 q1 q2 (by decide) | exact own_nab1 q1 (by decide) | omega)).cast tr0_1 rfl) _ : cmpValue (FP.dcmp xv0 (FP.l2d j193)) .l = (own_ci ((own_wAt i2 p1 p2).toInt * (own_yAt ((own_rowA (1 : Int32) i5) * (1 : Int32)) p3 p4 p5).toInt) ((own_wAt i2 p1 p2).toInt * (own_yAt ((own_rowA (1 : Int32) i5) * (1 : Int32)) p3 p4 p5).toInt))) (pc' := 483) rfl ?_
          refine R.ifNo X192 hx (hb hby at_483) (teq (own_ci_eq.mpr rfl : (own_ci ((own_wAt i2 p1 p2).toInt * (own_yAt ((own_rowA (1 : Int32) i5) * (1 : Int32)) p3 p4 p5).toInt) ((own_wAt i2 p1 p2).toInt * (own_yAt ((own_rowA (1 : Int32) i5) * (1 : Int32)) p3 p4 p5).toInt)) = (0 : Int32))).2 (pc' := 486) rfl ?_
          refine R.iconst X192 hx (hb hby at_486) (v := (1 : Int32)) (by decide) (pc' := 487) rfl ?_
          refine R.goto X192 hx (hb hby at_487) (by decide) (pc' := 491) (by decide) ?_
          refine R.istore X192 hx (hb hby at_491) (L' := #[.val (.int p0), .val (.int p1), .val (.int p2), .val (.int p3), .val (.int p4), .val (.int p5), .val (.int (1 : Int32)), .val (.int i2), .val (.int (1 : Int32)), .val (.int i4), .val (.int i5), .val (.int (1 : Int32)), .val (.double r7), .second, .val (.ref b8), .val (.ref b12), .val (.ref b21), .val (.ref b30), .val (.ref b43), .val (.ref b46), .val (.int i2), .val (.int (1 : Int32)), .val (.int i5), .val (.long j185), .second, .val (.long j187), .second, .val (.int i189), .val (.int i191), .val (.int (1 : Int32)), .val (.long j193), .second]) rfl (pc' := 493) rfl ?_
          refine R.iload X192 hx (hb hby at_493) rfl (pc' := 495) rfl ?_
          refine R.iconst X192 hx (hb hby at_495) (v := (1 : Int32)) (by decide) (pc' := 496) rfl ?_
          refine R.icmpYes X192 hx (hb hby at_496) (flt (by decide : ¬ ((1 : Int32) < (1 : Int32)))).2.2.2 (by decide) (pc' := 583) (by decide) ?_
          refine R.iload X192 hx (hb hby at_583) rfl (pc' := 585) rfl ?_
          rw [← hG]
          exact Rn.ret X192 (BodyLoose.notSynchronized Bd) (v := some (.int (1 : Int32))) (fun h => by rw [Bd.returns] at h; cases h) (Q := Q0 Z p0 p1 p2 p3 p4 p5 h0 n0) e192 (fun fs hr => retN X192 hx (t := .boolean) Bd.returns (by simp) (hb hby at_585) hr) ⟨rfl, N192⟩ (by decide) (by decide)
        · refine R.aload X47 hx (hb hby at_313) rfl rfl (pc' := 315) rfl ?_
          refine R.iload X47 hx (hb hby at_315) rfl (pc' := 317) rfl ?_
          refine R.aload X47 hx (hb hby at_317) rfl rfl (pc' := 319) rfl ?_
          refine R.iload X47 hx (hb hby at_319) rfl (pc' := 321) rfl ?_
          refine R.aload X47 hx (hb hby at_321) rfl rfl (pc' := 323) rfl ?_
          refine R.virtual X47 hx hZ (y := mY7) (z := mY7) hown w_38 w_39 (notFace_of_selects (args := #[]) (mvT hZ w_41)) w_41 w_40 w_18 w_42 (by decide) e47 E_b46 (rm8 l Z aZ hw [] b46 (1 : Int32) b30 (2 : Int32) b43 b8 b12 b21 k8 k12 k21 k30 k43 [((2 : Int32), (.int (i2 + (1 : Int32)))), ((1 : Int32), (.int i2)), ((0 : Int32), (.int (0 : Int32)))] [((i2 + (1 : Int32)), (.int (own_rowB (1 : Int32) i5))), (i2, (.int (own_rowA (1 : Int32) i5))), ((1 : Int32), (.int (own_rowB i2 i4))), ((0 : Int32), (.int (own_rowA i2 i4)))] [((3 : Int32), (.double (FP.l2d (own_wAt (3 : Int32) p1 p2)))), ((2 : Int32), (.double (FP.l2d (own_wAt (2 : Int32) p1 p2)))), ((1 : Int32), (.double (FP.l2d (own_wAt (1 : Int32) p1 p2)))), ((0 : Int32), (.double (FP.l2d (own_wAt (0 : Int32) p1 p2))))] [((5 : Int32), (.double (FP.l2d (own_yAt (5 : Int32) p3 p4 p5)))), ((4 : Int32), (.double (FP.l2d (own_yAt (4 : Int32) p3 p4 p5)))), ((3 : Int32), (.double (FP.l2d (own_yAt (3 : Int32) p3 p4 p5)))), ((2 : Int32), (.double (FP.l2d (own_yAt (2 : Int32) p3 p4 p5)))), ((1 : Int32), (.double (FP.l2d (own_yAt (1 : Int32) p3 p4 p5)))), ((0 : Int32), (.double (FP.l2d (own_yAt (0 : Int32) p3 p4 p5))))] [((1 : Int32), (.double r7)), ((0 : Int32), (.double r7))] i2 (i2 + (1 : Int32)) (FP.l2d (own_wAt i2 p1 p2)) (FP.l2d (own_wAt (i2 + (1 : Int32)) p1 p2)) (own_wAt i2 p1 p2).toInt (own_wAt (i2 + (1 : Int32)) p1 p2).toInt (own_rowA (1 : Int32) i5) (own_rowB (1 : Int32) i5) (fun i => FP.l2d (own_yAt i p3 p4 p5)) (fun i => (own_yAt i p3 p4 p5).toInt) ((own_wAt i2 p1 p2).toInt * (own_yAt ((own_rowA (1 : Int32) i5) * (2 : Int32)) p3 p4 p5).toInt) ((own_wAt i2 p1 p2).toInt * (own_yAt (((own_rowA (1 : Int32) i5) * (2 : Int32)) + (1 : Int32)) p3 p4 p5).toInt) h47 n0 Z47 F_start_b46 F_rows_b46 F_values_b46 V_b8 V_b12 V_b21 V_b30 V_b43 g_b43 (Ne.symm ne_b43_b46) ne_b8_b43 ne_b12_b43 ne_b21_b43 ne_b30_b43 (by decide) (by rcases h7_ with q | q | q <;> (rw [q]; try rfl)) (by rcases h7_ with q | q | q <;> (rw [q]; try rfl)) (rA7) (by decide) (own_rA h10_) (own_rB) (Or.inr (Or.inl ⟨by rcases h7_ with q | q | q <;> (rw [q]; try rfl), by rcases h7_ with q | q | q <;> (rw [q]; try rfl), by rcases h7_ with q | q | q <;> (rw [q]; try rfl), rfl, rfl⟩)) (Dy.l2d (by have := own_wb i2 p1 p2; omega)) (Dy.l2d (by have := own_wb (i2 + (1 : Int32)) p1 p2; omega)) (own_wb _ _ _) (own_wb _ _ _) (own_rdy)) (by decide) (W := 0) (Nat.le_of_eq rfl) (by decide) (by rw [hml]; rfl) (lenOf pd_6 rfl) rfl (hb hby at_323) (pc' := 326) rfl (by decide) (by decide) ?_; intro v194 T194 L194 X194 hQ194
          obtain ⟨hj_194, rfl, N194q, Kc194, P194_0, P194_1, P194_2⟩ := hQ194
          have N194 := Fr.app N47 N194q
          generalize e194 : T194.heap = h194 at Kc194 P194_0 P194_1 P194_2
          have K194 : Keep h0 h194 [] := K47.trans Kc194 ((allS (Or.inr sz_b43) all0))
          have Z194 : n0 ≤ h194.size := Nat.le_trans Z47 Kc194.1
          have V_b8 := V_b8.keep Kc194 (ninS ne_b8_b43 nin0)
          have V_b12 := V_b12.keep Kc194 (ninS ne_b12_b43 nin0)
          have V_b21 := V_b21.keep Kc194 (ninS ne_b21_b43 nin0)
          have V_b30 := V_b30.keep Kc194 (ninS ne_b30_b43 nin0)
          have E_b46 := E_b46.keep Kc194
          have F_start_b46 := F_start_b46.keep Kc194 (ninS (Ne.symm ne_b43_b46) nin0)
          have F_rows_b46 := F_rows_b46.keep Kc194 (ninS (Ne.symm ne_b43_b46) nin0)
          have F_values_b46 := F_values_b46.keep Kc194 (ninS (Ne.symm ne_b43_b46) nin0)
          have V_b43 : Arh Z h194 b43 k43 .double (2 : Int32) hj_194 [] (.double (0 : UInt64)) := P194_0
          have V_b43 : Arh Z h194 b43 k43 .double (2 : Int32) hj_194 [] (.double (0 : UInt64)) := V_b43
          have c0_194 := P194_1
          have c1_194 := P194_2
          refine R.iload X194 hx (hb hby at_326) rfl (pc' := 328) rfl ?_
          refine R.ifYes X194 hx (hb hby at_328) (feq (by decide : ¬ ((1 : Int32) = (0 : Int32)))).2 (by decide) (pc' := 335) (by decide) ?_
          refine R.iload X194 hx (hb hby at_335) rfl (pc' := 337) rfl ?_
          refine R.istore X194 hx (hb hby at_337) (L' := #[.val (.int p0), .val (.int p1), .val (.int p2), .val (.int p3), .val (.int p4), .val (.int p5), .val (.int (1 : Int32)), .val (.int i2), .val (.int (1 : Int32)), .val (.int i4), .val (.int i5), .val (.int (2 : Int32)), .val (.double r7), .second, .val (.ref b8), .val (.ref b12), .val (.ref b21), .val (.ref b30), .val (.ref b43), .val (.ref b46), .val (.int i2), .unset, .unset, .unset, .unset, .unset, .unset, .unset, .unset, .unset, .unset, .unset]) rfl (pc' := 339) rfl ?_
          refine R.iload X194 hx (hb hby at_339) rfl (pc' := 341) rfl ?_
          refine R.ifYes X194 hx (hb hby at_341) (feq (by decide : ¬ ((1 : Int32) = (0 : Int32)))).2 (by decide) (pc' := 349) (by decide) ?_
          refine R.iload X194 hx (hb hby at_349) rfl (pc' := 351) rfl ?_
          refine R.istore X194 hx (hb hby at_351) (L' := #[.val (.int p0), .val (.int p1), .val (.int p2), .val (.int p3), .val (.int p4), .val (.int p5), .val (.int (1 : Int32)), .val (.int i2), .val (.int (1 : Int32)), .val (.int i4), .val (.int i5), .val (.int (2 : Int32)), .val (.double r7), .second, .val (.ref b8), .val (.ref b12), .val (.ref b21), .val (.ref b30), .val (.ref b43), .val (.ref b46), .val (.int i2), .val (.int (1 : Int32)), .unset, .unset, .unset, .unset, .unset, .unset, .unset, .unset, .unset, .unset]) rfl (pc' := 353) rfl ?_
          refine R.iload X194 hx (hb hby at_353) rfl (pc' := 355) rfl ?_
          refine R.ifYes X194 hx (hb hby at_355) (feq (by decide : ¬ ((1 : Int32) = (0 : Int32)))).2 (by decide) (pc' := 363) (by decide) ?_
          refine R.iload X194 hx (hb hby at_363) rfl (pc' := 365) rfl ?_
          refine R.istore X194 hx (hb hby at_365) (L' := #[.val (.int p0), .val (.int p1), .val (.int p2), .val (.int p3), .val (.int p4), .val (.int p5), .val (.int (1 : Int32)), .val (.int i2), .val (.int (1 : Int32)), .val (.int i4), .val (.int i5), .val (.int (2 : Int32)), .val (.double r7), .second, .val (.ref b8), .val (.ref b12), .val (.ref b21), .val (.ref b30), .val (.ref b43), .val (.ref b46), .val (.int i2), .val (.int (1 : Int32)), .val (.int i5), .unset, .unset, .unset, .unset, .unset, .unset, .unset, .unset, .unset]) rfl (pc' := 367) rfl ?_
          refine R.iload X194 hx (hb hby at_367) rfl (pc' := 369) rfl ?_
          refine R.iloadN X194 hx (hb hby at_369) rfl (pc' := 370) rfl ?_
          refine R.iloadN X194 hx (hb hby at_370) rfl (pc' := 371) rfl ?_
          refine R.callS X194 hx hZ (y := mY4) hown w_10 w_11 w_4 w_12 (by decide) e194 (rm3 l Z aZ hw [] i2 p1 p2 h194 n0 Z194 ) (by decide) (W := 0) (Nat.le_of_eq rfl) (by decide) (by rw [hml]; rfl) (lenOf pd_3 rfl) rfl (hb hby at_371) (pc' := 374) rfl (by decide) (by decide) ?_; intro v195 T195 L195 X195 hQ195
          obtain ⟨rfl, N195q, e195⟩ := hQ195
          have N195 := Fr.app N194 N195q
          show Rn p e below (T195.setTop (mkF m 374 #[.val (.int p0), .val (.int p1), .val (.int p2), .val (.int p3), .val (.int p4), .val (.int p5), .val (.int (1 : Int32)), .val (.int i2), .val (.int (1 : Int32)), .val (.int i4), .val (.int i5), .val (.int (2 : Int32)), .val (.double r7), .second, .val (.ref b8), .val (.ref b12), .val (.ref b21), .val (.ref b30), .val (.ref b43), .val (.ref b46), .val (.int i2), .val (.int (1 : Int32)), .val (.int i5), .unset, .unset, .unset, .unset, .unset, .unset, .unset, .unset, .unset] [(.long (own_wAt i2 p1 p2))])) G
          generalize hj196 : (own_wAt i2 p1 p2) = j196
          refine R.lstore X195 hx (hb hby at_374) (L' := #[.val (.int p0), .val (.int p1), .val (.int p2), .val (.int p3), .val (.int p4), .val (.int p5), .val (.int (1 : Int32)), .val (.int i2), .val (.int (1 : Int32)), .val (.int i4), .val (.int i5), .val (.int (2 : Int32)), .val (.double r7), .second, .val (.ref b8), .val (.ref b12), .val (.ref b21), .val (.ref b30), .val (.ref b43), .val (.ref b46), .val (.int i2), .val (.int (1 : Int32)), .val (.int i5), .val (.long j196), .second, .unset, .unset, .unset, .unset, .unset, .unset, .unset]) rfl (pc' := 376) rfl ?_
          refine R.iload X195 hx (hb hby at_376) rfl (pc' := 378) rfl ?_
          refine R.iconst X195 hx (hb hby at_378) (v := (1 : Int32)) (by decide) (pc' := 379) rfl ?_
          refine R.iadd X195 hx (hb hby at_379) rfl (pc' := 380) rfl ?_
          refine R.iloadN X195 hx (hb hby at_380) rfl (pc' := 381) rfl ?_
          refine R.iloadN X195 hx (hb hby at_381) rfl (pc' := 382) rfl ?_
          refine R.callS X195 hx hZ (y := mY4) hown w_10 w_11 w_4 w_12 (by decide) e195 (rm3 l Z aZ hw [] (i2 + (1 : Int32)) p1 p2 h194 n0 Z194 ) (by decide) (W := 0) (Nat.le_of_eq rfl) (by decide) (by rw [hml]; rfl) (lenOf pd_3 rfl) rfl (hb hby at_382) (pc' := 385) rfl (by decide) (by decide) ?_; intro v197 T197 L197 X197 hQ197
          obtain ⟨rfl, N197q, e197⟩ := hQ197
          have N197 := Fr.app N195 N197q
          show Rn p e below (T197.setTop (mkF m 385 #[.val (.int p0), .val (.int p1), .val (.int p2), .val (.int p3), .val (.int p4), .val (.int p5), .val (.int (1 : Int32)), .val (.int i2), .val (.int (1 : Int32)), .val (.int i4), .val (.int i5), .val (.int (2 : Int32)), .val (.double r7), .second, .val (.ref b8), .val (.ref b12), .val (.ref b21), .val (.ref b30), .val (.ref b43), .val (.ref b46), .val (.int i2), .val (.int (1 : Int32)), .val (.int i5), .val (.long j196), .second, .unset, .unset, .unset, .unset, .unset, .unset, .unset] [(.long (own_wAt (i2 + (1 : Int32)) p1 p2))])) G
          generalize hj198 : (own_wAt (i2 + (1 : Int32)) p1 p2) = j198
          refine R.lstore X197 hx (hb hby at_385) (L' := #[.val (.int p0), .val (.int p1), .val (.int p2), .val (.int p3), .val (.int p4), .val (.int p5), .val (.int (1 : Int32)), .val (.int i2), .val (.int (1 : Int32)), .val (.int i4), .val (.int i5), .val (.int (2 : Int32)), .val (.double r7), .second, .val (.ref b8), .val (.ref b12), .val (.ref b21), .val (.ref b30), .val (.ref b43), .val (.ref b46), .val (.int i2), .val (.int (1 : Int32)), .val (.int i5), .val (.long j196), .second, .val (.long j198), .second, .unset, .unset, .unset, .unset, .unset]) rfl (pc' := 387) rfl ?_
          refine R.iload X197 hx (hb hby at_387) rfl (pc' := 389) rfl ?_
          refine R.iload X197 hx (hb hby at_389) rfl (pc' := 391) rfl ?_
          refine R.callS X197 hx hZ (y := mY2) hown w_2 w_3 w_4 w_5 (by decide) e197 (rm1 l Z aZ hw [] (1 : Int32) i5 h194 n0 Z194 ) (by decide) (W := 0) (Nat.le_of_eq rfl) (by decide) (by rw [hml]; rfl) (lenOf pd_2 rfl) rfl (hb hby at_391) (pc' := 394) rfl (by decide) (by decide) ?_; intro v199 T199 L199 X199 hQ199
          obtain ⟨rfl, N199q, e199⟩ := hQ199
          have N199 := Fr.app N197 N199q
          show Rn p e below (T199.setTop (mkF m 394 #[.val (.int p0), .val (.int p1), .val (.int p2), .val (.int p3), .val (.int p4), .val (.int p5), .val (.int (1 : Int32)), .val (.int i2), .val (.int (1 : Int32)), .val (.int i4), .val (.int i5), .val (.int (2 : Int32)), .val (.double r7), .second, .val (.ref b8), .val (.ref b12), .val (.ref b21), .val (.ref b30), .val (.ref b43), .val (.ref b46), .val (.int i2), .val (.int (1 : Int32)), .val (.int i5), .val (.long j196), .second, .val (.long j198), .second, .unset, .unset, .unset, .unset, .unset] [(.int (own_rowA (1 : Int32) i5))])) G
          generalize hi200 : (own_rowA (1 : Int32) i5) = i200
          refine R.istore X199 hx (hb hby at_394) (L' := #[.val (.int p0), .val (.int p1), .val (.int p2), .val (.int p3), .val (.int p4), .val (.int p5), .val (.int (1 : Int32)), .val (.int i2), .val (.int (1 : Int32)), .val (.int i4), .val (.int i5), .val (.int (2 : Int32)), .val (.double r7), .second, .val (.ref b8), .val (.ref b12), .val (.ref b21), .val (.ref b30), .val (.ref b43), .val (.ref b46), .val (.int i2), .val (.int (1 : Int32)), .val (.int i5), .val (.long j196), .second, .val (.long j198), .second, .val (.int i200), .unset, .unset, .unset, .unset]) rfl (pc' := 396) rfl ?_
          refine R.iload X199 hx (hb hby at_396) rfl (pc' := 398) rfl ?_
          refine R.iload X199 hx (hb hby at_398) rfl (pc' := 400) rfl ?_
          refine R.callS X199 hx hZ (y := mY3) hown w_6 w_7 w_4 w_8 (by decide) e199 (rm2 l Z aZ hw [] (1 : Int32) i5 h194 n0 Z194 ) (by decide) (W := 0) (Nat.le_of_eq rfl) (by decide) (by rw [hml]; rfl) (lenOf pd_2 rfl) rfl (hb hby at_400) (pc' := 403) rfl (by decide) (by decide) ?_; intro v201 T201 L201 X201 hQ201
          obtain ⟨rfl, N201q, e201⟩ := hQ201
          have N201 := Fr.app N199 N201q
          show Rn p e below (T201.setTop (mkF m 403 #[.val (.int p0), .val (.int p1), .val (.int p2), .val (.int p3), .val (.int p4), .val (.int p5), .val (.int (1 : Int32)), .val (.int i2), .val (.int (1 : Int32)), .val (.int i4), .val (.int i5), .val (.int (2 : Int32)), .val (.double r7), .second, .val (.ref b8), .val (.ref b12), .val (.ref b21), .val (.ref b30), .val (.ref b43), .val (.ref b46), .val (.int i2), .val (.int (1 : Int32)), .val (.int i5), .val (.long j196), .second, .val (.long j198), .second, .val (.int i200), .unset, .unset, .unset, .unset] [(.int (own_rowB (1 : Int32) i5))])) G
          generalize hi202 : (own_rowB (1 : Int32) i5) = i202
          refine R.istore X201 hx (hb hby at_403) (L' := #[.val (.int p0), .val (.int p1), .val (.int p2), .val (.int p3), .val (.int p4), .val (.int p5), .val (.int (1 : Int32)), .val (.int i2), .val (.int (1 : Int32)), .val (.int i4), .val (.int i5), .val (.int (2 : Int32)), .val (.double r7), .second, .val (.ref b8), .val (.ref b12), .val (.ref b21), .val (.ref b30), .val (.ref b43), .val (.ref b46), .val (.int i2), .val (.int (1 : Int32)), .val (.int i5), .val (.long j196), .second, .val (.long j198), .second, .val (.int i200), .val (.int i202), .unset, .unset, .unset]) rfl (pc' := 405) rfl ?_
          refine R.iconst X201 hx (hb hby at_405) (v := (1 : Int32)) (by decide) (pc' := 406) rfl ?_
          refine R.istore X201 hx (hb hby at_406) (L' := #[.val (.int p0), .val (.int p1), .val (.int p2), .val (.int p3), .val (.int p4), .val (.int p5), .val (.int (1 : Int32)), .val (.int i2), .val (.int (1 : Int32)), .val (.int i4), .val (.int i5), .val (.int (2 : Int32)), .val (.double r7), .second, .val (.ref b8), .val (.ref b12), .val (.ref b21), .val (.ref b30), .val (.ref b43), .val (.ref b46), .val (.int i2), .val (.int (1 : Int32)), .val (.int i5), .val (.long j196), .second, .val (.long j198), .second, .val (.int i200), .val (.int i202), .val (.int (1 : Int32)), .unset, .unset]) rfl (pc' := 408) rfl ?_
          refine R.iload X201 hx (hb hby at_408) rfl (pc' := 410) rfl ?_
          refine R.ifNo X201 hx (hb hby at_410) (tlt (by decide : (0 : Int32) < (2 : Int32))).2.2.2 (pc' := 413) rfl ?_
          refine R.lconst X201 hx (hb hby at_413) (v := (0 : Int64)) (by decide) (pc' := 414) rfl ?_
          refine R.lstore X201 hx (hb hby at_414) (L' := #[.val (.int p0), .val (.int p1), .val (.int p2), .val (.int p3), .val (.int p4), .val (.int p5), .val (.int (1 : Int32)), .val (.int i2), .val (.int (1 : Int32)), .val (.int i4), .val (.int i5), .val (.int (2 : Int32)), .val (.double r7), .second, .val (.ref b8), .val (.ref b12), .val (.ref b21), .val (.ref b30), .val (.ref b43), .val (.ref b46), .val (.int i2), .val (.int (1 : Int32)), .val (.int i5), .val (.long j196), .second, .val (.long j198), .second, .val (.int i200), .val (.int i202), .val (.int (1 : Int32)), .val (.long (0 : Int64)), .second]) rfl (pc' := 416) rfl ?_
          refine R.iload X201 hx (hb hby at_416) rfl (pc' := 418) rfl ?_
          refine R.iconst X201 hx (hb hby at_418) (v := (1 : Int32)) (by decide) (pc' := 419) rfl ?_
          refine R.icmpNo X201 hx (hb hby at_419) (flt (by decide : ¬ ((1 : Int32) < (1 : Int32)))).1 (pc' := 422) rfl ?_
          refine R.lload X201 hx (hb hby at_422) rfl (pc' := 424) rfl ?_
          refine R.lload X201 hx (hb hby at_424) rfl (pc' := 426) rfl ?_
          refine R.iload X201 hx (hb hby at_426) rfl (pc' := 428) rfl ?_
          refine R.iload X201 hx (hb hby at_428) rfl (pc' := 430) rfl ?_
          refine R.imul X201 hx (hb hby at_430) rfl (pc' := 431) rfl ?_
          refine R.iloadN X201 hx (hb hby at_431) rfl (pc' := 432) rfl ?_
          refine R.iload X201 hx (hb hby at_432) rfl (pc' := 434) rfl ?_
          refine R.iload X201 hx (hb hby at_434) rfl (pc' := 436) rfl ?_
          refine R.callS X201 hx hZ (y := mY5) hown w_13 w_14 w_4 w_15 (by decide) e201 (rm4 l Z aZ hw [] (i200 * (2 : Int32)) p3 p4 p5 h194 n0 Z194 ) (by decide) (W := 4) (Nat.le_of_eq rfl) (by decide) (by rw [hml]; rfl) (lenOf pd_4 rfl) rfl (hb hby at_436) (pc' := 439) rfl (by decide) (by decide) ?_; intro v203 T203 L203 X203 hQ203
          obtain ⟨rfl, N203q, e203⟩ := hQ203
          have N203 := Fr.app N201 N203q
          refine R.lmul X203 hx (hb hby at_439) rfl (pc' := 440) rfl ?_
          refine R.ladd X203 hx (hb hby at_440) rfl (pc' := 441) rfl ?_
          show Rn p e below (T203.setTop (mkF m 441 #[.val (.int p0), .val (.int p1), .val (.int p2), .val (.int p3), .val (.int p4), .val (.int p5), .val (.int (1 : Int32)), .val (.int i2), .val (.int (1 : Int32)), .val (.int i4), .val (.int i5), .val (.int (2 : Int32)), .val (.double r7), .second, .val (.ref b8), .val (.ref b12), .val (.ref b21), .val (.ref b30), .val (.ref b43), .val (.ref b46), .val (.int i2), .val (.int (1 : Int32)), .val (.int i5), .val (.long j196), .second, .val (.long j198), .second, .val (.int i200), .val (.int i202), .val (.int (1 : Int32)), .val (.long (0 : Int64)), .second] [(.long ((0 : Int64) + (j196 * (own_yAt (i200 * (2 : Int32)) p3 p4 p5))))])) G
          generalize hj204 : ((0 : Int64) + (j196 * (own_yAt (i200 * (2 : Int32)) p3 p4 p5))) = j204
          refine R.lstore X203 hx (hb hby at_441) (L' := #[.val (.int p0), .val (.int p1), .val (.int p2), .val (.int p3), .val (.int p4), .val (.int p5), .val (.int (1 : Int32)), .val (.int i2), .val (.int (1 : Int32)), .val (.int i4), .val (.int i5), .val (.int (2 : Int32)), .val (.double r7), .second, .val (.ref b8), .val (.ref b12), .val (.ref b21), .val (.ref b30), .val (.ref b43), .val (.ref b46), .val (.int i2), .val (.int (1 : Int32)), .val (.int i5), .val (.long j196), .second, .val (.long j198), .second, .val (.int i200), .val (.int i202), .val (.int (1 : Int32)), .val (.long j204), .second]) rfl (pc' := 443) rfl ?_
          have tr0_1 := own_mulY (by rw [← hj196]; exact own_wb _ _ _) (own_yb _ _ _ _) hj204
          rw [← hj196, ← hi200] at tr0_1
          refine R.iload X203 hx (hb hby at_443) rfl (pc' := 445) rfl ?_
          refine R.iconst X203 hx (hb hby at_445) (v := (2 : Int32)) (by decide) (pc' := 446) rfl ?_
          refine R.icmpYes X203 hx (hb hby at_446) (tlt (by decide : (1 : Int32) < (2 : Int32))).1 (by decide) (pc' := 470) (by decide) ?_
          obtain ⟨xv0, hxv0, Dx0⟩ := c0_194 (by decide)
          refine R.iload X203 hx (hb hby at_470) rfl (pc' := 472) rfl ?_
          refine R.ifNo X203 hx (hb hby at_472) (feq (by decide : ¬ ((1 : Int32) = (0 : Int32)))).1 (pc' := 475) rfl ?_
          refine R.aload X203 hx (hb hby at_475) rfl rfl (pc' := 477) rfl ?_
          refine R.iconst X203 hx (hb hby at_477) (v := (0 : Int32)) (by decide) (pc' := 478) rfl ?_
          refine R.daload X203 hx hZ e203 V_b43 (⟨by decide, by decide⟩ : ¬ (0 : Int32) < 0 ∧ (0 : Int32) < (2 : Int32)) (v := (.double xv0)) (hxv0) (hb hby at_478) (pc' := 479) rfl ?_
          refine R.lload X203 hx (hb hby at_479) rfl (pc' := 481) rfl ?_
          refine R.l2d X203 hx (hb hby at_481) (pc' := 482) rfl ?_
          refine R.dcmp X203 hx (hb hby at_482) (Dx0.cmp ((Dy.l2d (by rw [tr0_1]; have q1 := own_pb (own_wb i2 p1 p2) (own_yb ((own_rowA (1 : Int32) i5) * (2 : Int32)) p3 p4 p5); have q2 := own_pb (own_wb (i2 + (1 : Int32)) p1 p2) (own_yb ((own_rowB (1 : Int32) i5) * (2 : Int32)) p3 p4 p5); first | exact own_nab2 q1 q2 (by decide) | exact own_nab1 q1 (by decide) | omega)).cast tr0_1 rfl) _ : cmpValue (FP.dcmp xv0 (FP.l2d j204)) .l = (own_ci ((own_wAt i2 p1 p2).toInt * (own_yAt ((own_rowA (1 : Int32) i5) * (2 : Int32)) p3 p4 p5).toInt) ((own_wAt i2 p1 p2).toInt * (own_yAt ((own_rowA (1 : Int32) i5) * (2 : Int32)) p3 p4 p5).toInt))) (pc' := 483) rfl ?_
          refine R.ifNo X203 hx (hb hby at_483) (teq (own_ci_eq.mpr rfl : (own_ci ((own_wAt i2 p1 p2).toInt * (own_yAt ((own_rowA (1 : Int32) i5) * (2 : Int32)) p3 p4 p5).toInt) ((own_wAt i2 p1 p2).toInt * (own_yAt ((own_rowA (1 : Int32) i5) * (2 : Int32)) p3 p4 p5).toInt)) = (0 : Int32))).2 (pc' := 486) rfl ?_
          refine R.iconst X203 hx (hb hby at_486) (v := (1 : Int32)) (by decide) (pc' := 487) rfl ?_
          refine R.goto X203 hx (hb hby at_487) (by decide) (pc' := 491) (by decide) ?_
          refine R.istore X203 hx (hb hby at_491) (L' := #[.val (.int p0), .val (.int p1), .val (.int p2), .val (.int p3), .val (.int p4), .val (.int p5), .val (.int (1 : Int32)), .val (.int i2), .val (.int (1 : Int32)), .val (.int i4), .val (.int i5), .val (.int (2 : Int32)), .val (.double r7), .second, .val (.ref b8), .val (.ref b12), .val (.ref b21), .val (.ref b30), .val (.ref b43), .val (.ref b46), .val (.int i2), .val (.int (1 : Int32)), .val (.int i5), .val (.long j196), .second, .val (.long j198), .second, .val (.int i200), .val (.int i202), .val (.int (1 : Int32)), .val (.long j204), .second]) rfl (pc' := 493) rfl ?_
          refine R.iload X203 hx (hb hby at_493) rfl (pc' := 495) rfl ?_
          refine R.iconst X203 hx (hb hby at_495) (v := (1 : Int32)) (by decide) (pc' := 496) rfl ?_
          refine R.icmpNo X203 hx (hb hby at_496) (tlt (by decide : (1 : Int32) < (2 : Int32))).2.2.2 (pc' := 499) rfl ?_
          refine R.lconst X203 hx (hb hby at_499) (v := (0 : Int64)) (by decide) (pc' := 500) rfl ?_
          refine R.lstore X203 hx (hb hby at_500) (L' := #[.val (.int p0), .val (.int p1), .val (.int p2), .val (.int p3), .val (.int p4), .val (.int p5), .val (.int (1 : Int32)), .val (.int i2), .val (.int (1 : Int32)), .val (.int i4), .val (.int i5), .val (.int (2 : Int32)), .val (.double r7), .second, .val (.ref b8), .val (.ref b12), .val (.ref b21), .val (.ref b30), .val (.ref b43), .val (.ref b46), .val (.int i2), .val (.int (1 : Int32)), .val (.int i5), .val (.long j196), .second, .val (.long j198), .second, .val (.int i200), .val (.int i202), .val (.int (1 : Int32)), .val (.long (0 : Int64)), .second]) rfl (pc' := 502) rfl ?_
          refine R.iload X203 hx (hb hby at_502) rfl (pc' := 504) rfl ?_
          refine R.iconst X203 hx (hb hby at_504) (v := (1 : Int32)) (by decide) (pc' := 505) rfl ?_
          refine R.icmpNo X203 hx (hb hby at_505) (flt (by decide : ¬ ((1 : Int32) < (1 : Int32)))).1 (pc' := 508) rfl ?_
          refine R.lload X203 hx (hb hby at_508) rfl (pc' := 510) rfl ?_
          refine R.lload X203 hx (hb hby at_510) rfl (pc' := 512) rfl ?_
          refine R.iload X203 hx (hb hby at_512) rfl (pc' := 514) rfl ?_
          refine R.iload X203 hx (hb hby at_514) rfl (pc' := 516) rfl ?_
          refine R.imul X203 hx (hb hby at_516) rfl (pc' := 517) rfl ?_
          refine R.iconst X203 hx (hb hby at_517) (v := (1 : Int32)) (by decide) (pc' := 518) rfl ?_
          refine R.iadd X203 hx (hb hby at_518) rfl (pc' := 519) rfl ?_
          refine R.iloadN X203 hx (hb hby at_519) rfl (pc' := 520) rfl ?_
          refine R.iload X203 hx (hb hby at_520) rfl (pc' := 522) rfl ?_
          refine R.iload X203 hx (hb hby at_522) rfl (pc' := 524) rfl ?_
          refine R.callS X203 hx hZ (y := mY5) hown w_13 w_14 w_4 w_15 (by decide) e203 (rm4 l Z aZ hw [] ((i200 * (2 : Int32)) + (1 : Int32)) p3 p4 p5 h194 n0 Z194 ) (by decide) (W := 4) (Nat.le_of_eq rfl) (by decide) (by rw [hml]; rfl) (lenOf pd_4 rfl) rfl (hb hby at_524) (pc' := 527) rfl (by decide) (by decide) ?_; intro v205 T205 L205 X205 hQ205
          obtain ⟨rfl, N205q, e205⟩ := hQ205
          have N205 := Fr.app N203 N205q
          refine R.lmul X205 hx (hb hby at_527) rfl (pc' := 528) rfl ?_
          refine R.ladd X205 hx (hb hby at_528) rfl (pc' := 529) rfl ?_
          show Rn p e below (T205.setTop (mkF m 529 #[.val (.int p0), .val (.int p1), .val (.int p2), .val (.int p3), .val (.int p4), .val (.int p5), .val (.int (1 : Int32)), .val (.int i2), .val (.int (1 : Int32)), .val (.int i4), .val (.int i5), .val (.int (2 : Int32)), .val (.double r7), .second, .val (.ref b8), .val (.ref b12), .val (.ref b21), .val (.ref b30), .val (.ref b43), .val (.ref b46), .val (.int i2), .val (.int (1 : Int32)), .val (.int i5), .val (.long j196), .second, .val (.long j198), .second, .val (.int i200), .val (.int i202), .val (.int (1 : Int32)), .val (.long (0 : Int64)), .second] [(.long ((0 : Int64) + (j196 * (own_yAt ((i200 * (2 : Int32)) + (1 : Int32)) p3 p4 p5))))])) G
          generalize hj206 : ((0 : Int64) + (j196 * (own_yAt ((i200 * (2 : Int32)) + (1 : Int32)) p3 p4 p5))) = j206
          refine R.lstore X205 hx (hb hby at_529) (L' := #[.val (.int p0), .val (.int p1), .val (.int p2), .val (.int p3), .val (.int p4), .val (.int p5), .val (.int (1 : Int32)), .val (.int i2), .val (.int (1 : Int32)), .val (.int i4), .val (.int i5), .val (.int (2 : Int32)), .val (.double r7), .second, .val (.ref b8), .val (.ref b12), .val (.ref b21), .val (.ref b30), .val (.ref b43), .val (.ref b46), .val (.int i2), .val (.int (1 : Int32)), .val (.int i5), .val (.long j196), .second, .val (.long j198), .second, .val (.int i200), .val (.int i202), .val (.int (1 : Int32)), .val (.long j206), .second]) rfl (pc' := 531) rfl ?_
          have tr1_1 := own_mulY (by rw [← hj196]; exact own_wb _ _ _) (own_yb _ _ _ _) hj206
          rw [← hj196, ← hi200] at tr1_1
          refine R.iload X205 hx (hb hby at_531) rfl (pc' := 533) rfl ?_
          refine R.iconst X205 hx (hb hby at_533) (v := (2 : Int32)) (by decide) (pc' := 534) rfl ?_
          refine R.icmpYes X205 hx (hb hby at_534) (tlt (by decide : (1 : Int32) < (2 : Int32))).1 (by decide) (pc' := 560) (by decide) ?_
          obtain ⟨xv1, hxv1, Dx1⟩ := c1_194 (by decide)
          refine R.iload X205 hx (hb hby at_560) rfl (pc' := 562) rfl ?_
          refine R.ifNo X205 hx (hb hby at_562) (feq (by decide : ¬ ((1 : Int32) = (0 : Int32)))).1 (pc' := 565) rfl ?_
          refine R.aload X205 hx (hb hby at_565) rfl rfl (pc' := 567) rfl ?_
          refine R.iconst X205 hx (hb hby at_567) (v := (1 : Int32)) (by decide) (pc' := 568) rfl ?_
          refine R.daload X205 hx hZ e205 V_b43 (⟨by decide, by decide⟩ : ¬ (1 : Int32) < 0 ∧ (1 : Int32) < (2 : Int32)) (v := (.double xv1)) (hxv1) (hb hby at_568) (pc' := 569) rfl ?_
          refine R.lload X205 hx (hb hby at_569) rfl (pc' := 571) rfl ?_
          refine R.l2d X205 hx (hb hby at_571) (pc' := 572) rfl ?_
          refine R.dcmp X205 hx (hb hby at_572) (Dx1.cmp ((Dy.l2d (by rw [tr1_1]; have q1 := own_pb (own_wb i2 p1 p2) (own_yb (((own_rowA (1 : Int32) i5) * (2 : Int32)) + (1 : Int32)) p3 p4 p5); have q2 := own_pb (own_wb (i2 + (1 : Int32)) p1 p2) (own_yb (((own_rowB (1 : Int32) i5) * (2 : Int32)) + (1 : Int32)) p3 p4 p5); first | exact own_nab2 q1 q2 (by decide) | exact own_nab1 q1 (by decide) | omega)).cast tr1_1 rfl) _ : cmpValue (FP.dcmp xv1 (FP.l2d j206)) .l = (own_ci ((own_wAt i2 p1 p2).toInt * (own_yAt (((own_rowA (1 : Int32) i5) * (2 : Int32)) + (1 : Int32)) p3 p4 p5).toInt) ((own_wAt i2 p1 p2).toInt * (own_yAt (((own_rowA (1 : Int32) i5) * (2 : Int32)) + (1 : Int32)) p3 p4 p5).toInt))) (pc' := 573) rfl ?_
          refine R.ifNo X205 hx (hb hby at_573) (teq (own_ci_eq.mpr rfl : (own_ci ((own_wAt i2 p1 p2).toInt * (own_yAt (((own_rowA (1 : Int32) i5) * (2 : Int32)) + (1 : Int32)) p3 p4 p5).toInt) ((own_wAt i2 p1 p2).toInt * (own_yAt (((own_rowA (1 : Int32) i5) * (2 : Int32)) + (1 : Int32)) p3 p4 p5).toInt)) = (0 : Int32))).2 (pc' := 576) rfl ?_
          refine R.iconst X205 hx (hb hby at_576) (v := (1 : Int32)) (by decide) (pc' := 577) rfl ?_
          refine R.goto X205 hx (hb hby at_577) (by decide) (pc' := 581) (by decide) ?_
          refine R.istore X205 hx (hb hby at_581) (L' := #[.val (.int p0), .val (.int p1), .val (.int p2), .val (.int p3), .val (.int p4), .val (.int p5), .val (.int (1 : Int32)), .val (.int i2), .val (.int (1 : Int32)), .val (.int i4), .val (.int i5), .val (.int (2 : Int32)), .val (.double r7), .second, .val (.ref b8), .val (.ref b12), .val (.ref b21), .val (.ref b30), .val (.ref b43), .val (.ref b46), .val (.int i2), .val (.int (1 : Int32)), .val (.int i5), .val (.long j196), .second, .val (.long j198), .second, .val (.int i200), .val (.int i202), .val (.int (1 : Int32)), .val (.long j206), .second]) rfl (pc' := 583) rfl ?_
          refine R.iload X205 hx (hb hby at_583) rfl (pc' := 585) rfl ?_
          rw [← hG]
          exact Rn.ret X205 (BodyLoose.notSynchronized Bd) (v := some (.int (1 : Int32))) (fun h => by rw [Bd.returns] at h; cases h) (Q := Q0 Z p0 p1 p2 p3 p4 p5 h0 n0) e205 (fun fs hr => retN X205 hx (t := .boolean) Bd.returns (by simp) (hb hby at_585) hr) ⟨rfl, N205⟩ (by decide) (by decide)
      · rcases h11_ with rfl | rfl | rfl
        · refine R.aload X47 hx (hb hby at_313) rfl rfl (pc' := 315) rfl ?_
          refine R.iload X47 hx (hb hby at_315) rfl (pc' := 317) rfl ?_
          refine R.aload X47 hx (hb hby at_317) rfl rfl (pc' := 319) rfl ?_
          refine R.iload X47 hx (hb hby at_319) rfl (pc' := 321) rfl ?_
          refine R.aload X47 hx (hb hby at_321) rfl rfl (pc' := 323) rfl ?_
          refine R.virtual X47 hx hZ (y := mY7) (z := mY7) hown w_38 w_39 (notFace_of_selects (args := #[]) (mvT hZ w_41)) w_41 w_40 w_18 w_42 (by decide) e47 E_b46 (rm8 l Z aZ hw [] b46 (1 : Int32) b30 (0 : Int32) b43 b8 b12 b21 k8 k12 k21 k30 k43 [((2 : Int32), (.int (i2 + (2 : Int32)))), ((1 : Int32), (.int i2)), ((0 : Int32), (.int (0 : Int32)))] [((i2 + (1 : Int32)), (.int (own_rowB (2 : Int32) i5))), (i2, (.int (own_rowA (2 : Int32) i5))), ((1 : Int32), (.int (own_rowB i2 i4))), ((0 : Int32), (.int (own_rowA i2 i4)))] [((3 : Int32), (.double (FP.l2d (own_wAt (3 : Int32) p1 p2)))), ((2 : Int32), (.double (FP.l2d (own_wAt (2 : Int32) p1 p2)))), ((1 : Int32), (.double (FP.l2d (own_wAt (1 : Int32) p1 p2)))), ((0 : Int32), (.double (FP.l2d (own_wAt (0 : Int32) p1 p2))))] [((5 : Int32), (.double (FP.l2d (own_yAt (5 : Int32) p3 p4 p5)))), ((4 : Int32), (.double (FP.l2d (own_yAt (4 : Int32) p3 p4 p5)))), ((3 : Int32), (.double (FP.l2d (own_yAt (3 : Int32) p3 p4 p5)))), ((2 : Int32), (.double (FP.l2d (own_yAt (2 : Int32) p3 p4 p5)))), ((1 : Int32), (.double (FP.l2d (own_yAt (1 : Int32) p3 p4 p5)))), ((0 : Int32), (.double (FP.l2d (own_yAt (0 : Int32) p3 p4 p5))))] [((1 : Int32), (.double r7)), ((0 : Int32), (.double r7))] i2 (i2 + (2 : Int32)) (FP.l2d (own_wAt i2 p1 p2)) (FP.l2d (own_wAt (i2 + (1 : Int32)) p1 p2)) (own_wAt i2 p1 p2).toInt (own_wAt (i2 + (1 : Int32)) p1 p2).toInt (own_rowA (2 : Int32) i5) (own_rowB (2 : Int32) i5) (fun i => FP.l2d (own_yAt i p3 p4 p5)) (fun i => (own_yAt i p3 p4 p5).toInt) ((own_wAt i2 p1 p2).toInt * (own_yAt ((own_rowA (2 : Int32) i5) * (0 : Int32)) p3 p4 p5).toInt + (own_wAt (i2 + (1 : Int32)) p1 p2).toInt * (own_yAt ((own_rowB (2 : Int32) i5) * (0 : Int32)) p3 p4 p5).toInt) ((own_wAt i2 p1 p2).toInt * (own_yAt (((own_rowA (2 : Int32) i5) * (0 : Int32)) + (1 : Int32)) p3 p4 p5).toInt + (own_wAt (i2 + (1 : Int32)) p1 p2).toInt * (own_yAt (((own_rowB (2 : Int32) i5) * (0 : Int32)) + (1 : Int32)) p3 p4 p5).toInt) h47 n0 Z47 F_start_b46 F_rows_b46 F_values_b46 V_b8 V_b12 V_b21 V_b30 V_b43 g_b43 (Ne.symm ne_b43_b46) ne_b8_b43 ne_b12_b43 ne_b21_b43 ne_b30_b43 (by decide) (by rcases h7_ with q | q | q <;> (rw [q]; try rfl)) (by rcases h7_ with q | q | q <;> (rw [q]; try rfl)) (rA7) (by decide) (own_rA h10_) (own_rB) (Or.inr (Or.inr ⟨by rcases h7_ with q | q | q <;> (rw [q]; try rfl), by rcases h7_ with q | q | q <;> (rw [q]; try rfl), by rcases h7_ with q | q | q <;> (rw [q]; try rfl), by rcases h7_ with q | q | q <;> (rw [q]; try rfl), by rcases h7_ with q | q | q <;> (rw [q]; try rfl), rfl, rfl⟩)) (Dy.l2d (by have := own_wb i2 p1 p2; omega)) (Dy.l2d (by have := own_wb (i2 + (1 : Int32)) p1 p2; omega)) (own_wb _ _ _) (own_wb _ _ _) (own_rdy)) (by decide) (W := 0) (Nat.le_of_eq rfl) (by decide) (by rw [hml]; rfl) (lenOf pd_6 rfl) rfl (hb hby at_323) (pc' := 326) rfl (by decide) (by decide) ?_; intro v207 T207 L207 X207 hQ207
          obtain ⟨hj_207, rfl, N207q, Kc207, P207_0, P207_1, P207_2⟩ := hQ207
          have N207 := Fr.app N47 N207q
          generalize e207 : T207.heap = h207 at Kc207 P207_0 P207_1 P207_2
          have K207 : Keep h0 h207 [] := K47.trans Kc207 ((allS (Or.inr sz_b43) all0))
          have Z207 : n0 ≤ h207.size := Nat.le_trans Z47 Kc207.1
          have V_b8 := V_b8.keep Kc207 (ninS ne_b8_b43 nin0)
          have V_b12 := V_b12.keep Kc207 (ninS ne_b12_b43 nin0)
          have V_b21 := V_b21.keep Kc207 (ninS ne_b21_b43 nin0)
          have V_b30 := V_b30.keep Kc207 (ninS ne_b30_b43 nin0)
          have E_b46 := E_b46.keep Kc207
          have F_start_b46 := F_start_b46.keep Kc207 (ninS (Ne.symm ne_b43_b46) nin0)
          have F_rows_b46 := F_rows_b46.keep Kc207 (ninS (Ne.symm ne_b43_b46) nin0)
          have F_values_b46 := F_values_b46.keep Kc207 (ninS (Ne.symm ne_b43_b46) nin0)
          have V_b43 : Arh Z h207 b43 k43 .double (2 : Int32) hj_207 [] (.double (0 : UInt64)) := P207_0
          have V_b43 : Arh Z h207 b43 k43 .double (2 : Int32) hj_207 [] (.double (0 : UInt64)) := V_b43
          have c0_207 := P207_1
          have c1_207 := P207_2
          refine R.iload X207 hx (hb hby at_326) rfl (pc' := 328) rfl ?_
          refine R.ifYes X207 hx (hb hby at_328) (feq (by decide : ¬ ((1 : Int32) = (0 : Int32)))).2 (by decide) (pc' := 335) (by decide) ?_
          refine R.iload X207 hx (hb hby at_335) rfl (pc' := 337) rfl ?_
          refine R.istore X207 hx (hb hby at_337) (L' := #[.val (.int p0), .val (.int p1), .val (.int p2), .val (.int p3), .val (.int p4), .val (.int p5), .val (.int (1 : Int32)), .val (.int i2), .val (.int (2 : Int32)), .val (.int i4), .val (.int i5), .val (.int (0 : Int32)), .val (.double r7), .second, .val (.ref b8), .val (.ref b12), .val (.ref b21), .val (.ref b30), .val (.ref b43), .val (.ref b46), .val (.int i2), .unset, .unset, .unset, .unset, .unset, .unset, .unset, .unset, .unset, .unset, .unset]) rfl (pc' := 339) rfl ?_
          refine R.iload X207 hx (hb hby at_339) rfl (pc' := 341) rfl ?_
          refine R.ifYes X207 hx (hb hby at_341) (feq (by decide : ¬ ((1 : Int32) = (0 : Int32)))).2 (by decide) (pc' := 349) (by decide) ?_
          refine R.iload X207 hx (hb hby at_349) rfl (pc' := 351) rfl ?_
          refine R.istore X207 hx (hb hby at_351) (L' := #[.val (.int p0), .val (.int p1), .val (.int p2), .val (.int p3), .val (.int p4), .val (.int p5), .val (.int (1 : Int32)), .val (.int i2), .val (.int (2 : Int32)), .val (.int i4), .val (.int i5), .val (.int (0 : Int32)), .val (.double r7), .second, .val (.ref b8), .val (.ref b12), .val (.ref b21), .val (.ref b30), .val (.ref b43), .val (.ref b46), .val (.int i2), .val (.int (2 : Int32)), .unset, .unset, .unset, .unset, .unset, .unset, .unset, .unset, .unset, .unset]) rfl (pc' := 353) rfl ?_
          refine R.iload X207 hx (hb hby at_353) rfl (pc' := 355) rfl ?_
          refine R.ifYes X207 hx (hb hby at_355) (feq (by decide : ¬ ((1 : Int32) = (0 : Int32)))).2 (by decide) (pc' := 363) (by decide) ?_
          refine R.iload X207 hx (hb hby at_363) rfl (pc' := 365) rfl ?_
          refine R.istore X207 hx (hb hby at_365) (L' := #[.val (.int p0), .val (.int p1), .val (.int p2), .val (.int p3), .val (.int p4), .val (.int p5), .val (.int (1 : Int32)), .val (.int i2), .val (.int (2 : Int32)), .val (.int i4), .val (.int i5), .val (.int (0 : Int32)), .val (.double r7), .second, .val (.ref b8), .val (.ref b12), .val (.ref b21), .val (.ref b30), .val (.ref b43), .val (.ref b46), .val (.int i2), .val (.int (2 : Int32)), .val (.int i5), .unset, .unset, .unset, .unset, .unset, .unset, .unset, .unset, .unset]) rfl (pc' := 367) rfl ?_
          refine R.iload X207 hx (hb hby at_367) rfl (pc' := 369) rfl ?_
          refine R.iloadN X207 hx (hb hby at_369) rfl (pc' := 370) rfl ?_
          refine R.iloadN X207 hx (hb hby at_370) rfl (pc' := 371) rfl ?_
          refine R.callS X207 hx hZ (y := mY4) hown w_10 w_11 w_4 w_12 (by decide) e207 (rm3 l Z aZ hw [] i2 p1 p2 h207 n0 Z207 ) (by decide) (W := 0) (Nat.le_of_eq rfl) (by decide) (by rw [hml]; rfl) (lenOf pd_3 rfl) rfl (hb hby at_371) (pc' := 374) rfl (by decide) (by decide) ?_; intro v208 T208 L208 X208 hQ208
          obtain ⟨rfl, N208q, e208⟩ := hQ208
          have N208 := Fr.app N207 N208q
          show Rn p e below (T208.setTop (mkF m 374 #[.val (.int p0), .val (.int p1), .val (.int p2), .val (.int p3), .val (.int p4), .val (.int p5), .val (.int (1 : Int32)), .val (.int i2), .val (.int (2 : Int32)), .val (.int i4), .val (.int i5), .val (.int (0 : Int32)), .val (.double r7), .second, .val (.ref b8), .val (.ref b12), .val (.ref b21), .val (.ref b30), .val (.ref b43), .val (.ref b46), .val (.int i2), .val (.int (2 : Int32)), .val (.int i5), .unset, .unset, .unset, .unset, .unset, .unset, .unset, .unset, .unset] [(.long (own_wAt i2 p1 p2))])) G
          generalize hj209 : (own_wAt i2 p1 p2) = j209
          refine R.lstore X208 hx (hb hby at_374) (L' := #[.val (.int p0), .val (.int p1), .val (.int p2), .val (.int p3), .val (.int p4), .val (.int p5), .val (.int (1 : Int32)), .val (.int i2), .val (.int (2 : Int32)), .val (.int i4), .val (.int i5), .val (.int (0 : Int32)), .val (.double r7), .second, .val (.ref b8), .val (.ref b12), .val (.ref b21), .val (.ref b30), .val (.ref b43), .val (.ref b46), .val (.int i2), .val (.int (2 : Int32)), .val (.int i5), .val (.long j209), .second, .unset, .unset, .unset, .unset, .unset, .unset, .unset]) rfl (pc' := 376) rfl ?_
          refine R.iload X208 hx (hb hby at_376) rfl (pc' := 378) rfl ?_
          refine R.iconst X208 hx (hb hby at_378) (v := (1 : Int32)) (by decide) (pc' := 379) rfl ?_
          refine R.iadd X208 hx (hb hby at_379) rfl (pc' := 380) rfl ?_
          refine R.iloadN X208 hx (hb hby at_380) rfl (pc' := 381) rfl ?_
          refine R.iloadN X208 hx (hb hby at_381) rfl (pc' := 382) rfl ?_
          refine R.callS X208 hx hZ (y := mY4) hown w_10 w_11 w_4 w_12 (by decide) e208 (rm3 l Z aZ hw [] (i2 + (1 : Int32)) p1 p2 h207 n0 Z207 ) (by decide) (W := 0) (Nat.le_of_eq rfl) (by decide) (by rw [hml]; rfl) (lenOf pd_3 rfl) rfl (hb hby at_382) (pc' := 385) rfl (by decide) (by decide) ?_; intro v210 T210 L210 X210 hQ210
          obtain ⟨rfl, N210q, e210⟩ := hQ210
          have N210 := Fr.app N208 N210q
          show Rn p e below (T210.setTop (mkF m 385 #[.val (.int p0), .val (.int p1), .val (.int p2), .val (.int p3), .val (.int p4), .val (.int p5), .val (.int (1 : Int32)), .val (.int i2), .val (.int (2 : Int32)), .val (.int i4), .val (.int i5), .val (.int (0 : Int32)), .val (.double r7), .second, .val (.ref b8), .val (.ref b12), .val (.ref b21), .val (.ref b30), .val (.ref b43), .val (.ref b46), .val (.int i2), .val (.int (2 : Int32)), .val (.int i5), .val (.long j209), .second, .unset, .unset, .unset, .unset, .unset, .unset, .unset] [(.long (own_wAt (i2 + (1 : Int32)) p1 p2))])) G
          generalize hj211 : (own_wAt (i2 + (1 : Int32)) p1 p2) = j211
          refine R.lstore X210 hx (hb hby at_385) (L' := #[.val (.int p0), .val (.int p1), .val (.int p2), .val (.int p3), .val (.int p4), .val (.int p5), .val (.int (1 : Int32)), .val (.int i2), .val (.int (2 : Int32)), .val (.int i4), .val (.int i5), .val (.int (0 : Int32)), .val (.double r7), .second, .val (.ref b8), .val (.ref b12), .val (.ref b21), .val (.ref b30), .val (.ref b43), .val (.ref b46), .val (.int i2), .val (.int (2 : Int32)), .val (.int i5), .val (.long j209), .second, .val (.long j211), .second, .unset, .unset, .unset, .unset, .unset]) rfl (pc' := 387) rfl ?_
          refine R.iload X210 hx (hb hby at_387) rfl (pc' := 389) rfl ?_
          refine R.iload X210 hx (hb hby at_389) rfl (pc' := 391) rfl ?_
          refine R.callS X210 hx hZ (y := mY2) hown w_2 w_3 w_4 w_5 (by decide) e210 (rm1 l Z aZ hw [] (2 : Int32) i5 h207 n0 Z207 ) (by decide) (W := 0) (Nat.le_of_eq rfl) (by decide) (by rw [hml]; rfl) (lenOf pd_2 rfl) rfl (hb hby at_391) (pc' := 394) rfl (by decide) (by decide) ?_; intro v212 T212 L212 X212 hQ212
          obtain ⟨rfl, N212q, e212⟩ := hQ212
          have N212 := Fr.app N210 N212q
          show Rn p e below (T212.setTop (mkF m 394 #[.val (.int p0), .val (.int p1), .val (.int p2), .val (.int p3), .val (.int p4), .val (.int p5), .val (.int (1 : Int32)), .val (.int i2), .val (.int (2 : Int32)), .val (.int i4), .val (.int i5), .val (.int (0 : Int32)), .val (.double r7), .second, .val (.ref b8), .val (.ref b12), .val (.ref b21), .val (.ref b30), .val (.ref b43), .val (.ref b46), .val (.int i2), .val (.int (2 : Int32)), .val (.int i5), .val (.long j209), .second, .val (.long j211), .second, .unset, .unset, .unset, .unset, .unset] [(.int (own_rowA (2 : Int32) i5))])) G
          generalize hi213 : (own_rowA (2 : Int32) i5) = i213
          refine R.istore X212 hx (hb hby at_394) (L' := #[.val (.int p0), .val (.int p1), .val (.int p2), .val (.int p3), .val (.int p4), .val (.int p5), .val (.int (1 : Int32)), .val (.int i2), .val (.int (2 : Int32)), .val (.int i4), .val (.int i5), .val (.int (0 : Int32)), .val (.double r7), .second, .val (.ref b8), .val (.ref b12), .val (.ref b21), .val (.ref b30), .val (.ref b43), .val (.ref b46), .val (.int i2), .val (.int (2 : Int32)), .val (.int i5), .val (.long j209), .second, .val (.long j211), .second, .val (.int i213), .unset, .unset, .unset, .unset]) rfl (pc' := 396) rfl ?_
          refine R.iload X212 hx (hb hby at_396) rfl (pc' := 398) rfl ?_
          refine R.iload X212 hx (hb hby at_398) rfl (pc' := 400) rfl ?_
          refine R.callS X212 hx hZ (y := mY3) hown w_6 w_7 w_4 w_8 (by decide) e212 (rm2 l Z aZ hw [] (2 : Int32) i5 h207 n0 Z207 ) (by decide) (W := 0) (Nat.le_of_eq rfl) (by decide) (by rw [hml]; rfl) (lenOf pd_2 rfl) rfl (hb hby at_400) (pc' := 403) rfl (by decide) (by decide) ?_; intro v214 T214 L214 X214 hQ214
          obtain ⟨rfl, N214q, e214⟩ := hQ214
          have N214 := Fr.app N212 N214q
          show Rn p e below (T214.setTop (mkF m 403 #[.val (.int p0), .val (.int p1), .val (.int p2), .val (.int p3), .val (.int p4), .val (.int p5), .val (.int (1 : Int32)), .val (.int i2), .val (.int (2 : Int32)), .val (.int i4), .val (.int i5), .val (.int (0 : Int32)), .val (.double r7), .second, .val (.ref b8), .val (.ref b12), .val (.ref b21), .val (.ref b30), .val (.ref b43), .val (.ref b46), .val (.int i2), .val (.int (2 : Int32)), .val (.int i5), .val (.long j209), .second, .val (.long j211), .second, .val (.int i213), .unset, .unset, .unset, .unset] [(.int (own_rowB (2 : Int32) i5))])) G
          generalize hi215 : (own_rowB (2 : Int32) i5) = i215
          refine R.istore X214 hx (hb hby at_403) (L' := #[.val (.int p0), .val (.int p1), .val (.int p2), .val (.int p3), .val (.int p4), .val (.int p5), .val (.int (1 : Int32)), .val (.int i2), .val (.int (2 : Int32)), .val (.int i4), .val (.int i5), .val (.int (0 : Int32)), .val (.double r7), .second, .val (.ref b8), .val (.ref b12), .val (.ref b21), .val (.ref b30), .val (.ref b43), .val (.ref b46), .val (.int i2), .val (.int (2 : Int32)), .val (.int i5), .val (.long j209), .second, .val (.long j211), .second, .val (.int i213), .val (.int i215), .unset, .unset, .unset]) rfl (pc' := 405) rfl ?_
          refine R.iconst X214 hx (hb hby at_405) (v := (1 : Int32)) (by decide) (pc' := 406) rfl ?_
          refine R.istore X214 hx (hb hby at_406) (L' := #[.val (.int p0), .val (.int p1), .val (.int p2), .val (.int p3), .val (.int p4), .val (.int p5), .val (.int (1 : Int32)), .val (.int i2), .val (.int (2 : Int32)), .val (.int i4), .val (.int i5), .val (.int (0 : Int32)), .val (.double r7), .second, .val (.ref b8), .val (.ref b12), .val (.ref b21), .val (.ref b30), .val (.ref b43), .val (.ref b46), .val (.int i2), .val (.int (2 : Int32)), .val (.int i5), .val (.long j209), .second, .val (.long j211), .second, .val (.int i213), .val (.int i215), .val (.int (1 : Int32)), .unset, .unset]) rfl (pc' := 408) rfl ?_
          refine R.iload X214 hx (hb hby at_408) rfl (pc' := 410) rfl ?_
          refine R.ifYes X214 hx (hb hby at_410) (flt (by decide : ¬ ((0 : Int32) < (0 : Int32)))).2.2.2 (by decide) (pc' := 493) (by decide) ?_
          refine R.iload X214 hx (hb hby at_493) rfl (pc' := 495) rfl ?_
          refine R.iconst X214 hx (hb hby at_495) (v := (1 : Int32)) (by decide) (pc' := 496) rfl ?_
          refine R.icmpYes X214 hx (hb hby at_496) (flt (by decide : ¬ ((1 : Int32) < (0 : Int32)))).2.2.2 (by decide) (pc' := 583) (by decide) ?_
          refine R.iload X214 hx (hb hby at_583) rfl (pc' := 585) rfl ?_
          rw [← hG]
          exact Rn.ret X214 (BodyLoose.notSynchronized Bd) (v := some (.int (1 : Int32))) (fun h => by rw [Bd.returns] at h; cases h) (Q := Q0 Z p0 p1 p2 p3 p4 p5 h0 n0) e214 (fun fs hr => retN X214 hx (t := .boolean) Bd.returns (by simp) (hb hby at_585) hr) ⟨rfl, N214⟩ (by decide) (by decide)
        · refine R.aload X47 hx (hb hby at_313) rfl rfl (pc' := 315) rfl ?_
          refine R.iload X47 hx (hb hby at_315) rfl (pc' := 317) rfl ?_
          refine R.aload X47 hx (hb hby at_317) rfl rfl (pc' := 319) rfl ?_
          refine R.iload X47 hx (hb hby at_319) rfl (pc' := 321) rfl ?_
          refine R.aload X47 hx (hb hby at_321) rfl rfl (pc' := 323) rfl ?_
          refine R.virtual X47 hx hZ (y := mY7) (z := mY7) hown w_38 w_39 (notFace_of_selects (args := #[]) (mvT hZ w_41)) w_41 w_40 w_18 w_42 (by decide) e47 E_b46 (rm8 l Z aZ hw [] b46 (1 : Int32) b30 (1 : Int32) b43 b8 b12 b21 k8 k12 k21 k30 k43 [((2 : Int32), (.int (i2 + (2 : Int32)))), ((1 : Int32), (.int i2)), ((0 : Int32), (.int (0 : Int32)))] [((i2 + (1 : Int32)), (.int (own_rowB (2 : Int32) i5))), (i2, (.int (own_rowA (2 : Int32) i5))), ((1 : Int32), (.int (own_rowB i2 i4))), ((0 : Int32), (.int (own_rowA i2 i4)))] [((3 : Int32), (.double (FP.l2d (own_wAt (3 : Int32) p1 p2)))), ((2 : Int32), (.double (FP.l2d (own_wAt (2 : Int32) p1 p2)))), ((1 : Int32), (.double (FP.l2d (own_wAt (1 : Int32) p1 p2)))), ((0 : Int32), (.double (FP.l2d (own_wAt (0 : Int32) p1 p2))))] [((5 : Int32), (.double (FP.l2d (own_yAt (5 : Int32) p3 p4 p5)))), ((4 : Int32), (.double (FP.l2d (own_yAt (4 : Int32) p3 p4 p5)))), ((3 : Int32), (.double (FP.l2d (own_yAt (3 : Int32) p3 p4 p5)))), ((2 : Int32), (.double (FP.l2d (own_yAt (2 : Int32) p3 p4 p5)))), ((1 : Int32), (.double (FP.l2d (own_yAt (1 : Int32) p3 p4 p5)))), ((0 : Int32), (.double (FP.l2d (own_yAt (0 : Int32) p3 p4 p5))))] [((1 : Int32), (.double r7)), ((0 : Int32), (.double r7))] i2 (i2 + (2 : Int32)) (FP.l2d (own_wAt i2 p1 p2)) (FP.l2d (own_wAt (i2 + (1 : Int32)) p1 p2)) (own_wAt i2 p1 p2).toInt (own_wAt (i2 + (1 : Int32)) p1 p2).toInt (own_rowA (2 : Int32) i5) (own_rowB (2 : Int32) i5) (fun i => FP.l2d (own_yAt i p3 p4 p5)) (fun i => (own_yAt i p3 p4 p5).toInt) ((own_wAt i2 p1 p2).toInt * (own_yAt ((own_rowA (2 : Int32) i5) * (1 : Int32)) p3 p4 p5).toInt + (own_wAt (i2 + (1 : Int32)) p1 p2).toInt * (own_yAt ((own_rowB (2 : Int32) i5) * (1 : Int32)) p3 p4 p5).toInt) ((own_wAt i2 p1 p2).toInt * (own_yAt (((own_rowA (2 : Int32) i5) * (1 : Int32)) + (1 : Int32)) p3 p4 p5).toInt + (own_wAt (i2 + (1 : Int32)) p1 p2).toInt * (own_yAt (((own_rowB (2 : Int32) i5) * (1 : Int32)) + (1 : Int32)) p3 p4 p5).toInt) h47 n0 Z47 F_start_b46 F_rows_b46 F_values_b46 V_b8 V_b12 V_b21 V_b30 V_b43 g_b43 (Ne.symm ne_b43_b46) ne_b8_b43 ne_b12_b43 ne_b21_b43 ne_b30_b43 (by decide) (by rcases h7_ with q | q | q <;> (rw [q]; try rfl)) (by rcases h7_ with q | q | q <;> (rw [q]; try rfl)) (rA7) (by decide) (own_rA h10_) (own_rB) (Or.inr (Or.inr ⟨by rcases h7_ with q | q | q <;> (rw [q]; try rfl), by rcases h7_ with q | q | q <;> (rw [q]; try rfl), by rcases h7_ with q | q | q <;> (rw [q]; try rfl), by rcases h7_ with q | q | q <;> (rw [q]; try rfl), by rcases h7_ with q | q | q <;> (rw [q]; try rfl), rfl, rfl⟩)) (Dy.l2d (by have := own_wb i2 p1 p2; omega)) (Dy.l2d (by have := own_wb (i2 + (1 : Int32)) p1 p2; omega)) (own_wb _ _ _) (own_wb _ _ _) (own_rdy)) (by decide) (W := 0) (Nat.le_of_eq rfl) (by decide) (by rw [hml]; rfl) (lenOf pd_6 rfl) rfl (hb hby at_323) (pc' := 326) rfl (by decide) (by decide) ?_; intro v216 T216 L216 X216 hQ216
          obtain ⟨hj_216, rfl, N216q, Kc216, P216_0, P216_1, P216_2⟩ := hQ216
          have N216 := Fr.app N47 N216q
          generalize e216 : T216.heap = h216 at Kc216 P216_0 P216_1 P216_2
          have K216 : Keep h0 h216 [] := K47.trans Kc216 ((allS (Or.inr sz_b43) all0))
          have Z216 : n0 ≤ h216.size := Nat.le_trans Z47 Kc216.1
          have V_b8 := V_b8.keep Kc216 (ninS ne_b8_b43 nin0)
          have V_b12 := V_b12.keep Kc216 (ninS ne_b12_b43 nin0)
          have V_b21 := V_b21.keep Kc216 (ninS ne_b21_b43 nin0)
          have V_b30 := V_b30.keep Kc216 (ninS ne_b30_b43 nin0)
          have E_b46 := E_b46.keep Kc216
          have F_start_b46 := F_start_b46.keep Kc216 (ninS (Ne.symm ne_b43_b46) nin0)
          have F_rows_b46 := F_rows_b46.keep Kc216 (ninS (Ne.symm ne_b43_b46) nin0)
          have F_values_b46 := F_values_b46.keep Kc216 (ninS (Ne.symm ne_b43_b46) nin0)
          have V_b43 : Arh Z h216 b43 k43 .double (2 : Int32) hj_216 [] (.double (0 : UInt64)) := P216_0
          have V_b43 : Arh Z h216 b43 k43 .double (2 : Int32) hj_216 [] (.double (0 : UInt64)) := V_b43
          have c0_216 := P216_1
          have c1_216 := P216_2
          refine R.iload X216 hx (hb hby at_326) rfl (pc' := 328) rfl ?_
          refine R.ifYes X216 hx (hb hby at_328) (feq (by decide : ¬ ((1 : Int32) = (0 : Int32)))).2 (by decide) (pc' := 335) (by decide) ?_
          refine R.iload X216 hx (hb hby at_335) rfl (pc' := 337) rfl ?_
          refine R.istore X216 hx (hb hby at_337) (L' := #[.val (.int p0), .val (.int p1), .val (.int p2), .val (.int p3), .val (.int p4), .val (.int p5), .val (.int (1 : Int32)), .val (.int i2), .val (.int (2 : Int32)), .val (.int i4), .val (.int i5), .val (.int (1 : Int32)), .val (.double r7), .second, .val (.ref b8), .val (.ref b12), .val (.ref b21), .val (.ref b30), .val (.ref b43), .val (.ref b46), .val (.int i2), .unset, .unset, .unset, .unset, .unset, .unset, .unset, .unset, .unset, .unset, .unset]) rfl (pc' := 339) rfl ?_
          refine R.iload X216 hx (hb hby at_339) rfl (pc' := 341) rfl ?_
          refine R.ifYes X216 hx (hb hby at_341) (feq (by decide : ¬ ((1 : Int32) = (0 : Int32)))).2 (by decide) (pc' := 349) (by decide) ?_
          refine R.iload X216 hx (hb hby at_349) rfl (pc' := 351) rfl ?_
          refine R.istore X216 hx (hb hby at_351) (L' := #[.val (.int p0), .val (.int p1), .val (.int p2), .val (.int p3), .val (.int p4), .val (.int p5), .val (.int (1 : Int32)), .val (.int i2), .val (.int (2 : Int32)), .val (.int i4), .val (.int i5), .val (.int (1 : Int32)), .val (.double r7), .second, .val (.ref b8), .val (.ref b12), .val (.ref b21), .val (.ref b30), .val (.ref b43), .val (.ref b46), .val (.int i2), .val (.int (2 : Int32)), .unset, .unset, .unset, .unset, .unset, .unset, .unset, .unset, .unset, .unset]) rfl (pc' := 353) rfl ?_
          refine R.iload X216 hx (hb hby at_353) rfl (pc' := 355) rfl ?_
          refine R.ifYes X216 hx (hb hby at_355) (feq (by decide : ¬ ((1 : Int32) = (0 : Int32)))).2 (by decide) (pc' := 363) (by decide) ?_
          refine R.iload X216 hx (hb hby at_363) rfl (pc' := 365) rfl ?_
          refine R.istore X216 hx (hb hby at_365) (L' := #[.val (.int p0), .val (.int p1), .val (.int p2), .val (.int p3), .val (.int p4), .val (.int p5), .val (.int (1 : Int32)), .val (.int i2), .val (.int (2 : Int32)), .val (.int i4), .val (.int i5), .val (.int (1 : Int32)), .val (.double r7), .second, .val (.ref b8), .val (.ref b12), .val (.ref b21), .val (.ref b30), .val (.ref b43), .val (.ref b46), .val (.int i2), .val (.int (2 : Int32)), .val (.int i5), .unset, .unset, .unset, .unset, .unset, .unset, .unset, .unset, .unset]) rfl (pc' := 367) rfl ?_
          refine R.iload X216 hx (hb hby at_367) rfl (pc' := 369) rfl ?_
          refine R.iloadN X216 hx (hb hby at_369) rfl (pc' := 370) rfl ?_
          refine R.iloadN X216 hx (hb hby at_370) rfl (pc' := 371) rfl ?_
          refine R.callS X216 hx hZ (y := mY4) hown w_10 w_11 w_4 w_12 (by decide) e216 (rm3 l Z aZ hw [] i2 p1 p2 h216 n0 Z216 ) (by decide) (W := 0) (Nat.le_of_eq rfl) (by decide) (by rw [hml]; rfl) (lenOf pd_3 rfl) rfl (hb hby at_371) (pc' := 374) rfl (by decide) (by decide) ?_; intro v217 T217 L217 X217 hQ217
          obtain ⟨rfl, N217q, e217⟩ := hQ217
          have N217 := Fr.app N216 N217q
          show Rn p e below (T217.setTop (mkF m 374 #[.val (.int p0), .val (.int p1), .val (.int p2), .val (.int p3), .val (.int p4), .val (.int p5), .val (.int (1 : Int32)), .val (.int i2), .val (.int (2 : Int32)), .val (.int i4), .val (.int i5), .val (.int (1 : Int32)), .val (.double r7), .second, .val (.ref b8), .val (.ref b12), .val (.ref b21), .val (.ref b30), .val (.ref b43), .val (.ref b46), .val (.int i2), .val (.int (2 : Int32)), .val (.int i5), .unset, .unset, .unset, .unset, .unset, .unset, .unset, .unset, .unset] [(.long (own_wAt i2 p1 p2))])) G
          generalize hj218 : (own_wAt i2 p1 p2) = j218
          refine R.lstore X217 hx (hb hby at_374) (L' := #[.val (.int p0), .val (.int p1), .val (.int p2), .val (.int p3), .val (.int p4), .val (.int p5), .val (.int (1 : Int32)), .val (.int i2), .val (.int (2 : Int32)), .val (.int i4), .val (.int i5), .val (.int (1 : Int32)), .val (.double r7), .second, .val (.ref b8), .val (.ref b12), .val (.ref b21), .val (.ref b30), .val (.ref b43), .val (.ref b46), .val (.int i2), .val (.int (2 : Int32)), .val (.int i5), .val (.long j218), .second, .unset, .unset, .unset, .unset, .unset, .unset, .unset]) rfl (pc' := 376) rfl ?_
          refine R.iload X217 hx (hb hby at_376) rfl (pc' := 378) rfl ?_
          refine R.iconst X217 hx (hb hby at_378) (v := (1 : Int32)) (by decide) (pc' := 379) rfl ?_
          refine R.iadd X217 hx (hb hby at_379) rfl (pc' := 380) rfl ?_
          refine R.iloadN X217 hx (hb hby at_380) rfl (pc' := 381) rfl ?_
          refine R.iloadN X217 hx (hb hby at_381) rfl (pc' := 382) rfl ?_
          refine R.callS X217 hx hZ (y := mY4) hown w_10 w_11 w_4 w_12 (by decide) e217 (rm3 l Z aZ hw [] (i2 + (1 : Int32)) p1 p2 h216 n0 Z216 ) (by decide) (W := 0) (Nat.le_of_eq rfl) (by decide) (by rw [hml]; rfl) (lenOf pd_3 rfl) rfl (hb hby at_382) (pc' := 385) rfl (by decide) (by decide) ?_; intro v219 T219 L219 X219 hQ219
          obtain ⟨rfl, N219q, e219⟩ := hQ219
          have N219 := Fr.app N217 N219q
          show Rn p e below (T219.setTop (mkF m 385 #[.val (.int p0), .val (.int p1), .val (.int p2), .val (.int p3), .val (.int p4), .val (.int p5), .val (.int (1 : Int32)), .val (.int i2), .val (.int (2 : Int32)), .val (.int i4), .val (.int i5), .val (.int (1 : Int32)), .val (.double r7), .second, .val (.ref b8), .val (.ref b12), .val (.ref b21), .val (.ref b30), .val (.ref b43), .val (.ref b46), .val (.int i2), .val (.int (2 : Int32)), .val (.int i5), .val (.long j218), .second, .unset, .unset, .unset, .unset, .unset, .unset, .unset] [(.long (own_wAt (i2 + (1 : Int32)) p1 p2))])) G
          generalize hj220 : (own_wAt (i2 + (1 : Int32)) p1 p2) = j220
          refine R.lstore X219 hx (hb hby at_385) (L' := #[.val (.int p0), .val (.int p1), .val (.int p2), .val (.int p3), .val (.int p4), .val (.int p5), .val (.int (1 : Int32)), .val (.int i2), .val (.int (2 : Int32)), .val (.int i4), .val (.int i5), .val (.int (1 : Int32)), .val (.double r7), .second, .val (.ref b8), .val (.ref b12), .val (.ref b21), .val (.ref b30), .val (.ref b43), .val (.ref b46), .val (.int i2), .val (.int (2 : Int32)), .val (.int i5), .val (.long j218), .second, .val (.long j220), .second, .unset, .unset, .unset, .unset, .unset]) rfl (pc' := 387) rfl ?_
          refine R.iload X219 hx (hb hby at_387) rfl (pc' := 389) rfl ?_
          refine R.iload X219 hx (hb hby at_389) rfl (pc' := 391) rfl ?_
          refine R.callS X219 hx hZ (y := mY2) hown w_2 w_3 w_4 w_5 (by decide) e219 (rm1 l Z aZ hw [] (2 : Int32) i5 h216 n0 Z216 ) (by decide) (W := 0) (Nat.le_of_eq rfl) (by decide) (by rw [hml]; rfl) (lenOf pd_2 rfl) rfl (hb hby at_391) (pc' := 394) rfl (by decide) (by decide) ?_; intro v221 T221 L221 X221 hQ221
          obtain ⟨rfl, N221q, e221⟩ := hQ221
          have N221 := Fr.app N219 N221q
          show Rn p e below (T221.setTop (mkF m 394 #[.val (.int p0), .val (.int p1), .val (.int p2), .val (.int p3), .val (.int p4), .val (.int p5), .val (.int (1 : Int32)), .val (.int i2), .val (.int (2 : Int32)), .val (.int i4), .val (.int i5), .val (.int (1 : Int32)), .val (.double r7), .second, .val (.ref b8), .val (.ref b12), .val (.ref b21), .val (.ref b30), .val (.ref b43), .val (.ref b46), .val (.int i2), .val (.int (2 : Int32)), .val (.int i5), .val (.long j218), .second, .val (.long j220), .second, .unset, .unset, .unset, .unset, .unset] [(.int (own_rowA (2 : Int32) i5))])) G
          generalize hi222 : (own_rowA (2 : Int32) i5) = i222
          refine R.istore X221 hx (hb hby at_394) (L' := #[.val (.int p0), .val (.int p1), .val (.int p2), .val (.int p3), .val (.int p4), .val (.int p5), .val (.int (1 : Int32)), .val (.int i2), .val (.int (2 : Int32)), .val (.int i4), .val (.int i5), .val (.int (1 : Int32)), .val (.double r7), .second, .val (.ref b8), .val (.ref b12), .val (.ref b21), .val (.ref b30), .val (.ref b43), .val (.ref b46), .val (.int i2), .val (.int (2 : Int32)), .val (.int i5), .val (.long j218), .second, .val (.long j220), .second, .val (.int i222), .unset, .unset, .unset, .unset]) rfl (pc' := 396) rfl ?_
          refine R.iload X221 hx (hb hby at_396) rfl (pc' := 398) rfl ?_
          refine R.iload X221 hx (hb hby at_398) rfl (pc' := 400) rfl ?_
          refine R.callS X221 hx hZ (y := mY3) hown w_6 w_7 w_4 w_8 (by decide) e221 (rm2 l Z aZ hw [] (2 : Int32) i5 h216 n0 Z216 ) (by decide) (W := 0) (Nat.le_of_eq rfl) (by decide) (by rw [hml]; rfl) (lenOf pd_2 rfl) rfl (hb hby at_400) (pc' := 403) rfl (by decide) (by decide) ?_; intro v223 T223 L223 X223 hQ223
          obtain ⟨rfl, N223q, e223⟩ := hQ223
          have N223 := Fr.app N221 N223q
          show Rn p e below (T223.setTop (mkF m 403 #[.val (.int p0), .val (.int p1), .val (.int p2), .val (.int p3), .val (.int p4), .val (.int p5), .val (.int (1 : Int32)), .val (.int i2), .val (.int (2 : Int32)), .val (.int i4), .val (.int i5), .val (.int (1 : Int32)), .val (.double r7), .second, .val (.ref b8), .val (.ref b12), .val (.ref b21), .val (.ref b30), .val (.ref b43), .val (.ref b46), .val (.int i2), .val (.int (2 : Int32)), .val (.int i5), .val (.long j218), .second, .val (.long j220), .second, .val (.int i222), .unset, .unset, .unset, .unset] [(.int (own_rowB (2 : Int32) i5))])) G
          generalize hi224 : (own_rowB (2 : Int32) i5) = i224
          refine R.istore X223 hx (hb hby at_403) (L' := #[.val (.int p0), .val (.int p1), .val (.int p2), .val (.int p3), .val (.int p4), .val (.int p5), .val (.int (1 : Int32)), .val (.int i2), .val (.int (2 : Int32)), .val (.int i4), .val (.int i5), .val (.int (1 : Int32)), .val (.double r7), .second, .val (.ref b8), .val (.ref b12), .val (.ref b21), .val (.ref b30), .val (.ref b43), .val (.ref b46), .val (.int i2), .val (.int (2 : Int32)), .val (.int i5), .val (.long j218), .second, .val (.long j220), .second, .val (.int i222), .val (.int i224), .unset, .unset, .unset]) rfl (pc' := 405) rfl ?_
          refine R.iconst X223 hx (hb hby at_405) (v := (1 : Int32)) (by decide) (pc' := 406) rfl ?_
          refine R.istore X223 hx (hb hby at_406) (L' := #[.val (.int p0), .val (.int p1), .val (.int p2), .val (.int p3), .val (.int p4), .val (.int p5), .val (.int (1 : Int32)), .val (.int i2), .val (.int (2 : Int32)), .val (.int i4), .val (.int i5), .val (.int (1 : Int32)), .val (.double r7), .second, .val (.ref b8), .val (.ref b12), .val (.ref b21), .val (.ref b30), .val (.ref b43), .val (.ref b46), .val (.int i2), .val (.int (2 : Int32)), .val (.int i5), .val (.long j218), .second, .val (.long j220), .second, .val (.int i222), .val (.int i224), .val (.int (1 : Int32)), .unset, .unset]) rfl (pc' := 408) rfl ?_
          refine R.iload X223 hx (hb hby at_408) rfl (pc' := 410) rfl ?_
          refine R.ifNo X223 hx (hb hby at_410) (tlt (by decide : (0 : Int32) < (1 : Int32))).2.2.2 (pc' := 413) rfl ?_
          refine R.lconst X223 hx (hb hby at_413) (v := (0 : Int64)) (by decide) (pc' := 414) rfl ?_
          refine R.lstore X223 hx (hb hby at_414) (L' := #[.val (.int p0), .val (.int p1), .val (.int p2), .val (.int p3), .val (.int p4), .val (.int p5), .val (.int (1 : Int32)), .val (.int i2), .val (.int (2 : Int32)), .val (.int i4), .val (.int i5), .val (.int (1 : Int32)), .val (.double r7), .second, .val (.ref b8), .val (.ref b12), .val (.ref b21), .val (.ref b30), .val (.ref b43), .val (.ref b46), .val (.int i2), .val (.int (2 : Int32)), .val (.int i5), .val (.long j218), .second, .val (.long j220), .second, .val (.int i222), .val (.int i224), .val (.int (1 : Int32)), .val (.long (0 : Int64)), .second]) rfl (pc' := 416) rfl ?_
          refine R.iload X223 hx (hb hby at_416) rfl (pc' := 418) rfl ?_
          refine R.iconst X223 hx (hb hby at_418) (v := (1 : Int32)) (by decide) (pc' := 419) rfl ?_
          refine R.icmpNo X223 hx (hb hby at_419) (flt (by decide : ¬ ((2 : Int32) < (1 : Int32)))).1 (pc' := 422) rfl ?_
          refine R.lload X223 hx (hb hby at_422) rfl (pc' := 424) rfl ?_
          refine R.lload X223 hx (hb hby at_424) rfl (pc' := 426) rfl ?_
          refine R.iload X223 hx (hb hby at_426) rfl (pc' := 428) rfl ?_
          refine R.iload X223 hx (hb hby at_428) rfl (pc' := 430) rfl ?_
          refine R.imul X223 hx (hb hby at_430) rfl (pc' := 431) rfl ?_
          refine R.iloadN X223 hx (hb hby at_431) rfl (pc' := 432) rfl ?_
          refine R.iload X223 hx (hb hby at_432) rfl (pc' := 434) rfl ?_
          refine R.iload X223 hx (hb hby at_434) rfl (pc' := 436) rfl ?_
          refine R.callS X223 hx hZ (y := mY5) hown w_13 w_14 w_4 w_15 (by decide) e223 (rm4 l Z aZ hw [] (i222 * (1 : Int32)) p3 p4 p5 h216 n0 Z216 ) (by decide) (W := 4) (Nat.le_of_eq rfl) (by decide) (by rw [hml]; rfl) (lenOf pd_4 rfl) rfl (hb hby at_436) (pc' := 439) rfl (by decide) (by decide) ?_; intro v225 T225 L225 X225 hQ225
          obtain ⟨rfl, N225q, e225⟩ := hQ225
          have N225 := Fr.app N223 N225q
          refine R.lmul X225 hx (hb hby at_439) rfl (pc' := 440) rfl ?_
          refine R.ladd X225 hx (hb hby at_440) rfl (pc' := 441) rfl ?_
          show Rn p e below (T225.setTop (mkF m 441 #[.val (.int p0), .val (.int p1), .val (.int p2), .val (.int p3), .val (.int p4), .val (.int p5), .val (.int (1 : Int32)), .val (.int i2), .val (.int (2 : Int32)), .val (.int i4), .val (.int i5), .val (.int (1 : Int32)), .val (.double r7), .second, .val (.ref b8), .val (.ref b12), .val (.ref b21), .val (.ref b30), .val (.ref b43), .val (.ref b46), .val (.int i2), .val (.int (2 : Int32)), .val (.int i5), .val (.long j218), .second, .val (.long j220), .second, .val (.int i222), .val (.int i224), .val (.int (1 : Int32)), .val (.long (0 : Int64)), .second] [(.long ((0 : Int64) + (j218 * (own_yAt (i222 * (1 : Int32)) p3 p4 p5))))])) G
          generalize hj226 : ((0 : Int64) + (j218 * (own_yAt (i222 * (1 : Int32)) p3 p4 p5))) = j226
          refine R.lstore X225 hx (hb hby at_441) (L' := #[.val (.int p0), .val (.int p1), .val (.int p2), .val (.int p3), .val (.int p4), .val (.int p5), .val (.int (1 : Int32)), .val (.int i2), .val (.int (2 : Int32)), .val (.int i4), .val (.int i5), .val (.int (1 : Int32)), .val (.double r7), .second, .val (.ref b8), .val (.ref b12), .val (.ref b21), .val (.ref b30), .val (.ref b43), .val (.ref b46), .val (.int i2), .val (.int (2 : Int32)), .val (.int i5), .val (.long j218), .second, .val (.long j220), .second, .val (.int i222), .val (.int i224), .val (.int (1 : Int32)), .val (.long j226), .second]) rfl (pc' := 443) rfl ?_
          have tr0_1 := own_mulY (by rw [← hj218]; exact own_wb _ _ _) (own_yb _ _ _ _) hj226
          rw [← hj218, ← hi222] at tr0_1
          refine R.iload X225 hx (hb hby at_443) rfl (pc' := 445) rfl ?_
          refine R.iconst X225 hx (hb hby at_445) (v := (2 : Int32)) (by decide) (pc' := 446) rfl ?_
          refine R.icmpNo X225 hx (hb hby at_446) (flt (by decide : ¬ ((2 : Int32) < (2 : Int32)))).1 (pc' := 449) rfl ?_
          refine R.lload X225 hx (hb hby at_449) rfl (pc' := 451) rfl ?_
          refine R.lload X225 hx (hb hby at_451) rfl (pc' := 453) rfl ?_
          refine R.iload X225 hx (hb hby at_453) rfl (pc' := 455) rfl ?_
          refine R.iload X225 hx (hb hby at_455) rfl (pc' := 457) rfl ?_
          refine R.imul X225 hx (hb hby at_457) rfl (pc' := 458) rfl ?_
          refine R.iloadN X225 hx (hb hby at_458) rfl (pc' := 459) rfl ?_
          refine R.iload X225 hx (hb hby at_459) rfl (pc' := 461) rfl ?_
          refine R.iload X225 hx (hb hby at_461) rfl (pc' := 463) rfl ?_
          refine R.callS X225 hx hZ (y := mY5) hown w_13 w_14 w_4 w_15 (by decide) e225 (rm4 l Z aZ hw [] (i224 * (1 : Int32)) p3 p4 p5 h216 n0 Z216 ) (by decide) (W := 4) (Nat.le_of_eq rfl) (by decide) (by rw [hml]; rfl) (lenOf pd_4 rfl) rfl (hb hby at_463) (pc' := 466) rfl (by decide) (by decide) ?_; intro v227 T227 L227 X227 hQ227
          obtain ⟨rfl, N227q, e227⟩ := hQ227
          have N227 := Fr.app N225 N227q
          refine R.lmul X227 hx (hb hby at_466) rfl (pc' := 467) rfl ?_
          refine R.ladd X227 hx (hb hby at_467) rfl (pc' := 468) rfl ?_
          show Rn p e below (T227.setTop (mkF m 468 #[.val (.int p0), .val (.int p1), .val (.int p2), .val (.int p3), .val (.int p4), .val (.int p5), .val (.int (1 : Int32)), .val (.int i2), .val (.int (2 : Int32)), .val (.int i4), .val (.int i5), .val (.int (1 : Int32)), .val (.double r7), .second, .val (.ref b8), .val (.ref b12), .val (.ref b21), .val (.ref b30), .val (.ref b43), .val (.ref b46), .val (.int i2), .val (.int (2 : Int32)), .val (.int i5), .val (.long j218), .second, .val (.long j220), .second, .val (.int i222), .val (.int i224), .val (.int (1 : Int32)), .val (.long j226), .second] [(.long (j226 + (j220 * (own_yAt (i224 * (1 : Int32)) p3 p4 p5))))])) G
          generalize hj228 : (j226 + (j220 * (own_yAt (i224 * (1 : Int32)) p3 p4 p5))) = j228
          refine R.lstore X227 hx (hb hby at_468) (L' := #[.val (.int p0), .val (.int p1), .val (.int p2), .val (.int p3), .val (.int p4), .val (.int p5), .val (.int (1 : Int32)), .val (.int i2), .val (.int (2 : Int32)), .val (.int i4), .val (.int i5), .val (.int (1 : Int32)), .val (.double r7), .second, .val (.ref b8), .val (.ref b12), .val (.ref b21), .val (.ref b30), .val (.ref b43), .val (.ref b46), .val (.int i2), .val (.int (2 : Int32)), .val (.int i5), .val (.long j218), .second, .val (.long j220), .second, .val (.int i222), .val (.int i224), .val (.int (1 : Int32)), .val (.long j228), .second]) rfl (pc' := 470) rfl ?_
          have tr0_2 := own_mulY2 tr0_1 (by have q := own_pb (own_wb i2 p1 p2) (own_yb ((own_rowA (2 : Int32) i5) * (1 : Int32)) p3 p4 p5); omega) (by rw [← hj220]; exact own_wb _ _ _) (own_yb _ _ _ _) hj228
          rw [← hj220, ← hi224] at tr0_2
          obtain ⟨xv0, hxv0, Dx0⟩ := c0_216 (by decide)
          refine R.iload X227 hx (hb hby at_470) rfl (pc' := 472) rfl ?_
          refine R.ifNo X227 hx (hb hby at_472) (feq (by decide : ¬ ((1 : Int32) = (0 : Int32)))).1 (pc' := 475) rfl ?_
          refine R.aload X227 hx (hb hby at_475) rfl rfl (pc' := 477) rfl ?_
          refine R.iconst X227 hx (hb hby at_477) (v := (0 : Int32)) (by decide) (pc' := 478) rfl ?_
          refine R.daload X227 hx hZ e227 V_b43 (⟨by decide, by decide⟩ : ¬ (0 : Int32) < 0 ∧ (0 : Int32) < (2 : Int32)) (v := (.double xv0)) (hxv0) (hb hby at_478) (pc' := 479) rfl ?_
          refine R.lload X227 hx (hb hby at_479) rfl (pc' := 481) rfl ?_
          refine R.l2d X227 hx (hb hby at_481) (pc' := 482) rfl ?_
          refine R.dcmp X227 hx (hb hby at_482) (Dx0.cmp ((Dy.l2d (by rw [tr0_2]; have q1 := own_pb (own_wb i2 p1 p2) (own_yb ((own_rowA (2 : Int32) i5) * (1 : Int32)) p3 p4 p5); have q2 := own_pb (own_wb (i2 + (1 : Int32)) p1 p2) (own_yb ((own_rowB (2 : Int32) i5) * (1 : Int32)) p3 p4 p5); first | exact own_nab2 q1 q2 (by decide) | exact own_nab1 q1 (by decide) | omega)).cast tr0_2 rfl) _ : cmpValue (FP.dcmp xv0 (FP.l2d j228)) .l = (own_ci ((own_wAt i2 p1 p2).toInt * (own_yAt ((own_rowA (2 : Int32) i5) * (1 : Int32)) p3 p4 p5).toInt + (own_wAt (i2 + (1 : Int32)) p1 p2).toInt * (own_yAt ((own_rowB (2 : Int32) i5) * (1 : Int32)) p3 p4 p5).toInt) ((own_wAt i2 p1 p2).toInt * (own_yAt ((own_rowA (2 : Int32) i5) * (1 : Int32)) p3 p4 p5).toInt + (own_wAt (i2 + (1 : Int32)) p1 p2).toInt * (own_yAt ((own_rowB (2 : Int32) i5) * (1 : Int32)) p3 p4 p5).toInt))) (pc' := 483) rfl ?_
          refine R.ifNo X227 hx (hb hby at_483) (teq (own_ci_eq.mpr rfl : (own_ci ((own_wAt i2 p1 p2).toInt * (own_yAt ((own_rowA (2 : Int32) i5) * (1 : Int32)) p3 p4 p5).toInt + (own_wAt (i2 + (1 : Int32)) p1 p2).toInt * (own_yAt ((own_rowB (2 : Int32) i5) * (1 : Int32)) p3 p4 p5).toInt) ((own_wAt i2 p1 p2).toInt * (own_yAt ((own_rowA (2 : Int32) i5) * (1 : Int32)) p3 p4 p5).toInt + (own_wAt (i2 + (1 : Int32)) p1 p2).toInt * (own_yAt ((own_rowB (2 : Int32) i5) * (1 : Int32)) p3 p4 p5).toInt)) = (0 : Int32))).2 (pc' := 486) rfl ?_
          refine R.iconst X227 hx (hb hby at_486) (v := (1 : Int32)) (by decide) (pc' := 487) rfl ?_
          refine R.goto X227 hx (hb hby at_487) (by decide) (pc' := 491) (by decide) ?_
          refine R.istore X227 hx (hb hby at_491) (L' := #[.val (.int p0), .val (.int p1), .val (.int p2), .val (.int p3), .val (.int p4), .val (.int p5), .val (.int (1 : Int32)), .val (.int i2), .val (.int (2 : Int32)), .val (.int i4), .val (.int i5), .val (.int (1 : Int32)), .val (.double r7), .second, .val (.ref b8), .val (.ref b12), .val (.ref b21), .val (.ref b30), .val (.ref b43), .val (.ref b46), .val (.int i2), .val (.int (2 : Int32)), .val (.int i5), .val (.long j218), .second, .val (.long j220), .second, .val (.int i222), .val (.int i224), .val (.int (1 : Int32)), .val (.long j228), .second]) rfl (pc' := 493) rfl ?_
          refine R.iload X227 hx (hb hby at_493) rfl (pc' := 495) rfl ?_
          refine R.iconst X227 hx (hb hby at_495) (v := (1 : Int32)) (by decide) (pc' := 496) rfl ?_
          refine R.icmpYes X227 hx (hb hby at_496) (flt (by decide : ¬ ((1 : Int32) < (1 : Int32)))).2.2.2 (by decide) (pc' := 583) (by decide) ?_
          refine R.iload X227 hx (hb hby at_583) rfl (pc' := 585) rfl ?_
          rw [← hG]
          exact Rn.ret X227 (BodyLoose.notSynchronized Bd) (v := some (.int (1 : Int32))) (fun h => by rw [Bd.returns] at h; cases h) (Q := Q0 Z p0 p1 p2 p3 p4 p5 h0 n0) e227 (fun fs hr => retN X227 hx (t := .boolean) Bd.returns (by simp) (hb hby at_585) hr) ⟨rfl, N227⟩ (by decide) (by decide)
        · refine R.aload X47 hx (hb hby at_313) rfl rfl (pc' := 315) rfl ?_
          refine R.iload X47 hx (hb hby at_315) rfl (pc' := 317) rfl ?_
          refine R.aload X47 hx (hb hby at_317) rfl rfl (pc' := 319) rfl ?_
          refine R.iload X47 hx (hb hby at_319) rfl (pc' := 321) rfl ?_
          refine R.aload X47 hx (hb hby at_321) rfl rfl (pc' := 323) rfl ?_
          refine R.virtual X47 hx hZ (y := mY7) (z := mY7) hown w_38 w_39 (notFace_of_selects (args := #[]) (mvT hZ w_41)) w_41 w_40 w_18 w_42 (by decide) e47 E_b46 (rm8 l Z aZ hw [] b46 (1 : Int32) b30 (2 : Int32) b43 b8 b12 b21 k8 k12 k21 k30 k43 [((2 : Int32), (.int (i2 + (2 : Int32)))), ((1 : Int32), (.int i2)), ((0 : Int32), (.int (0 : Int32)))] [((i2 + (1 : Int32)), (.int (own_rowB (2 : Int32) i5))), (i2, (.int (own_rowA (2 : Int32) i5))), ((1 : Int32), (.int (own_rowB i2 i4))), ((0 : Int32), (.int (own_rowA i2 i4)))] [((3 : Int32), (.double (FP.l2d (own_wAt (3 : Int32) p1 p2)))), ((2 : Int32), (.double (FP.l2d (own_wAt (2 : Int32) p1 p2)))), ((1 : Int32), (.double (FP.l2d (own_wAt (1 : Int32) p1 p2)))), ((0 : Int32), (.double (FP.l2d (own_wAt (0 : Int32) p1 p2))))] [((5 : Int32), (.double (FP.l2d (own_yAt (5 : Int32) p3 p4 p5)))), ((4 : Int32), (.double (FP.l2d (own_yAt (4 : Int32) p3 p4 p5)))), ((3 : Int32), (.double (FP.l2d (own_yAt (3 : Int32) p3 p4 p5)))), ((2 : Int32), (.double (FP.l2d (own_yAt (2 : Int32) p3 p4 p5)))), ((1 : Int32), (.double (FP.l2d (own_yAt (1 : Int32) p3 p4 p5)))), ((0 : Int32), (.double (FP.l2d (own_yAt (0 : Int32) p3 p4 p5))))] [((1 : Int32), (.double r7)), ((0 : Int32), (.double r7))] i2 (i2 + (2 : Int32)) (FP.l2d (own_wAt i2 p1 p2)) (FP.l2d (own_wAt (i2 + (1 : Int32)) p1 p2)) (own_wAt i2 p1 p2).toInt (own_wAt (i2 + (1 : Int32)) p1 p2).toInt (own_rowA (2 : Int32) i5) (own_rowB (2 : Int32) i5) (fun i => FP.l2d (own_yAt i p3 p4 p5)) (fun i => (own_yAt i p3 p4 p5).toInt) ((own_wAt i2 p1 p2).toInt * (own_yAt ((own_rowA (2 : Int32) i5) * (2 : Int32)) p3 p4 p5).toInt + (own_wAt (i2 + (1 : Int32)) p1 p2).toInt * (own_yAt ((own_rowB (2 : Int32) i5) * (2 : Int32)) p3 p4 p5).toInt) ((own_wAt i2 p1 p2).toInt * (own_yAt (((own_rowA (2 : Int32) i5) * (2 : Int32)) + (1 : Int32)) p3 p4 p5).toInt + (own_wAt (i2 + (1 : Int32)) p1 p2).toInt * (own_yAt (((own_rowB (2 : Int32) i5) * (2 : Int32)) + (1 : Int32)) p3 p4 p5).toInt) h47 n0 Z47 F_start_b46 F_rows_b46 F_values_b46 V_b8 V_b12 V_b21 V_b30 V_b43 g_b43 (Ne.symm ne_b43_b46) ne_b8_b43 ne_b12_b43 ne_b21_b43 ne_b30_b43 (by decide) (by rcases h7_ with q | q | q <;> (rw [q]; try rfl)) (by rcases h7_ with q | q | q <;> (rw [q]; try rfl)) (rA7) (by decide) (own_rA h10_) (own_rB) (Or.inr (Or.inr ⟨by rcases h7_ with q | q | q <;> (rw [q]; try rfl), by rcases h7_ with q | q | q <;> (rw [q]; try rfl), by rcases h7_ with q | q | q <;> (rw [q]; try rfl), by rcases h7_ with q | q | q <;> (rw [q]; try rfl), by rcases h7_ with q | q | q <;> (rw [q]; try rfl), rfl, rfl⟩)) (Dy.l2d (by have := own_wb i2 p1 p2; omega)) (Dy.l2d (by have := own_wb (i2 + (1 : Int32)) p1 p2; omega)) (own_wb _ _ _) (own_wb _ _ _) (own_rdy)) (by decide) (W := 0) (Nat.le_of_eq rfl) (by decide) (by rw [hml]; rfl) (lenOf pd_6 rfl) rfl (hb hby at_323) (pc' := 326) rfl (by decide) (by decide) ?_; intro v229 T229 L229 X229 hQ229
          obtain ⟨hj_229, rfl, N229q, Kc229, P229_0, P229_1, P229_2⟩ := hQ229
          have N229 := Fr.app N47 N229q
          generalize e229 : T229.heap = h229 at Kc229 P229_0 P229_1 P229_2
          have K229 : Keep h0 h229 [] := K47.trans Kc229 ((allS (Or.inr sz_b43) all0))
          have Z229 : n0 ≤ h229.size := Nat.le_trans Z47 Kc229.1
          have V_b8 := V_b8.keep Kc229 (ninS ne_b8_b43 nin0)
          have V_b12 := V_b12.keep Kc229 (ninS ne_b12_b43 nin0)
          have V_b21 := V_b21.keep Kc229 (ninS ne_b21_b43 nin0)
          have V_b30 := V_b30.keep Kc229 (ninS ne_b30_b43 nin0)
          have E_b46 := E_b46.keep Kc229
          have F_start_b46 := F_start_b46.keep Kc229 (ninS (Ne.symm ne_b43_b46) nin0)
          have F_rows_b46 := F_rows_b46.keep Kc229 (ninS (Ne.symm ne_b43_b46) nin0)
          have F_values_b46 := F_values_b46.keep Kc229 (ninS (Ne.symm ne_b43_b46) nin0)
          have V_b43 : Arh Z h229 b43 k43 .double (2 : Int32) hj_229 [] (.double (0 : UInt64)) := P229_0
          have V_b43 : Arh Z h229 b43 k43 .double (2 : Int32) hj_229 [] (.double (0 : UInt64)) := V_b43
          have c0_229 := P229_1
          have c1_229 := P229_2
          refine R.iload X229 hx (hb hby at_326) rfl (pc' := 328) rfl ?_
          refine R.ifYes X229 hx (hb hby at_328) (feq (by decide : ¬ ((1 : Int32) = (0 : Int32)))).2 (by decide) (pc' := 335) (by decide) ?_
          refine R.iload X229 hx (hb hby at_335) rfl (pc' := 337) rfl ?_
          refine R.istore X229 hx (hb hby at_337) (L' := #[.val (.int p0), .val (.int p1), .val (.int p2), .val (.int p3), .val (.int p4), .val (.int p5), .val (.int (1 : Int32)), .val (.int i2), .val (.int (2 : Int32)), .val (.int i4), .val (.int i5), .val (.int (2 : Int32)), .val (.double r7), .second, .val (.ref b8), .val (.ref b12), .val (.ref b21), .val (.ref b30), .val (.ref b43), .val (.ref b46), .val (.int i2), .unset, .unset, .unset, .unset, .unset, .unset, .unset, .unset, .unset, .unset, .unset]) rfl (pc' := 339) rfl ?_
          refine R.iload X229 hx (hb hby at_339) rfl (pc' := 341) rfl ?_
          refine R.ifYes X229 hx (hb hby at_341) (feq (by decide : ¬ ((1 : Int32) = (0 : Int32)))).2 (by decide) (pc' := 349) (by decide) ?_
          refine R.iload X229 hx (hb hby at_349) rfl (pc' := 351) rfl ?_
          refine R.istore X229 hx (hb hby at_351) (L' := #[.val (.int p0), .val (.int p1), .val (.int p2), .val (.int p3), .val (.int p4), .val (.int p5), .val (.int (1 : Int32)), .val (.int i2), .val (.int (2 : Int32)), .val (.int i4), .val (.int i5), .val (.int (2 : Int32)), .val (.double r7), .second, .val (.ref b8), .val (.ref b12), .val (.ref b21), .val (.ref b30), .val (.ref b43), .val (.ref b46), .val (.int i2), .val (.int (2 : Int32)), .unset, .unset, .unset, .unset, .unset, .unset, .unset, .unset, .unset, .unset]) rfl (pc' := 353) rfl ?_
          refine R.iload X229 hx (hb hby at_353) rfl (pc' := 355) rfl ?_
          refine R.ifYes X229 hx (hb hby at_355) (feq (by decide : ¬ ((1 : Int32) = (0 : Int32)))).2 (by decide) (pc' := 363) (by decide) ?_
          refine R.iload X229 hx (hb hby at_363) rfl (pc' := 365) rfl ?_
          refine R.istore X229 hx (hb hby at_365) (L' := #[.val (.int p0), .val (.int p1), .val (.int p2), .val (.int p3), .val (.int p4), .val (.int p5), .val (.int (1 : Int32)), .val (.int i2), .val (.int (2 : Int32)), .val (.int i4), .val (.int i5), .val (.int (2 : Int32)), .val (.double r7), .second, .val (.ref b8), .val (.ref b12), .val (.ref b21), .val (.ref b30), .val (.ref b43), .val (.ref b46), .val (.int i2), .val (.int (2 : Int32)), .val (.int i5), .unset, .unset, .unset, .unset, .unset, .unset, .unset, .unset, .unset]) rfl (pc' := 367) rfl ?_
          refine R.iload X229 hx (hb hby at_367) rfl (pc' := 369) rfl ?_
          refine R.iloadN X229 hx (hb hby at_369) rfl (pc' := 370) rfl ?_
          refine R.iloadN X229 hx (hb hby at_370) rfl (pc' := 371) rfl ?_
          refine R.callS X229 hx hZ (y := mY4) hown w_10 w_11 w_4 w_12 (by decide) e229 (rm3 l Z aZ hw [] i2 p1 p2 h229 n0 Z229 ) (by decide) (W := 0) (Nat.le_of_eq rfl) (by decide) (by rw [hml]; rfl) (lenOf pd_3 rfl) rfl (hb hby at_371) (pc' := 374) rfl (by decide) (by decide) ?_; intro v230 T230 L230 X230 hQ230
          obtain ⟨rfl, N230q, e230⟩ := hQ230
          have N230 := Fr.app N229 N230q
          show Rn p e below (T230.setTop (mkF m 374 #[.val (.int p0), .val (.int p1), .val (.int p2), .val (.int p3), .val (.int p4), .val (.int p5), .val (.int (1 : Int32)), .val (.int i2), .val (.int (2 : Int32)), .val (.int i4), .val (.int i5), .val (.int (2 : Int32)), .val (.double r7), .second, .val (.ref b8), .val (.ref b12), .val (.ref b21), .val (.ref b30), .val (.ref b43), .val (.ref b46), .val (.int i2), .val (.int (2 : Int32)), .val (.int i5), .unset, .unset, .unset, .unset, .unset, .unset, .unset, .unset, .unset] [(.long (own_wAt i2 p1 p2))])) G
          generalize hj231 : (own_wAt i2 p1 p2) = j231
          refine R.lstore X230 hx (hb hby at_374) (L' := #[.val (.int p0), .val (.int p1), .val (.int p2), .val (.int p3), .val (.int p4), .val (.int p5), .val (.int (1 : Int32)), .val (.int i2), .val (.int (2 : Int32)), .val (.int i4), .val (.int i5), .val (.int (2 : Int32)), .val (.double r7), .second, .val (.ref b8), .val (.ref b12), .val (.ref b21), .val (.ref b30), .val (.ref b43), .val (.ref b46), .val (.int i2), .val (.int (2 : Int32)), .val (.int i5), .val (.long j231), .second, .unset, .unset, .unset, .unset, .unset, .unset, .unset]) rfl (pc' := 376) rfl ?_
          refine R.iload X230 hx (hb hby at_376) rfl (pc' := 378) rfl ?_
          refine R.iconst X230 hx (hb hby at_378) (v := (1 : Int32)) (by decide) (pc' := 379) rfl ?_
          refine R.iadd X230 hx (hb hby at_379) rfl (pc' := 380) rfl ?_
          refine R.iloadN X230 hx (hb hby at_380) rfl (pc' := 381) rfl ?_
          refine R.iloadN X230 hx (hb hby at_381) rfl (pc' := 382) rfl ?_
          refine R.callS X230 hx hZ (y := mY4) hown w_10 w_11 w_4 w_12 (by decide) e230 (rm3 l Z aZ hw [] (i2 + (1 : Int32)) p1 p2 h229 n0 Z229 ) (by decide) (W := 0) (Nat.le_of_eq rfl) (by decide) (by rw [hml]; rfl) (lenOf pd_3 rfl) rfl (hb hby at_382) (pc' := 385) rfl (by decide) (by decide) ?_; intro v232 T232 L232 X232 hQ232
          obtain ⟨rfl, N232q, e232⟩ := hQ232
          have N232 := Fr.app N230 N232q
          show Rn p e below (T232.setTop (mkF m 385 #[.val (.int p0), .val (.int p1), .val (.int p2), .val (.int p3), .val (.int p4), .val (.int p5), .val (.int (1 : Int32)), .val (.int i2), .val (.int (2 : Int32)), .val (.int i4), .val (.int i5), .val (.int (2 : Int32)), .val (.double r7), .second, .val (.ref b8), .val (.ref b12), .val (.ref b21), .val (.ref b30), .val (.ref b43), .val (.ref b46), .val (.int i2), .val (.int (2 : Int32)), .val (.int i5), .val (.long j231), .second, .unset, .unset, .unset, .unset, .unset, .unset, .unset] [(.long (own_wAt (i2 + (1 : Int32)) p1 p2))])) G
          generalize hj233 : (own_wAt (i2 + (1 : Int32)) p1 p2) = j233
          refine R.lstore X232 hx (hb hby at_385) (L' := #[.val (.int p0), .val (.int p1), .val (.int p2), .val (.int p3), .val (.int p4), .val (.int p5), .val (.int (1 : Int32)), .val (.int i2), .val (.int (2 : Int32)), .val (.int i4), .val (.int i5), .val (.int (2 : Int32)), .val (.double r7), .second, .val (.ref b8), .val (.ref b12), .val (.ref b21), .val (.ref b30), .val (.ref b43), .val (.ref b46), .val (.int i2), .val (.int (2 : Int32)), .val (.int i5), .val (.long j231), .second, .val (.long j233), .second, .unset, .unset, .unset, .unset, .unset]) rfl (pc' := 387) rfl ?_
          refine R.iload X232 hx (hb hby at_387) rfl (pc' := 389) rfl ?_
          refine R.iload X232 hx (hb hby at_389) rfl (pc' := 391) rfl ?_
          refine R.callS X232 hx hZ (y := mY2) hown w_2 w_3 w_4 w_5 (by decide) e232 (rm1 l Z aZ hw [] (2 : Int32) i5 h229 n0 Z229 ) (by decide) (W := 0) (Nat.le_of_eq rfl) (by decide) (by rw [hml]; rfl) (lenOf pd_2 rfl) rfl (hb hby at_391) (pc' := 394) rfl (by decide) (by decide) ?_; intro v234 T234 L234 X234 hQ234
          obtain ⟨rfl, N234q, e234⟩ := hQ234
          have N234 := Fr.app N232 N234q
          show Rn p e below (T234.setTop (mkF m 394 #[.val (.int p0), .val (.int p1), .val (.int p2), .val (.int p3), .val (.int p4), .val (.int p5), .val (.int (1 : Int32)), .val (.int i2), .val (.int (2 : Int32)), .val (.int i4), .val (.int i5), .val (.int (2 : Int32)), .val (.double r7), .second, .val (.ref b8), .val (.ref b12), .val (.ref b21), .val (.ref b30), .val (.ref b43), .val (.ref b46), .val (.int i2), .val (.int (2 : Int32)), .val (.int i5), .val (.long j231), .second, .val (.long j233), .second, .unset, .unset, .unset, .unset, .unset] [(.int (own_rowA (2 : Int32) i5))])) G
          generalize hi235 : (own_rowA (2 : Int32) i5) = i235
          refine R.istore X234 hx (hb hby at_394) (L' := #[.val (.int p0), .val (.int p1), .val (.int p2), .val (.int p3), .val (.int p4), .val (.int p5), .val (.int (1 : Int32)), .val (.int i2), .val (.int (2 : Int32)), .val (.int i4), .val (.int i5), .val (.int (2 : Int32)), .val (.double r7), .second, .val (.ref b8), .val (.ref b12), .val (.ref b21), .val (.ref b30), .val (.ref b43), .val (.ref b46), .val (.int i2), .val (.int (2 : Int32)), .val (.int i5), .val (.long j231), .second, .val (.long j233), .second, .val (.int i235), .unset, .unset, .unset, .unset]) rfl (pc' := 396) rfl ?_
          refine R.iload X234 hx (hb hby at_396) rfl (pc' := 398) rfl ?_
          refine R.iload X234 hx (hb hby at_398) rfl (pc' := 400) rfl ?_
          refine R.callS X234 hx hZ (y := mY3) hown w_6 w_7 w_4 w_8 (by decide) e234 (rm2 l Z aZ hw [] (2 : Int32) i5 h229 n0 Z229 ) (by decide) (W := 0) (Nat.le_of_eq rfl) (by decide) (by rw [hml]; rfl) (lenOf pd_2 rfl) rfl (hb hby at_400) (pc' := 403) rfl (by decide) (by decide) ?_; intro v236 T236 L236 X236 hQ236
          obtain ⟨rfl, N236q, e236⟩ := hQ236
          have N236 := Fr.app N234 N236q
          show Rn p e below (T236.setTop (mkF m 403 #[.val (.int p0), .val (.int p1), .val (.int p2), .val (.int p3), .val (.int p4), .val (.int p5), .val (.int (1 : Int32)), .val (.int i2), .val (.int (2 : Int32)), .val (.int i4), .val (.int i5), .val (.int (2 : Int32)), .val (.double r7), .second, .val (.ref b8), .val (.ref b12), .val (.ref b21), .val (.ref b30), .val (.ref b43), .val (.ref b46), .val (.int i2), .val (.int (2 : Int32)), .val (.int i5), .val (.long j231), .second, .val (.long j233), .second, .val (.int i235), .unset, .unset, .unset, .unset] [(.int (own_rowB (2 : Int32) i5))])) G
          generalize hi237 : (own_rowB (2 : Int32) i5) = i237
          refine R.istore X236 hx (hb hby at_403) (L' := #[.val (.int p0), .val (.int p1), .val (.int p2), .val (.int p3), .val (.int p4), .val (.int p5), .val (.int (1 : Int32)), .val (.int i2), .val (.int (2 : Int32)), .val (.int i4), .val (.int i5), .val (.int (2 : Int32)), .val (.double r7), .second, .val (.ref b8), .val (.ref b12), .val (.ref b21), .val (.ref b30), .val (.ref b43), .val (.ref b46), .val (.int i2), .val (.int (2 : Int32)), .val (.int i5), .val (.long j231), .second, .val (.long j233), .second, .val (.int i235), .val (.int i237), .unset, .unset, .unset]) rfl (pc' := 405) rfl ?_
          refine R.iconst X236 hx (hb hby at_405) (v := (1 : Int32)) (by decide) (pc' := 406) rfl ?_
          refine R.istore X236 hx (hb hby at_406) (L' := #[.val (.int p0), .val (.int p1), .val (.int p2), .val (.int p3), .val (.int p4), .val (.int p5), .val (.int (1 : Int32)), .val (.int i2), .val (.int (2 : Int32)), .val (.int i4), .val (.int i5), .val (.int (2 : Int32)), .val (.double r7), .second, .val (.ref b8), .val (.ref b12), .val (.ref b21), .val (.ref b30), .val (.ref b43), .val (.ref b46), .val (.int i2), .val (.int (2 : Int32)), .val (.int i5), .val (.long j231), .second, .val (.long j233), .second, .val (.int i235), .val (.int i237), .val (.int (1 : Int32)), .unset, .unset]) rfl (pc' := 408) rfl ?_
          refine R.iload X236 hx (hb hby at_408) rfl (pc' := 410) rfl ?_
          refine R.ifNo X236 hx (hb hby at_410) (tlt (by decide : (0 : Int32) < (2 : Int32))).2.2.2 (pc' := 413) rfl ?_
          refine R.lconst X236 hx (hb hby at_413) (v := (0 : Int64)) (by decide) (pc' := 414) rfl ?_
          refine R.lstore X236 hx (hb hby at_414) (L' := #[.val (.int p0), .val (.int p1), .val (.int p2), .val (.int p3), .val (.int p4), .val (.int p5), .val (.int (1 : Int32)), .val (.int i2), .val (.int (2 : Int32)), .val (.int i4), .val (.int i5), .val (.int (2 : Int32)), .val (.double r7), .second, .val (.ref b8), .val (.ref b12), .val (.ref b21), .val (.ref b30), .val (.ref b43), .val (.ref b46), .val (.int i2), .val (.int (2 : Int32)), .val (.int i5), .val (.long j231), .second, .val (.long j233), .second, .val (.int i235), .val (.int i237), .val (.int (1 : Int32)), .val (.long (0 : Int64)), .second]) rfl (pc' := 416) rfl ?_
          refine R.iload X236 hx (hb hby at_416) rfl (pc' := 418) rfl ?_
          refine R.iconst X236 hx (hb hby at_418) (v := (1 : Int32)) (by decide) (pc' := 419) rfl ?_
          refine R.icmpNo X236 hx (hb hby at_419) (flt (by decide : ¬ ((2 : Int32) < (1 : Int32)))).1 (pc' := 422) rfl ?_
          refine R.lload X236 hx (hb hby at_422) rfl (pc' := 424) rfl ?_
          refine R.lload X236 hx (hb hby at_424) rfl (pc' := 426) rfl ?_
          refine R.iload X236 hx (hb hby at_426) rfl (pc' := 428) rfl ?_
          refine R.iload X236 hx (hb hby at_428) rfl (pc' := 430) rfl ?_
          refine R.imul X236 hx (hb hby at_430) rfl (pc' := 431) rfl ?_
          refine R.iloadN X236 hx (hb hby at_431) rfl (pc' := 432) rfl ?_
          refine R.iload X236 hx (hb hby at_432) rfl (pc' := 434) rfl ?_
          refine R.iload X236 hx (hb hby at_434) rfl (pc' := 436) rfl ?_
          refine R.callS X236 hx hZ (y := mY5) hown w_13 w_14 w_4 w_15 (by decide) e236 (rm4 l Z aZ hw [] (i235 * (2 : Int32)) p3 p4 p5 h229 n0 Z229 ) (by decide) (W := 4) (Nat.le_of_eq rfl) (by decide) (by rw [hml]; rfl) (lenOf pd_4 rfl) rfl (hb hby at_436) (pc' := 439) rfl (by decide) (by decide) ?_; intro v238 T238 L238 X238 hQ238
          obtain ⟨rfl, N238q, e238⟩ := hQ238
          have N238 := Fr.app N236 N238q
          refine R.lmul X238 hx (hb hby at_439) rfl (pc' := 440) rfl ?_
          refine R.ladd X238 hx (hb hby at_440) rfl (pc' := 441) rfl ?_
          show Rn p e below (T238.setTop (mkF m 441 #[.val (.int p0), .val (.int p1), .val (.int p2), .val (.int p3), .val (.int p4), .val (.int p5), .val (.int (1 : Int32)), .val (.int i2), .val (.int (2 : Int32)), .val (.int i4), .val (.int i5), .val (.int (2 : Int32)), .val (.double r7), .second, .val (.ref b8), .val (.ref b12), .val (.ref b21), .val (.ref b30), .val (.ref b43), .val (.ref b46), .val (.int i2), .val (.int (2 : Int32)), .val (.int i5), .val (.long j231), .second, .val (.long j233), .second, .val (.int i235), .val (.int i237), .val (.int (1 : Int32)), .val (.long (0 : Int64)), .second] [(.long ((0 : Int64) + (j231 * (own_yAt (i235 * (2 : Int32)) p3 p4 p5))))])) G
          generalize hj239 : ((0 : Int64) + (j231 * (own_yAt (i235 * (2 : Int32)) p3 p4 p5))) = j239
          refine R.lstore X238 hx (hb hby at_441) (L' := #[.val (.int p0), .val (.int p1), .val (.int p2), .val (.int p3), .val (.int p4), .val (.int p5), .val (.int (1 : Int32)), .val (.int i2), .val (.int (2 : Int32)), .val (.int i4), .val (.int i5), .val (.int (2 : Int32)), .val (.double r7), .second, .val (.ref b8), .val (.ref b12), .val (.ref b21), .val (.ref b30), .val (.ref b43), .val (.ref b46), .val (.int i2), .val (.int (2 : Int32)), .val (.int i5), .val (.long j231), .second, .val (.long j233), .second, .val (.int i235), .val (.int i237), .val (.int (1 : Int32)), .val (.long j239), .second]) rfl (pc' := 443) rfl ?_
          have tr0_1 := own_mulY (by rw [← hj231]; exact own_wb _ _ _) (own_yb _ _ _ _) hj239
          rw [← hj231, ← hi235] at tr0_1
          refine R.iload X238 hx (hb hby at_443) rfl (pc' := 445) rfl ?_
          refine R.iconst X238 hx (hb hby at_445) (v := (2 : Int32)) (by decide) (pc' := 446) rfl ?_
          refine R.icmpNo X238 hx (hb hby at_446) (flt (by decide : ¬ ((2 : Int32) < (2 : Int32)))).1 (pc' := 449) rfl ?_
          refine R.lload X238 hx (hb hby at_449) rfl (pc' := 451) rfl ?_
          refine R.lload X238 hx (hb hby at_451) rfl (pc' := 453) rfl ?_
          refine R.iload X238 hx (hb hby at_453) rfl (pc' := 455) rfl ?_
          refine R.iload X238 hx (hb hby at_455) rfl (pc' := 457) rfl ?_
          refine R.imul X238 hx (hb hby at_457) rfl (pc' := 458) rfl ?_
          refine R.iloadN X238 hx (hb hby at_458) rfl (pc' := 459) rfl ?_
          refine R.iload X238 hx (hb hby at_459) rfl (pc' := 461) rfl ?_
          refine R.iload X238 hx (hb hby at_461) rfl (pc' := 463) rfl ?_
          refine R.callS X238 hx hZ (y := mY5) hown w_13 w_14 w_4 w_15 (by decide) e238 (rm4 l Z aZ hw [] (i237 * (2 : Int32)) p3 p4 p5 h229 n0 Z229 ) (by decide) (W := 4) (Nat.le_of_eq rfl) (by decide) (by rw [hml]; rfl) (lenOf pd_4 rfl) rfl (hb hby at_463) (pc' := 466) rfl (by decide) (by decide) ?_; intro v240 T240 L240 X240 hQ240
          obtain ⟨rfl, N240q, e240⟩ := hQ240
          have N240 := Fr.app N238 N240q
          refine R.lmul X240 hx (hb hby at_466) rfl (pc' := 467) rfl ?_
          refine R.ladd X240 hx (hb hby at_467) rfl (pc' := 468) rfl ?_
          show Rn p e below (T240.setTop (mkF m 468 #[.val (.int p0), .val (.int p1), .val (.int p2), .val (.int p3), .val (.int p4), .val (.int p5), .val (.int (1 : Int32)), .val (.int i2), .val (.int (2 : Int32)), .val (.int i4), .val (.int i5), .val (.int (2 : Int32)), .val (.double r7), .second, .val (.ref b8), .val (.ref b12), .val (.ref b21), .val (.ref b30), .val (.ref b43), .val (.ref b46), .val (.int i2), .val (.int (2 : Int32)), .val (.int i5), .val (.long j231), .second, .val (.long j233), .second, .val (.int i235), .val (.int i237), .val (.int (1 : Int32)), .val (.long j239), .second] [(.long (j239 + (j233 * (own_yAt (i237 * (2 : Int32)) p3 p4 p5))))])) G
          generalize hj241 : (j239 + (j233 * (own_yAt (i237 * (2 : Int32)) p3 p4 p5))) = j241
          refine R.lstore X240 hx (hb hby at_468) (L' := #[.val (.int p0), .val (.int p1), .val (.int p2), .val (.int p3), .val (.int p4), .val (.int p5), .val (.int (1 : Int32)), .val (.int i2), .val (.int (2 : Int32)), .val (.int i4), .val (.int i5), .val (.int (2 : Int32)), .val (.double r7), .second, .val (.ref b8), .val (.ref b12), .val (.ref b21), .val (.ref b30), .val (.ref b43), .val (.ref b46), .val (.int i2), .val (.int (2 : Int32)), .val (.int i5), .val (.long j231), .second, .val (.long j233), .second, .val (.int i235), .val (.int i237), .val (.int (1 : Int32)), .val (.long j241), .second]) rfl (pc' := 470) rfl ?_
          have tr0_2 := own_mulY2 tr0_1 (by have q := own_pb (own_wb i2 p1 p2) (own_yb ((own_rowA (2 : Int32) i5) * (2 : Int32)) p3 p4 p5); omega) (by rw [← hj233]; exact own_wb _ _ _) (own_yb _ _ _ _) hj241
          rw [← hj233, ← hi237] at tr0_2
          obtain ⟨xv0, hxv0, Dx0⟩ := c0_229 (by decide)
          refine R.iload X240 hx (hb hby at_470) rfl (pc' := 472) rfl ?_
          refine R.ifNo X240 hx (hb hby at_472) (feq (by decide : ¬ ((1 : Int32) = (0 : Int32)))).1 (pc' := 475) rfl ?_
          refine R.aload X240 hx (hb hby at_475) rfl rfl (pc' := 477) rfl ?_
          refine R.iconst X240 hx (hb hby at_477) (v := (0 : Int32)) (by decide) (pc' := 478) rfl ?_
          refine R.daload X240 hx hZ e240 V_b43 (⟨by decide, by decide⟩ : ¬ (0 : Int32) < 0 ∧ (0 : Int32) < (2 : Int32)) (v := (.double xv0)) (hxv0) (hb hby at_478) (pc' := 479) rfl ?_
          refine R.lload X240 hx (hb hby at_479) rfl (pc' := 481) rfl ?_
          refine R.l2d X240 hx (hb hby at_481) (pc' := 482) rfl ?_
          refine R.dcmp X240 hx (hb hby at_482) (Dx0.cmp ((Dy.l2d (by rw [tr0_2]; have q1 := own_pb (own_wb i2 p1 p2) (own_yb ((own_rowA (2 : Int32) i5) * (2 : Int32)) p3 p4 p5); have q2 := own_pb (own_wb (i2 + (1 : Int32)) p1 p2) (own_yb ((own_rowB (2 : Int32) i5) * (2 : Int32)) p3 p4 p5); first | exact own_nab2 q1 q2 (by decide) | exact own_nab1 q1 (by decide) | omega)).cast tr0_2 rfl) _ : cmpValue (FP.dcmp xv0 (FP.l2d j241)) .l = (own_ci ((own_wAt i2 p1 p2).toInt * (own_yAt ((own_rowA (2 : Int32) i5) * (2 : Int32)) p3 p4 p5).toInt + (own_wAt (i2 + (1 : Int32)) p1 p2).toInt * (own_yAt ((own_rowB (2 : Int32) i5) * (2 : Int32)) p3 p4 p5).toInt) ((own_wAt i2 p1 p2).toInt * (own_yAt ((own_rowA (2 : Int32) i5) * (2 : Int32)) p3 p4 p5).toInt + (own_wAt (i2 + (1 : Int32)) p1 p2).toInt * (own_yAt ((own_rowB (2 : Int32) i5) * (2 : Int32)) p3 p4 p5).toInt))) (pc' := 483) rfl ?_
          refine R.ifNo X240 hx (hb hby at_483) (teq (own_ci_eq.mpr rfl : (own_ci ((own_wAt i2 p1 p2).toInt * (own_yAt ((own_rowA (2 : Int32) i5) * (2 : Int32)) p3 p4 p5).toInt + (own_wAt (i2 + (1 : Int32)) p1 p2).toInt * (own_yAt ((own_rowB (2 : Int32) i5) * (2 : Int32)) p3 p4 p5).toInt) ((own_wAt i2 p1 p2).toInt * (own_yAt ((own_rowA (2 : Int32) i5) * (2 : Int32)) p3 p4 p5).toInt + (own_wAt (i2 + (1 : Int32)) p1 p2).toInt * (own_yAt ((own_rowB (2 : Int32) i5) * (2 : Int32)) p3 p4 p5).toInt)) = (0 : Int32))).2 (pc' := 486) rfl ?_
          refine R.iconst X240 hx (hb hby at_486) (v := (1 : Int32)) (by decide) (pc' := 487) rfl ?_
          refine R.goto X240 hx (hb hby at_487) (by decide) (pc' := 491) (by decide) ?_
          refine R.istore X240 hx (hb hby at_491) (L' := #[.val (.int p0), .val (.int p1), .val (.int p2), .val (.int p3), .val (.int p4), .val (.int p5), .val (.int (1 : Int32)), .val (.int i2), .val (.int (2 : Int32)), .val (.int i4), .val (.int i5), .val (.int (2 : Int32)), .val (.double r7), .second, .val (.ref b8), .val (.ref b12), .val (.ref b21), .val (.ref b30), .val (.ref b43), .val (.ref b46), .val (.int i2), .val (.int (2 : Int32)), .val (.int i5), .val (.long j231), .second, .val (.long j233), .second, .val (.int i235), .val (.int i237), .val (.int (1 : Int32)), .val (.long j241), .second]) rfl (pc' := 493) rfl ?_
          refine R.iload X240 hx (hb hby at_493) rfl (pc' := 495) rfl ?_
          refine R.iconst X240 hx (hb hby at_495) (v := (1 : Int32)) (by decide) (pc' := 496) rfl ?_
          refine R.icmpNo X240 hx (hb hby at_496) (tlt (by decide : (1 : Int32) < (2 : Int32))).2.2.2 (pc' := 499) rfl ?_
          refine R.lconst X240 hx (hb hby at_499) (v := (0 : Int64)) (by decide) (pc' := 500) rfl ?_
          refine R.lstore X240 hx (hb hby at_500) (L' := #[.val (.int p0), .val (.int p1), .val (.int p2), .val (.int p3), .val (.int p4), .val (.int p5), .val (.int (1 : Int32)), .val (.int i2), .val (.int (2 : Int32)), .val (.int i4), .val (.int i5), .val (.int (2 : Int32)), .val (.double r7), .second, .val (.ref b8), .val (.ref b12), .val (.ref b21), .val (.ref b30), .val (.ref b43), .val (.ref b46), .val (.int i2), .val (.int (2 : Int32)), .val (.int i5), .val (.long j231), .second, .val (.long j233), .second, .val (.int i235), .val (.int i237), .val (.int (1 : Int32)), .val (.long (0 : Int64)), .second]) rfl (pc' := 502) rfl ?_
          refine R.iload X240 hx (hb hby at_502) rfl (pc' := 504) rfl ?_
          refine R.iconst X240 hx (hb hby at_504) (v := (1 : Int32)) (by decide) (pc' := 505) rfl ?_
          refine R.icmpNo X240 hx (hb hby at_505) (flt (by decide : ¬ ((2 : Int32) < (1 : Int32)))).1 (pc' := 508) rfl ?_
          refine R.lload X240 hx (hb hby at_508) rfl (pc' := 510) rfl ?_
          refine R.lload X240 hx (hb hby at_510) rfl (pc' := 512) rfl ?_
          refine R.iload X240 hx (hb hby at_512) rfl (pc' := 514) rfl ?_
          refine R.iload X240 hx (hb hby at_514) rfl (pc' := 516) rfl ?_
          refine R.imul X240 hx (hb hby at_516) rfl (pc' := 517) rfl ?_
          refine R.iconst X240 hx (hb hby at_517) (v := (1 : Int32)) (by decide) (pc' := 518) rfl ?_
          refine R.iadd X240 hx (hb hby at_518) rfl (pc' := 519) rfl ?_
          refine R.iloadN X240 hx (hb hby at_519) rfl (pc' := 520) rfl ?_
          refine R.iload X240 hx (hb hby at_520) rfl (pc' := 522) rfl ?_
          refine R.iload X240 hx (hb hby at_522) rfl (pc' := 524) rfl ?_
          refine R.callS X240 hx hZ (y := mY5) hown w_13 w_14 w_4 w_15 (by decide) e240 (rm4 l Z aZ hw [] ((i235 * (2 : Int32)) + (1 : Int32)) p3 p4 p5 h229 n0 Z229 ) (by decide) (W := 4) (Nat.le_of_eq rfl) (by decide) (by rw [hml]; rfl) (lenOf pd_4 rfl) rfl (hb hby at_524) (pc' := 527) rfl (by decide) (by decide) ?_; intro v242 T242 L242 X242 hQ242
          obtain ⟨rfl, N242q, e242⟩ := hQ242
          have N242 := Fr.app N240 N242q
          refine R.lmul X242 hx (hb hby at_527) rfl (pc' := 528) rfl ?_
          refine R.ladd X242 hx (hb hby at_528) rfl (pc' := 529) rfl ?_
          show Rn p e below (T242.setTop (mkF m 529 #[.val (.int p0), .val (.int p1), .val (.int p2), .val (.int p3), .val (.int p4), .val (.int p5), .val (.int (1 : Int32)), .val (.int i2), .val (.int (2 : Int32)), .val (.int i4), .val (.int i5), .val (.int (2 : Int32)), .val (.double r7), .second, .val (.ref b8), .val (.ref b12), .val (.ref b21), .val (.ref b30), .val (.ref b43), .val (.ref b46), .val (.int i2), .val (.int (2 : Int32)), .val (.int i5), .val (.long j231), .second, .val (.long j233), .second, .val (.int i235), .val (.int i237), .val (.int (1 : Int32)), .val (.long (0 : Int64)), .second] [(.long ((0 : Int64) + (j231 * (own_yAt ((i235 * (2 : Int32)) + (1 : Int32)) p3 p4 p5))))])) G
          generalize hj243 : ((0 : Int64) + (j231 * (own_yAt ((i235 * (2 : Int32)) + (1 : Int32)) p3 p4 p5))) = j243
          refine R.lstore X242 hx (hb hby at_529) (L' := #[.val (.int p0), .val (.int p1), .val (.int p2), .val (.int p3), .val (.int p4), .val (.int p5), .val (.int (1 : Int32)), .val (.int i2), .val (.int (2 : Int32)), .val (.int i4), .val (.int i5), .val (.int (2 : Int32)), .val (.double r7), .second, .val (.ref b8), .val (.ref b12), .val (.ref b21), .val (.ref b30), .val (.ref b43), .val (.ref b46), .val (.int i2), .val (.int (2 : Int32)), .val (.int i5), .val (.long j231), .second, .val (.long j233), .second, .val (.int i235), .val (.int i237), .val (.int (1 : Int32)), .val (.long j243), .second]) rfl (pc' := 531) rfl ?_
          have tr1_1 := own_mulY (by rw [← hj231]; exact own_wb _ _ _) (own_yb _ _ _ _) hj243
          rw [← hj231, ← hi235] at tr1_1
          refine R.iload X242 hx (hb hby at_531) rfl (pc' := 533) rfl ?_
          refine R.iconst X242 hx (hb hby at_533) (v := (2 : Int32)) (by decide) (pc' := 534) rfl ?_
          refine R.icmpNo X242 hx (hb hby at_534) (flt (by decide : ¬ ((2 : Int32) < (2 : Int32)))).1 (pc' := 537) rfl ?_
          refine R.lload X242 hx (hb hby at_537) rfl (pc' := 539) rfl ?_
          refine R.lload X242 hx (hb hby at_539) rfl (pc' := 541) rfl ?_
          refine R.iload X242 hx (hb hby at_541) rfl (pc' := 543) rfl ?_
          refine R.iload X242 hx (hb hby at_543) rfl (pc' := 545) rfl ?_
          refine R.imul X242 hx (hb hby at_545) rfl (pc' := 546) rfl ?_
          refine R.iconst X242 hx (hb hby at_546) (v := (1 : Int32)) (by decide) (pc' := 547) rfl ?_
          refine R.iadd X242 hx (hb hby at_547) rfl (pc' := 548) rfl ?_
          refine R.iloadN X242 hx (hb hby at_548) rfl (pc' := 549) rfl ?_
          refine R.iload X242 hx (hb hby at_549) rfl (pc' := 551) rfl ?_
          refine R.iload X242 hx (hb hby at_551) rfl (pc' := 553) rfl ?_
          refine R.callS X242 hx hZ (y := mY5) hown w_13 w_14 w_4 w_15 (by decide) e242 (rm4 l Z aZ hw [] ((i237 * (2 : Int32)) + (1 : Int32)) p3 p4 p5 h229 n0 Z229 ) (by decide) (W := 4) (Nat.le_of_eq rfl) (by decide) (by rw [hml]; rfl) (lenOf pd_4 rfl) rfl (hb hby at_553) (pc' := 556) rfl (by decide) (by decide) ?_; intro v244 T244 L244 X244 hQ244
          obtain ⟨rfl, N244q, e244⟩ := hQ244
          have N244 := Fr.app N242 N244q
          refine R.lmul X244 hx (hb hby at_556) rfl (pc' := 557) rfl ?_
          refine R.ladd X244 hx (hb hby at_557) rfl (pc' := 558) rfl ?_
          show Rn p e below (T244.setTop (mkF m 558 #[.val (.int p0), .val (.int p1), .val (.int p2), .val (.int p3), .val (.int p4), .val (.int p5), .val (.int (1 : Int32)), .val (.int i2), .val (.int (2 : Int32)), .val (.int i4), .val (.int i5), .val (.int (2 : Int32)), .val (.double r7), .second, .val (.ref b8), .val (.ref b12), .val (.ref b21), .val (.ref b30), .val (.ref b43), .val (.ref b46), .val (.int i2), .val (.int (2 : Int32)), .val (.int i5), .val (.long j231), .second, .val (.long j233), .second, .val (.int i235), .val (.int i237), .val (.int (1 : Int32)), .val (.long j243), .second] [(.long (j243 + (j233 * (own_yAt ((i237 * (2 : Int32)) + (1 : Int32)) p3 p4 p5))))])) G
          generalize hj245 : (j243 + (j233 * (own_yAt ((i237 * (2 : Int32)) + (1 : Int32)) p3 p4 p5))) = j245
          refine R.lstore X244 hx (hb hby at_558) (L' := #[.val (.int p0), .val (.int p1), .val (.int p2), .val (.int p3), .val (.int p4), .val (.int p5), .val (.int (1 : Int32)), .val (.int i2), .val (.int (2 : Int32)), .val (.int i4), .val (.int i5), .val (.int (2 : Int32)), .val (.double r7), .second, .val (.ref b8), .val (.ref b12), .val (.ref b21), .val (.ref b30), .val (.ref b43), .val (.ref b46), .val (.int i2), .val (.int (2 : Int32)), .val (.int i5), .val (.long j231), .second, .val (.long j233), .second, .val (.int i235), .val (.int i237), .val (.int (1 : Int32)), .val (.long j245), .second]) rfl (pc' := 560) rfl ?_
          have tr1_2 := own_mulY2 tr1_1 (by have q := own_pb (own_wb i2 p1 p2) (own_yb (((own_rowA (2 : Int32) i5) * (2 : Int32)) + (1 : Int32)) p3 p4 p5); omega) (by rw [← hj233]; exact own_wb _ _ _) (own_yb _ _ _ _) hj245
          rw [← hj233, ← hi237] at tr1_2
          obtain ⟨xv1, hxv1, Dx1⟩ := c1_229 (by decide)
          refine R.iload X244 hx (hb hby at_560) rfl (pc' := 562) rfl ?_
          refine R.ifNo X244 hx (hb hby at_562) (feq (by decide : ¬ ((1 : Int32) = (0 : Int32)))).1 (pc' := 565) rfl ?_
          refine R.aload X244 hx (hb hby at_565) rfl rfl (pc' := 567) rfl ?_
          refine R.iconst X244 hx (hb hby at_567) (v := (1 : Int32)) (by decide) (pc' := 568) rfl ?_
          refine R.daload X244 hx hZ e244 V_b43 (⟨by decide, by decide⟩ : ¬ (1 : Int32) < 0 ∧ (1 : Int32) < (2 : Int32)) (v := (.double xv1)) (hxv1) (hb hby at_568) (pc' := 569) rfl ?_
          refine R.lload X244 hx (hb hby at_569) rfl (pc' := 571) rfl ?_
          refine R.l2d X244 hx (hb hby at_571) (pc' := 572) rfl ?_
          refine R.dcmp X244 hx (hb hby at_572) (Dx1.cmp ((Dy.l2d (by rw [tr1_2]; have q1 := own_pb (own_wb i2 p1 p2) (own_yb (((own_rowA (2 : Int32) i5) * (2 : Int32)) + (1 : Int32)) p3 p4 p5); have q2 := own_pb (own_wb (i2 + (1 : Int32)) p1 p2) (own_yb (((own_rowB (2 : Int32) i5) * (2 : Int32)) + (1 : Int32)) p3 p4 p5); first | exact own_nab2 q1 q2 (by decide) | exact own_nab1 q1 (by decide) | omega)).cast tr1_2 rfl) _ : cmpValue (FP.dcmp xv1 (FP.l2d j245)) .l = (own_ci ((own_wAt i2 p1 p2).toInt * (own_yAt (((own_rowA (2 : Int32) i5) * (2 : Int32)) + (1 : Int32)) p3 p4 p5).toInt + (own_wAt (i2 + (1 : Int32)) p1 p2).toInt * (own_yAt (((own_rowB (2 : Int32) i5) * (2 : Int32)) + (1 : Int32)) p3 p4 p5).toInt) ((own_wAt i2 p1 p2).toInt * (own_yAt (((own_rowA (2 : Int32) i5) * (2 : Int32)) + (1 : Int32)) p3 p4 p5).toInt + (own_wAt (i2 + (1 : Int32)) p1 p2).toInt * (own_yAt (((own_rowB (2 : Int32) i5) * (2 : Int32)) + (1 : Int32)) p3 p4 p5).toInt))) (pc' := 573) rfl ?_
          refine R.ifNo X244 hx (hb hby at_573) (teq (own_ci_eq.mpr rfl : (own_ci ((own_wAt i2 p1 p2).toInt * (own_yAt (((own_rowA (2 : Int32) i5) * (2 : Int32)) + (1 : Int32)) p3 p4 p5).toInt + (own_wAt (i2 + (1 : Int32)) p1 p2).toInt * (own_yAt (((own_rowB (2 : Int32) i5) * (2 : Int32)) + (1 : Int32)) p3 p4 p5).toInt) ((own_wAt i2 p1 p2).toInt * (own_yAt (((own_rowA (2 : Int32) i5) * (2 : Int32)) + (1 : Int32)) p3 p4 p5).toInt + (own_wAt (i2 + (1 : Int32)) p1 p2).toInt * (own_yAt (((own_rowB (2 : Int32) i5) * (2 : Int32)) + (1 : Int32)) p3 p4 p5).toInt)) = (0 : Int32))).2 (pc' := 576) rfl ?_
          refine R.iconst X244 hx (hb hby at_576) (v := (1 : Int32)) (by decide) (pc' := 577) rfl ?_
          refine R.goto X244 hx (hb hby at_577) (by decide) (pc' := 581) (by decide) ?_
          refine R.istore X244 hx (hb hby at_581) (L' := #[.val (.int p0), .val (.int p1), .val (.int p2), .val (.int p3), .val (.int p4), .val (.int p5), .val (.int (1 : Int32)), .val (.int i2), .val (.int (2 : Int32)), .val (.int i4), .val (.int i5), .val (.int (2 : Int32)), .val (.double r7), .second, .val (.ref b8), .val (.ref b12), .val (.ref b21), .val (.ref b30), .val (.ref b43), .val (.ref b46), .val (.int i2), .val (.int (2 : Int32)), .val (.int i5), .val (.long j231), .second, .val (.long j233), .second, .val (.int i235), .val (.int i237), .val (.int (1 : Int32)), .val (.long j245), .second]) rfl (pc' := 583) rfl ?_
          refine R.iload X244 hx (hb hby at_583) rfl (pc' := 585) rfl ?_
          rw [← hG]
          exact Rn.ret X244 (BodyLoose.notSynchronized Bd) (v := some (.int (1 : Int32))) (fun h => by rw [Bd.returns] at h; cases h) (Q := Q0 Z p0 p1 p2 p3 p4 p5 h0 n0) e244 (fun fs hr => retN X244 hx (t := .boolean) Bd.returns (by simp) (hb hby at_585) hr) ⟨rfl, N244⟩ (by decide) (by decide)
  exact (Rn.st (fun t k => castTop (ef_0 m p0 p1 p2 p3 p4 p5) k) first_ : Rn p e below (s₁.setTop (entryFrame m #[(.int p0), (.int p1), (.int p2), (.int p3), (.int p4), (.int p5)] maxLocals)) (Fn0 Z p0 p1 p2 p3 p4 p5 h0 n0 s))
set_option maxRecDepth 65536 in
set_option maxHeartbeats 40000000 in
theorem comes_1 {Post : Tables → Env → Array Value → State → Outcome → State → Prop} (hpost : ∀ tb e args s v u, (limb_1_1.after args s (.returned v) u = true ∧ limb_1_2.after args s (.returned v) u = true ∧ True) → FrameEnd s (.returned v) u (Jvm.fieldLocs frame_1_writes args s ++ Jvm.arrayLocs frame_1_arrays args s ++ Jvm.staticLocs frame_1_statics s) 24 128 → Post tb e args s (.returned v) u) :
    ArmFor flags0 classFile x code maxLocals ret World_1 tables_1 room_1 Calls_1 rest_1 Pre_1 Post := by
  intro l hfl _ _ p e ha hc hk s m args below hf hA hF happ hP
  obtain ⟨hcalls, hrest, hpre⟩ := hP
  obtain ⟨-, -, -, hnamed, -, -, -, hat⟩ := (Spec.applies_iff hf).mp happ
  obtain ⟨hg, hn⟩ := and_e (Cond.before_iff.mp (show (Jvm.Cond.and given_1 narrow_1).before args s = true from hpre))
  obtain ⟨g1, g2⟩ := and_e hg
  obtain ⟨g3, g4⟩ := and_e g2
  obtain ⟨g5, g6⟩ := and_e g4
  obtain ⟨g7, g8⟩ := and_e g6
  obtain ⟨g9, g10⟩ := and_e g8
  obtain ⟨g11, g12⟩ := and_e g10
  obtain ⟨w0, w1, w2, w3, w4, w5, rfl⟩ : ∃ w0 w1 w2 w3 w4 w5 : Value, args = #[w0, w1, w2, w3, w4, w5] := by
    have hs : args.size = 6 := by simpa [Cond.value, given_1] using g1
    obtain ⟨L⟩ := args
    match L, hs with
    | [w0, w1, w2, w3, w4, w5], _ => exact ⟨w0, w1, w2, w3, w4, w5, rfl⟩
  have hw := fun d (hd : d ∈ tables_1) => atoms_spec (ws := Jvm.Cond.code x code maxLocals ret :: tables_1) hat d (List.mem_cons_of_mem _ hd)
  obtain ⟨i0, ei0⟩ := is_v g3
  obtain rfl : w0 = (.int i0) := Option.some.inj ei0
  obtain ⟨i1, ei1⟩ := is_v g5
  obtain rfl : w1 = (.int i1) := Option.some.inj ei1
  obtain ⟨i2, ei2⟩ := is_v g7
  obtain rfl : w2 = (.int i2) := Option.some.inj ei2
  obtain ⟨i3, ei3⟩ := is_v g9
  obtain rfl : w3 = (.int i3) := Option.some.inj ei3
  obtain ⟨i4, ei4⟩ := is_v g11
  obtain rfl : w4 = (.int i4) := Option.some.inj ei4
  obtain ⟨i5, ei5⟩ := is_v g12
  obtain rfl : w5 = (.int i5) := Option.some.inj ei5
  obtain ⟨n, o, h1, h2, h3, _, L, rfl, ⟨rfl, N⟩, hq⟩ := rm0 l s _ hw tables_1 i0 i1 i2 i3 i4 i5 s.heap s.heap.size (Nat.le_refl _) p e ha hc hk s m _ below hf ((Spec.applies_iff_loose hf).mp happ).1 ⟨rfl, State.Warmed39.refl s, rfl⟩ trivial
  refine ⟨n, _, h1, h2, h3, hpost _ _ _ _ _ _ ⟨Cond.after_iff.mpr rfl, Cond.after_iff.mpr (eq_i res_at (Term.int_eval (1)) rfl), trivial⟩ ⟨hq.1, hq.2.1, (hq.2.2.sift fun y hy => Or.inr (N y hy)).mono (by decide) (by decide)⟩⟩
theorem main_1_1 : Claimed_1_1 := comes_1 fun _ _ _ _ _ _ h hF => ⟨h.1, hF⟩
theorem main_1_2 : Claimed_1_2 := comes_1 fun _ _ _ _ _ _ h hF => ⟨h.2.1, hF⟩
end Jvm.Pilot.@@N@@
namespace Jvm.Pilot.@@N@@
open Jvm Jvm.ClassFile Sem Op Lib Jvm.Free Jvm.Stand Jvm.Pilot.@@N@@.Jvm.D
/-! MADE BY PROGRAM (witnessworld.py) out of the Statement's table words and the real class files: 13 classes; the members and pool entries that the words name. The judged class is class 1, her method 5. -/
namespace start1
open Jvm.ClassFile
def u (s : String) : CpInfo := .utf8 (stringToUtf16 s)
/-- a pool by its gaps: so many unusable entries, then the entry; so many at the end -/
def gap : Nat → List CpInfo → List CpInfo
  | 0, r => r
  | n + 1, r => .unusable :: gap n r
def poolList (es : List (Nat × CpInfo)) (last : Nat) : List CpInfo := es.foldr (fun e r => gap e.1 (e.2 :: r)) (gap last [])
def pool (es : List (Nat × CpInfo)) (last : Nat) : Array CpInfo := ⟨poolList es last⟩
def fileOf (pool : Array CpInfo) (this : Nat) (attrs : Array Attribute := #[]) (ms : Array MethodInfo := #[]) (fl : Nat := 33) (sup : Nat := 0) (ifs : Array Nat := #[]) (fds : Array FieldInfo := #[]) : ClassFile where
  minorVersion := 0
  majorVersion := 65
  constantPool := pool
  accessFlags := fl
  thisClass := this
  superClass := sup
  interfaces := ifs
  fields := fds
  methods := ms
  attributes := attrs
def plain (name : String) (sup : Option ClassId) : Class where
  name := name
  kind := .ordinary
  loader := none
  accessFlags := 33
  super := sup
  interfaces := #[]
  cf := none
  fields := #[]
  methods := #[]
  instanceTypes := #[]
  staticTypes := #[]
  resolved := #[]
  callSites := []
  init := .initialized
  statics := none
  mirror := none

def pool0 : Array CpInfo := pool [(5, u "<init>"), (0, u "()V"), (1, .class_ 10), (1, u "java/lang/Object")] 113

def k0c0 : Code := { maxStack := 0, maxLocals := 1, code := object_method_1_code, exceptionTable := #[], attributes := #[] }
def k0m0 : Method := { name := "<init>", desc := "()V", sig := { parameters := [], returnType := none }, accessFlags := 1, code := some k0c0 }
/-- java/lang/Object -/
def k0 : Class := { plain "java/lang/Object" none with
  accessFlags := 33
  interfaces := #[]
  cf := some (fileOf pool0 8 #[] #[{ accessFlags := 1, nameIndex := 5, descriptorIndex := 6, attributes := #[] }] 33 0 #[] #[])
  fields := #[]
  methods := #[k0m0]
  instanceTypes := #[]
  staticTypes := #[]
  resolved := Array.replicate 124 none
  statics := none }

def pool1 : Array CpInfo := pool [(2, .class_ 4), (1, u "java/lang/Object"), (0, u "<init>"), (0, u "()V"), (0, .double 4602678819172646912), (1, .methodref 10 11), (0, .class_ 12), (0, .nameAndType 13 14), (0, u "com/example/upupa/upupa/engine/ColumnsTransposeTimesPinLaw"), (0, u "rowA"), (0, u "(II)I"), (0, .methodref 10 16), (0, .nameAndType 17 14), (0, u "rowB"), (0, .methodref 10 19), (0, .nameAndType 20 21), (0, u "wAt"), (0, u "(III)J"), (0, .methodref 10 23), (0, .nameAndType 24 25), (0, u "yAt"), (0, u "(IIII)J"), (0, .class_ 27), (0, u "com/example/upupa/upupa/engine/SubspaceIteration$Columns"), (0, .methodref 26 29), (0, .nameAndType 5 30), (0, u "(I[I[I[D)V"), (0, .methodref 26 32), (0, .nameAndType 33 34), (0, u "transposeTimes"), (0, u "(I[DI[D)V"), (3, u "law"), (0, u "(IIIIII)Z")] 10

def k1m0 : Method := { name := "<init>", desc := "()V", sig := { parameters := [], returnType := none }, accessFlags := 2, code := none }
def k1c1 : Code := { maxStack := 2, maxLocals := 2, code := method_2_code, exceptionTable := #[], attributes := #[] }
def k1m1 : Method := { name := "rowA", desc := "(II)I", sig := { parameters := [.int, .int], returnType := some .int }, accessFlags := 10, code := some k1c1 }
def k1c2 : Code := { maxStack := 2, maxLocals := 2, code := method_3_code, exceptionTable := #[], attributes := #[] }
def k1m2 : Method := { name := "rowB", desc := "(II)I", sig := { parameters := [.int, .int], returnType := some .int }, accessFlags := 10, code := some k1c2 }
def k1c3 : Code := { maxStack := 2, maxLocals := 3, code := method_4_code, exceptionTable := #[], attributes := #[] }
def k1m3 : Method := { name := "wAt", desc := "(III)J", sig := { parameters := [.int, .int, .int], returnType := some .long }, accessFlags := 10, code := some k1c3 }
def k1c4 : Code := { maxStack := 2, maxLocals := 4, code := method_5_code, exceptionTable := #[], attributes := #[] }
def k1m4 : Method := { name := "yAt", desc := "(IIII)J", sig := { parameters := [.int, .int, .int, .int], returnType := some .long }, accessFlags := 10, code := some k1c4 }
def k1c5 : Code := { maxStack := 8, maxLocals := 32, code := code, exceptionTable := #[], attributes := #[] }
def k1m5 : Method := { name := "law", desc := "(IIIIII)Z", sig := { parameters := [.int, .int, .int, .int, .int, .int], returnType := some .boolean }, accessFlags := 9, code := some k1c5 }
/-- com/example/upupa/upupa/engine/ColumnsTransposeTimesPinLaw -/
def k1 : Class := { plain "com/example/upupa/upupa/engine/ColumnsTransposeTimesPinLaw" (some 0) with
  accessFlags := 49
  interfaces := #[]
  cf := some (fileOf pool1 10 #[] #[{ accessFlags := 2, nameIndex := 5, descriptorIndex := 6, attributes := #[] }, { accessFlags := 10, nameIndex := 13, descriptorIndex := 14, attributes := #[] }, { accessFlags := 10, nameIndex := 17, descriptorIndex := 14, attributes := #[] }, { accessFlags := 10, nameIndex := 20, descriptorIndex := 21, attributes := #[] }, { accessFlags := 10, nameIndex := 24, descriptorIndex := 25, attributes := #[] }, { accessFlags := 9, nameIndex := 38, descriptorIndex := 39, attributes := #[] }] 49 2 #[] #[])
  fields := #[]
  methods := #[k1m0, k1m1, k1m2, k1m3, k1m4, k1m5]
  instanceTypes := #[]
  staticTypes := #[]
  resolved := Array.replicate 50 none
  statics := none }

def pool2 : Array CpInfo := pool [(1, .methodref 2 3), (0, .class_ 4), (0, .nameAndType 5 6), (0, u "java/lang/Object"), (0, u "<init>"), (0, u "()V"), (0, .class_ 8), (0, u "java/lang/Record")] 13

def k2c0 : Code := { maxStack := 1, maxLocals := 1, code := jdk_30_method_1_code, exceptionTable := #[], attributes := #[] }
def k2m0 : Method := { name := "<init>", desc := "()V", sig := { parameters := [], returnType := none }, accessFlags := 4, code := some k2c0 }
/-- java/lang/Record -/
def k2 : Class := { plain "java/lang/Record" (some 0) with
  accessFlags := 1057
  interfaces := #[]
  cf := some (fileOf pool2 7 #[] #[{ accessFlags := 4, nameIndex := 5, descriptorIndex := 6, attributes := #[] }] 1057 2 #[] #[])
  fields := #[]
  methods := #[k2m0]
  instanceTypes := #[]
  staticTypes := #[]
  resolved := Array.replicate 22 none
  statics := none }

def pool3 : Array CpInfo := pool [(1, .methodref 2 3), (0, .class_ 4), (0, .nameAndType 5 6), (0, u "java/lang/Record"), (0, u "<init>"), (0, u "()V"), (0, .fieldref 8 9), (0, .class_ 10), (0, .nameAndType 11 12), (0, u "com/example/upupa/upupa/engine/SubspaceIteration$Columns"), (0, u "rowCount"), (0, u "I"), (0, .fieldref 8 14), (0, .nameAndType 15 16), (0, u "start"), (0, u "[I"), (0, .fieldref 8 18), (0, .nameAndType 19 16), (0, u "rows"), (0, .fieldref 8 21), (0, .nameAndType 22 23), (0, u "values"), (0, u "[D"), (0, .methodref 25 26), (0, .class_ 27), (0, .nameAndType 28 29), (0, u "java/util/Arrays"), (0, u "fill"), (0, u "([DD)V"), (12, u "(I[I[I[D)V"), (5, u "transposeTimes"), (0, u "(I[DI[D)V"), (8, .class_ 59), (0, u "com/example/upupa/upupa/engine/SubspaceIteration")] 22

def k3c0 : Code := { maxStack := 2, maxLocals := 5, code := prog_4_method_1_code, exceptionTable := #[], attributes := #[] }
def k3m0 : Method := { name := "<init>", desc := "(I[I[I[D)V", sig := { parameters := [.int, (.array .int), (.array .int), (.array .double)], returnType := none }, accessFlags := 0, code := some k3c0 }
def k3c1 : Code := { maxStack := 9, maxLocals := 10, code := prog_4_method_3_code, exceptionTable := #[], attributes := #[] }
def k3m1 : Method := { name := "transposeTimes", desc := "(I[DI[D)V", sig := { parameters := [.int, (.array .double), .int, (.array .double)], returnType := none }, accessFlags := 0, code := some k3c1 }
/-- com/example/upupa/upupa/engine/SubspaceIteration$Columns -/
def k3 : Class := { plain "com/example/upupa/upupa/engine/SubspaceIteration$Columns" (some 2) with
  accessFlags := 48
  interfaces := #[]
  cf := some (fileOf pool3 8 #[.nestHost 58] #[{ accessFlags := 0, nameIndex := 5, descriptorIndex := 42, attributes := #[] }, { accessFlags := 0, nameIndex := 48, descriptorIndex := 49, attributes := #[] }] 48 2 #[] #[{ accessFlags := 18, nameIndex := 11, descriptorIndex := 12, attributes := #[] }, { accessFlags := 18, nameIndex := 15, descriptorIndex := 16, attributes := #[] }, { accessFlags := 18, nameIndex := 19, descriptorIndex := 16, attributes := #[] }, { accessFlags := 18, nameIndex := 22, descriptorIndex := 23, attributes := #[] }])
  fields := #[{ name := "rowCount", type := .int, accessFlags := 18, slot := 0, constantValue := 0 }, { name := "start", type := (.array .int), accessFlags := 18, slot := 1, constantValue := 0 }, { name := "rows", type := (.array .int), accessFlags := 18, slot := 2, constantValue := 0 }, { name := "values", type := (.array .double), accessFlags := 18, slot := 3, constantValue := 0 }]
  methods := #[k3m0, k3m1]
  instanceTypes := #[.int, (.array .int), (.array .int), (.array .double)]
  staticTypes := #[]
  resolved := Array.replicate 82 none
  statics := none }

def pool4 : Array CpInfo := pool [(2, .class_ 4), (1, u "java/lang/Object"), (0, u "<init>"), (0, u "()V"), (7, .class_ 16), (1, u "java/util/Arrays"), (57, .class_ 76), (1, u "java/util/Arrays$NaturalOrder"), (36, .class_ 115), (1, u "java/util/Arrays$LegacyMergeSort"), (1, u "Z"), (257, .class_ 376), (0, u "java/util/Arrays$ArrayList"), (68, u "$assertionsDisabled"), (269, u "MIN_ARRAY_SORT_GRAN"), (0, u "I"), (2, u "INSERTIONSORT_THRESHOLD"), (120, u "fill"), (13, u "([DD)V"), (120, .class_ 976), (0, u "java/util/Arrays$ArrayItr")] 52

def k4m0 : Method := { name := "<init>", desc := "()V", sig := { parameters := [], returnType := none }, accessFlags := 2, code := none }
def k4c1 : Code := { maxStack := 4, maxLocals := 5, code := jdk_65_method_113_code, exceptionTable := #[], attributes := #[] }
def k4m1 : Method := { name := "fill", desc := "([DD)V", sig := { parameters := [(.array .double), .double], returnType := none }, accessFlags := 9, code := some k4c1 }
/-- java/util/Arrays -/
def k4 : Class := { plain "java/util/Arrays" (some 0) with
  accessFlags := 49
  interfaces := #[]
  cf := some (fileOf pool4 14 #[.nestMembers #[975, 375, 113, 74]] #[{ accessFlags := 2, nameIndex := 5, descriptorIndex := 6, attributes := #[] }, { accessFlags := 9, nameIndex := 840, descriptorIndex := 854, attributes := #[] }] 49 2 #[] #[{ accessFlags := 26, nameIndex := 715, descriptorIndex := 716, attributes := #[] }, { accessFlags := 26, nameIndex := 719, descriptorIndex := 716, attributes := #[] }, { accessFlags := 4120, nameIndex := 445, descriptorIndex := 117, attributes := #[] }])
  fields := #[{ name := "MIN_ARRAY_SORT_GRAN", type := .int, accessFlags := 26, slot := 0, constantValue := 0 }, { name := "INSERTIONSORT_THRESHOLD", type := .int, accessFlags := 26, slot := 1, constantValue := 0 }, { name := "$assertionsDisabled", type := .boolean, accessFlags := 4120, slot := 2, constantValue := 0 }]
  methods := #[k4m0, k4m1]
  instanceTypes := #[]
  staticTypes := #[.int, .int, .boolean]
  resolved := Array.replicate 1029 none
  statics := none }

def pool5 : Array CpInfo := pool [(1, u "java/lang/Cloneable"), (0, .class_ 1), (0, u "java/lang/Object"), (0, .class_ 3)] 3

/-- java/lang/Cloneable -/
def k5 : Class := { plain "java/lang/Cloneable" (some 0) with
  accessFlags := 1537
  interfaces := #[]
  cf := some (fileOf pool5 2 #[] #[] 1537 4 #[] #[])
  fields := #[]
  methods := #[]
  instanceTypes := #[]
  staticTypes := #[]
  resolved := Array.replicate 8 none
  statics := none }

def pool6 : Array CpInfo := pool [(1, u "java/io/Serializable"), (0, .class_ 1), (0, u "java/lang/Object"), (0, .class_ 3)] 3

/-- java/io/Serializable -/
def k6 : Class := { plain "java/io/Serializable" (some 0) with
  accessFlags := 1537
  interfaces := #[]
  cf := some (fileOf pool6 2 #[] #[] 1537 4 #[] #[])
  fields := #[]
  methods := #[]
  instanceTypes := #[]
  staticTypes := #[]
  resolved := Array.replicate 8 none
  statics := none }

/-- the primitive byte -/
def k7 : Class := { plain "byte" none with kind := .primitive 'B', accessFlags := 0x411 }
/-- [B -/
def k8 : Class := { plain "[B" (some 0) with kind := .array 7 .byte, interfaces := #[5, 6], accessFlags := 1041 }

/-- the primitive double -/
def k9 : Class := { plain "double" none with kind := .primitive 'D', accessFlags := 0x411 }
/-- [D -/
def k10 : Class := { plain "[D" (some 0) with kind := .array 9 .double, interfaces := #[5, 6], accessFlags := 1041 }

/-- the primitive int -/
def k11 : Class := { plain "int" none with kind := .primitive 'I', accessFlags := 0x411 }
/-- [I -/
def k12 : Class := { plain "[I" (some 0) with kind := .array 11 .int, interfaces := #[5, 6], accessFlags := 1041 }

def heap : Heap := #[]
def classes : Array Class := #[k0, k1, k2, k3, k4, k5, k6, k7, k8, k9, k10, k11, k12]
def interned : List (Array UInt16 × Addr) := []
def slotsUsed : Nat := 0
def theMethod : MethodId := ⟨1, 5⟩
def args0 : Array Value := #[.int 5, .int 5, .int 5, .int 5, .int 5, .int 5]
def aboutOver (below : List Frame) : State where
  vm := { classes := classes, interned := interned.toArray }
  heap := heap
  slotsUsed := slotsUsed
  threads := #[{ frames := .invoking theMethod args0 :: below }]
def below0 : List Frame := [.native { method := ⟨0, 0⟩, args := #[] }]
def about1 : State := aboutOver below0
def p0 : Program := .bare "" "" ""
def e0 : Env := launch0.env 0 0 0
theorem w_frames : about1.frames = Frame.invoking theMethod args0 :: below0 := rfl
set_option maxRecDepth 65536 in
theorem w_args : argsFit about1.vm theMethod args0 = true := by decide +kernel
set_option maxRecDepth 65536 in
theorem w_heap : heapFits about1 = true := by decide +kernel
set_option maxRecDepth 65536 in
theorem w_runnable : about1.curStatus? = some .runnable := by decide +kernel
set_option maxRecDepth 65536 in
theorem w_alone : about1.alone = true := by decide +kernel
set_option maxRecDepth 65536 in
theorem w_named : about1.methodNamed? x = some theMethod := by decide +kernel
set_option maxRecDepth 65536 in
theorem w_hears : about1.hears theMethod below0 = true := by decide +kernel
set_option maxRecDepth 65536 in
theorem w_ripe : about1.ripe theMethod args0 below0 = true := by decide +kernel
theorem w_running : about1.status = .running := rfl
set_option maxRecDepth 65536 in
theorem w_room : about1.hasRoom e0.platform room_1 = true :=
  launch0.hasRoom_least _ room_1 (by decide +kernel) (by decide +kernel) (by decide +kernel) (by decide +kernel) (by decide +kernel) (by decide +kernel)
theorem allAtoms_all (ts : List Jvm.Cond) (a : Array Jvm.Value) (st : Jvm.State) : (allAtoms ts).before a st = ts.all (fun c => c.before a st) := by
  induction ts with
  | nil => rfl
  | cons c t ih =>
    show (Jvm.Cond.and c (allAtoms t)).before a st = _
    rw [Jvm.Cond.before_and, ih, List.all_cons]
def words1 : List Jvm.Cond := Jvm.Cond.code x code maxLocals ret :: tables_1
/-- a 'code' word, met by the world's own term for the bytes: nothing is compared byte by byte -/
theorem code_word {y : MethodName} {bytes : ByteArray} {mx : Nat} {rt : Option FieldType} {a : Array Value} {s : State} {m : MethodId} {meth : Method} {c : Code} (h1 : s.methodNamed? y = some m) (h2 : s.vm.method? m = some meth) (h3 : meth.code = some c) (h4 : c.code = bytes)
    (h5 : (c.maxLocals == mx && c.exceptionTable.isEmpty && decide (c.maxStack ≤ mostOperands) && decide (meth.sig.returnType = rt) && !meth.locks && decide (parseMethodDescriptor y.desc = some meth.sig)) = true) : (Jvm.Cond.code y bytes mx rt).before a s = true := by
  simp only [Bool.and_eq_true, beq_iff_eq, Bool.not_eq_true', decide_eq_true_eq] at h5
  obtain ⟨⟨⟨⟨⟨g1, g2⟩, g3⟩, g4⟩, g5⟩, g6⟩ := h5
  simp [Cond.before, Cond.holds, Cond.value, h1, h2, h3, h4, g1, g2, g3, g4, g5, g6]
def isCode : Jvm.Cond → Bool
  | .code _ _ _ _ => true
  | _ => false
theorem all_split {L : List Jvm.Cond} {P : Jvm.Cond → Bool} (h1 : L.all (fun c => isCode c || P c) = true) (h2 : ∀ c ∈ L.filter isCode, P c = true) : L.all P = true := by
  refine List.all_eq_true.mpr fun c hc => ?_
  have h := List.all_eq_true.mp h1 c hc
  rcases Bool.eq_false_or_eq_true (isCode c) with hi | hi
  · exact h2 c (List.mem_filter.mpr ⟨hc, hi⟩)
  · simpa [hi] using h
set_option maxRecDepth 65536 in
theorem w_c0 : (Jvm.Cond.code x code maxLocals ret).before args0 about1 = true := code_word (m := ⟨1, 5⟩) (meth := k1m5) (c := k1c5) (by decide +kernel) rfl rfl rfl (by decide +kernel)
set_option maxRecDepth 65536 in
theorem w_c1 : (Jvm.Cond.code ({ cls := "com/example/upupa/upupa/engine/ColumnsTransposeTimesPinLaw", name := "rowA", desc := "(II)I" } : Jvm.MethodName) method_2_code (2 : Nat) (Option.some Jvm.ClassFile.FieldType.int)).before args0 about1 = true := code_word (m := ⟨1, 1⟩) (meth := k1m1) (c := k1c1) (by decide +kernel) rfl rfl rfl (by decide +kernel)
set_option maxRecDepth 65536 in
theorem w_c2 : (Jvm.Cond.code ({ cls := "com/example/upupa/upupa/engine/ColumnsTransposeTimesPinLaw", name := "rowB", desc := "(II)I" } : Jvm.MethodName) method_3_code (2 : Nat) (Option.some Jvm.ClassFile.FieldType.int)).before args0 about1 = true := code_word (m := ⟨1, 2⟩) (meth := k1m2) (c := k1c2) (by decide +kernel) rfl rfl rfl (by decide +kernel)
set_option maxRecDepth 65536 in
theorem w_c3 : (Jvm.Cond.code ({ cls := "com/example/upupa/upupa/engine/ColumnsTransposeTimesPinLaw", name := "wAt", desc := "(III)J" } : Jvm.MethodName) method_4_code (3 : Nat) (Option.some Jvm.ClassFile.FieldType.long)).before args0 about1 = true := code_word (m := ⟨1, 3⟩) (meth := k1m3) (c := k1c3) (by decide +kernel) rfl rfl rfl (by decide +kernel)
set_option maxRecDepth 65536 in
theorem w_c4 : (Jvm.Cond.code ({ cls := "com/example/upupa/upupa/engine/ColumnsTransposeTimesPinLaw", name := "yAt", desc := "(IIII)J" } : Jvm.MethodName) method_5_code (4 : Nat) (Option.some Jvm.ClassFile.FieldType.long)).before args0 about1 = true := code_word (m := ⟨1, 4⟩) (meth := k1m4) (c := k1c4) (by decide +kernel) rfl rfl rfl (by decide +kernel)
set_option maxRecDepth 65536 in
theorem w_c5 : (Jvm.Cond.code ({ cls := "com/example/upupa/upupa/engine/SubspaceIteration$Columns", name := "<init>", desc := "(I[I[I[D)V" } : Jvm.MethodName) prog_4_method_1_code (5 : Nat) (Option.none : Option Jvm.ClassFile.FieldType)).before args0 about1 = true := code_word (m := ⟨3, 0⟩) (meth := k3m0) (c := k3c0) (by decide +kernel) rfl rfl rfl (by decide +kernel)
set_option maxRecDepth 65536 in
theorem w_c6 : (Jvm.Cond.code ({ cls := "java/lang/Record", name := "<init>", desc := "()V" } : Jvm.MethodName) jdk_30_method_1_code (1 : Nat) (Option.none : Option Jvm.ClassFile.FieldType)).before args0 about1 = true := code_word (m := ⟨2, 0⟩) (meth := k2m0) (c := k2c0) (by decide +kernel) rfl rfl rfl (by decide +kernel)
set_option maxRecDepth 65536 in
theorem w_c7 : (Jvm.Cond.code ({ cls := "java/lang/Object", name := "<init>", desc := "()V" } : Jvm.MethodName) object_method_1_code (1 : Nat) (Option.none : Option Jvm.ClassFile.FieldType)).before args0 about1 = true := code_word (m := ⟨0, 0⟩) (meth := k0m0) (c := k0c0) (by decide +kernel) rfl rfl rfl (by decide +kernel)
set_option maxRecDepth 65536 in
theorem w_c8 : (Jvm.Cond.code ({ cls := "com/example/upupa/upupa/engine/SubspaceIteration$Columns", name := "transposeTimes", desc := "(I[DI[D)V" } : Jvm.MethodName) prog_4_method_3_code (10 : Nat) (Option.none : Option Jvm.ClassFile.FieldType)).before args0 about1 = true := code_word (m := ⟨3, 1⟩) (meth := k3m1) (c := k3c1) (by decide +kernel) rfl rfl rfl (by decide +kernel)
set_option maxRecDepth 65536 in
theorem w_c9 : (Jvm.Cond.code ({ cls := "java/util/Arrays", name := "fill", desc := "([DD)V" } : Jvm.MethodName) jdk_65_method_113_code (5 : Nat) (Option.none : Option Jvm.ClassFile.FieldType)).before args0 about1 = true := code_word (m := ⟨4, 1⟩) (meth := k4m1) (c := k4c1) (by decide +kernel) rfl rfl rfl (by decide +kernel)
def codes1 : List Jvm.Cond := [Jvm.Cond.code x code maxLocals ret, Jvm.Cond.code ({ cls := "com/example/upupa/upupa/engine/ColumnsTransposeTimesPinLaw", name := "rowA", desc := "(II)I" } : Jvm.MethodName) method_2_code (2 : Nat) (Option.some Jvm.ClassFile.FieldType.int), Jvm.Cond.code ({ cls := "com/example/upupa/upupa/engine/ColumnsTransposeTimesPinLaw", name := "rowB", desc := "(II)I" } : Jvm.MethodName) method_3_code (2 : Nat) (Option.some Jvm.ClassFile.FieldType.int), Jvm.Cond.code ({ cls := "com/example/upupa/upupa/engine/ColumnsTransposeTimesPinLaw", name := "wAt", desc := "(III)J" } : Jvm.MethodName) method_4_code (3 : Nat) (Option.some Jvm.ClassFile.FieldType.long), Jvm.Cond.code ({ cls := "com/example/upupa/upupa/engine/ColumnsTransposeTimesPinLaw", name := "yAt", desc := "(IIII)J" } : Jvm.MethodName) method_5_code (4 : Nat) (Option.some Jvm.ClassFile.FieldType.long), Jvm.Cond.code ({ cls := "com/example/upupa/upupa/engine/SubspaceIteration$Columns", name := "<init>", desc := "(I[I[I[D)V" } : Jvm.MethodName) prog_4_method_1_code (5 : Nat) (Option.none : Option Jvm.ClassFile.FieldType), Jvm.Cond.code ({ cls := "java/lang/Record", name := "<init>", desc := "()V" } : Jvm.MethodName) jdk_30_method_1_code (1 : Nat) (Option.none : Option Jvm.ClassFile.FieldType), Jvm.Cond.code ({ cls := "java/lang/Object", name := "<init>", desc := "()V" } : Jvm.MethodName) object_method_1_code (1 : Nat) (Option.none : Option Jvm.ClassFile.FieldType), Jvm.Cond.code ({ cls := "com/example/upupa/upupa/engine/SubspaceIteration$Columns", name := "transposeTimes", desc := "(I[DI[D)V" } : Jvm.MethodName) prog_4_method_3_code (10 : Nat) (Option.none : Option Jvm.ClassFile.FieldType), Jvm.Cond.code ({ cls := "java/util/Arrays", name := "fill", desc := "([DD)V" } : Jvm.MethodName) jdk_65_method_113_code (5 : Nat) (Option.none : Option Jvm.ClassFile.FieldType)]
set_option maxRecDepth 65536 in
theorem codes_eq : words1.filter isCode = codes1 := rfl
theorem w_codes : ∀ c ∈ words1.filter isCode, c.before args0 about1 = true := by
  rw [codes_eq]
  intro c hc
  simp only [codes1, List.mem_cons, List.not_mem_nil, or_false] at hc
  rcases hc with rfl | rfl | rfl | rfl | rfl | rfl | rfl | rfl | rfl | rfl
  · exact w_c0
  · exact w_c1
  · exact w_c2
  · exact w_c3
  · exact w_c4
  · exact w_c5
  · exact w_c6
  · exact w_c7
  · exact w_c8
  · exact w_c9
set_option maxRecDepth 65536 in
theorem w_t1 : (words1.take 24).all (fun c => isCode c || c.before args0 about1) = true := by decide +kernel
set_option maxRecDepth 65536 in
theorem w_t2 : (words1.drop 24).all (fun c => isCode c || c.before args0 about1) = true := by decide +kernel
theorem w_tables : (allAtoms (Jvm.Cond.code x code maxLocals ret :: tables_1)).before args0 about1 = true := by
  rw [allAtoms_all]
  show words1.all (fun c => c.before args0 about1) = true
  refine all_split ?_ w_codes
  rw [← List.take_append_drop 24 words1, List.all_append, w_t1, w_t2]
  rfl
set_option maxRecDepth 65536 in
theorem w_case : (Jvm.Cond.and given_1 narrow_1).before args0 about1 = true := by decide +kernel
theorem w_applies : (headSpec (Jvm.Cond.code x code maxLocals ret :: tables_1) room_1).applies x e0.platform about1 = true :=
  (Spec.applies_iff w_frames).mpr ⟨w_running, w_runnable, w_alone, w_named, w_hears, w_ripe, w_room, w_tables⟩
theorem atStart : AtStart classFile x code maxLocals ret World_1 tables_1 room_1 Calls_1 rest_1 Pre_1 launch0 p0 e0 about1 theMethod args0 below0 :=
  ⟨lists_1, trivial, launch0.admits_env _ _ _, launch0.least_env, fairChoices_fair.cas, fairChoices_fair.clock, w_frames, w_args, w_heap, w_applies, trivial, trivial, w_case⟩
end start1
theorem witness_1 : WitnessClaimed_1 := ⟨start1.p0, start1.e0, start1.about1, start1.theMethod, start1.args0, start1.below0, start1.atStart⟩
end Jvm.Pilot.@@N@@

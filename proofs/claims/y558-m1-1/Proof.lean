import JvmDerived
import JvmDerived.Pilot.@@N@@Statement
import JvmDerived.Pilot.@@N@@Code
set_option linter.unusedVariables false
set_option linter.unusedSimpArgs false
namespace Jvm.Pilot.@@N@@
section OwnFP
open Jvm.FP Jvm.FP.Core Jvm.Free.Fl
/-- what x stands for, in units of the least double -/
def own_zv (x : UInt64) : Int := zval b64 (val64 x)
/-- x is finite and stands for a / 2^k -/
def Dy (x : UInt64) (a : Int) (k : Nat) : Prop := DFin x ∧ own_zv x * ((2 ^ k : Nat) : Int) = a * (one64 : Int)
theorem Dy.nn {x : UInt64} {a : Int} {k : Nat} (h : Dy x a k) : NoNaN64 x := (fin64_core.mpr h.1).noNaN
theorem own_pp (k : Nat) : (0 : Int) < ((2 ^ k : Nat) : Int) := Int.natCast_pos.mpr (Nat.two_pow_pos k)
theorem own_up : (0 : Int) < (one64 : Int) := Int.natCast_pos.mpr one64_pos
theorem own_signed_abs (a : Int) : signed (decide (a < 0)) a.natAbs = a := by
  unfold signed
  by_cases h : a < 0
  · simp [h]; omega
  · simp [h]; omega
theorem own_datum (a : Int) (n : Nat) (ha : a.natAbs < 2 ^ 53) (hn : n ≤ 1074) : ∃ V : Datum, Core.fits b64 V ∧ V ≠ .nan ∧ zval b64 V = a * ((2 ^ n : Nat) : Int) := by
  have hq : b64.qmin = -1074 := qmin_b64
  have hqx : b64.qmax = 971 := by decide
  obtain ⟨c', q', hr, hu⟩ := round_exact good_b64 (decide (a < 0)) (c := a.natAbs) (q := (n : Int) - 1074) ha (by rw [hq]; omega) (by rw [hqx]; omega)
  have hV := round_fits good_b64 (.fin (decide (a < 0)) a.natAbs ((n : Int) - 1074))
  rw [hr] at hV
  refine ⟨_, hV, by simp, ?_⟩
  show signed (decide (a < 0)) (inUnits c' q' b64.qmin) = _
  rw [hu]
  unfold inUnits
  rw [signed_mul, own_signed_abs, hq, show (((n : Int) - 1074) - -1074).toNat = n by omega]
theorem own_notinf {a : Int} {n : Nat} {t : Bool} (ha : a.natAbs < 2 ^ 53) (hn : n ≤ 1074) : ¬ zval b64 (.inf t) = a * ((2 ^ n : Nat) : Int) := by
  intro e
  have q := congrArg Int.natAbs e
  rw [show zval b64 (.inf t) = signed t (b64.tails * 2 ^ (b64.exps - 2)) from rfl, natAbs_signed, Int.natAbs_mul, Int.natAbs_natCast] at q
  have l1 : a.natAbs * 2 ^ n < 2 ^ 53 * 2 ^ 1074 := Nat.mul_lt_mul_of_lt_of_le ha (Nat.pow_le_pow_right (by decide) hn) (Nat.two_pow_pos _)
  have l2 : 2 ^ 53 * 2 ^ 1074 < b64.tails * 2 ^ (b64.exps - 2) := by
    rw [tails_b64, show b64.exps - 2 = 2046 by decide, ← Nat.pow_add, ← Nat.pow_add]
    exact Nat.pow_lt_pow_right (by decide) (by decide)
  exact Nat.lt_irrefl _ (Nat.lt_trans l2 (by rw [q]; exact l1))
theorem own_round {s : Bool} {c : Nat} {q e0 a : Int} {k : Nat} (ha : a.natAbs < 2 ^ 53) (hk : k ≤ 1074) (h0 : e0 ≤ -1074) (h0e : e0 ≤ q)
    (h : signed s (inUnits c q e0) * ((2 ^ k : Nat) : Int) = a * ((2 ^ (-e0).toNat : Nat) : Int)) :
    (∃ s' c' q', round b64 (.fin s c q) = .fin s' c' q') ∧ zval b64 (round b64 (.fin s c q)) * ((2 ^ k : Nat) : Int) = a * (one64 : Int) := by
  have hq : b64.qmin = -1074 := qmin_b64
  obtain ⟨V, hV, hVn, hz⟩ := own_datum a (1074 - k) ha (by omega)
  have hs : zval b64 V * ((2 ^ (b64.qmin - e0).toNat : Nat) : Int) = signed s (inUnits c q e0) := by
    apply Int.eq_of_mul_eq_mul_right (a := ((2 ^ k : Nat) : Int)) (Int.ne_of_gt (own_pp k))
    rw [h, hz, hq, Int.mul_assoc, Int.mul_assoc, ← Int.natCast_mul, ← Int.natCast_mul, ← Nat.pow_add, ← Nat.pow_add]
    rw [show 1074 - k + ((-1074 - e0).toNat + k) = (-e0).toNat by omega]
  have le := zval_round_le good_b64 (s := s) (c := c) (q := q) (e0 := e0) hV hVn (by rw [hq]; exact h0) h0e (by rw [hs]; exact Int.le_refl _)
  have ge := zval_round_ge good_b64 (s := s) (c := c) (q := q) (e0 := e0) hV hVn (by rw [hq]; exact h0) h0e (by rw [hs]; exact Int.le_refl _)
  have e : zval b64 (round b64 (.fin s c q)) = a * ((2 ^ (1074 - k) : Nat) : Int) := by rw [← hz]; exact Int.le_antisymm le ge
  refine ⟨?_, by rw [e, Int.mul_assoc, ← Int.natCast_mul, ← Nat.pow_add, show 1074 - k + k = 1074 by omega]; rfl⟩
  cases hc : round b64 (.fin s c q) with
  | nan => exact absurd hc (roundRatio_ne_nan _ _ _ _ _)
  | fin s' c' q' => exact ⟨_, _, _, rfl⟩
  | inf t => rw [hc] at e; exact absurd e (own_notinf ha (by omega))
theorem Dy.add {x y : UInt64} {a b : Int} {k : Nat} (hx : Dy x a k) (hy : Dy y b k) (h : (a + b).natAbs < 2 ^ 53) (hk : k ≤ 1074) : Dy (FP.dadd x y) (a + b) k := by
  obtain ⟨⟨s, c, q, ex⟩, zx⟩ := hx
  obtain ⟨⟨t, d, r, ey⟩, zy⟩ := hy
  have fx := val64_fits x
  have fy := val64_fits y
  unfold own_zv at zx zy
  rw [ex] at fx zx
  rw [ey] at fy zy
  obtain ⟨sg, n, e, hs, he, hv⟩ := sum_units fx fy
  have hd : val64 (FP.dadd x y) = round b64 (.fin sg n e) := by rw [show FP.dadd x y = Core.dadd x y from rfl, val64_dadd, ex, ey, hs]
  obtain ⟨⟨s', c', q', h1⟩, h2⟩ := own_round (s := sg) (c := n) (q := e) (e0 := b64.qmin) (a := a + b) (k := k) h hk (Int.le_of_eq qmin_b64) he (by rw [hv, Int.add_mul, zx, zy, ← Int.add_mul, pow_qmin64])
  exact ⟨⟨s', c', q', hd.trans h1⟩, by unfold own_zv; rw [hd]; exact h2⟩
theorem Dy.sub {x y : UInt64} {a b : Int} {k : Nat} (hx : Dy x a k) (hy : Dy y b k) (h : (a - b).natAbs < 2 ^ 53) (hk : k ≤ 1074) : Dy (FP.dsub x y) (a - b) k := by
  obtain ⟨⟨s, c, q, ex⟩, zx⟩ := hx
  obtain ⟨⟨t, d, r, ey⟩, zy⟩ := hy
  have fx := val64_fits x
  have fy := negate_fits (val64_fits y)
  have zn := zval_negate b64 (val64 y)
  unfold own_zv at zx zy
  rw [ex] at fx zx
  rw [ey] at fy zy zn
  have fy' : Core.fits b64 (.fin (!t) d r) := fy
  have zn' : zval b64 (.fin (!t) d r) = -zval b64 (.fin t d r) := zn
  obtain ⟨sg, n, e, hs, he, hv⟩ := sum_units fx fy'
  have hd : val64 (FP.dsub x y) = round b64 (.fin sg n e) := by
    rw [show FP.dsub x y = Core.dsub x y from rfl, val64_dsub, ex, ey]
    exact congrArg (round b64) hs
  obtain ⟨⟨s', c', q', h1⟩, h2⟩ := own_round (s := sg) (c := n) (q := e) (e0 := b64.qmin) (a := a - b) (k := k) h hk (Int.le_of_eq qmin_b64) he (by rw [hv, zn', Int.add_mul, Int.neg_mul, zx, zy, ← Int.sub_eq_add_neg, ← Int.sub_mul, pow_qmin64])
  exact ⟨⟨s', c', q', hd.trans h1⟩, by unfold own_zv; rw [hd]; exact h2⟩
theorem own_two_qmin : 2 ^ (-(2 * b64.qmin)).toNat = one64 * one64 := by
  rw [show (-(2 * b64.qmin)).toNat = (-b64.qmin).toNat + (-b64.qmin).toNat by rw [qmin_b64]; decide, Nat.pow_add, pow_qmin64]
theorem Dy.mul {x y : UInt64} {a b : Int} {k j : Nat} (hx : Dy x a k) (hy : Dy y b j) (h : (a * b).natAbs < 2 ^ 53) (hk : k + j ≤ 1074) : Dy (FP.dmul x y) (a * b) (k + j) := by
  obtain ⟨⟨s, c, q, ex⟩, zx⟩ := hx
  obtain ⟨⟨t, d, r, ey⟩, zy⟩ := hy
  have fx := val64_fits x
  have fy := val64_fits y
  unfold own_zv at zx zy
  rw [ex] at fx zx
  rw [ey] at fy zy
  obtain ⟨hp, he, hv⟩ := product_units fx fy
  have hd : val64 (FP.dmul x y) = round b64 (.fin (s != t) (c * d) (q + r)) := by rw [show FP.dmul x y = Core.dmul x y from rfl, val64_dmul, ex, ey, hp]
  have hg : signed (s != t) (inUnits (c * d) (q + r) (2 * b64.qmin)) = zval b64 (.fin s c q) * zval b64 (.fin t d r) := by rw [hv, signed_xor]; rfl
  obtain ⟨⟨s', c', q', h1⟩, h2⟩ := own_round (s := s != t) (c := c * d) (q := q + r) (e0 := 2 * b64.qmin) (a := a * b) (k := k + j) h hk (by rw [qmin_b64]; decide) he (by
    rw [hg, own_two_qmin, Nat.pow_add, Int.natCast_mul, Int.natCast_mul]
    rw [show ∀ A B P Q : Int, A * B * (P * Q) = (A * P) * (B * Q) from fun A B P Q => by ac_rfl, zx, zy]
    exact (fun A B P : Int => by ac_rfl : ∀ A B P : Int, A * P * (B * P) = A * B * (P * P)) _ _ _)
  exact ⟨⟨s', c', q', hd.trans h1⟩, by unfold own_zv; rw [hd]; exact h2⟩
theorem own_units {c : Nat} {q r e0 : Int} (hq : b64.qmin ≤ q) (hr : b64.qmin ≤ r) (h1 : e0 ≤ q - r) (h2 : e0 ≤ b64.qmin) :
    inUnits c (q - r) e0 * 2 ^ (r - b64.qmin).toNat = inUnits c q b64.qmin * one64 * 2 ^ (b64.qmin - e0).toNat := by
  unfold inUnits one64
  rw [qmin_b64] at *
  rw [Nat.mul_assoc, ← Nat.pow_add, Nat.mul_assoc, Nat.mul_assoc, ← Nat.pow_add, ← Nat.pow_add]
  rw [show (q - r - e0).toNat + (r - -1074).toNat = (q - -1074).toNat + (1074 + (-1074 - e0).toNat) by omega]
theorem own_ddiv {x y : UInt64} {s t : Bool} {c d : Nat} {q r : Int} (ex : val64 x = .fin s c q) (ey : val64 y = .fin t d r) (hd : d ≠ 0) : val64 (FP.ddiv x y) = roundRatio b64 (s != t) c d (q - r) := by
  rw [show FP.ddiv x y = Core.ddiv x y from rfl, val64_ddiv, ex, ey]
  simp [quotient, hd]
theorem own_div_le {x y : UInt64} {s t : Bool} {c d : Nat} {q r : Int} (ex : val64 x = .fin s c q) (ey : val64 y = .fin t d r) (hd : d ≠ 0) {V : Datum} (hV : Core.fits b64 V) (hn : V ≠ .nan)
    (h : zmag b64 (val64 x) * one64 ≤ zmag b64 V * zmag b64 (val64 y)) : zmag b64 (val64 (FP.ddiv x y)) ≤ zmag b64 V := by
  have fx := val64_fits x
  have fy := val64_fits y
  rw [ex] at fx h
  rw [ey] at fy h
  rw [own_ddiv ex ey hd]
  refine zmag_roundRatio_le good_b64 (e0 := min (q - r) b64.qmin) (Nat.pos_of_ne_zero hd) hV hn (Int.min_le_right _ _) (Int.min_le_left _ _) ?_
  refine Nat.le_of_mul_le_mul_right (c := 2 ^ (r - b64.qmin).toNat) ?_ (Nat.two_pow_pos _)
  rw [own_units fx.2.1 fy.2.1 (Int.min_le_left _ _) (Int.min_le_right _ _)]
  refine Nat.le_trans (Nat.mul_le_mul_right _ h) (Nat.le_of_eq ?_)
  show zmag b64 V * inUnits d r b64.qmin * _ = _
  unfold inUnits
  exact (fun A B P Q : Nat => by ac_rfl : ∀ A B P Q : Nat, A * (B * P) * Q = A * Q * B * P) _ _ _ _
theorem own_div_ge {x y : UInt64} {s t : Bool} {c d : Nat} {q r : Int} (ex : val64 x = .fin s c q) (ey : val64 y = .fin t d r) (hd : d ≠ 0) {V : Datum} (hV : Core.fits b64 V)
    (h : zmag b64 V * zmag b64 (val64 y) ≤ zmag b64 (val64 x) * one64) : zmag b64 V ≤ zmag b64 (val64 (FP.ddiv x y)) := by
  have fx := val64_fits x
  have fy := val64_fits y
  rw [ex] at fx h
  rw [ey] at fy h
  rw [own_ddiv ex ey hd]
  refine zmag_roundRatio_ge good_b64 (e0 := min (q - r) b64.qmin) (Nat.pos_of_ne_zero hd) hV (Int.min_le_right _ _) (Int.min_le_left _ _) ?_
  refine Nat.le_of_mul_le_mul_right (c := 2 ^ (r - b64.qmin).toNat) ?_ (Nat.two_pow_pos _)
  rw [own_units fx.2.1 fy.2.1 (Int.min_le_left _ _) (Int.min_le_right _ _)]
  refine Nat.le_trans (Nat.le_of_eq ?_) (Nat.mul_le_mul_right _ h)
  show _ = zmag b64 V * inUnits d r b64.qmin * _
  unfold inUnits
  exact (fun A B P Q : Nat => by ac_rfl : ∀ A B P Q : Nat, A * Q * B * P = A * (B * P) * Q) _ _ _ _
theorem own_zval_abs (d : Datum) : (zval b64 d).natAbs = zmag b64 d := by unfold zval; exact natAbs_signed _ _
theorem Dy.div {x y : UInt64} {a b m : Int} {k j n : Nat} (hx : Dy x a k) (hy : Dy y b j) (hb : b ≠ 0) (hm : m.natAbs < 2 ^ 53) (hn : n ≤ 1074)
    (h : a * ((2 ^ j : Nat) : Int) * ((2 ^ n : Nat) : Int) = m * b * ((2 ^ k : Nat) : Int)) : Dy (FP.ddiv x y) m n := by
  obtain ⟨⟨s, c, q, ex⟩, zx⟩ := hx
  obtain ⟨⟨t, d, r, ey⟩, zy⟩ := hy
  unfold own_zv at zx zy
  obtain ⟨V, hV, hVn, hz⟩ := own_datum m (1074 - n) hm (by omega)
  have hzn : zval b64 V * ((2 ^ n : Nat) : Int) = m * (one64 : Int) := by rw [hz, Int.mul_assoc, ← Int.natCast_mul, ← Nat.pow_add, show 1074 - n + n = 1074 by omega]; rfl
  have hyn : zval b64 (val64 y) ≠ 0 := fun e => by
    rw [e, Int.zero_mul] at zy
    rcases Int.mul_eq_zero.mp zy.symm with q | q
    · exact hb q
    · exact absurd q (Int.ne_of_gt own_up)
  have hd : d ≠ 0 := fun e => by
    subst e
    rw [ey] at hyn
    exact hyn (by show signed t (inUnits 0 r b64.qmin) = 0; unfold inUnits; rw [Nat.zero_mul, signed_zero])
  have key : zval b64 V * zval b64 (val64 y) = zval b64 (val64 x) * (one64 : Int) := by
    have e1 : (zval b64 V * zval b64 (val64 y)) * (((2 ^ n : Nat) : Int) * ((2 ^ j : Nat) : Int) * ((2 ^ k : Nat) : Int)) = (zval b64 (val64 x) * (one64 : Int)) * (((2 ^ n : Nat) : Int) * ((2 ^ j : Nat) : Int) * ((2 ^ k : Nat) : Int)) := by
      rw [(fun A B P Q R : Int => by ac_rfl : ∀ A B P Q R : Int, A * B * (P * Q * R) = (A * P) * (B * Q) * R), hzn, zy,
        (fun A B P Q R : Int => by ac_rfl : ∀ A B P Q R : Int, A * B * (P * Q * R) = (A * R) * (B * P * Q)) (zval b64 (val64 x)), zx,
        (fun M B U K : Int => by ac_rfl : ∀ M B U K : Int, M * U * (B * U) * K = (M * B * K) * (U * U)), ← h]
      exact (fun A U P Q : Int => by ac_rfl : ∀ A U P Q : Int, A * Q * P * (U * U) = A * U * (U * P * Q)) _ _ _ _
    exact Int.eq_of_mul_eq_mul_right (Int.ne_of_gt (Int.mul_pos (Int.mul_pos (own_pp n) (own_pp j)) (own_pp k))) e1
  have kn : zmag b64 V * zmag b64 (val64 y) = zmag b64 (val64 x) * one64 := by
    have q := congrArg Int.natAbs key
    rw [Int.natAbs_mul, Int.natAbs_mul, own_zval_abs, own_zval_abs, own_zval_abs, Int.natAbs_natCast] at q
    exact q
  have le := own_div_le ex ey hd hV hVn (Nat.le_of_eq kn.symm)
  have ge := own_div_ge ex ey hd hV (Nat.le_of_eq kn)
  have em : zmag b64 (val64 (FP.ddiv x y)) = zmag b64 V := Nat.le_antisymm le ge
  have er := own_ddiv ex ey hd
  have es : sgn (val64 (FP.ddiv x y)) = (s != t) := by rw [er, sgn_roundRatio]
  have prod : zval b64 (val64 (FP.ddiv x y)) * zval b64 (val64 y) = zval b64 (val64 x) * (one64 : Int) := by
    unfold zval
    rw [es, em, ← signed_xor, kn, signed_mul, ex, ey]
    show signed ((s != t) != t) _ * _ = signed s _ * _
    rw [show ((s != t) != t) = s by cases s <;> cases t <;> rfl]
  have eq : zval b64 (val64 (FP.ddiv x y)) = zval b64 V := Int.eq_of_mul_eq_mul_right hyn (prod.trans key.symm)
  refine ⟨?_, by unfold own_zv; rw [eq]; exact hzn⟩
  cases hc : val64 (FP.ddiv x y) with
  | nan => exact absurd (er.symm.trans hc) (roundRatio_ne_nan _ _ _ _ _)
  | fin s' c' q' => exact ⟨_, _, _, hc⟩
  | inf t => rw [hc, hz] at eq; exact absurd eq (own_notinf hm (by omega))
theorem own_ofInt {x : UInt64} {i : Int} (hx : val64 x = round b64 (ofInt i)) (h : i.natAbs < 2 ^ 53) : Dy x i 0 := by
  obtain ⟨⟨s', c', q', h1⟩, h2⟩ := own_round (s := decide (i < 0)) (c := i.natAbs) (q := 0) (e0 := b64.qmin) (a := i) (k := 0) h (by decide) (Int.le_of_eq qmin_b64) (by rw [qmin_b64]; decide) (by
    unfold inUnits
    rw [signed_mul, own_signed_abs, show (0 - b64.qmin) = -b64.qmin by omega, pow_qmin64]; simp)
  exact ⟨⟨s', c', q', hx.trans h1⟩, by unfold own_zv; rw [hx]; exact h2⟩
theorem Dy.i2d (v : Int32) : Dy (FP.i2d v) v.toInt 0 := own_ofInt (val64_i2d v) (by have h1 := Int32.toInt_lt v; have h2 := Int32.le_toInt v; omega)
theorem Dy.l2d {v : Int64} (h : v.toInt.natAbs < 2 ^ 53) : Dy (FP.l2d v) v.toInt 0 := own_ofInt (val64_l2d v) h
theorem Dy.lit {x : UInt64} {a : Int} {k : Nat} (s : Bool) (c : Nat) (q : Int) (h : val64 x = .fin s c q) (h2 : signed s (inUnits c q b64.qmin) * ((2 ^ k : Nat) : Int) = a * (one64 : Int)) : Dy x a k :=
  ⟨⟨s, c, q, h⟩, by unfold own_zv; rw [h]; exact h2⟩
theorem Dy.up {x : UInt64} {a : Int} {k : Nat} (i : Nat) (h : Dy x a k) : Dy x (a * ((2 ^ i : Nat) : Int)) (k + i) :=
  ⟨h.1, by rw [Nat.pow_add, Int.natCast_mul, ← Int.mul_assoc, h.2]; exact (fun A B C : Int => by ac_rfl : ∀ A B C : Int, A * B * C = A * C * B) _ _ _⟩
theorem Dy.cast {x : UInt64} {a b : Int} {k j : Nat} (h : Dy x a k) (e : a = b) (e2 : k = j) : Dy x b j := e ▸ e2 ▸ h
/-- the int that dcmpl and dcmpg push for two numbers -/
def own_ci (a b : Int) : Int32 := if a < b then -1 else if a = b then 0 else 1
theorem own_ci_lt {a b : Int} : own_ci a b < 0 ↔ a < b := by unfold own_ci; split <;> (try split) <;> simp_all <;> omega
theorem own_ci_gt {a b : Int} : 0 < own_ci a b ↔ b < a := by unfold own_ci; split <;> (try split) <;> simp_all <;> omega
theorem own_ci_eq {a b : Int} : own_ci a b = 0 ↔ a = b := by unfold own_ci; split <;> (try split) <;> simp_all <;> omega
theorem own_dcmp {x y : UInt64} (hx : DFin x) (hy : DFin y) : FP.dcmp x y = some (compare (own_zv x) (own_zv y)) := by
  obtain ⟨s, c, q, ex⟩ := hx
  obtain ⟨t, d, r, ey⟩ := hy
  exact order_zval good_b64 (val64_fits x) (val64_fits y) (fun e => by cases ex.symm.trans e) (fun e => by cases ey.symm.trans e)
theorem Dy.dcmp {x y : UInt64} {a b : Int} {k : Nat} (hx : Dy x a k) (hy : Dy y b k) : FP.dcmp x y = some (compare a b) := by
  rw [own_dcmp hx.1 hy.1]
  congr 1
  refine compare_congr ?_ ?_
  · rw [← Int.mul_lt_mul_right (own_pp k), hx.2, hy.2, Int.mul_lt_mul_right own_up]
  · constructor
    · intro e
      have q := hx.2
      rw [e, hy.2] at q
      exact (Int.eq_of_mul_eq_mul_right (Int.ne_of_gt own_up) q).symm
    · intro e
      have q := hx.2
      rw [e, ← hy.2] at q
      exact Int.eq_of_mul_eq_mul_right (Int.ne_of_gt (own_pp k)) q
theorem Dy.cmp {x y : UInt64} {a b : Int} {k : Nat} (hx : Dy x a k) (hy : Dy y b k) (o : Jvm.ClassFile.CmpOp) : Jvm.Op.cmpValue (FP.dcmp x y) o = own_ci a b := by
  rw [hx.dcmp hy]
  unfold own_ci
  show Jvm.Op.cmpValue (some (compareOfLessAndEq a b)) o = _
  unfold compareOfLessAndEq
  by_cases h1 : a < b
  · simp [h1]; cases o <;> rfl
  · by_cases h2 : a = b
    · simp [h2]; cases o <;> rfl
    · simp [h1, h2]; cases o <;> rfl
end OwnFP
end Jvm.Pilot.@@N@@
namespace Jvm.Pilot.@@N@@
open Jvm Jvm.ClassFile Sem Op Lib Jvm.Free Jvm.Stand Jvm.LawKit Jvm.RoadKit Jvm.Free.Fl Bundle Jvm.Pilot.@@N@@.Jvm.D
/-- the run from A ends, and what it leaves meets F -/
def Rn (p : Program) (e : Env) (below : List Frame) (A : State) (F : Outcome → State → Prop) : Prop := ∃ s₂ o, Steps p.tables e below A s₂ ∧ s₂.status = .running ∧ Ended s₂ below o ∧ F o s₂
theorem Rn.st {p : Program} {e : Env} {below : List Frame} {A B : State} {F : Outcome → State → Prop} (h : ∀ t, Steps p.tables e below B t → Steps p.tables e below A t) (r : Rn p e below B F) : Rn p e below A F := by
  obtain ⟨s₂, o, h1, h2⟩ := r
  exact ⟨s₂, o, h _ h1, h2⟩
theorem Rn.ret {p : Program} {l : Launch} {e : Env} {R : Room} {s : State} {m : MethodId} {args : Array Value} {below : List Frame} {meth : Method} {c : Code} {T : State} {locs : List Loc} {cells slots k n : Nat} {A : State} {h : Heap}
    (X : Stand p l e R s m args below meth c T locs cells slots) (hlk : meth.locks = false) {v : Option Value} (hv : meth.sig.returnType = none → v = none) {Q : Option Value → Heap → List Loc → Prop} (eT : T.heap = h)
    (last : ∀ fs, (∀ (f : JFrame) (acts : List Action), f.method = m → f.locked = none → f.entered = [] → (doReturn e (T.setTop f) acts v).1 = T.setFrames fs) → Steps p.tables e below A (T.setFrames fs))
    (q : Q v h locs) (hc : cells ≤ k) (hs : slots ≤ n) : Rn p e below A (fun o U' => ∃ v L, o = .returned v ∧ Q v U'.heap L ∧ FrameEnd s o U' L k n) := by
  obtain ⟨fs, hr, hrun, hended, hW, hsame⟩ := X.leave hv hlk
  refine ⟨_, _, last fs hr, hrun, hended, _, _, rfl, ?_, ⟨_, rfl⟩, hW, hsame.mono hc hs⟩
  show Q v T.heap locs
  rw [eT]; exact q
theorem own_sta_keep {Z : State} {h h' : Heap} {C n d : String} {w : Value} {ws : List Addr} (F : Sta Z h C n d w) (K : Keep h h' ws) (q : ∀ x ∈ ws, ∀ cell : Cell, h[x]? = some cell → cell.vm.isStatics = false) : Sta Z h' C n d w := by
  obtain ⟨cf, i, k, f, st, cell, h1, h2, h3, h4, h5, h6, h7⟩ := F
  refine ⟨cf, i, k, f, st, cell, h1, h2, h3, h4, K.2.1 st cell h5 (fun hm => ?_), h6, h7⟩
  have e := q st hm cell h5
  rw [h6] at e
  exact absurd e (by decide)
theorem own_wadd (a b : Int32) : (a.toInt64 + b.toInt64).toInt = a.toInt + b.toInt := by
  have h1 := Int32.toInt_lt a; have h2 := Int32.le_toInt a; have h3 := Int32.toInt_lt b; have h4 := Int32.le_toInt b
  rw [Int64.toInt_add, Int32.toInt_toInt64, Int32.toInt_toInt64, Int.bmod_eq_of_le (by omega) (by omega)]
theorem own_mulL {a b : Int64} (h : (a.toInt * b.toInt).natAbs < 9223372036854775808) : (a * b).toInt = a.toInt * b.toInt := by
  rw [Int64.toInt_mul, Int.bmod_eq_of_le (by omega) (by omega)]
theorem own_addL {a b : Int64} (h : (a.toInt + b.toInt).natAbs < 9223372036854775808) : (a + b).toInt = a.toInt + b.toInt := by
  rw [Int64.toInt_add, Int.bmod_eq_of_le (by omega) (by omega)]
theorem own_subI {a b : Int32} (h : -2147483648 ≤ a.toInt - b.toInt ∧ a.toInt - b.toInt < 2147483648) : (a - b).toInt = a.toInt - b.toInt := by
  rw [Int32.toInt_sub, Int.bmod_eq_of_le (by omega) (by omega)]
theorem own_addI {a b : Int32} (h : -2147483648 ≤ a.toInt + b.toInt ∧ a.toInt + b.toInt < 2147483648) : (a + b).toInt = a.toInt + b.toInt := by
  rw [Int32.toInt_add, Int.bmod_eq_of_le (by omega) (by omega)]
theorem own_mulI {a b : Int32} (h : (a.toInt * b.toInt).natAbs < 2147483648) : (a * b).toInt = a.toInt * b.toInt := by
  rw [Int32.toInt_mul, Int.bmod_eq_of_le (by omega) (by omega)]
theorem own_masked {a r m : Int32} {d : Int} (hm : 0 ≤ m.toInt) (hd : 0 < d) {k : Int32} (hk : k.toInt = d) (h : (a &&& m) % k = r) : 0 ≤ r.toInt ∧ r.toInt < d := by
  have q := c_and a m hm
  have t := (c_irem (a &&& m) k d hk).1 q.1
  rw [h] at t
  rw [t]
  exact ⟨Int.emod_nonneg _ (Int.ne_of_gt hd), Int.emod_lt_of_pos _ hd⟩
theorem own_eqI {a b : Int32} (h : a.toInt = b.toInt) : a = b := Int32.toInt_inj.mp h
theorem own_neI {a b : Int32} (h : ¬ a.toInt = b.toInt) : ¬ a = b := fun q => h (congrArg Int32.toInt q)
theorem own_bd {j n : Int32} (h : 0 ≤ j.toInt ∧ j.toInt < n.toInt) : ¬ j < 0 ∧ j < n := by
  constructor
  · rw [Int32.lt_iff_toInt_lt]; have : (0 : Int32).toInt = 0 := by decide
    omega
  · rw [Int32.lt_iff_toInt_lt]; exact h.2
theorem own_getH_nil (dv : Value) (n : Nat) : getH [] [] dv n = dv := by simp [getH]
theorem own_pb {a b : Int} {A B : Nat} (ha : a.natAbs ≤ A) (hb : b.natAbs ≤ B) : (a * b).natAbs ≤ A * B := by rw [Int.natAbs_mul]; exact Nat.mul_le_mul ha hb
theorem own_b (a : Int32) : -2147483648 ≤ a.toInt ∧ a.toInt < 2147483648 := ⟨Int32.le_toInt a, Int32.toInt_lt a⟩
theorem own_wsub (a b : Int32) : (a.toInt64 - b.toInt64).toInt = a.toInt - b.toInt := by
  have h1 := Int32.toInt_lt a; have h2 := Int32.le_toInt a; have h3 := Int32.toInt_lt b; have h4 := Int32.le_toInt b
  rw [Int64.toInt_sub, Int32.toInt_toInt64, Int32.toInt_toInt64, Int.bmod_eq_of_le (by omega) (by omega)]
section RSteps
variable {p : Program} {l : Launch} {e : Env} {R : Room} {s : State} {m : MethodId} {args : Array Value} {below : List Frame} {meth : Method} {c : Code} {T : State} {locs : List Loc} {cells slots : Nat} {G : Outcome → State → Prop} {L L' : Array Slot} {S : List Value} {pc pc' : Nat}
theorem R.iloadN (X : Stand p l e R s m args below meth c T locs cells slots) (hx : p.tables.exec = Jvm.exec) {k : Fin 4} {v : Int32} (hd : decode c.code pc = .ok (.iload_n k, 1)) (hl : L[k.val]? = some (.val (.int v))) (hp : pc + 1 = pc') (r : Rn p e below (T.setTop (mkF m pc' L (.int v :: S))) G) : Rn p e below (T.setTop (mkF m pc L (S))) G := by
  subst hp; exact Rn.st (fun t q => XS.iloadN X.here hx rfl hd hl q) r
theorem R.iload (X : Stand p l e R s m args below meth c T locs cells slots) (hx : p.tables.exec = Jvm.exec) {k : Nat} {v : Int32} (hd : decode c.code pc = .ok (.iload k, 2)) (hl : L[k]? = some (.val (.int v))) (hp : pc + 2 = pc') (r : Rn p e below (T.setTop (mkF m pc' L (.int v :: S))) G) : Rn p e below (T.setTop (mkF m pc L (S))) G := by
  subst hp; exact Rn.st (fun t q => XS.iload X.here hx rfl hd hl q) r
theorem R.istoreN (X : Stand p l e R s m args below meth c T locs cells slots) (hx : p.tables.exec = Jvm.exec) {k : Fin 4} {v : Int32} (hd : decode c.code pc = .ok (.istore_n k, 1)) (hl : storeLocals L k.val (.int v) = some L') (hp : pc + 1 = pc') (r : Rn p e below (T.setTop (mkF m pc' L' (S))) G) : Rn p e below (T.setTop (mkF m pc L (.int v :: S))) G := by
  subst hp; exact Rn.st (fun t q => XS.istoreN X.here hx rfl hd rfl hl q) r
theorem R.istore (X : Stand p l e R s m args below meth c T locs cells slots) (hx : p.tables.exec = Jvm.exec) {k : Nat} {v : Int32} (hd : decode c.code pc = .ok (.istore k, 2)) (hl : storeLocals L k (.int v) = some L') (hp : pc + 2 = pc') (r : Rn p e below (T.setTop (mkF m pc' L' (S))) G) : Rn p e below (T.setTop (mkF m pc L (.int v :: S))) G := by
  subst hp; exact Rn.st (fun t q => XS.istore X.here hx rfl hd rfl hl q) r
theorem R.lloadN (X : Stand p l e R s m args below meth c T locs cells slots) (hx : p.tables.exec = Jvm.exec) {k : Fin 4} {v : Int64} (hd : decode c.code pc = .ok (.lload_n k, 1)) (hl : L[k.val]? = some (.val (.long v))) (hp : pc + 1 = pc') (r : Rn p e below (T.setTop (mkF m pc' L (.long v :: S))) G) : Rn p e below (T.setTop (mkF m pc L (S))) G := by
  subst hp; exact Rn.st (fun t q => XS.lloadN X.here hx rfl hd hl q) r
theorem R.lload (X : Stand p l e R s m args below meth c T locs cells slots) (hx : p.tables.exec = Jvm.exec) {k : Nat} {v : Int64} (hd : decode c.code pc = .ok (.lload k, 2)) (hl : L[k]? = some (.val (.long v))) (hp : pc + 2 = pc') (r : Rn p e below (T.setTop (mkF m pc' L (.long v :: S))) G) : Rn p e below (T.setTop (mkF m pc L (S))) G := by
  subst hp; exact Rn.st (fun t q => XS.lload X.here hx rfl hd hl q) r
theorem R.lstoreN (X : Stand p l e R s m args below meth c T locs cells slots) (hx : p.tables.exec = Jvm.exec) {k : Fin 4} {v : Int64} (hd : decode c.code pc = .ok (.lstore_n k, 1)) (hl : storeLocals L k.val (.long v) = some L') (hp : pc + 1 = pc') (r : Rn p e below (T.setTop (mkF m pc' L' (S))) G) : Rn p e below (T.setTop (mkF m pc L (.long v :: S))) G := by
  subst hp; exact Rn.st (fun t q => XS.lstoreN X.here hx rfl hd rfl hl q) r
theorem R.lstore (X : Stand p l e R s m args below meth c T locs cells slots) (hx : p.tables.exec = Jvm.exec) {k : Nat} {v : Int64} (hd : decode c.code pc = .ok (.lstore k, 2)) (hl : storeLocals L k (.long v) = some L') (hp : pc + 2 = pc') (r : Rn p e below (T.setTop (mkF m pc' L' (S))) G) : Rn p e below (T.setTop (mkF m pc L (.long v :: S))) G := by
  subst hp; exact Rn.st (fun t q => XS.lstore X.here hx rfl hd rfl hl q) r
theorem R.dloadN (X : Stand p l e R s m args below meth c T locs cells slots) (hx : p.tables.exec = Jvm.exec) {k : Fin 4} {v : UInt64} (hd : decode c.code pc = .ok (.dload_n k, 1)) (hl : L[k.val]? = some (.val (.double v))) (hp : pc + 1 = pc') (r : Rn p e below (T.setTop (mkF m pc' L (.double v :: S))) G) : Rn p e below (T.setTop (mkF m pc L (S))) G := by
  subst hp; exact Rn.st (fun t q => XS.dloadN X.here hx rfl hd hl q) r
theorem R.dload (X : Stand p l e R s m args below meth c T locs cells slots) (hx : p.tables.exec = Jvm.exec) {k : Nat} {v : UInt64} (hd : decode c.code pc = .ok (.dload k, 2)) (hl : L[k]? = some (.val (.double v))) (hp : pc + 2 = pc') (r : Rn p e below (T.setTop (mkF m pc' L (.double v :: S))) G) : Rn p e below (T.setTop (mkF m pc L (S))) G := by
  subst hp; exact Rn.st (fun t q => XS.dload X.here hx rfl hd hl q) r
theorem R.dstoreN (X : Stand p l e R s m args below meth c T locs cells slots) (hx : p.tables.exec = Jvm.exec) {k : Fin 4} {v : UInt64} (hd : decode c.code pc = .ok (.dstore_n k, 1)) (hl : storeLocals L k.val (.double v) = some L') (hp : pc + 1 = pc') (r : Rn p e below (T.setTop (mkF m pc' L' (S))) G) : Rn p e below (T.setTop (mkF m pc L (.double v :: S))) G := by
  subst hp; exact Rn.st (fun t q => XS.dstoreN X.here hx rfl hd rfl hl q) r
theorem R.dstore (X : Stand p l e R s m args below meth c T locs cells slots) (hx : p.tables.exec = Jvm.exec) {k : Nat} {v : UInt64} (hd : decode c.code pc = .ok (.dstore k, 2)) (hl : storeLocals L k (.double v) = some L') (hp : pc + 2 = pc') (r : Rn p e below (T.setTop (mkF m pc' L' (S))) G) : Rn p e below (T.setTop (mkF m pc L (.double v :: S))) G := by
  subst hp; exact Rn.st (fun t q => XS.dstore X.here hx rfl hd rfl hl q) r
theorem R.aloadN (X : Stand p l e R s m args below meth c T locs cells slots) (hx : p.tables.exec = Jvm.exec) {k : Fin 4} {v : Value} (hd : decode c.code pc = .ok (.aload_n k, 1)) (hl : L[k.val]? = some (.val v)) (hv : v.isRef = true) (hp : pc + 1 = pc') (r : Rn p e below (T.setTop (mkF m pc' L (v :: S))) G) : Rn p e below (T.setTop (mkF m pc L (S))) G := by
  subst hp; exact Rn.st (fun t q => XS.aloadN X.here hx rfl hd hl hv q) r
theorem R.aload (X : Stand p l e R s m args below meth c T locs cells slots) (hx : p.tables.exec = Jvm.exec) {k : Nat} {v : Value} (hd : decode c.code pc = .ok (.aload k, 2)) (hl : L[k]? = some (.val v)) (hv : v.isRef = true) (hp : pc + 2 = pc') (r : Rn p e below (T.setTop (mkF m pc' L (v :: S))) G) : Rn p e below (T.setTop (mkF m pc L (S))) G := by
  subst hp; exact Rn.st (fun t q => XS.aload X.here hx rfl hd hl hv q) r
theorem R.astoreN (X : Stand p l e R s m args below meth c T locs cells slots) (hx : p.tables.exec = Jvm.exec) {k : Fin 4} {v : Value} (hd : decode c.code pc = .ok (.astore_n k, 1)) (hv : v.isRef = true) (hl : storeLocals L k.val v = some L') (hp : pc + 1 = pc') (r : Rn p e below (T.setTop (mkF m pc' L' (S))) G) : Rn p e below (T.setTop (mkF m pc L (v :: S))) G := by
  subst hp; exact Rn.st (fun t q => XS.astoreN X.here hx rfl hd rfl hv hl q) r
theorem R.astore (X : Stand p l e R s m args below meth c T locs cells slots) (hx : p.tables.exec = Jvm.exec) {k : Nat} {v : Value} (hd : decode c.code pc = .ok (.astore k, 2)) (hv : v.isRef = true) (hl : storeLocals L k v = some L') (hp : pc + 2 = pc') (r : Rn p e below (T.setTop (mkF m pc' L' (S))) G) : Rn p e below (T.setTop (mkF m pc L (v :: S))) G := by
  subst hp; exact Rn.st (fun t q => XS.astore X.here hx rfl hd rfl hv hl q) r
theorem R.iconst (X : Stand p l e R s m args below meth c T locs cells slots) (hx : p.tables.exec = Jvm.exec) {i : Int} {v : Int32} (hd : decode c.code pc = .ok (.iconst i, 1)) (hv : Int32.ofInt i = v) (hp : pc + 1 = pc') (r : Rn p e below (T.setTop (mkF m pc' L (.int v :: S))) G) : Rn p e below (T.setTop (mkF m pc L (S))) G := by
  subst hp hv; exact Rn.st (fun t q => XS.iconst X.here hx rfl hd q) r
theorem R.bipush (X : Stand p l e R s m args below meth c T locs cells slots) (hx : p.tables.exec = Jvm.exec) {i : Int} {v : Int32} (hd : decode c.code pc = .ok (.bipush i, 2)) (hv : (Int8.ofInt i).toInt32 = v) (hp : pc + 2 = pc') (r : Rn p e below (T.setTop (mkF m pc' L (.int v :: S))) G) : Rn p e below (T.setTop (mkF m pc L (S))) G := by
  subst hp hv; exact Rn.st (fun t q => XS.bipush X.here hx rfl hd q) r
theorem R.sipush (X : Stand p l e R s m args below meth c T locs cells slots) (hx : p.tables.exec = Jvm.exec) {i : Int} {v : Int32} (hd : decode c.code pc = .ok (.sipush i, 3)) (hv : (Int16.ofInt i).toInt32 = v) (hp : pc + 3 = pc') (r : Rn p e below (T.setTop (mkF m pc' L (.int v :: S))) G) : Rn p e below (T.setTop (mkF m pc L (S))) G := by
  subst hp hv; exact Rn.st (fun t q => XS.sipush X.here hx rfl hd q) r
theorem R.lconst (X : Stand p l e R s m args below meth c T locs cells slots) (hx : p.tables.exec = Jvm.exec) {i : Fin 2} {v : Int64} (hd : decode c.code pc = .ok (.lconst i, 1)) (hv : Int64.ofNat i = v) (hp : pc + 1 = pc') (r : Rn p e below (T.setTop (mkF m pc' L (.long v :: S))) G) : Rn p e below (T.setTop (mkF m pc L (S))) G := by
  subst hp hv; exact Rn.st (fun t q => XS.lconst X.here hx rfl hd q) r
theorem R.dconst0 (X : Stand p l e R s m args below meth c T locs cells slots) (hx : p.tables.exec = Jvm.exec)  (hd : decode c.code pc = .ok (.dconst 0, 1)) (hp : pc + 1 = pc') (r : Rn p e below (T.setTop (mkF m pc' L (.double FP.dconst0 :: S))) G) : Rn p e below (T.setTop (mkF m pc L (S))) G := by
  subst hp; exact Rn.st (fun t q => XS.dconst0 X.here hx rfl hd rfl q) r
theorem R.dconst1 (X : Stand p l e R s m args below meth c T locs cells slots) (hx : p.tables.exec = Jvm.exec)  (hd : decode c.code pc = .ok (.dconst 1, 1)) (hp : pc + 1 = pc') (r : Rn p e below (T.setTop (mkF m pc' L (.double FP.dconst1 :: S))) G) : Rn p e below (T.setTop (mkF m pc L (S))) G := by
  subst hp; exact Rn.st (fun t q => XS.dconst1 X.here hx rfl hd rfl q) r
theorem R.aconstNull (X : Stand p l e R s m args below meth c T locs cells slots) (hx : p.tables.exec = Jvm.exec)  (hd : decode c.code pc = .ok (.aconst_null, 1)) (hp : pc + 1 = pc') (r : Rn p e below (T.setTop (mkF m pc' L (.null :: S))) G) : Rn p e below (T.setTop (mkF m pc L (S))) G := by
  subst hp; exact Rn.st (fun t q => XS.aconstNull X.here hx rfl hd q) r
theorem R.iadd (X : Stand p l e R s m args below meth c T locs cells slots) (hx : p.tables.exec = Jvm.exec) {x y v : Int32} (hd : decode c.code pc = .ok (.iadd, 1)) (hv : x + y = v) (hp : pc + 1 = pc') (r : Rn p e below (T.setTop (mkF m pc' L (.int v :: S))) G) : Rn p e below (T.setTop (mkF m pc L (.int y :: .int x :: S))) G := by
  subst hp hv; exact Rn.st (fun t q => XS.iadd X.here hx rfl hd rfl q) r
theorem R.ladd (X : Stand p l e R s m args below meth c T locs cells slots) (hx : p.tables.exec = Jvm.exec) {x y v : Int64} (hd : decode c.code pc = .ok (.ladd, 1)) (hv : x + y = v) (hp : pc + 1 = pc') (r : Rn p e below (T.setTop (mkF m pc' L (.long v :: S))) G) : Rn p e below (T.setTop (mkF m pc L (.long y :: .long x :: S))) G := by
  subst hp hv; exact Rn.st (fun t q => XS.ladd X.here hx rfl hd rfl q) r
theorem R.isub (X : Stand p l e R s m args below meth c T locs cells slots) (hx : p.tables.exec = Jvm.exec) {x y v : Int32} (hd : decode c.code pc = .ok (.isub, 1)) (hv : x - y = v) (hp : pc + 1 = pc') (r : Rn p e below (T.setTop (mkF m pc' L (.int v :: S))) G) : Rn p e below (T.setTop (mkF m pc L (.int y :: .int x :: S))) G := by
  subst hp hv; exact Rn.st (fun t q => XS.isub X.here hx rfl hd rfl q) r
theorem R.lsub (X : Stand p l e R s m args below meth c T locs cells slots) (hx : p.tables.exec = Jvm.exec) {x y v : Int64} (hd : decode c.code pc = .ok (.lsub, 1)) (hv : x - y = v) (hp : pc + 1 = pc') (r : Rn p e below (T.setTop (mkF m pc' L (.long v :: S))) G) : Rn p e below (T.setTop (mkF m pc L (.long y :: .long x :: S))) G := by
  subst hp hv; exact Rn.st (fun t q => XS.lsub X.here hx rfl hd rfl q) r
theorem R.imul (X : Stand p l e R s m args below meth c T locs cells slots) (hx : p.tables.exec = Jvm.exec) {x y v : Int32} (hd : decode c.code pc = .ok (.imul, 1)) (hv : x * y = v) (hp : pc + 1 = pc') (r : Rn p e below (T.setTop (mkF m pc' L (.int v :: S))) G) : Rn p e below (T.setTop (mkF m pc L (.int y :: .int x :: S))) G := by
  subst hp hv; exact Rn.st (fun t q => XS.imul X.here hx rfl hd rfl q) r
theorem R.lmul (X : Stand p l e R s m args below meth c T locs cells slots) (hx : p.tables.exec = Jvm.exec) {x y v : Int64} (hd : decode c.code pc = .ok (.lmul, 1)) (hv : x * y = v) (hp : pc + 1 = pc') (r : Rn p e below (T.setTop (mkF m pc' L (.long v :: S))) G) : Rn p e below (T.setTop (mkF m pc L (.long y :: .long x :: S))) G := by
  subst hp hv; exact Rn.st (fun t q => XS.lmul X.here hx rfl hd rfl q) r
theorem R.iand (X : Stand p l e R s m args below meth c T locs cells slots) (hx : p.tables.exec = Jvm.exec) {x y v : Int32} (hd : decode c.code pc = .ok (.iand, 1)) (hv : x &&& y = v) (hp : pc + 1 = pc') (r : Rn p e below (T.setTop (mkF m pc' L (.int v :: S))) G) : Rn p e below (T.setTop (mkF m pc L (.int y :: .int x :: S))) G := by
  subst hp hv; exact Rn.st (fun t q => XS.iand X.here hx rfl hd rfl q) r
theorem R.land (X : Stand p l e R s m args below meth c T locs cells slots) (hx : p.tables.exec = Jvm.exec) {x y v : Int64} (hd : decode c.code pc = .ok (.land, 1)) (hv : x &&& y = v) (hp : pc + 1 = pc') (r : Rn p e below (T.setTop (mkF m pc' L (.long v :: S))) G) : Rn p e below (T.setTop (mkF m pc L (.long y :: .long x :: S))) G := by
  subst hp hv; exact Rn.st (fun t q => XS.land X.here hx rfl hd rfl q) r
theorem R.ior (X : Stand p l e R s m args below meth c T locs cells slots) (hx : p.tables.exec = Jvm.exec) {x y v : Int32} (hd : decode c.code pc = .ok (.ior, 1)) (hv : x ||| y = v) (hp : pc + 1 = pc') (r : Rn p e below (T.setTop (mkF m pc' L (.int v :: S))) G) : Rn p e below (T.setTop (mkF m pc L (.int y :: .int x :: S))) G := by
  subst hp hv; exact Rn.st (fun t q => XS.ior X.here hx rfl hd rfl q) r
theorem R.lor (X : Stand p l e R s m args below meth c T locs cells slots) (hx : p.tables.exec = Jvm.exec) {x y v : Int64} (hd : decode c.code pc = .ok (.lor, 1)) (hv : x ||| y = v) (hp : pc + 1 = pc') (r : Rn p e below (T.setTop (mkF m pc' L (.long v :: S))) G) : Rn p e below (T.setTop (mkF m pc L (.long y :: .long x :: S))) G := by
  subst hp hv; exact Rn.st (fun t q => XS.lor X.here hx rfl hd rfl q) r
theorem R.ixor (X : Stand p l e R s m args below meth c T locs cells slots) (hx : p.tables.exec = Jvm.exec) {x y v : Int32} (hd : decode c.code pc = .ok (.ixor, 1)) (hv : x ^^^ y = v) (hp : pc + 1 = pc') (r : Rn p e below (T.setTop (mkF m pc' L (.int v :: S))) G) : Rn p e below (T.setTop (mkF m pc L (.int y :: .int x :: S))) G := by
  subst hp hv; exact Rn.st (fun t q => XS.ixor X.here hx rfl hd rfl q) r
theorem R.lxor (X : Stand p l e R s m args below meth c T locs cells slots) (hx : p.tables.exec = Jvm.exec) {x y v : Int64} (hd : decode c.code pc = .ok (.lxor, 1)) (hv : x ^^^ y = v) (hp : pc + 1 = pc') (r : Rn p e below (T.setTop (mkF m pc' L (.long v :: S))) G) : Rn p e below (T.setTop (mkF m pc L (.long y :: .long x :: S))) G := by
  subst hp hv; exact Rn.st (fun t q => XS.lxor X.here hx rfl hd rfl q) r
theorem R.ineg (X : Stand p l e R s m args below meth c T locs cells slots) (hx : p.tables.exec = Jvm.exec) {x : Int32} (hd : decode c.code pc = .ok (.ineg, 1)) (hp : pc + 1 = pc') (r : Rn p e below (T.setTop (mkF m pc' L (.int (-x) :: S))) G) : Rn p e below (T.setTop (mkF m pc L (.int x :: S))) G := by
  subst hp; exact Rn.st (fun t q => XS.ineg X.here hx rfl hd rfl q) r
theorem R.lneg (X : Stand p l e R s m args below meth c T locs cells slots) (hx : p.tables.exec = Jvm.exec) {x : Int64} (hd : decode c.code pc = .ok (.lneg, 1)) (hp : pc + 1 = pc') (r : Rn p e below (T.setTop (mkF m pc' L (.long (-x) :: S))) G) : Rn p e below (T.setTop (mkF m pc L (.long x :: S))) G := by
  subst hp; exact Rn.st (fun t q => XS.lneg X.here hx rfl hd rfl q) r
theorem R.i2l (X : Stand p l e R s m args below meth c T locs cells slots) (hx : p.tables.exec = Jvm.exec) {x : Int32} (hd : decode c.code pc = .ok (.i2l, 1)) (hp : pc + 1 = pc') (r : Rn p e below (T.setTop (mkF m pc' L (.long (x.toInt64) :: S))) G) : Rn p e below (T.setTop (mkF m pc L (.int x :: S))) G := by
  subst hp; exact Rn.st (fun t q => XS.i2l X.here hx rfl hd rfl q) r
theorem R.l2i (X : Stand p l e R s m args below meth c T locs cells slots) (hx : p.tables.exec = Jvm.exec) {x : Int64} (hd : decode c.code pc = .ok (.l2i, 1)) (hp : pc + 1 = pc') (r : Rn p e below (T.setTop (mkF m pc' L (.int (x.toInt32) :: S))) G) : Rn p e below (T.setTop (mkF m pc L (.long x :: S))) G := by
  subst hp; exact Rn.st (fun t q => XS.l2i X.here hx rfl hd rfl q) r
theorem R.i2b (X : Stand p l e R s m args below meth c T locs cells slots) (hx : p.tables.exec = Jvm.exec) {x : Int32} (hd : decode c.code pc = .ok (.i2b, 1)) (hp : pc + 1 = pc') (r : Rn p e below (T.setTop (mkF m pc' L (.int (x.toInt8.toInt32) :: S))) G) : Rn p e below (T.setTop (mkF m pc L (.int x :: S))) G := by
  subst hp; exact Rn.st (fun t q => XS.i2b X.here hx rfl hd rfl q) r
theorem R.i2s (X : Stand p l e R s m args below meth c T locs cells slots) (hx : p.tables.exec = Jvm.exec) {x : Int32} (hd : decode c.code pc = .ok (.i2s, 1)) (hp : pc + 1 = pc') (r : Rn p e below (T.setTop (mkF m pc' L (.int (x.toInt16.toInt32) :: S))) G) : Rn p e below (T.setTop (mkF m pc L (.int x :: S))) G := by
  subst hp; exact Rn.st (fun t q => XS.i2s X.here hx rfl hd rfl q) r
theorem R.i2c (X : Stand p l e R s m args below meth c T locs cells slots) (hx : p.tables.exec = Jvm.exec) {x : Int32} (hd : decode c.code pc = .ok (.i2c, 1)) (hp : pc + 1 = pc') (r : Rn p e below (T.setTop (mkF m pc' L (.int (x.toUInt32.toUInt16.toUInt32.toInt32) :: S))) G) : Rn p e below (T.setTop (mkF m pc L (.int x :: S))) G := by
  subst hp; exact Rn.st (fun t q => XS.i2c X.here hx rfl hd rfl q) r
theorem R.ishl (X : Stand p l e R s m args below meth c T locs cells slots) (hx : p.tables.exec = Jvm.exec) {x : Int32} {y : Int32} (hd : decode c.code pc = .ok (.ishl, 1)) (hp : pc + 1 = pc') (r : Rn p e below (T.setTop (mkF m pc' L (.int (x <<< (y &&& 31)) :: S))) G) : Rn p e below (T.setTop (mkF m pc L (.int y :: .int x :: S))) G := by
  subst hp; exact Rn.st (fun t q => XS.ishl X.here hx rfl hd rfl q) r
theorem R.ishr (X : Stand p l e R s m args below meth c T locs cells slots) (hx : p.tables.exec = Jvm.exec) {x : Int32} {y : Int32} (hd : decode c.code pc = .ok (.ishr, 1)) (hp : pc + 1 = pc') (r : Rn p e below (T.setTop (mkF m pc' L (.int (x >>> (y &&& 31)) :: S))) G) : Rn p e below (T.setTop (mkF m pc L (.int y :: .int x :: S))) G := by
  subst hp; exact Rn.st (fun t q => XS.ishr X.here hx rfl hd rfl q) r
theorem R.iushr (X : Stand p l e R s m args below meth c T locs cells slots) (hx : p.tables.exec = Jvm.exec) {x : Int32} {y : Int32} (hd : decode c.code pc = .ok (.iushr, 1)) (hp : pc + 1 = pc') (r : Rn p e below (T.setTop (mkF m pc' L (.int ((x.toUInt32 >>> (y &&& 31).toUInt32).toInt32) :: S))) G) : Rn p e below (T.setTop (mkF m pc L (.int y :: .int x :: S))) G := by
  subst hp; exact Rn.st (fun t q => XS.iushr X.here hx rfl hd rfl q) r
theorem R.lshl (X : Stand p l e R s m args below meth c T locs cells slots) (hx : p.tables.exec = Jvm.exec) {x : Int64} {y : Int32} (hd : decode c.code pc = .ok (.lshl, 1)) (hp : pc + 1 = pc') (r : Rn p e below (T.setTop (mkF m pc' L (.long (x <<< (y &&& 63).toInt64) :: S))) G) : Rn p e below (T.setTop (mkF m pc L (.int y :: .long x :: S))) G := by
  subst hp; exact Rn.st (fun t q => XS.lshl X.here hx rfl hd rfl q) r
theorem R.lshr (X : Stand p l e R s m args below meth c T locs cells slots) (hx : p.tables.exec = Jvm.exec) {x : Int64} {y : Int32} (hd : decode c.code pc = .ok (.lshr, 1)) (hp : pc + 1 = pc') (r : Rn p e below (T.setTop (mkF m pc' L (.long (x >>> (y &&& 63).toInt64) :: S))) G) : Rn p e below (T.setTop (mkF m pc L (.int y :: .long x :: S))) G := by
  subst hp; exact Rn.st (fun t q => XS.lshr X.here hx rfl hd rfl q) r
theorem R.lcmp (X : Stand p l e R s m args below meth c T locs cells slots) (hx : p.tables.exec = Jvm.exec) {x y : Int64} (hd : decode c.code pc = .ok (.lcmp, 1)) (hp : pc + 1 = pc') (r : Rn p e below (T.setTop (mkF m pc' L (.int (lcmpW x y) :: S))) G) : Rn p e below (T.setTop (mkF m pc L (.long y :: .long x :: S))) G := by
  subst hp; exact Rn.st (fun t q => XS.lcmp X.here hx rfl hd rfl q) r
theorem R.idiv (X : Stand p l e R s m args below meth c T locs cells slots) (hx : p.tables.exec = Jvm.exec) {x y : Int32} (hd : decode c.code pc = .ok (.idiv, 1)) (hy : y ≠ 0) (hp : pc + 1 = pc') (r : Rn p e below (T.setTop (mkF m pc' L (.int (x / y) :: S))) G) : Rn p e below (T.setTop (mkF m pc L (.int y :: .int x :: S))) G := by
  subst hp; exact Rn.st (fun t q => XS.idiv X.here hx rfl hd rfl hy q) r
theorem R.irem (X : Stand p l e R s m args below meth c T locs cells slots) (hx : p.tables.exec = Jvm.exec) {x y : Int32} (hd : decode c.code pc = .ok (.irem, 1)) (hy : y ≠ 0) (hp : pc + 1 = pc') (r : Rn p e below (T.setTop (mkF m pc' L (.int (x % y) :: S))) G) : Rn p e below (T.setTop (mkF m pc L (.int y :: .int x :: S))) G := by
  subst hp; exact Rn.st (fun t q => iremM X hx rfl hd rfl hy q) r
theorem R.ldiv (X : Stand p l e R s m args below meth c T locs cells slots) (hx : p.tables.exec = Jvm.exec) {x y : Int64} (hd : decode c.code pc = .ok (.ldiv, 1)) (hy : y ≠ 0) (hp : pc + 1 = pc') (r : Rn p e below (T.setTop (mkF m pc' L (.long (x / y) :: S))) G) : Rn p e below (T.setTop (mkF m pc L (.long y :: .long x :: S))) G := by
  subst hp; exact Rn.st (fun t q => XS.ldiv X.here hx rfl hd rfl hy q) r
theorem R.lrem (X : Stand p l e R s m args below meth c T locs cells slots) (hx : p.tables.exec = Jvm.exec) {x y : Int64} (hd : decode c.code pc = .ok (.lrem, 1)) (hy : y ≠ 0) (hp : pc + 1 = pc') (r : Rn p e below (T.setTop (mkF m pc' L (.long (x - (x / y) * y) :: S))) G) : Rn p e below (T.setTop (mkF m pc L (.long y :: .long x :: S))) G := by
  subst hp; exact Rn.st (fun t q => XS.lrem X.here hx rfl hd rfl hy q) r
theorem R.i2d (X : Stand p l e R s m args below meth c T locs cells slots) (hx : p.tables.exec = Jvm.exec) {x : Int32} (hd : decode c.code pc = .ok (.i2d, 1)) (hp : pc + 1 = pc') (r : Rn p e below (T.setTop (mkF m pc' L (.double (FP.i2d x) :: S))) G) : Rn p e below (T.setTop (mkF m pc L (.int x :: S))) G := by
  subst hp; exact Rn.st (fun t q => XS.i2dS X.here hx rfl hd rfl rfl q) r
theorem R.l2d (X : Stand p l e R s m args below meth c T locs cells slots) (hx : p.tables.exec = Jvm.exec) {x : Int64} (hd : decode c.code pc = .ok (.l2d, 1)) (hp : pc + 1 = pc') (r : Rn p e below (T.setTop (mkF m pc' L (.double (FP.l2d x) :: S))) G) : Rn p e below (T.setTop (mkF m pc L (.long x :: S))) G := by
  subst hp; exact Rn.st (fun t q => XS.l2dS X.here hx rfl hd rfl rfl q) r
theorem R.d2i (X : Stand p l e R s m args below meth c T locs cells slots) (hx : p.tables.exec = Jvm.exec) {x : UInt64} (hd : decode c.code pc = .ok (.d2i, 1)) (hp : pc + 1 = pc') (r : Rn p e below (T.setTop (mkF m pc' L (.int (FP.d2i x) :: S))) G) : Rn p e below (T.setTop (mkF m pc L (.double x :: S))) G := by
  subst hp; exact Rn.st (fun t q => XS.d2iS X.here hx rfl hd rfl rfl q) r
theorem R.d2l (X : Stand p l e R s m args below meth c T locs cells slots) (hx : p.tables.exec = Jvm.exec) {x : UInt64} (hd : decode c.code pc = .ok (.d2l, 1)) (hp : pc + 1 = pc') (r : Rn p e below (T.setTop (mkF m pc' L (.long (FP.d2l x) :: S))) G) : Rn p e below (T.setTop (mkF m pc L (.double x :: S))) G := by
  subst hp; exact Rn.st (fun t q => XS.d2lS X.here hx rfl hd rfl rfl q) r
theorem R.dadd (X : Stand p l e R s m args below meth c T locs cells slots) (hx : p.tables.exec = Jvm.exec) {x y : UInt64} (hd : decode c.code pc = .ok (.dadd, 1)) (hn : NoNaN64 (FP.dadd x y)) (hp : pc + 1 = pc') (r : Rn p e below (T.setTop (mkF m pc' L (.double (FP.dadd x y) :: S))) G) : Rn p e below (T.setTop (mkF m pc L (.double y :: .double x :: S))) G := by
  subst hp; exact Rn.st (fun t q => XS.daddS X.here hx rfl hd rfl hn rfl q) r
theorem R.dsub (X : Stand p l e R s m args below meth c T locs cells slots) (hx : p.tables.exec = Jvm.exec) {x y : UInt64} (hd : decode c.code pc = .ok (.dsub, 1)) (hn : NoNaN64 (FP.dsub x y)) (hp : pc + 1 = pc') (r : Rn p e below (T.setTop (mkF m pc' L (.double (FP.dsub x y) :: S))) G) : Rn p e below (T.setTop (mkF m pc L (.double y :: .double x :: S))) G := by
  subst hp; exact Rn.st (fun t q => XS.dsubS X.here hx rfl hd rfl hn rfl q) r
theorem R.dmul (X : Stand p l e R s m args below meth c T locs cells slots) (hx : p.tables.exec = Jvm.exec) {x y : UInt64} (hd : decode c.code pc = .ok (.dmul, 1)) (hn : NoNaN64 (FP.dmul x y)) (hp : pc + 1 = pc') (r : Rn p e below (T.setTop (mkF m pc' L (.double (FP.dmul x y) :: S))) G) : Rn p e below (T.setTop (mkF m pc L (.double y :: .double x :: S))) G := by
  subst hp; exact Rn.st (fun t q => XS.dmulS X.here hx rfl hd rfl hn rfl q) r
theorem R.ddiv (X : Stand p l e R s m args below meth c T locs cells slots) (hx : p.tables.exec = Jvm.exec) {x y : UInt64} (hd : decode c.code pc = .ok (.ddiv, 1)) (hn : NoNaN64 (FP.ddiv x y)) (hp : pc + 1 = pc') (r : Rn p e below (T.setTop (mkF m pc' L (.double (FP.ddiv x y) :: S))) G) : Rn p e below (T.setTop (mkF m pc L (.double y :: .double x :: S))) G := by
  subst hp; exact Rn.st (fun t q => XS.ddivS X.here hx rfl hd rfl hn rfl q) r
theorem R.dneg (X : Stand p l e R s m args below meth c T locs cells slots) (hx : p.tables.exec = Jvm.exec) {x : UInt64} (hd : decode c.code pc = .ok (.dneg, 1)) (hp : pc + 1 = pc') (r : Rn p e below (T.setTop (mkF m pc' L (.double (FP.dneg x) :: S))) G) : Rn p e below (T.setTop (mkF m pc L (.double x :: S))) G := by
  subst hp; exact Rn.st (fun t q => XS.dnegS X.here hx rfl hd rfl rfl q) r
theorem R.dcmp (X : Stand p l e R s m args below meth c T locs cells slots) (hx : p.tables.exec = Jvm.exec) {o : CmpOp} {x y : UInt64} {v : Int32} (hd : decode c.code pc = .ok (.dcmp o, 1)) (hv : cmpValue (FP.dcmp x y) o = v) (hp : pc + 1 = pc') (r : Rn p e below (T.setTop (mkF m pc' L (.int v :: S))) G) : Rn p e below (T.setTop (mkF m pc L (.double y :: .double x :: S))) G := by
  subst hp; exact Rn.st (fun t q => XS.dcmpS X.here hx rfl hd rfl hv q) r
theorem R.iinc (X : Stand p l e R s m args below meth c T locs cells slots) (hx : p.tables.exec = Jvm.exec) {k : Nat} {cst : Int} {x : Int32} (hd : decode c.code pc = .ok (.iinc k cst, 3)) (hl : L[k]? = some (.val (.int x))) (hl' : storeLocals L k (.int (x + Int32.ofInt cst)) = some L') (hp : pc + 3 = pc') (r : Rn p e below (T.setTop (mkF m pc' L' (S))) G) : Rn p e below (T.setTop (mkF m pc L (S))) G := by
  subst hp; exact Rn.st (fun t q => XS.iinc X.here hx rfl hd hl hl' q) r
theorem R.dup (X : Stand p l e R s m args below meth c T locs cells slots) (hx : p.tables.exec = Jvm.exec) {x : Value} (hd : decode c.code pc = .ok (.dup, 1)) (hc : x.category = 1) (hp : pc + 1 = pc') (r : Rn p e below (T.setTop (mkF m pc' L (x :: x :: S))) G) : Rn p e below (T.setTop (mkF m pc L (x :: S))) G := by
  subst hp; exact Rn.st (fun t q => XS.dup X.here hx rfl hd rfl hc q) r
theorem R.dupX1 (X : Stand p l e R s m args below meth c T locs cells slots) (hx : p.tables.exec = Jvm.exec) {x y : Value} (hd : decode c.code pc = .ok (.dup_x1, 1)) (hc : x.category = 1) (hc' : y.category = 1) (hp : pc + 1 = pc') (r : Rn p e below (T.setTop (mkF m pc' L (x :: y :: x :: S))) G) : Rn p e below (T.setTop (mkF m pc L (x :: y :: S))) G := by
  subst hp; exact Rn.st (fun t q => XS.dupX1 X.here hx rfl hd rfl hc hc' q) r
theorem R.dup2 (X : Stand p l e R s m args below meth c T locs cells slots) (hx : p.tables.exec = Jvm.exec) {x y : Value} (hd : decode c.code pc = .ok (.dup2, 1)) (hc : x.category = 1) (hc' : y.category = 1) (hp : pc + 1 = pc') (r : Rn p e below (T.setTop (mkF m pc' L (x :: y :: x :: y :: S))) G) : Rn p e below (T.setTop (mkF m pc L (x :: y :: S))) G := by
  subst hp; exact Rn.st (fun t q => Jvm.Free.XT.dup2 X.here hx rfl hd rfl hc hc' q) r
theorem R.pop (X : Stand p l e R s m args below meth c T locs cells slots) (hx : p.tables.exec = Jvm.exec) {x : Value} (hd : decode c.code pc = .ok (.pop, 1)) (hc : x.category = 1) (hp : pc + 1 = pc') (r : Rn p e below (T.setTop (mkF m pc' L (S))) G) : Rn p e below (T.setTop (mkF m pc L (x :: S))) G := by
  subst hp; exact Rn.st (fun t q => XS.pop X.here hx rfl hd rfl hc q) r
theorem R.ifYes (X : Stand p l e R s m args below meth c T locs cells slots) (hx : p.tables.exec = Jvm.exec) {cd : ClassFile.Cond} {x : Int32} {o : Int} (hd : decode c.code pc = .ok (.ifCond cd o, 3)) (hc : if_icmp.holds cd x 0 = true) (ho : 0 ≤ (pc : Int) + o) (hp : ((pc : Int) + o).toNat = pc') (r : Rn p e below (T.setTop (mkF m pc' L S)) G) : Rn p e below (T.setTop (mkF m pc L (.int x :: S))) G :=
  Rn.st (fun t q => XS.ifYes X.here hx rfl rfl hd rfl ((if0 _ _).trans hc) ho hp q) r
theorem R.ifNo (X : Stand p l e R s m args below meth c T locs cells slots) (hx : p.tables.exec = Jvm.exec) {cd : ClassFile.Cond} {x : Int32} {o : Int} (hd : decode c.code pc = .ok (.ifCond cd o, 3)) (hc : if_icmp.holds cd x 0 = false) (hp : pc + 3 = pc') (r : Rn p e below (T.setTop (mkF m pc' L (S))) G) : Rn p e below (T.setTop (mkF m pc L (.int x :: S))) G := by
  subst hp; exact Rn.st (fun t q => XS.ifNo X.here hx rfl hd rfl ((if0 _ _).trans hc) q) r
theorem R.icmpYes (X : Stand p l e R s m args below meth c T locs cells slots) (hx : p.tables.exec = Jvm.exec) {cd : ClassFile.Cond} {x y : Int32} {o : Int} (hd : decode c.code pc = .ok (.if_icmp cd o, 3)) (hc : if_icmp.holds cd x y = true) (ho : 0 ≤ (pc : Int) + o) (hp : ((pc : Int) + o).toNat = pc') (r : Rn p e below (T.setTop (mkF m pc' L S)) G) : Rn p e below (T.setTop (mkF m pc L (.int y :: .int x :: S))) G :=
  Rn.st (fun t q => XS.icmpYes X.here hx rfl rfl hd rfl hc ho hp q) r
theorem R.icmpNo (X : Stand p l e R s m args below meth c T locs cells slots) (hx : p.tables.exec = Jvm.exec) {cd : ClassFile.Cond} {x y : Int32} {o : Int} (hd : decode c.code pc = .ok (.if_icmp cd o, 3)) (hc : if_icmp.holds cd x y = false) (hp : pc + 3 = pc') (r : Rn p e below (T.setTop (mkF m pc' L (S))) G) : Rn p e below (T.setTop (mkF m pc L (.int y :: .int x :: S))) G := by
  subst hp; exact Rn.st (fun t q => XS.icmpNo X.here hx rfl hd rfl hc q) r
theorem R.goto (X : Stand p l e R s m args below meth c T locs cells slots) (hx : p.tables.exec = Jvm.exec)  {o : Int} (hd : decode c.code pc = .ok (.goto o, 3)) (ho : 0 ≤ (pc : Int) + o) (hp : ((pc : Int) + o).toNat = pc') (r : Rn p e below (T.setTop (mkF m pc' L S)) G) : Rn p e below (T.setTop (mkF m pc L (S))) G :=
  Rn.st (fun t q => XS.goto X.here hx rfl rfl hd ho hp q) r
theorem R.ifnullYes (X : Stand p l e R s m args below meth c T locs cells slots) (hx : p.tables.exec = Jvm.exec)  {o : Int} (hd : decode c.code pc = .ok (.ifnull o, 3)) (ho : 0 ≤ (pc : Int) + o) (hp : ((pc : Int) + o).toNat = pc') (r : Rn p e below (T.setTop (mkF m pc' L S)) G) : Rn p e below (T.setTop (mkF m pc L (.null :: S))) G :=
  Rn.st (fun t q => XS.ifnullYes X.here hx rfl rfl hd rfl ho hp q) r
theorem R.ifnullNo (X : Stand p l e R s m args below meth c T locs cells slots) (hx : p.tables.exec = Jvm.exec) {b : Addr} {o : Int} (hd : decode c.code pc = .ok (.ifnull o, 3)) (hp : pc + 3 = pc') (r : Rn p e below (T.setTop (mkF m pc' L (S))) G) : Rn p e below (T.setTop (mkF m pc L (.ref b :: S))) G := by
  subst hp; exact Rn.st (fun t q => XS.ifnullNo X.here hx rfl hd rfl q) r
theorem R.ifnonnullYes (X : Stand p l e R s m args below meth c T locs cells slots) (hx : p.tables.exec = Jvm.exec) {b : Addr} {o : Int} (hd : decode c.code pc = .ok (.ifnonnull o, 3)) (ho : 0 ≤ (pc : Int) + o) (hp : ((pc : Int) + o).toNat = pc') (r : Rn p e below (T.setTop (mkF m pc' L S)) G) : Rn p e below (T.setTop (mkF m pc L (.ref b :: S))) G :=
  Rn.st (fun t q => XS.ifnonnullYes X.here hx rfl rfl hd rfl ho hp q) r
theorem R.ifnonnullNo (X : Stand p l e R s m args below meth c T locs cells slots) (hx : p.tables.exec = Jvm.exec)  {o : Int} (hd : decode c.code pc = .ok (.ifnonnull o, 3)) (hp : pc + 3 = pc') (r : Rn p e below (T.setTop (mkF m pc' L (S))) G) : Rn p e below (T.setTop (mkF m pc L (.null :: S))) G := by
  subst hp; exact Rn.st (fun t q => XS.ifnonnullNo X.here hx rfl hd rfl q) r
end RSteps
section RBig
variable {p : Program} {l : Launch} {e : Env} {R : Room} {s : State} {m : MethodId} {args : Array Value} {below : List Frame} {meth : Method} {c : Code} {T : State} {locs : List Loc} {cells slots : Nat} {G : Outcome → State → Prop} {L L' : Array Slot} {S : List Value} {pc pc' : Nat} {Z : State} {a0 : Array Value} {h : Heap} {a : Addr} {own : String} {index : Nat}
theorem R.getF (X : Stand p l e R s m args below meth c T locs cells slots) (hx : p.tables.exec = Jvm.exec) (hZ : Z.Warmed39 s.vm) {R0 O n d host : String} (hown : s.vm.findClass own = some m.cls) (w : (Jvm.Cond.fieldLink own index R0 n d).before a0 Z = true ∨ (Jvm.Cond.fieldLinkNest own index R0 n d host).before a0 Z = true) (via : Via Z R0 O n d) (eT : T.heap = h) {v : Value} (F : Fld Z h a O n d v)
    (hd : decode c.code pc = .ok (.getfield index, 3)) (hp : pc + 3 = pc') (K : ∀ T', Stand p l e R s m args below meth c T' locs cells slots → T'.heap = h → Rn p e below (T'.setTop (mkF m pc' L (v :: S))) G) : Rn p e below (T.setTop (mkF m pc L (.ref a :: S))) G := by
  subst hp
  obtain ⟨T', X', e', st⟩ := getF X hx hZ hown w via eT F (g := mkF m pc L (.ref a :: S)) rfl rfl hd
  exact Rn.st st (K T' X' e')
theorem R.getS (X : Stand p l e R s m args below meth c T locs cells slots) (hx : p.tables.exec = Jvm.exec) (hZ : Z.Warmed39 s.vm) {R0 O n d host : String} (hown : s.vm.findClass own = some m.cls) (w : (Jvm.Cond.fieldLink own index R0 n d).before a0 Z = true ∨ (Jvm.Cond.fieldLinkNest own index R0 n d host).before a0 Z = true) (via : Via Z R0 O n d) (eT : T.heap = h) {v : Value} (F : Sta Z h O n d v)
    (hd : decode c.code pc = .ok (.getstatic index, 3)) (hp : pc + 3 = pc') (K : ∀ T', Stand p l e R s m args below meth c T' locs cells slots → T'.heap = h → Rn p e below (T'.setTop (mkF m pc' L (v :: S))) G) : Rn p e below (T.setTop (mkF m pc L S)) G := by
  subst hp
  obtain ⟨T', X', e', st⟩ := getS2 X hx hZ hown w via eT F (g := mkF m pc L S) rfl hd
  exact Rn.st st (K T' X' e')
theorem R.putF (X : Stand p l e R s m args below meth c T locs cells slots) (hx : p.tables.exec = Jvm.exec) (hZ : Z.Warmed39 s.vm) {R0 O n d host C : String} {kk : Nat} {ty : FieldType} (hown : s.vm.findClass own = some m.cls) (w : (Jvm.Cond.fieldLink own index R0 n d).before a0 Z = true ∨ (Jvm.Cond.fieldLinkNest own index R0 n d host).before a0 Z = true) (via : Via Z R0 O n d) (eT : T.heap = h) {v old : Value} (F : Fld Z h a O n d old) (E : Exa Z h a C)
    (Ly : (Jvm.Cond.lays C O n d).before a0 Z = true ∨ ((Jvm.Cond.laysFinal C O n d).before a0 Z = true ∧ own = O ∧ meth.name = "<init>")) (wi : (Jvm.Cond.instantiable C kk).before a0 Z = true) (hty : parseFieldDescriptor d = some ty) (hn : narrow ty v = v) (hf : fits ty v = true)
    (hd : decode c.code pc = .ok (.putfield index, 3)) (hp : pc + 3 = pc') (K : ∀ T' h', Stand p l e R s m args below meth c T' (locs ++ [⟨a, Jvm.RoadKit.slotOf Z O n d⟩]) cells slots → T'.heap = h' → Wr h h' a (Jvm.RoadKit.slotOf Z O n d) v → Rn p e below (T'.setTop (mkF m pc' L S)) G) : Rn p e below (T.setTop (mkF m pc L (v :: .ref a :: S))) G := by
  subst hp
  obtain ⟨T', h', X', e', W', st⟩ := putF X hx hZ hown w via eT F E Ly wi hty hn hf (g := mkF m pc L (v :: .ref a :: S)) rfl rfl hd
  exact Rn.st st (K T' h' X' e' W')
theorem R.newO (X : Stand p l e R s m args below meth c T locs cells slots) (hx : p.tables.exec = Jvm.exec) (hZ : Z.Warmed39 s.vm) {C : String} {n : Nat} (hown : s.vm.findClass own = some m.cls) (w : (Jvm.Cond.classLink own index C).before a0 Z = true) (wi : (Jvm.Cond.instantiable C n).before a0 Z = true) (wz : (Jvm.Cond.initialized C).before a0 Z = true) (eT : T.heap = h)
    (hd : decode c.code pc = .ok (.new index, 3)) (hp : pc + 3 = pc') (hc : cells + 1 ≤ R.cells) (hl : slots + n ≤ R.slots)
    (K : ∀ T' h' b, b = h.size → Stand p l e R s m args below meth c T' locs (cells + 1) (slots + n) → T'.heap = h' → Ext h h' → Exa Z h' b C → (∀ {O nm d : String} {ty : FieldType}, Laid Z a0 C O nm d → parseFieldDescriptor d = some ty → Fld Z h' b O nm d (defaultValue ty)) → Rn p e below (T'.setTop (mkF m pc' L (.ref b :: S))) G) : Rn p e below (T.setTop (mkF m pc L S)) G := by
  subst hp
  obtain ⟨T', h', X', e', E', A', D', -, st⟩ := newO X hx hZ hown w wi wz eT (g := mkF m pc L S) rfl hd hc hl
  exact Rn.st st (K T' h' _ rfl X' e' E' A' D')
theorem R.newP (X : Stand p l e R s m args below meth c T locs cells slots) (hx : p.tables.exec = Jvm.exec) (hZ : Z.Warmed39 s.vm) {aty : ArrayType} {ty : FieldType} (hty : newarray.typeOf aty = ty) (w : (Jvm.Cond.arrayClass ty).before a0 Z = true) (eT : T.heap = h) {n : Int32} (hn : ¬ n < 0) {cap : Nat} (hcap : n.toNatClampNeg ≤ cap) (hb : cap * 8 ≤ 536870912) {ad : String} (had : "[" ++ ty.toString = ad)
    (hd : decode c.code pc = .ok (.newarray aty, 2)) (hp : pc + 2 = pc') (hc : cells + 1 ≤ R.cells) (hl : slots + cap ≤ R.slots)
    (K : ∀ T' h' b k, b = h.size → Stand p l e R s m args below meth c T' locs (cells + 1) (slots + cap) → T'.heap = h' → Ext h h' → Exa Z h' b ad → Arh Z h' b k ty n [] [] (defaultValue ty) → Rn p e below (T'.setTop (mkF m pc' L (.ref b :: S))) G) : Rn p e below (T.setTop (mkF m pc L (.int n :: S))) G := by
  subst hp hty
  obtain ⟨T', h', k, X', e', E', A', EE, st⟩ := newPE X hx hZ w eT (g := mkF m pc L (.int n :: S)) rfl hd rfl hn hcap hb hc hl had
  exact Rn.st st (K T' h' _ k rfl X' e' E' EE (Arv.new A' hn).arh)
section Arr
variable {k : ClassId} {z : Int32} {hs : List (Int32 × Value)} {vs : List Value} {dv : Value} {j : Int32}
theorem R.alen (X : Stand p l e R s m args below meth c T locs cells slots) (hx : p.tables.exec = Jvm.exec) (hZ : Z.Warmed39 s.vm) (eT : T.heap = h) {ty : FieldType} (F : Arh Z h a k ty z hs vs dv) (hd : decode c.code pc = .ok (.arraylength, 1)) (hp : pc + 1 = pc') (r : Rn p e below (T.setTop (mkF m pc' L (.int z :: S))) G) : Rn p e below (T.setTop (mkF m pc L (.ref a :: S))) G := by
  subst hp
  obtain ⟨cl, Ar, qA, SA, NA, HA, GA⟩ := F
  exact Rn.st (fun t q => X.arraylength hx (by rw [eT]; exact Ar.1) (State.isArrayOf_alike hZ.alike Ar.2.1) (g := mkF m pc L (.ref a :: S)) rfl rfl hd _ (by rw [len_of SA NA]; exact q)) r
theorem R.daload (X : Stand p l e R s m args below meth c T locs cells slots) (hx : p.tables.exec = Jvm.exec) (hZ : Z.Warmed39 s.vm) (eT : T.heap = h) (F : Arh Z h a k .double z hs vs dv) (hb : ¬ j < 0 ∧ j < z) {v : Value} (hv : getH hs vs dv j.toNatClampNeg = v) (hd : decode c.code pc = .ok (.daload, 1)) (hp : pc + 1 = pc') (r : Rn p e below (T.setTop (mkF m pc' L (v :: S))) G) : Rn p e below (T.setTop (mkF m pc L (.int j :: .ref a :: S))) G := by
  subst hp
  obtain ⟨cl, Ar, qA, SA, NA, HA, GA⟩ := F
  have hin := inb_of SA hb
  exact Rn.st (fun t q => X.daload hx (by rw [eT]; exact Ar.1) (State.isArrayOf_alike hZ.alike Ar.2.1) Ar.2.2 hin (atH HA hin hv) (g := mkF m pc L (.int j :: .ref a :: S)) rfl rfl hd _ q) r
theorem R.iaload (X : Stand p l e R s m args below meth c T locs cells slots) (hx : p.tables.exec = Jvm.exec) (hZ : Z.Warmed39 s.vm) (eT : T.heap = h) (F : Arh Z h a k .int z hs vs dv) (hb : ¬ j < 0 ∧ j < z) {v : Value} (hv : getH hs vs dv j.toNatClampNeg = v) (hd : decode c.code pc = .ok (.iaload, 1)) (hp : pc + 1 = pc') (r : Rn p e below (T.setTop (mkF m pc' L (v :: S))) G) : Rn p e below (T.setTop (mkF m pc L (.int j :: .ref a :: S))) G := by
  subst hp
  obtain ⟨cl, Ar, qA, SA, NA, HA, GA⟩ := F
  have hin := inb_of SA hb
  exact Rn.st (fun t q => X.iaload hx (by rw [eT]; exact Ar.1) (State.isArrayOf_alike hZ.alike Ar.2.1) Ar.2.2 hin (atH HA hin hv) (g := mkF m pc L (.int j :: .ref a :: S)) rfl rfl hd _ q) r
theorem R.baloadZ (X : Stand p l e R s m args below meth c T locs cells slots) (hx : p.tables.exec = Jvm.exec) (hZ : Z.Warmed39 s.vm) (eT : T.heap = h) (F : Arh Z h a k .boolean z hs vs dv) (hb : ¬ j < 0 ∧ j < z) {v : Value} (hv : getH hs vs dv j.toNatClampNeg = v) (hd : decode c.code pc = .ok (.baload, 1)) (hp : pc + 1 = pc') (r : Rn p e below (T.setTop (mkF m pc' L (v :: S))) G) : Rn p e below (T.setTop (mkF m pc L (.int j :: .ref a :: S))) G := by
  subst hp
  obtain ⟨cl, Ar, qA, SA, NA, HA, GA⟩ := F
  have hin := inb_of SA hb
  exact Rn.st (fun t q => X.baloadBooleans hx (by rw [eT]; exact Ar.1) (State.isArrayOf_alike hZ.alike Ar.2.1) Ar.2.2 hin (atH HA hin hv) (g := mkF m pc L (.int j :: .ref a :: S)) rfl rfl hd _ q) r
theorem R.dastore (X : Stand p l e R s m args below meth c T locs cells slots) (hx : p.tables.exec = Jvm.exec) (hZ : Z.Warmed39 s.vm) (eT : T.heap = h) (F : Arh Z h a k .double z hs vs dv) (hb : ¬ j < 0 ∧ j < z) {x : UInt64} (hd : decode c.code pc = .ok (.dastore, 1)) (hp : pc + 1 = pc')
    (K : ∀ T' h', Stand p l e R s m args below meth c T' (locs ++ [⟨a, j.toNatClampNeg⟩]) cells slots → T'.heap = h' → Wr h h' a j.toNatClampNeg (.double x) → Arh Z h' a k .double z ((j, .double x) :: hs) vs dv → Rn p e below (T'.setTop (mkF m pc' L S)) G) : Rn p e below (T.setTop (mkF m pc L (.double x :: .int j :: .ref a :: S))) G := by
  subst hp
  obtain ⟨cl, Ar, qA, SA, NA, HA, GA⟩ := F
  have hin := inb_of SA hb
  obtain ⟨T', h', X', e', W', st⟩ := stD X hx hZ eT Ar (j := j) hin (g := mkF m pc L (.double x :: .int j :: .ref a :: S)) rfl rfl hd
  exact Rn.st st (K T' h' X' e' W' (Arh.push Ar qA SA NA HA GA rfl W' hin))
theorem R.iastore (X : Stand p l e R s m args below meth c T locs cells slots) (hx : p.tables.exec = Jvm.exec) (hZ : Z.Warmed39 s.vm) (eT : T.heap = h) (F : Arh Z h a k .int z hs vs dv) (hb : ¬ j < 0 ∧ j < z) {x : Int32} (hd : decode c.code pc = .ok (.iastore, 1)) (hp : pc + 1 = pc')
    (K : ∀ T' h', Stand p l e R s m args below meth c T' (locs ++ [⟨a, j.toNatClampNeg⟩]) cells slots → T'.heap = h' → Wr h h' a j.toNatClampNeg (.int x) → Arh Z h' a k .int z ((j, .int x) :: hs) vs dv → Rn p e below (T'.setTop (mkF m pc' L S)) G) : Rn p e below (T.setTop (mkF m pc L (.int x :: .int j :: .ref a :: S))) G := by
  subst hp
  obtain ⟨cl, Ar, qA, SA, NA, HA, GA⟩ := F
  have hin := inb_of SA hb
  obtain ⟨T', h', X', e', W', st⟩ := stI X hx hZ eT Ar (j := j) hin (g := mkF m pc L (.int x :: .int j :: .ref a :: S)) rfl rfl hd
  exact Rn.st st (K T' h' X' e' W' (Arh.push Ar qA SA NA HA GA rfl W' hin))
theorem R.bastoreZ (X : Stand p l e R s m args below meth c T locs cells slots) (hx : p.tables.exec = Jvm.exec) (hZ : Z.Warmed39 s.vm) (eT : T.heap = h) (F : Arh Z h a k .boolean z hs vs dv) (hb : ¬ j < 0 ∧ j < z) {x : Int32} (hn : nar .boolean x = x) (hd : decode c.code pc = .ok (.bastore, 1)) (hp : pc + 1 = pc')
    (K : ∀ T' h', Stand p l e R s m args below meth c T' (locs ++ [⟨a, j.toNatClampNeg⟩]) cells slots → T'.heap = h' → Wr h h' a j.toNatClampNeg (.int x) → Arh Z h' a k .boolean z ((j, .int x) :: hs) vs dv → Rn p e below (T'.setTop (mkF m pc' L S)) G) : Rn p e below (T.setTop (mkF m pc L (.int x :: .int j :: .ref a :: S))) G := by
  subst hp
  obtain ⟨cl, Ar, qA, SA, NA, HA, GA⟩ := F
  have hin := inb_of SA hb
  obtain ⟨T', h', X', e', W', st⟩ := stZ X hx hZ eT Ar (j := j) hin (g := mkF m pc L (.int x :: .int j :: .ref a :: S)) rfl rfl hd
  rw [hn] at W'
  exact Rn.st st (K T' h' X' e' W' (Arh.push Ar qA SA NA HA GA (by have q := fits_nar_bool x; rw [hn] at q; exact q) W' hin))
end Arr
theorem R.ldc2D (X : Stand p l e R s m args below meth c T locs cells slots) (hx : p.tables.exec = Jvm.exec) (hZ : Z.Warmed39 s.vm) {b : UInt64} (hown : s.vm.findClass own = some m.cls) (w : (Jvm.Cond.constantDouble own index b).before a0 Z = true) (hd : decode c.code pc = .ok (.ldc2_w index, 3)) (hp : pc + 3 = pc') (r : Rn p e below (T.setTop (mkF m pc' L (.double b :: S))) G) : Rn p e below (T.setTop (mkF m pc L S)) G := by
  subst hp; exact Rn.st (fun t q => X.ldc2DoubleC hx hown (mvT hZ w) (g := mkF m pc L S) rfl hd _ q) r
theorem R.ldc2J (X : Stand p l e R s m args below meth c T locs cells slots) (hx : p.tables.exec = Jvm.exec) (hZ : Z.Warmed39 s.vm) {b : Int64} (hown : s.vm.findClass own = some m.cls) (w : (Jvm.Cond.constantLong own index b).before a0 Z = true) (hd : decode c.code pc = .ok (.ldc2_w index, 3)) (hp : pc + 3 = pc') (r : Rn p e below (T.setTop (mkF m pc' L (.long b :: S))) G) : Rn p e below (T.setTop (mkF m pc L S)) G := by
  subst hp; exact Rn.st (fun t q => X.ldc2Long hx hown (mvT hZ w) (g := mkF m pc L S) rfl hd _ q) r
theorem R.ldcI (X : Stand p l e R s m args below meth c T locs cells slots) (hx : p.tables.exec = Jvm.exec) (hZ : Z.Warmed39 s.vm) {b : Int32} (hown : s.vm.findClass own = some m.cls) (w : (Jvm.Cond.constant own index b).before a0 Z = true) (hd : decode c.code pc = .ok (.ldc index, 2)) (hp : pc + 2 = pc') (r : Rn p e below (T.setTop (mkF m pc' L (.int b :: S))) G) : Rn p e below (T.setTop (mkF m pc L S)) G := by
  subst hp; exact Rn.st (fun t q => X.ldcInt hx hown (mvT hZ w) (g := mkF m pc L S) rfl hd _ q) r
theorem R.castY (X : Stand p l e R s m args below meth c T locs cells slots) (hx : p.tables.exec = Jvm.exec) (hZ : Z.Warmed39 s.vm) {C : String} (hown : s.vm.findClass own = some m.cls) (w : (Jvm.Cond.classLink own index C).before a0 Z = true) (eT : T.heap = h) (F : Ins Z h a C true) (hd : decode c.code pc = .ok (.checkcast index, 3)) (hp : pc + 3 = pc')
    (K : ∀ T', Stand p l e R s m args below meth c T' locs cells slots → T'.heap = h → Rn p e below (T'.setTop (mkF m pc' L (.ref a :: S))) G) : Rn p e below (T.setTop (mkF m pc L (.ref a :: S))) G := by
  subst hp
  obtain ⟨T', X', e', st⟩ := castY X hx hZ hown w eT F (g := mkF m pc L (.ref a :: S)) rfl rfl hd
  exact Rn.st st (K T' X' e')
theorem R.instY (X : Stand p l e R s m args below meth c T locs cells slots) (hx : p.tables.exec = Jvm.exec) (hZ : Z.Warmed39 s.vm) {C : String} (hown : s.vm.findClass own = some m.cls) (w : (Jvm.Cond.classLink own index C).before a0 Z = true) (eT : T.heap = h) (F : Ins Z h a C true) (hd : decode c.code pc = .ok (.instanceof index, 3)) (hp : pc + 3 = pc')
    (K : ∀ T', Stand p l e R s m args below meth c T' locs cells slots → T'.heap = h → Rn p e below (T'.setTop (mkF m pc' L (.int 1 :: S))) G) : Rn p e below (T.setTop (mkF m pc L (.ref a :: S))) G := by
  subst hp
  obtain ⟨T', X', e', st⟩ := instY X hx hZ hown w eT F (g := mkF m pc L (.ref a :: S)) rfl rfl hd
  exact Rn.st st (K T' X' e')
theorem R.instNo (X : Stand p l e R s m args below meth c T locs cells slots) (hx : p.tables.exec = Jvm.exec) (hZ : Z.Warmed39 s.vm) {C C' : String} (hown : s.vm.findClass own = some m.cls) (w : (Jvm.Cond.classLink own index C').before a0 Z = true) (eT : T.heap = h) (E : Exa Z h a C) (F : ∃ c t, Z.vm.findClass C = some c ∧ Z.vm.findClass C' = some t ∧ Z.vm.assignable c t = false) (hd : decode c.code pc = .ok (.instanceof index, 3)) (hp : pc + 3 = pc')
    (K : ∀ T', Stand p l e R s m args below meth c T' locs cells slots → T'.heap = h → Rn p e below (T'.setTop (mkF m pc' L (.int 0 :: S))) G) : Rn p e below (T.setTop (mkF m pc L (.ref a :: S))) G := by
  subst hp
  obtain ⟨T', X', e', st⟩ := instNo X hx hZ hown w eT E F (g := mkF m pc L (.ref a :: S)) rfl rfl hd
  exact Rn.st st (K T' X' e')
theorem R.initO (X : Stand p l e R s m args below meth c T locs cells slots) (hx : p.tables.exec = Jvm.exec) (hZ : Z.Warmed39 s.vm) (hown : s.vm.findClass own = some m.cls) (w1 : (Jvm.Cond.methodLink own index Lib.objectInit).before a0 Z = true) (w2 : (Jvm.Cond.instanceMethod Lib.objectInit).before a0 Z = true) (w3 : (Jvm.Cond.code Lib.objectInit ⟨#[0xb1]⟩ 1 none).before a0 Z = true) (eT : T.heap = h) (hsize : L.size = c.maxLocals)
    (hd : decode c.code pc = .ok (.invokespecial index, 3)) (hp : pc + 3 = pc') (hf : 1 ≤ R.frames) {W : Nat} (hW : (S.map fun v => v.category).sum ≤ W) (hl : W + 12 ≤ R.locals)
    (K : ∀ T', Stand p l e R s m args below meth c T' locs cells slots → T'.heap = h → Rn p e below (T'.setTop (mkF m pc' L S)) G) : Rn p e below (T.setTop (mkF m pc L (.ref a :: S))) G := by
  subst hp
  obtain ⟨T', X', e', st⟩ := initO X hx hZ hown w1 w2 w3 eT (g := mkF m pc L (.ref a :: S)) rfl hsize rfl hd hf (W := W) (by show 2 * 0 + _ ≤ W; rw [Nat.mul_zero, Nat.zero_add]; exact hW) hl
  exact Rn.st st (K T' X' e')
section Calls
variable {y : MethodName} {bytes : ByteArray} {maxL : Nat} {ret : Option FieldType} {rm : Room} {as' : List Value} {Q : Option Value → Heap → List Loc → Prop} {S0 : List Value} {W : Nat}
theorem R.callS (X : Stand p l e R s m args below meth c T locs cells slots) (hx : p.tables.exec = Jvm.exec) (hZ : Z.Warmed39 s.vm) (hown : s.vm.findClass own = some m.cls) (w1 : (Jvm.Cond.methodLink own index y).before a0 Z = true) (w2 : (Jvm.Cond.static y).before a0 Z = true) (w3 : (Jvm.Cond.initialized y.cls).before a0 Z = true) (w4 : (Jvm.Cond.code y bytes maxL ret).before a0 Z = true) (hy : y.cls ≠ "java/lang/invoke/MethodHandle" ∧ y.cls ≠ "java/lang/invoke/VarHandle") (eT : T.heap = h)
    (hM : MetFree l y (head1 [Jvm.Cond.code y bytes maxL ret] rm) (fun a U => a = as'.toArray ∧ Z.Warmed39 U.vm ∧ U.heap = h) (fun _ _ _ _ _ => True) (fun _ U o U' => ∃ v L, o = .returned v ∧ Q v U'.heap L ∧ FrameEnd U o U' L rm.cells rm.slots))
    (hf : rm.frames + 1 ≤ R.frames) (hW : (S.map fun v => v.category).sum ≤ W) (hl : W + (maxL + 11) + rm.locals ≤ R.locals) (hsize : L.size = c.maxLocals) (hlen : ∀ sig, parseMethodDescriptor y.desc = some sig → as'.length = sig.parameters.length) (hst : S0 = as'.reverse ++ S) (hd : decode c.code pc = .ok (.invokestatic index, 3)) (hp : pc + 3 = pc') (hc : cells + rm.cells ≤ R.cells) (hs : slots + rm.slots ≤ R.slots)
    (K : ∀ v T' L1, Stand p l e R s m args below meth c T' (locs ++ L1) (cells + rm.cells) (slots + rm.slots) → Q v T'.heap L1 → Rn p e below (T'.setTop (mkF m pc' L (v.toList ++ S))) G) : Rn p e below (T.setTop (mkF m pc L S0)) G := by
  subst hp
  obtain ⟨v, vm1, ⟨T', L2, k', n'⟩, -, X', ⟨Lc, hQ, l1, y1, z1⟩, st⟩ := Jvm.LawKit.callS X hx (y := y) hown (mvT hZ w1) (mvT hZ w2) (mvT hZ w3) (mvT hZ w4) hy (backOf (W := W) hM hZ w4 w3 hf hl) (g := mkF m pc L S0) rfl hsize (argsL := as') (rest := S) hlen hst (by show 2 * 0 + _ ≤ W; rw [Nat.mul_zero, Nat.zero_add]; exact hW) hd (fun _ _ => ⟨rfl, eT, hc, hs⟩)
  dsimp only [Pt.U, Pt.locs, Pt.cells, Pt.slots] at X' l1 y1 z1 st hQ
  subst l1 y1 z1
  exact Rn.st st (K v T' Lc X' hQ)
theorem R.special (X : Stand p l e R s m args below meth c T locs cells slots) (hx : p.tables.exec = Jvm.exec) (hZ : Z.Warmed39 s.vm) (hy1 : y.name = "<init>") (hown : s.vm.findClass own = some m.cls) (w1 : (Jvm.Cond.methodLink own index y).before a0 Z = true) (w2 : (Jvm.Cond.instanceMethod y).before a0 Z = true) (w3 : (Jvm.Cond.initialized y.cls).before a0 Z = true) (w4 : (Jvm.Cond.code y bytes maxL none).before a0 Z = true) (hy : y.cls ≠ "java/lang/invoke/MethodHandle" ∧ y.cls ≠ "java/lang/invoke/VarHandle") (eT : T.heap = h)
    (hM : MetFree l y (head1 [Jvm.Cond.code y bytes maxL none] rm) (fun u U => u = (.ref a :: as').toArray ∧ Z.Warmed39 U.vm ∧ U.heap = h) (fun _ _ _ _ _ => True) (fun _ U o U' => ∃ v L, o = .returned v ∧ Q v U'.heap L ∧ FrameEnd U o U' L rm.cells rm.slots))
    (hf : rm.frames + 1 ≤ R.frames) (hW : (S.map fun v => v.category).sum ≤ W) (hl : W + (maxL + 11) + rm.locals ≤ R.locals) (hsize : L.size = c.maxLocals) (hlen : ∀ sig, parseMethodDescriptor y.desc = some sig → as'.length = sig.parameters.length) (hst : S0 = as'.reverse ++ .ref a :: S) (hd : decode c.code pc = .ok (.invokespecial index, 3)) (hp : pc + 3 = pc') (hc : cells + rm.cells ≤ R.cells) (hs : slots + rm.slots ≤ R.slots)
    (K : ∀ v T' L1, Stand p l e R s m args below meth c T' (locs ++ L1) (cells + rm.cells) (slots + rm.slots) → Q v T'.heap L1 → Rn p e below (T'.setTop (mkF m pc' L (v.toList ++ S))) G) : Rn p e below (T.setTop (mkF m pc L S0)) G := by
  subst hp
  obtain ⟨v, vm1, ⟨T', L2, k', n'⟩, -, X', ⟨Lc, hQ, l1, y1, z1⟩, st⟩ := X.specialBack hx (y := y) hy1 hown (mvT hZ w1) (mvT hZ w2) (mvT hZ w4) hy (backOf (W := W) hM hZ w4 w3 hf hl) (g := mkF m pc L S0) rfl hsize (Steps.refl _) (a := a) (argsL := as') (rest := S) hlen hst (by show 2 * 0 + _ ≤ W; rw [Nat.mul_zero, Nat.zero_add]; exact hW) hd (fun _ _ => ⟨rfl, eT, hc, hs⟩)
  dsimp only [Pt.U, Pt.locs, Pt.cells, Pt.slots] at X' l1 y1 z1 st hQ
  subst l1 y1 z1
  exact Rn.st (fun t q => st.trans q) (K v T' Lc X' hQ)
theorem R.virtual (X : Stand p l e R s m args below meth c T locs cells slots) (hx : p.tables.exec = Jvm.exec) (hZ : Z.Warmed39 s.vm) {C : String} {z : MethodName} (hown : s.vm.findClass own = some m.cls) (w1 : (Jvm.Cond.methodLink own index y).before a0 Z = true) (w2 : (Jvm.Cond.declares y).before a0 Z = true) (hnf : NotFace s y) (w5 : (Jvm.Cond.selects C y z).before a0 Z = true) (w6 : (Jvm.Cond.instanceMethod z).before a0 Z = true) (w3 : (Jvm.Cond.initialized z.cls).before a0 Z = true) (w4 : (Jvm.Cond.code z bytes maxL ret).before a0 Z = true) (hy : y.cls ≠ "java/lang/invoke/MethodHandle" ∧ y.cls ≠ "java/lang/invoke/VarHandle") (eT : T.heap = h) (E : Exa Z h a C)
    (hM : MetFree l z (head1 [Jvm.Cond.code z bytes maxL ret] rm) (fun u U => u = (.ref a :: as').toArray ∧ Z.Warmed39 U.vm ∧ U.heap = h) (fun _ _ _ _ _ => True) (fun _ U o U' => ∃ v L, o = .returned v ∧ Q v U'.heap L ∧ FrameEnd U o U' L rm.cells rm.slots))
    (hf : rm.frames + 1 ≤ R.frames) (hW : (S.map fun v => v.category).sum ≤ W) (hl : W + (maxL + 11) + rm.locals ≤ R.locals) (hsize : L.size = c.maxLocals) (hlen : ∀ sig, parseMethodDescriptor y.desc = some sig → as'.length = sig.parameters.length) (hst : S0 = as'.reverse ++ .ref a :: S) (hd : decode c.code pc = .ok (.invokevirtual index, 3)) (hp : pc + 3 = pc') (hc : cells + rm.cells ≤ R.cells) (hs : slots + rm.slots ≤ R.slots)
    (K : ∀ v T' L1, Stand p l e R s m args below meth c T' (locs ++ L1) (cells + rm.cells) (slots + rm.slots) → Q v T'.heap L1 → Rn p e below (T'.setTop (mkF m pc' L (v.toList ++ S))) G) : Rn p e below (T.setTop (mkF m pc L S0)) G := by
  subst hp
  obtain ⟨cq, kq, qa, qb, qc⟩ := isOf hZ eT E
  obtain ⟨v, vm1, ⟨T', L2, k', n'⟩, -, X', ⟨Lc, hQ, l1, y1, z1⟩, st⟩ := X.virtualBack hx (y := y) (z := z) hown (mvT hZ w1) (mvT hZ w2) hnf (mvT hZ w5) (mvT hZ w6) hy (backOf (W := W) hM hZ w4 w3 hf hl) qa qc (g := mkF m pc L S0) rfl hsize (Steps.refl _) (argsL := as') (rest := S) hlen hst (by show 2 * 0 + _ ≤ W; rw [Nat.mul_zero, Nat.zero_add]; exact hW) hd (fun _ _ => ⟨rfl, eT, hc, hs⟩)
  dsimp only [Pt.U, Pt.locs, Pt.cells, Pt.slots] at X' l1 y1 z1 st hQ
  subst l1 y1 z1
  exact Rn.st (fun t q => st.trans q) (K v T' Lc X' hQ)
end Calls
end RBig
theorem own_zero : Dy (0 : UInt64) 0 0 := Dy.lit false 0 (-1074) (by decide +kernel) (by decide +kernel)
theorem own_zero' : Dy FP.dconst0 0 0 := Dy.lit false 0 (-1074) (by decide +kernel) (by decide +kernel)
theorem own_m {a r : Int32} (h : ((a &&& (255 : Int32)) % (3 : Int32)) = r) : 0 ≤ r.toInt ∧ r.toInt < 3 := own_masked (by decide) (by decide) (by decide) h
theorem own_e {a r : Int32} (h : ((a &&& (2147483647 : Int32)) % (3 : Int32)) = r) : 0 ≤ r.toInt ∧ r.toInt < 3 := own_masked (by decide) (by decide) (by decide) h
theorem own_c15 {a r : Int32} (h : (a &&& (15 : Int32)) = r) : 0 ≤ r.toInt ∧ r.toInt ≤ 15 := by rw [← h]; exact c_and a 15 (by decide)
theorem own_sc {a : Int32} {x : UInt64} (h : (FP.i2d ((a &&& (15 : Int32)) + (1 : Int32))) = x) : ∃ m : Int, (0 ≤ m ∧ m ≤ 16) ∧ Dy x m 0 := by
  have b := c_and a 15 (by decide)
  have e15 : (15 : Int32).toInt = 15 := by decide
  have e1 : (1 : Int32).toInt = 1 := by decide
  refine ⟨((a &&& (15 : Int32)) + (1 : Int32)).toInt, ?_, h ▸ Dy.i2d _⟩
  rw [own_addI] <;> rw [e1] <;> omega
theorem own_t {a : Int32} {x : UInt64} (h : (FP.i2d (a &&& (15 : Int32))) = x) : ∃ m : Int, (0 ≤ m ∧ m ≤ 16) ∧ Dy x m 0 := by
  have b := c_and a 15 (by decide)
  have e15 : (15 : Int32).toInt = 15 := by decide
  exact ⟨(a &&& (15 : Int32)).toInt, by omega, h ▸ Dy.i2d _⟩
theorem own_nxt {e r k : Int32} {d : Int} (he : 0 ≤ e.toInt ∧ e.toInt < 3) (hk : k.toInt = d) (hd : 0 ≤ d ∧ d < 3) (h : ((e + k) % (3 : Int32)) = r) : r.toInt = (e.toInt + d) % 3 := by
  have e3 : (3 : Int32).toInt = 3 := by decide
  have a : (e + k).toInt = e.toInt + d := by rw [own_addI] <;> rw [hk]; omega
  have t := (c_irem (e + k) (3 : Int32) 3 e3).1 (by omega)
  rw [h, a] at t
  exact t
theorem own_lt_tr {a b c : Int32} (h : a < b) (h2 : b < c) : a < c := by rw [Int32.lt_iff_toInt_lt] at *; omega
theorem own_clean {Z : State} {h : Heap} {a : Addr} {k : ClassId} {ty : FieldType} {z : Int32} {hs : List (Int32 × Value)} {dv : Value} (F : Arh Z h a k ty z hs [] dv) (q : ∀ i : Nat, getH hs [] dv i = dv) : Arh Z h a k ty z [] [] dv := by
  obtain ⟨c, A, r1, r2, r3, H, G⟩ := F
  exact ⟨c, A, r1, r2, r3, fun i hi => by rw [own_getH_nil, ← q i]; exact H i hi, fun i hi => by rw [own_getH_nil, ← q i]; exact G i hi⟩
theorem own_cl0 {hs : List (Int32 × Value)} {dv : Value} {i : Nat} {d : Int32} {v : Value} (hv : v = dv) (h : ¬ d.toInt = (i : Int) → getH hs [] dv i = dv) : getH ((d, v) :: hs) [] dv i = dv := by
  unfold getH
  by_cases e : d.toInt = (i : Int)
  · rw [if_pos e]; exact hv
  · rw [if_neg e]; exact h e
theorem own_cl1 {hs : List (Int32 × Value)} {dv : Value} {i : Nat} {d : Int32} {v : Value} (hn : ¬ d.toInt = (i : Int)) (h : getH hs [] dv i = dv) : getH ((d, v) :: hs) [] dv i = dv := by
  unfold getH
  rw [if_neg hn]; exact h
theorem d2_0 : decode prog_23_method_1_code 0 = .ok (.aload_n 0, 1) := by decide +kernel
theorem d2_1 : decode prog_23_method_1_code 1 = .ok (.invokespecial 1, 3) := by decide +kernel
theorem d2_4 : decode prog_23_method_1_code 4 = .ok (.aload_n 0, 1) := by decide +kernel
theorem d2_5 : decode prog_23_method_1_code 5 = .ok (.iload_n 1, 1) := by decide +kernel
theorem d2_6 : decode prog_23_method_1_code 6 = .ok (.newarray .double, 2) := by decide +kernel
theorem d2_8 : decode prog_23_method_1_code 8 = .ok (.putfield 7, 3) := by decide +kernel
theorem d2_11 : decode prog_23_method_1_code 11 = .ok (.aload_n 0, 1) := by decide +kernel
theorem d2_12 : decode prog_23_method_1_code 12 = .ok (.iload_n 1, 1) := by decide +kernel
theorem d2_13 : decode prog_23_method_1_code 13 = .ok (.newarray .boolean, 2) := by decide +kernel
theorem d2_15 : decode prog_23_method_1_code 15 = .ok (.putfield 13, 3) := by decide +kernel
theorem d2_18 : decode prog_23_method_1_code 18 = .ok (.aload_n 0, 1) := by decide +kernel
theorem d2_19 : decode prog_23_method_1_code 19 = .ok (.iload_n 1, 1) := by decide +kernel
theorem d2_20 : decode prog_23_method_1_code 20 = .ok (.newarray .int, 2) := by decide +kernel
theorem d2_22 : decode prog_23_method_1_code 22 = .ok (.putfield 17, 3) := by decide +kernel
theorem d2_25 : decode prog_23_method_1_code 25 = .ok (.return_, 1) := by decide +kernel
theorem pn_0 : plainName "com/example/maat/maat/search/Accumulator" = true := by first | (simp [plainName, overriddenIn]; done) | decide +kernel
theorem ef_2 (m : MethodId) (x0 : Addr) (x1 : Int32) : entryFrame m #[(.ref x0), (.int x1)] 2 = mkF m 0 #[.val (.ref x0), .val (.int x1)] [] := by first | (simp [entryFrame, mkF, argsToLocals, Value.category]; done) | rfl
def Q2 (Z : State) (a0 : Addr) (p1 : Int32) (h0 : Heap) (n0 : Nat) (vQ : Option Value) (hQ_ : Heap) (LQ : List Loc) : Prop := ∃ sc : Addr, ∃ rt : Addr, ∃ dc : Addr, ∃ ks : ClassId, ∃ kr : ClassId, ∃ kd : ClassId, vQ = none ∧ Fr n0 LQ ∧ Keep h0 hQ_ [a0] ∧ (h0.size ≤ sc) ∧ (h0.size ≤ rt) ∧ (h0.size ≤ dc) ∧ (sc ≠ rt) ∧ (sc ≠ dc) ∧ (rt ≠ dc) ∧ (Exa Z hQ_ a0 "com/example/maat/maat/search/Accumulator") ∧ (Fld Z hQ_ a0 "com/example/maat/maat/search/Accumulator" "scores" "[D" (.ref sc)) ∧ (Fld Z hQ_ a0 "com/example/maat/maat/search/Accumulator" "retrieved" "[Z" (.ref rt)) ∧ (Fld Z hQ_ a0 "com/example/maat/maat/search/Accumulator" "documents" "[I" (.ref dc)) ∧ (Fld Z hQ_ a0 "com/example/maat/maat/search/Accumulator" "size" "I" (.int (0 : Int32))) ∧ (Arh Z hQ_ sc ks .double p1 [] [] (.double (0 : UInt64))) ∧ (Arh Z hQ_ rt kr .boolean p1 [] [] (.int (0 : Int32))) ∧ (Arh Z hQ_ dc kd .int p1 [] [] (.int (0 : Int32)))
def Fn2 (Z : State) (a0 : Addr) (p1 : Int32) (h0 : Heap) (n0 : Nat) (sQ : State) (oQ : Outcome) (UQ : State) : Prop := ∃ vQ LQ, oQ = .returned vQ ∧ Q2 Z a0 p1 h0 n0 vQ UQ.heap LQ ∧ FrameEnd sQ oQ UQ LQ ({ frames := 1, cells := 3, slots := 9, locals := 12 } : Room).cells ({ frames := 1, cells := 3, slots := 9, locals := 12 } : Room).slots
set_option maxRecDepth 65536 in
set_option maxHeartbeats 40000000 in
theorem rm2 (l : Launch) (Z : State) (aZ : Array Value) (hw : ∀ d ∈ tables_1, d.before aZ Z = true) (ws : List Jvm.Cond) (a0 : Addr) (p1 : Int32) (h0 : Heap) (n0 : Nat) (Z0 : n0 ≤ h0.size) (E_a0 : Exa Z h0 a0 "com/example/maat/maat/search/Accumulator") (F_scores_a0 : Fld Z h0 a0 "com/example/maat/maat/search/Accumulator" "scores" "[D" .null) (F_retrieved_a0 : Fld Z h0 a0 "com/example/maat/maat/search/Accumulator" "retrieved" "[Z" .null) (F_documents_a0 : Fld Z h0 a0 "com/example/maat/maat/search/Accumulator" "documents" "[I" .null) (F_size_a0 : Fld Z h0 a0 "com/example/maat/maat/search/Accumulator" "size" "I" (.int (0 : Int32))) (g_a0 : n0 ≤ a0) (hn : ¬ p1 < 0) (hcap : p1.toNatClampNeg ≤ 3) :
    MetFree l (⟨"com/example/maat/maat/search/Accumulator", "<init>", "(I)V"⟩ : MethodName) (head1 (Jvm.Cond.code (⟨"com/example/maat/maat/search/Accumulator", "<init>", "(I)V"⟩ : MethodName) prog_23_method_1_code 2 none :: ws) ({ frames := 1, cells := 3, slots := 9, locals := 12 } : Room)) (fun aQ UQ => aQ = #[(.ref a0), (.int p1)] ∧ Z.Warmed39 UQ.vm ∧ UQ.heap = h0) (fun _ _ _ _ _ => True) (fun _ UQ oQ UR => ∃ vQ LQ, oQ = .returned vQ ∧ Q2 Z a0 p1 h0 n0 vQ UR.heap LQ ∧ FrameEnd UQ oQ UR LQ ({ frames := 1, cells := 3, slots := 9, locals := 12 } : Room).cells ({ frames := 1, cells := 3, slots := 9, locals := 12 } : Room).slots) := by
  refine MetFree.of_bodySF (plainFor_of_name pn_0) hisR ?_
  intro p e s m args below meth c s₁ Bd hml0 hP hK
  obtain ⟨rfl, hZ, hh⟩ := hP
  have hx := Bd.exec
  have hby := Bd.bytes
  have hml : c.maxLocals = 2 := hml0
  have hown : s.vm.findClass "com/example/maat/maat/search/Accumulator" = some m.cls := findClass_of_methodNamed Bd.named
  have hnm := (name_of_methodNamed Bd.named Bd.method).1
  have X0 : Stand p l e ({ frames := 1, cells := 3, slots := 9, locals := 12 } : Room) s m #[(.ref a0), (.int p1)] below meth c s₁ [] 0 0 := Stand.of_body Bd
  have e0 : s₁.heap = h0 := by rw [← hh, Bd.state]; rfl
  have N0 := Fr.nil n0
  have K0 : Keep h0 h0 [a0] := Keep.refl _ _
  have w_6 := hw _ (List.mem_of_getElem? (i := 6) rfl)
  have w_11 := hw _ (List.mem_of_getElem? (i := 11) rfl)
  have w_12 := hw _ (List.mem_of_getElem? (i := 12) rfl)
  have w_13 := hw _ (List.mem_of_getElem? (i := 13) rfl)
  have w_14 := hw _ (List.mem_of_getElem? (i := 14) rfl)
  have w_15 := hw _ (List.mem_of_getElem? (i := 15) rfl)
  have w_16 := hw _ (List.mem_of_getElem? (i := 16) rfl)
  have w_17 := hw _ (List.mem_of_getElem? (i := 17) rfl)
  have w_18 := hw _ (List.mem_of_getElem? (i := 18) rfl)
  have w_19 := hw _ (List.mem_of_getElem? (i := 19) rfl)
  have w_20 := hw _ (List.mem_of_getElem? (i := 20) rfl)
  have w_21 := hw _ (List.mem_of_getElem? (i := 21) rfl)
  have w_22 := hw _ (List.mem_of_getElem? (i := 22) rfl)
  have w_29 := hw _ (List.mem_of_getElem? (i := 29) rfl)
  have first_ : Rn p e below (s₁.setTop (mkF m 0 #[.val (.ref a0), .val (.int p1)] [])) (Fn2 Z a0 p1 h0 n0 s) := by
    generalize hG : (Fn2 Z a0 p1 h0 n0 s) = G
    refine R.aloadN X0 hx (hb hby d2_0) rfl rfl (pc' := 1) rfl ?_
    refine R.initO X0 hx hZ hown w_11 w_12 w_13 e0 (by rw [hml]; rfl) (hb hby d2_1) (pc' := 4) rfl (by decide) (W := 0) (Nat.le_of_eq rfl) (by decide) ?_; intro T1 X1 e1
    refine R.aloadN X1 hx (hb hby d2_4) rfl rfl (pc' := 5) rfl ?_
    refine R.iloadN X1 hx (hb hby d2_5) rfl (pc' := 6) rfl ?_
    refine R.newP X1 hx hZ (ty := .double) rfl w_14 e1 (hn) (cap := 3) hcap (by decide) (ad := "[D") (by decide) (hb hby d2_6) (pc' := 8) rfl (by decide) (by decide) ?_; intro T2 h2 b2 k2 g2 X2 e2 E2 EE2 A2
    have g_b2 : n0 ≤ b2 := Nat.le_trans Z0 (Nat.le_of_eq g2.symm)
    have sz_b2 : h0.size ≤ b2 := Nat.le_trans K0.1 (Nat.le_of_eq g2.symm)
    have ne_a0_b2 : a0 ≠ b2 := Nat.ne_of_lt (Nat.lt_of_lt_of_le E_a0.lt (Nat.le_of_eq g2.symm))
    have K2 : Keep h0 h2 [a0] := K0.ext E2
    have Z2 : n0 ≤ h2.size := Nat.le_trans Z0 E2.1
    have E_a0 := E_a0.ext E2
    have F_scores_a0 := F_scores_a0.ext E2
    have F_retrieved_a0 := F_retrieved_a0.ext E2
    have F_documents_a0 := F_documents_a0.ext E2
    have F_size_a0 := F_size_a0.ext E2
    have V_b2 : Arh Z h2 b2 k2 .double p1 [] [] (.double (0 : UInt64)) := A2
    refine R.putF X2 hx hZ hown (host := "") (Or.inl w_15) Via.refl e2 F_scores_a0 E_a0 (Or.inr ⟨w_16, rfl, hnm⟩) w_6 (ty := (.array .double)) (by decide) rfl rfl (hb hby d2_8) (pc' := 11) rfl ?_; intro T3 h3 X3 e3 W3
    have E_a0 := E_a0.wr W3
    have F_retrieved_a0 := F_retrieved_a0.other W3 (Or.inr (slot_ne (Or.inr w_19) (Or.inr w_16) (by decide) (t := (.array .boolean)) (t' := (.array .double)) (by decide) (by decide)))
    have F_documents_a0 := F_documents_a0.other W3 (Or.inr (slot_ne (Or.inr w_22) (Or.inr w_16) (by decide) (t := (.array .int)) (t' := (.array .double)) (by decide) (by decide)))
    have F_size_a0 := F_size_a0.other W3 (Or.inr (slot_ne (Or.inl w_29) (Or.inr w_16) (by decide) (t := .int) (t' := (.array .double)) (by decide) (by decide)))
    have V_b2 := V_b2.other W3 (Ne.symm ne_a0_b2)
    have F_scores_a0 : Fld Z h3 a0 "com/example/maat/maat/search/Accumulator" "scores" "[D" (.ref b2) := F_scores_a0.same W3
    have N3 := Fr.snoc X3 N0 g_a0
    have K3 : Keep h0 h3 [a0] := K2.wr W3 (Or.inl (List.mem_of_getElem? (i := 0) rfl))
    have Z3 : n0 ≤ h3.size := Nat.le_trans Z2 (Keep.of_wr W3).1
    refine R.aloadN X3 hx (hb hby d2_11) rfl rfl (pc' := 12) rfl ?_
    refine R.iloadN X3 hx (hb hby d2_12) rfl (pc' := 13) rfl ?_
    refine R.newP X3 hx hZ (ty := .boolean) rfl w_17 e3 (hn) (cap := 3) hcap (by decide) (ad := "[Z") (by decide) (hb hby d2_13) (pc' := 15) rfl (by decide) (by decide) ?_; intro T4 h4 b4 k4 g4 X4 e4 E4 EE4 A4
    have g_b4 : n0 ≤ b4 := Nat.le_trans Z3 (Nat.le_of_eq g4.symm)
    have sz_b4 : h0.size ≤ b4 := Nat.le_trans K3.1 (Nat.le_of_eq g4.symm)
    have ne_a0_b4 : a0 ≠ b4 := Nat.ne_of_lt (Nat.lt_of_lt_of_le E_a0.lt (Nat.le_of_eq g4.symm))
    have ne_b2_b4 : b2 ≠ b4 := Nat.ne_of_lt (Nat.lt_of_lt_of_le V_b2.lt (Nat.le_of_eq g4.symm))
    have K4 : Keep h0 h4 [a0] := K3.ext E4
    have Z4 : n0 ≤ h4.size := Nat.le_trans Z3 E4.1
    have E_a0 := E_a0.ext E4
    have F_retrieved_a0 := F_retrieved_a0.ext E4
    have F_documents_a0 := F_documents_a0.ext E4
    have F_size_a0 := F_size_a0.ext E4
    have V_b2 := V_b2.ext E4
    have F_scores_a0 := F_scores_a0.ext E4
    have V_b4 : Arh Z h4 b4 k4 .boolean p1 [] [] (.int (0 : Int32)) := A4
    refine R.putF X4 hx hZ hown (host := "") (Or.inl w_18) Via.refl e4 F_retrieved_a0 E_a0 (Or.inr ⟨w_19, rfl, hnm⟩) w_6 (ty := (.array .boolean)) (by decide) rfl rfl (hb hby d2_15) (pc' := 18) rfl ?_; intro T5 h5 X5 e5 W5
    have E_a0 := E_a0.wr W5
    have F_documents_a0 := F_documents_a0.other W5 (Or.inr (slot_ne (Or.inr w_22) (Or.inr w_19) (by decide) (t := (.array .int)) (t' := (.array .boolean)) (by decide) (by decide)))
    have F_size_a0 := F_size_a0.other W5 (Or.inr (slot_ne (Or.inl w_29) (Or.inr w_19) (by decide) (t := .int) (t' := (.array .boolean)) (by decide) (by decide)))
    have V_b2 := V_b2.other W5 (Ne.symm ne_a0_b2)
    have F_scores_a0 := F_scores_a0.other W5 (Or.inr (slot_ne (Or.inr w_16) (Or.inr w_19) (by decide) (t := (.array .double)) (t' := (.array .boolean)) (by decide) (by decide)))
    have V_b4 := V_b4.other W5 (Ne.symm ne_a0_b4)
    have F_retrieved_a0 : Fld Z h5 a0 "com/example/maat/maat/search/Accumulator" "retrieved" "[Z" (.ref b4) := F_retrieved_a0.same W5
    have N5 := Fr.snoc X5 N3 g_a0
    have K5 : Keep h0 h5 [a0] := K4.wr W5 (Or.inl (List.mem_of_getElem? (i := 0) rfl))
    have Z5 : n0 ≤ h5.size := Nat.le_trans Z4 (Keep.of_wr W5).1
    refine R.aloadN X5 hx (hb hby d2_18) rfl rfl (pc' := 19) rfl ?_
    refine R.iloadN X5 hx (hb hby d2_19) rfl (pc' := 20) rfl ?_
    refine R.newP X5 hx hZ (ty := .int) rfl w_20 e5 (hn) (cap := 3) hcap (by decide) (ad := "[I") (by decide) (hb hby d2_20) (pc' := 22) rfl (by decide) (by decide) ?_; intro T6 h6 b6 k6 g6 X6 e6 E6 EE6 A6
    have g_b6 : n0 ≤ b6 := Nat.le_trans Z5 (Nat.le_of_eq g6.symm)
    have sz_b6 : h0.size ≤ b6 := Nat.le_trans K5.1 (Nat.le_of_eq g6.symm)
    have ne_a0_b6 : a0 ≠ b6 := Nat.ne_of_lt (Nat.lt_of_lt_of_le E_a0.lt (Nat.le_of_eq g6.symm))
    have ne_b2_b6 : b2 ≠ b6 := Nat.ne_of_lt (Nat.lt_of_lt_of_le V_b2.lt (Nat.le_of_eq g6.symm))
    have ne_b4_b6 : b4 ≠ b6 := Nat.ne_of_lt (Nat.lt_of_lt_of_le V_b4.lt (Nat.le_of_eq g6.symm))
    have K6 : Keep h0 h6 [a0] := K5.ext E6
    have Z6 : n0 ≤ h6.size := Nat.le_trans Z5 E6.1
    have E_a0 := E_a0.ext E6
    have F_documents_a0 := F_documents_a0.ext E6
    have F_size_a0 := F_size_a0.ext E6
    have V_b2 := V_b2.ext E6
    have F_scores_a0 := F_scores_a0.ext E6
    have V_b4 := V_b4.ext E6
    have F_retrieved_a0 := F_retrieved_a0.ext E6
    have V_b6 : Arh Z h6 b6 k6 .int p1 [] [] (.int (0 : Int32)) := A6
    refine R.putF X6 hx hZ hown (host := "") (Or.inl w_21) Via.refl e6 F_documents_a0 E_a0 (Or.inr ⟨w_22, rfl, hnm⟩) w_6 (ty := (.array .int)) (by decide) rfl rfl (hb hby d2_22) (pc' := 25) rfl ?_; intro T7 h7 X7 e7 W7
    have E_a0 := E_a0.wr W7
    have F_size_a0 := F_size_a0.other W7 (Or.inr (slot_ne (Or.inl w_29) (Or.inr w_22) (by decide) (t := .int) (t' := (.array .int)) (by decide) (by decide)))
    have V_b2 := V_b2.other W7 (Ne.symm ne_a0_b2)
    have F_scores_a0 := F_scores_a0.other W7 (Or.inr (slot_ne (Or.inr w_16) (Or.inr w_22) (by decide) (t := (.array .double)) (t' := (.array .int)) (by decide) (by decide)))
    have V_b4 := V_b4.other W7 (Ne.symm ne_a0_b4)
    have F_retrieved_a0 := F_retrieved_a0.other W7 (Or.inr (slot_ne (Or.inr w_19) (Or.inr w_22) (by decide) (t := (.array .boolean)) (t' := (.array .int)) (by decide) (by decide)))
    have V_b6 := V_b6.other W7 (Ne.symm ne_a0_b6)
    have F_documents_a0 : Fld Z h7 a0 "com/example/maat/maat/search/Accumulator" "documents" "[I" (.ref b6) := F_documents_a0.same W7
    have N7 := Fr.snoc X7 N5 g_a0
    have K7 : Keep h0 h7 [a0] := K6.wr W7 (Or.inl (List.mem_of_getElem? (i := 0) rfl))
    have Z7 : n0 ≤ h7.size := Nat.le_trans Z6 (Keep.of_wr W7).1
    rw [← hG]
    exact Rn.ret X7 (BodyLoose.notSynchronized Bd) (v := none) (fun _ => rfl) (Q := Q2 Z a0 p1 h0 n0) e7 (fun fs hr => X7.returnOut hx Bd.returns (hb hby d2_25) hr) ⟨b2, b4, b6, k2, k4, k6, rfl, N7, K7, (sz_b2), (sz_b4), (sz_b6), ne_b2_b4, ne_b2_b6, ne_b4_b6, E_a0, F_scores_a0, F_retrieved_a0, F_documents_a0, F_size_a0, V_b2, V_b4, V_b6⟩ (by decide) (by decide)
  exact (Rn.st (fun t k => castTop (ef_2 m a0 p1) k) first_ : Rn p e below (s₁.setTop (entryFrame m #[(.ref a0), (.int p1)] 2)) (Fn2 Z a0 p1 h0 n0 s))
theorem d5_0 : decode prog_23_method_2_code 0 = .ok (.aload_n 0, 1) := by decide +kernel
theorem d5_1 : decode prog_23_method_2_code 1 = .ok (.getfield 13, 3) := by decide +kernel
theorem d5_4 : decode prog_23_method_2_code 4 = .ok (.iload_n 1, 1) := by decide +kernel
theorem d5_5 : decode prog_23_method_2_code 5 = .ok (.baload, 1) := by decide +kernel
theorem d5_6 : decode prog_23_method_2_code 6 = .ok (.ifCond .ne 27, 3) := by decide +kernel
theorem d5_33 : decode prog_23_method_2_code 33 = .ok (.aload_n 0, 1) := by decide +kernel
theorem d5_34 : decode prog_23_method_2_code 34 = .ok (.getfield 7, 3) := by decide +kernel
theorem d5_37 : decode prog_23_method_2_code 37 = .ok (.iload_n 1, 1) := by decide +kernel
theorem d5_38 : decode prog_23_method_2_code 38 = .ok (.dup2, 1) := by decide +kernel
theorem d5_39 : decode prog_23_method_2_code 39 = .ok (.daload, 1) := by decide +kernel
theorem d5_40 : decode prog_23_method_2_code 40 = .ok (.dload_n 2, 1) := by decide +kernel
theorem d5_41 : decode prog_23_method_2_code 41 = .ok (.dadd, 1) := by decide +kernel
theorem d5_42 : decode prog_23_method_2_code 42 = .ok (.dastore, 1) := by decide +kernel
theorem d5_43 : decode prog_23_method_2_code 43 = .ok (.return_, 1) := by decide +kernel
theorem ef_old (m : MethodId) (x0 : Addr) (x1 : Int32) (x2 : UInt64) : entryFrame m #[(.ref x0), (.int x1), (.double x2)] 4 = mkF m 0 #[.val (.ref x0), .val (.int x1), .val (.double x2), .second] [] := by first | (simp [entryFrame, mkF, argsToLocals, Value.category]; done) | rfl
def Qold (Z : State) (a0 : Addr) (p1 : Int32) (d2 : UInt64) (sc : Addr) (ks : ClassId) (hS : List (Int32 × Value)) (rt : Addr) (kr : ClassId) (hR : List (Int32 × Value)) (n : Int32) (x : UInt64) (h0 : Heap) (n0 : Nat) (vQ : Option Value) (hQ_ : Heap) (LQ : List Loc) : Prop := vQ = none ∧ Fr n0 LQ ∧ Keep h0 hQ_ [sc] ∧ (Arh Z hQ_ sc ks .double n ((p1, (.double (FP.dadd x d2))) :: hS) [] (.double (0 : UInt64)))
def Fnold (Z : State) (a0 : Addr) (p1 : Int32) (d2 : UInt64) (sc : Addr) (ks : ClassId) (hS : List (Int32 × Value)) (rt : Addr) (kr : ClassId) (hR : List (Int32 × Value)) (n : Int32) (x : UInt64) (h0 : Heap) (n0 : Nat) (sQ : State) (oQ : Outcome) (UQ : State) : Prop := ∃ vQ LQ, oQ = .returned vQ ∧ Qold Z a0 p1 d2 sc ks hS rt kr hR n x h0 n0 vQ UQ.heap LQ ∧ FrameEnd sQ oQ UQ LQ ({ frames := 0, cells := 0, slots := 0, locals := 0 } : Room).cells ({ frames := 0, cells := 0, slots := 0, locals := 0 } : Room).slots
set_option maxRecDepth 65536 in
set_option maxHeartbeats 40000000 in
theorem rmold (l : Launch) (Z : State) (aZ : Array Value) (hw : ∀ d ∈ tables_1, d.before aZ Z = true) (ws : List Jvm.Cond) (a0 : Addr) (p1 : Int32) (d2 : UInt64) (sc : Addr) (ks : ClassId) (hS : List (Int32 × Value)) (rt : Addr) (kr : ClassId) (hR : List (Int32 × Value)) (n : Int32) (x : UInt64) (h0 : Heap) (n0 : Nat) (Z0 : n0 ≤ h0.size) (F_scores_a0 : Fld Z h0 a0 "com/example/maat/maat/search/Accumulator" "scores" "[D" (.ref sc)) (F_retrieved_a0 : Fld Z h0 a0 "com/example/maat/maat/search/Accumulator" "retrieved" "[Z" (.ref rt)) (V_sc : Arh Z h0 sc ks .double n hS [] (.double (0 : UInt64))) (V_rt : Arh Z h0 rt kr .boolean n hR [] (.int (0 : Int32))) (g_sc : n0 ≤ sc) (ne_a0_sc : a0 ≠ sc) (ne_sc_rt : sc ≠ rt) (rdR : getH hR [] (.int (0 : Int32)) p1.toNatClampNeg = (.int (1 : Int32))) (rdS : getH hS [] (.double (0 : UInt64)) p1.toNatClampNeg = (.double x)) (nn : NoNaN64 (FP.dadd x d2)) (hb_ : ¬ p1 < 0 ∧ p1 < n) :
    MetFree l (⟨"com/example/maat/maat/search/Accumulator", "add", "(ID)V"⟩ : MethodName) (head1 (Jvm.Cond.code (⟨"com/example/maat/maat/search/Accumulator", "add", "(ID)V"⟩ : MethodName) prog_23_method_2_code 4 none :: ws) ({ frames := 0, cells := 0, slots := 0, locals := 0 } : Room)) (fun aQ UQ => aQ = #[(.ref a0), (.int p1), (.double d2)] ∧ Z.Warmed39 UQ.vm ∧ UQ.heap = h0) (fun _ _ _ _ _ => True) (fun _ UQ oQ UR => ∃ vQ LQ, oQ = .returned vQ ∧ Qold Z a0 p1 d2 sc ks hS rt kr hR n x h0 n0 vQ UR.heap LQ ∧ FrameEnd UQ oQ UR LQ ({ frames := 0, cells := 0, slots := 0, locals := 0 } : Room).cells ({ frames := 0, cells := 0, slots := 0, locals := 0 } : Room).slots) := by
  refine MetFree.of_bodySF (plainFor_of_name pn_0) hisR ?_
  intro p e s m args below meth c s₁ Bd hml0 hP hK
  obtain ⟨rfl, hZ, hh⟩ := hP
  have hx := Bd.exec
  have hby := Bd.bytes
  have hml : c.maxLocals = 4 := hml0
  have hown : s.vm.findClass "com/example/maat/maat/search/Accumulator" = some m.cls := findClass_of_methodNamed Bd.named
  have hnm := (name_of_methodNamed Bd.named Bd.method).1
  have X0 : Stand p l e ({ frames := 0, cells := 0, slots := 0, locals := 0 } : Room) s m #[(.ref a0), (.int p1), (.double d2)] below meth c s₁ [] 0 0 := Stand.of_body Bd
  have e0 : s₁.heap = h0 := by rw [← hh, Bd.state]; rfl
  have N0 := Fr.nil n0
  have K0 : Keep h0 h0 [sc] := Keep.refl _ _
  have w_15 := hw _ (List.mem_of_getElem? (i := 15) rfl)
  have w_18 := hw _ (List.mem_of_getElem? (i := 18) rfl)
  have first_ : Rn p e below (s₁.setTop (mkF m 0 #[.val (.ref a0), .val (.int p1), .val (.double d2), .second] [])) (Fnold Z a0 p1 d2 sc ks hS rt kr hR n x h0 n0 s) := by
    generalize hG : (Fnold Z a0 p1 d2 sc ks hS rt kr hR n x h0 n0 s) = G
    refine R.aloadN X0 hx (hb hby d5_0) rfl rfl (pc' := 1) rfl ?_
    refine R.getF X0 hx hZ hown (host := "") (Or.inl w_18) Via.refl e0 F_retrieved_a0 (hb hby d5_1) (pc' := 4) rfl ?_; intro T1 X1 e1
    refine R.iloadN X1 hx (hb hby d5_4) rfl (pc' := 5) rfl ?_
    refine R.baloadZ X1 hx hZ e1 V_rt (hb_ : ¬ p1 < 0 ∧ p1 < n) (v := (.int (1 : Int32))) (rdR) (hb hby d5_5) (pc' := 6) rfl ?_
    refine R.ifYes X1 hx (hb hby d5_6) (feq (by decide : ¬ ((1 : Int32) = (0 : Int32)))).2 (by decide) (pc' := 33) (by decide) ?_
    refine R.aloadN X1 hx (hb hby d5_33) rfl rfl (pc' := 34) rfl ?_
    refine R.getF X1 hx hZ hown (host := "") (Or.inl w_15) Via.refl e1 F_scores_a0 (hb hby d5_34) (pc' := 37) rfl ?_; intro T2 X2 e2
    refine R.iloadN X2 hx (hb hby d5_37) rfl (pc' := 38) rfl ?_
    refine R.dup2 X2 hx (hb hby d5_38) rfl rfl (pc' := 39) rfl ?_
    refine R.daload X2 hx hZ e2 V_sc (hb_ : ¬ p1 < 0 ∧ p1 < n) (v := (.double x)) (rdS) (hb hby d5_39) (pc' := 40) rfl ?_
    refine R.dloadN X2 hx (hb hby d5_40) rfl (pc' := 41) rfl ?_
    refine R.dadd X2 hx (hb hby d5_41) (nn : NoNaN64 (FP.dadd x d2)) (pc' := 42) rfl ?_
    refine R.dastore X2 hx hZ e2 V_sc (hb_ : ¬ p1 < 0 ∧ p1 < n) (hb hby d5_42) (pc' := 43) rfl ?_; intro T3 h3 X3 e3 W3 V3
    have F_scores_a0 := F_scores_a0.other W3 (Or.inl ne_a0_sc)
    have F_retrieved_a0 := F_retrieved_a0.other W3 (Or.inl ne_a0_sc)
    have V_rt := V_rt.other W3 (Ne.symm ne_sc_rt)
    have V_sc : Arh Z h3 sc ks .double n ((p1, (.double (FP.dadd x d2))) :: hS) [] (.double (0 : UInt64)) := V3
    have N3 := Fr.snoc X3 N0 g_sc
    have K3 : Keep h0 h3 [sc] := K0.wr W3 (Or.inl (List.mem_of_getElem? (i := 0) rfl))
    have Z3 : n0 ≤ h3.size := Nat.le_trans Z0 (Keep.of_wr W3).1
    rw [← hG]
    exact Rn.ret X3 (BodyLoose.notSynchronized Bd) (v := none) (fun _ => rfl) (Q := Qold Z a0 p1 d2 sc ks hS rt kr hR n x h0 n0) e3 (fun fs hr => X3.returnOut hx Bd.returns (hb hby d5_43) hr) ⟨rfl, N3, K3, V_sc⟩ (by decide) (by decide)
  exact (Rn.st (fun t k => castTop (ef_old m a0 p1 d2) k) first_ : Rn p e below (s₁.setTop (entryFrame m #[(.ref a0), (.int p1), (.double d2)] 4)) (Fnold Z a0 p1 d2 sc ks hS rt kr hR n x h0 n0 s))
theorem d5_9 : decode prog_23_method_2_code 9 = .ok (.aload_n 0, 1) := by decide +kernel
theorem d5_10 : decode prog_23_method_2_code 10 = .ok (.getfield 13, 3) := by decide +kernel
theorem d5_13 : decode prog_23_method_2_code 13 = .ok (.iload_n 1, 1) := by decide +kernel
theorem d5_14 : decode prog_23_method_2_code 14 = .ok (.iconst 1, 1) := by decide +kernel
theorem d5_15 : decode prog_23_method_2_code 15 = .ok (.bastore, 1) := by decide +kernel
theorem d5_16 : decode prog_23_method_2_code 16 = .ok (.aload_n 0, 1) := by decide +kernel
theorem d5_17 : decode prog_23_method_2_code 17 = .ok (.getfield 17, 3) := by decide +kernel
theorem d5_20 : decode prog_23_method_2_code 20 = .ok (.aload_n 0, 1) := by decide +kernel
theorem d5_21 : decode prog_23_method_2_code 21 = .ok (.dup, 1) := by decide +kernel
theorem d5_22 : decode prog_23_method_2_code 22 = .ok (.getfield 21, 3) := by decide +kernel
theorem d5_25 : decode prog_23_method_2_code 25 = .ok (.dup_x1, 1) := by decide +kernel
theorem d5_26 : decode prog_23_method_2_code 26 = .ok (.iconst 1, 1) := by decide +kernel
theorem d5_27 : decode prog_23_method_2_code 27 = .ok (.iadd, 1) := by decide +kernel
theorem d5_28 : decode prog_23_method_2_code 28 = .ok (.putfield 21, 3) := by decide +kernel
theorem d5_31 : decode prog_23_method_2_code 31 = .ok (.iload_n 1, 1) := by decide +kernel
theorem d5_32 : decode prog_23_method_2_code 32 = .ok (.iastore, 1) := by decide +kernel
theorem ef_new (m : MethodId) (x0 : Addr) (x1 : Int32) (x2 : UInt64) : entryFrame m #[(.ref x0), (.int x1), (.double x2)] 4 = mkF m 0 #[.val (.ref x0), .val (.int x1), .val (.double x2), .second] [] := by first | (simp [entryFrame, mkF, argsToLocals, Value.category]; done) | rfl
def Qnew (Z : State) (a0 : Addr) (p1 : Int32) (d2 : UInt64) (sc : Addr) (ks : ClassId) (hS : List (Int32 × Value)) (rt : Addr) (kr : ClassId) (hR : List (Int32 × Value)) (dc : Addr) (kd : ClassId) (hD : List (Int32 × Value)) (n : Int32) (x : UInt64) (z : Int32) (h0 : Heap) (n0 : Nat) (vQ : Option Value) (hQ_ : Heap) (LQ : List Loc) : Prop := vQ = none ∧ Fr n0 LQ ∧ Keep h0 hQ_ [a0, sc, rt, dc] ∧ (Exa Z hQ_ a0 "com/example/maat/maat/search/Accumulator") ∧ (Fld Z hQ_ a0 "com/example/maat/maat/search/Accumulator" "scores" "[D" (.ref sc)) ∧ (Fld Z hQ_ a0 "com/example/maat/maat/search/Accumulator" "retrieved" "[Z" (.ref rt)) ∧ (Fld Z hQ_ a0 "com/example/maat/maat/search/Accumulator" "documents" "[I" (.ref dc)) ∧ (Fld Z hQ_ a0 "com/example/maat/maat/search/Accumulator" "size" "I" (.int (z + (1 : Int32)))) ∧ (Arh Z hQ_ sc ks .double n ((p1, (.double (FP.dadd x d2))) :: hS) [] (.double (0 : UInt64))) ∧ (Arh Z hQ_ rt kr .boolean n ((p1, (.int (1 : Int32))) :: hR) [] (.int (0 : Int32))) ∧ (Arh Z hQ_ dc kd .int n ((z, (.int p1)) :: hD) [] (.int (0 : Int32)))
def Fnnew (Z : State) (a0 : Addr) (p1 : Int32) (d2 : UInt64) (sc : Addr) (ks : ClassId) (hS : List (Int32 × Value)) (rt : Addr) (kr : ClassId) (hR : List (Int32 × Value)) (dc : Addr) (kd : ClassId) (hD : List (Int32 × Value)) (n : Int32) (x : UInt64) (z : Int32) (h0 : Heap) (n0 : Nat) (sQ : State) (oQ : Outcome) (UQ : State) : Prop := ∃ vQ LQ, oQ = .returned vQ ∧ Qnew Z a0 p1 d2 sc ks hS rt kr hR dc kd hD n x z h0 n0 vQ UQ.heap LQ ∧ FrameEnd sQ oQ UQ LQ ({ frames := 0, cells := 0, slots := 0, locals := 0 } : Room).cells ({ frames := 0, cells := 0, slots := 0, locals := 0 } : Room).slots
set_option maxRecDepth 65536 in
set_option maxHeartbeats 40000000 in
theorem rmnew (l : Launch) (Z : State) (aZ : Array Value) (hw : ∀ d ∈ tables_1, d.before aZ Z = true) (ws : List Jvm.Cond) (a0 : Addr) (p1 : Int32) (d2 : UInt64) (sc : Addr) (ks : ClassId) (hS : List (Int32 × Value)) (rt : Addr) (kr : ClassId) (hR : List (Int32 × Value)) (dc : Addr) (kd : ClassId) (hD : List (Int32 × Value)) (n : Int32) (x : UInt64) (z : Int32) (h0 : Heap) (n0 : Nat) (Z0 : n0 ≤ h0.size) (E_a0 : Exa Z h0 a0 "com/example/maat/maat/search/Accumulator") (F_scores_a0 : Fld Z h0 a0 "com/example/maat/maat/search/Accumulator" "scores" "[D" (.ref sc)) (F_retrieved_a0 : Fld Z h0 a0 "com/example/maat/maat/search/Accumulator" "retrieved" "[Z" (.ref rt)) (F_documents_a0 : Fld Z h0 a0 "com/example/maat/maat/search/Accumulator" "documents" "[I" (.ref dc)) (F_size_a0 : Fld Z h0 a0 "com/example/maat/maat/search/Accumulator" "size" "I" (.int z)) (g_a0 : n0 ≤ a0) (V_sc : Arh Z h0 sc ks .double n hS [] (.double (0 : UInt64))) (V_rt : Arh Z h0 rt kr .boolean n hR [] (.int (0 : Int32))) (V_dc : Arh Z h0 dc kd .int n hD [] (.int (0 : Int32))) (g_sc : n0 ≤ sc) (g_rt : n0 ≤ rt) (g_dc : n0 ≤ dc) (ne_a0_sc : a0 ≠ sc) (ne_a0_rt : a0 ≠ rt) (ne_a0_dc : a0 ≠ dc) (ne_sc_rt : sc ≠ rt) (ne_sc_dc : sc ≠ dc) (ne_rt_dc : rt ≠ dc) (rdR : getH hR [] (.int (0 : Int32)) p1.toNatClampNeg = (.int (0 : Int32))) (rdS : getH hS [] (.double (0 : UInt64)) p1.toNatClampNeg = (.double x)) (nn : NoNaN64 (FP.dadd x d2)) (hb_ : ¬ p1 < 0 ∧ p1 < n) (hz_ : ¬ z < 0 ∧ z < n) :
    MetFree l (⟨"com/example/maat/maat/search/Accumulator", "add", "(ID)V"⟩ : MethodName) (head1 (Jvm.Cond.code (⟨"com/example/maat/maat/search/Accumulator", "add", "(ID)V"⟩ : MethodName) prog_23_method_2_code 4 none :: ws) ({ frames := 0, cells := 0, slots := 0, locals := 0 } : Room)) (fun aQ UQ => aQ = #[(.ref a0), (.int p1), (.double d2)] ∧ Z.Warmed39 UQ.vm ∧ UQ.heap = h0) (fun _ _ _ _ _ => True) (fun _ UQ oQ UR => ∃ vQ LQ, oQ = .returned vQ ∧ Qnew Z a0 p1 d2 sc ks hS rt kr hR dc kd hD n x z h0 n0 vQ UR.heap LQ ∧ FrameEnd UQ oQ UR LQ ({ frames := 0, cells := 0, slots := 0, locals := 0 } : Room).cells ({ frames := 0, cells := 0, slots := 0, locals := 0 } : Room).slots) := by
  refine MetFree.of_bodySF (plainFor_of_name pn_0) hisR ?_
  intro p e s m args below meth c s₁ Bd hml0 hP hK
  obtain ⟨rfl, hZ, hh⟩ := hP
  have hx := Bd.exec
  have hby := Bd.bytes
  have hml : c.maxLocals = 4 := hml0
  have hown : s.vm.findClass "com/example/maat/maat/search/Accumulator" = some m.cls := findClass_of_methodNamed Bd.named
  have hnm := (name_of_methodNamed Bd.named Bd.method).1
  have X0 : Stand p l e ({ frames := 0, cells := 0, slots := 0, locals := 0 } : Room) s m #[(.ref a0), (.int p1), (.double d2)] below meth c s₁ [] 0 0 := Stand.of_body Bd
  have e0 : s₁.heap = h0 := by rw [← hh, Bd.state]; rfl
  have N0 := Fr.nil n0
  have K0 : Keep h0 h0 [a0, sc, rt, dc] := Keep.refl _ _
  have w_6 := hw _ (List.mem_of_getElem? (i := 6) rfl)
  have w_15 := hw _ (List.mem_of_getElem? (i := 15) rfl)
  have w_16 := hw _ (List.mem_of_getElem? (i := 16) rfl)
  have w_18 := hw _ (List.mem_of_getElem? (i := 18) rfl)
  have w_19 := hw _ (List.mem_of_getElem? (i := 19) rfl)
  have w_21 := hw _ (List.mem_of_getElem? (i := 21) rfl)
  have w_22 := hw _ (List.mem_of_getElem? (i := 22) rfl)
  have w_28 := hw _ (List.mem_of_getElem? (i := 28) rfl)
  have w_29 := hw _ (List.mem_of_getElem? (i := 29) rfl)
  have first_ : Rn p e below (s₁.setTop (mkF m 0 #[.val (.ref a0), .val (.int p1), .val (.double d2), .second] [])) (Fnnew Z a0 p1 d2 sc ks hS rt kr hR dc kd hD n x z h0 n0 s) := by
    generalize hG : (Fnnew Z a0 p1 d2 sc ks hS rt kr hR dc kd hD n x z h0 n0 s) = G
    refine R.aloadN X0 hx (hb hby d5_0) rfl rfl (pc' := 1) rfl ?_
    refine R.getF X0 hx hZ hown (host := "") (Or.inl w_18) Via.refl e0 F_retrieved_a0 (hb hby d5_1) (pc' := 4) rfl ?_; intro T1 X1 e1
    refine R.iloadN X1 hx (hb hby d5_4) rfl (pc' := 5) rfl ?_
    refine R.baloadZ X1 hx hZ e1 V_rt (hb_ : ¬ p1 < 0 ∧ p1 < n) (v := (.int (0 : Int32))) (rdR) (hb hby d5_5) (pc' := 6) rfl ?_
    refine R.ifNo X1 hx (hb hby d5_6) (teq (by decide : (0 : Int32) = (0 : Int32))).2 (pc' := 9) rfl ?_
    refine R.aloadN X1 hx (hb hby d5_9) rfl rfl (pc' := 10) rfl ?_
    refine R.getF X1 hx hZ hown (host := "") (Or.inl w_18) Via.refl e1 F_retrieved_a0 (hb hby d5_10) (pc' := 13) rfl ?_; intro T2 X2 e2
    refine R.iloadN X2 hx (hb hby d5_13) rfl (pc' := 14) rfl ?_
    refine R.iconst X2 hx (hb hby d5_14) (v := (1 : Int32)) (by decide) (pc' := 15) rfl ?_
    refine R.bastoreZ X2 hx hZ e2 V_rt (hb_ : ¬ p1 < 0 ∧ p1 < n) (by decide) (hb hby d5_15) (pc' := 16) rfl ?_; intro T3 h3 X3 e3 W3 V3
    have E_a0 := E_a0.wr W3
    have F_scores_a0 := F_scores_a0.other W3 (Or.inl ne_a0_rt)
    have F_retrieved_a0 := F_retrieved_a0.other W3 (Or.inl ne_a0_rt)
    have F_documents_a0 := F_documents_a0.other W3 (Or.inl ne_a0_rt)
    have F_size_a0 := F_size_a0.other W3 (Or.inl ne_a0_rt)
    have V_sc := V_sc.other W3 ne_sc_rt
    have V_dc := V_dc.other W3 (Ne.symm ne_rt_dc)
    have V_rt : Arh Z h3 rt kr .boolean n ((p1, (.int (1 : Int32))) :: hR) [] (.int (0 : Int32)) := V3
    have N3 := Fr.snoc X3 N0 g_rt
    have K3 : Keep h0 h3 [a0, sc, rt, dc] := K0.wr W3 (Or.inl (List.mem_of_getElem? (i := 2) rfl))
    have Z3 : n0 ≤ h3.size := Nat.le_trans Z0 (Keep.of_wr W3).1
    refine R.aloadN X3 hx (hb hby d5_16) rfl rfl (pc' := 17) rfl ?_
    refine R.getF X3 hx hZ hown (host := "") (Or.inl w_21) Via.refl e3 F_documents_a0 (hb hby d5_17) (pc' := 20) rfl ?_; intro T4 X4 e4
    refine R.aloadN X4 hx (hb hby d5_20) rfl rfl (pc' := 21) rfl ?_
    refine R.dup X4 hx (hb hby d5_21) rfl (pc' := 22) rfl ?_
    refine R.getF X4 hx hZ hown (host := "") (Or.inl w_28) Via.refl e4 F_size_a0 (hb hby d5_22) (pc' := 25) rfl ?_; intro T5 X5 e5
    refine R.dupX1 X5 hx (hb hby d5_25) rfl rfl (pc' := 26) rfl ?_
    refine R.iconst X5 hx (hb hby d5_26) (v := (1 : Int32)) (by decide) (pc' := 27) rfl ?_
    refine R.iadd X5 hx (hb hby d5_27) rfl (pc' := 28) rfl ?_
    refine R.putF X5 hx hZ hown (host := "") (Or.inl w_28) Via.refl e5 F_size_a0 E_a0 (Or.inl w_29) w_6 (ty := .int) (by decide) rfl rfl (hb hby d5_28) (pc' := 31) rfl ?_; intro T6 h6 X6 e6 W6
    have E_a0 := E_a0.wr W6
    have F_scores_a0 := F_scores_a0.other W6 (Or.inr (slot_ne (Or.inr w_16) (Or.inl w_29) (by decide) (t := (.array .double)) (t' := .int) (by decide) (by decide)))
    have F_retrieved_a0 := F_retrieved_a0.other W6 (Or.inr (slot_ne (Or.inr w_19) (Or.inl w_29) (by decide) (t := (.array .boolean)) (t' := .int) (by decide) (by decide)))
    have F_documents_a0 := F_documents_a0.other W6 (Or.inr (slot_ne (Or.inr w_22) (Or.inl w_29) (by decide) (t := (.array .int)) (t' := .int) (by decide) (by decide)))
    have V_sc := V_sc.other W6 (Ne.symm ne_a0_sc)
    have V_dc := V_dc.other W6 (Ne.symm ne_a0_dc)
    have V_rt := V_rt.other W6 (Ne.symm ne_a0_rt)
    have F_size_a0 : Fld Z h6 a0 "com/example/maat/maat/search/Accumulator" "size" "I" (.int (z + (1 : Int32))) := F_size_a0.same W6
    have N6 := Fr.snoc X6 N3 g_a0
    have K6 : Keep h0 h6 [a0, sc, rt, dc] := K3.wr W6 (Or.inl (List.mem_of_getElem? (i := 0) rfl))
    have Z6 : n0 ≤ h6.size := Nat.le_trans Z3 (Keep.of_wr W6).1
    refine R.iloadN X6 hx (hb hby d5_31) rfl (pc' := 32) rfl ?_
    refine R.iastore X6 hx hZ e6 V_dc (hz_ : ¬ z < 0 ∧ z < n) (hb hby d5_32) (pc' := 33) rfl ?_; intro T7 h7 X7 e7 W7 V7
    have E_a0 := E_a0.wr W7
    have F_scores_a0 := F_scores_a0.other W7 (Or.inl ne_a0_dc)
    have F_retrieved_a0 := F_retrieved_a0.other W7 (Or.inl ne_a0_dc)
    have F_documents_a0 := F_documents_a0.other W7 (Or.inl ne_a0_dc)
    have V_sc := V_sc.other W7 ne_sc_dc
    have V_rt := V_rt.other W7 ne_rt_dc
    have F_size_a0 := F_size_a0.other W7 (Or.inl ne_a0_dc)
    have V_dc : Arh Z h7 dc kd .int n ((z, (.int p1)) :: hD) [] (.int (0 : Int32)) := V7
    have N7 := Fr.snoc X7 N6 g_dc
    have K7 : Keep h0 h7 [a0, sc, rt, dc] := K6.wr W7 (Or.inl (List.mem_of_getElem? (i := 3) rfl))
    have Z7 : n0 ≤ h7.size := Nat.le_trans Z6 (Keep.of_wr W7).1
    refine R.aloadN X7 hx (hb hby d5_33) rfl rfl (pc' := 34) rfl ?_
    refine R.getF X7 hx hZ hown (host := "") (Or.inl w_15) Via.refl e7 F_scores_a0 (hb hby d5_34) (pc' := 37) rfl ?_; intro T8 X8 e8
    refine R.iloadN X8 hx (hb hby d5_37) rfl (pc' := 38) rfl ?_
    refine R.dup2 X8 hx (hb hby d5_38) rfl rfl (pc' := 39) rfl ?_
    refine R.daload X8 hx hZ e8 V_sc (hb_ : ¬ p1 < 0 ∧ p1 < n) (v := (.double x)) (rdS) (hb hby d5_39) (pc' := 40) rfl ?_
    refine R.dloadN X8 hx (hb hby d5_40) rfl (pc' := 41) rfl ?_
    refine R.dadd X8 hx (hb hby d5_41) (nn : NoNaN64 (FP.dadd x d2)) (pc' := 42) rfl ?_
    refine R.dastore X8 hx hZ e8 V_sc (hb_ : ¬ p1 < 0 ∧ p1 < n) (hb hby d5_42) (pc' := 43) rfl ?_; intro T9 h9 X9 e9 W9 V9
    have E_a0 := E_a0.wr W9
    have F_scores_a0 := F_scores_a0.other W9 (Or.inl ne_a0_sc)
    have F_retrieved_a0 := F_retrieved_a0.other W9 (Or.inl ne_a0_sc)
    have F_documents_a0 := F_documents_a0.other W9 (Or.inl ne_a0_sc)
    have V_rt := V_rt.other W9 (Ne.symm ne_sc_rt)
    have F_size_a0 := F_size_a0.other W9 (Or.inl ne_a0_sc)
    have V_dc := V_dc.other W9 (Ne.symm ne_sc_dc)
    have V_sc : Arh Z h9 sc ks .double n ((p1, (.double (FP.dadd x d2))) :: hS) [] (.double (0 : UInt64)) := V9
    have N9 := Fr.snoc X9 N7 g_sc
    have K9 : Keep h0 h9 [a0, sc, rt, dc] := K7.wr W9 (Or.inl (List.mem_of_getElem? (i := 1) rfl))
    have Z9 : n0 ≤ h9.size := Nat.le_trans Z7 (Keep.of_wr W9).1
    rw [← hG]
    exact Rn.ret X9 (BodyLoose.notSynchronized Bd) (v := none) (fun _ => rfl) (Q := Qnew Z a0 p1 d2 sc ks hS rt kr hR dc kd hD n x z h0 n0) e9 (fun fs hr => X9.returnOut hx Bd.returns (hb hby d5_43) hr) ⟨rfl, N9, K9, E_a0, F_scores_a0, F_retrieved_a0, F_documents_a0, F_size_a0, V_sc, V_rt, V_dc⟩ (by decide) (by decide)
  exact (Rn.st (fun t k => castTop (ef_new m a0 p1 d2) k) first_ : Rn p e below (s₁.setTop (entryFrame m #[(.ref a0), (.int p1), (.double d2)] 4)) (Fnnew Z a0 p1 d2 sc ks hS rt kr hR dc kd hD n x z h0 n0 s))
theorem d6_0 : decode prog_23_method_3_code 0 = .ok (.aload_n 0, 1) := by decide +kernel
theorem d6_1 : decode prog_23_method_3_code 1 = .ok (.getfield 21, 3) := by decide +kernel
theorem d6_4 : decode prog_23_method_3_code 4 = .ok (.ireturn, 1) := by decide +kernel
theorem ef_6 (m : MethodId) (x0 : Addr) : entryFrame m #[(.ref x0)] 1 = mkF m 0 #[.val (.ref x0)] [] := by first | (simp [entryFrame, mkF, argsToLocals, Value.category]; done) | rfl
def Q6 (Z : State) (a0 : Addr) (z : Int32) (h0 : Heap) (n0 : Nat) (vQ : Option Value) (hQ_ : Heap) (LQ : List Loc) : Prop := vQ = some (.int z) ∧ Fr n0 LQ ∧ hQ_ = h0
def Fn6 (Z : State) (a0 : Addr) (z : Int32) (h0 : Heap) (n0 : Nat) (sQ : State) (oQ : Outcome) (UQ : State) : Prop := ∃ vQ LQ, oQ = .returned vQ ∧ Q6 Z a0 z h0 n0 vQ UQ.heap LQ ∧ FrameEnd sQ oQ UQ LQ ({ frames := 0, cells := 0, slots := 0, locals := 0 } : Room).cells ({ frames := 0, cells := 0, slots := 0, locals := 0 } : Room).slots
set_option maxRecDepth 65536 in
set_option maxHeartbeats 40000000 in
theorem rm6 (l : Launch) (Z : State) (aZ : Array Value) (hw : ∀ d ∈ tables_1, d.before aZ Z = true) (ws : List Jvm.Cond) (a0 : Addr) (z : Int32) (h0 : Heap) (n0 : Nat) (Z0 : n0 ≤ h0.size) (F_size_a0 : Fld Z h0 a0 "com/example/maat/maat/search/Accumulator" "size" "I" (.int z)) :
    MetFree l (⟨"com/example/maat/maat/search/Accumulator", "size", "()I"⟩ : MethodName) (head1 (Jvm.Cond.code (⟨"com/example/maat/maat/search/Accumulator", "size", "()I"⟩ : MethodName) prog_23_method_3_code 1 (some .int) :: ws) ({ frames := 0, cells := 0, slots := 0, locals := 0 } : Room)) (fun aQ UQ => aQ = #[(.ref a0)] ∧ Z.Warmed39 UQ.vm ∧ UQ.heap = h0) (fun _ _ _ _ _ => True) (fun _ UQ oQ UR => ∃ vQ LQ, oQ = .returned vQ ∧ Q6 Z a0 z h0 n0 vQ UR.heap LQ ∧ FrameEnd UQ oQ UR LQ ({ frames := 0, cells := 0, slots := 0, locals := 0 } : Room).cells ({ frames := 0, cells := 0, slots := 0, locals := 0 } : Room).slots) := by
  refine MetFree.of_bodySF (plainFor_of_name pn_0) hisR ?_
  intro p e s m args below meth c s₁ Bd hml0 hP hK
  obtain ⟨rfl, hZ, hh⟩ := hP
  have hx := Bd.exec
  have hby := Bd.bytes
  have hml : c.maxLocals = 1 := hml0
  have hown : s.vm.findClass "com/example/maat/maat/search/Accumulator" = some m.cls := findClass_of_methodNamed Bd.named
  have hnm := (name_of_methodNamed Bd.named Bd.method).1
  have X0 : Stand p l e ({ frames := 0, cells := 0, slots := 0, locals := 0 } : Room) s m #[(.ref a0)] below meth c s₁ [] 0 0 := Stand.of_body Bd
  have e0 : s₁.heap = h0 := by rw [← hh, Bd.state]; rfl
  have N0 := Fr.nil n0
  have K0 : Keep h0 h0 [] := Keep.refl _ _
  have w_28 := hw _ (List.mem_of_getElem? (i := 28) rfl)
  have first_ : Rn p e below (s₁.setTop (mkF m 0 #[.val (.ref a0)] [])) (Fn6 Z a0 z h0 n0 s) := by
    generalize hG : (Fn6 Z a0 z h0 n0 s) = G
    refine R.aloadN X0 hx (hb hby d6_0) rfl rfl (pc' := 1) rfl ?_
    refine R.getF X0 hx hZ hown (host := "") (Or.inl w_28) Via.refl e0 F_size_a0 (hb hby d6_1) (pc' := 4) rfl ?_; intro T1 X1 e1
    rw [← hG]
    exact Rn.ret X1 (BodyLoose.notSynchronized Bd) (v := some (.int z)) (fun h => by rw [Bd.returns] at h; cases h) (Q := Q6 Z a0 z h0 n0) e1 (fun fs hr => retOut X1 hx (t := .int) Bd.returns rfl (Or.inl ⟨rfl, Or.inl rfl, _, rfl⟩) (hb hby d6_4) hr) ⟨rfl, N0, rfl⟩ (by decide) (by decide)
  exact (Rn.st (fun t k => castTop (ef_6 m a0) k) first_ : Rn p e below (s₁.setTop (entryFrame m #[(.ref a0)] 1)) (Fn6 Z a0 z h0 n0 s))
theorem d7_0 : decode prog_23_method_4_code 0 = .ok (.aload_n 0, 1) := by decide +kernel
theorem d7_1 : decode prog_23_method_4_code 1 = .ok (.getfield 17, 3) := by decide +kernel
theorem d7_4 : decode prog_23_method_4_code 4 = .ok (.iload_n 1, 1) := by decide +kernel
theorem d7_5 : decode prog_23_method_4_code 5 = .ok (.iaload, 1) := by decide +kernel
theorem d7_6 : decode prog_23_method_4_code 6 = .ok (.ireturn, 1) := by decide +kernel
theorem ef_7 (m : MethodId) (x0 : Addr) (x1 : Int32) : entryFrame m #[(.ref x0), (.int x1)] 2 = mkF m 0 #[.val (.ref x0), .val (.int x1)] [] := by first | (simp [entryFrame, mkF, argsToLocals, Value.category]; done) | rfl
def Q7 (Z : State) (a0 : Addr) (p1 : Int32) (dc : Addr) (kd : ClassId) (hD : List (Int32 × Value)) (n : Int32) (x : Int32) (h0 : Heap) (n0 : Nat) (vQ : Option Value) (hQ_ : Heap) (LQ : List Loc) : Prop := vQ = some (.int x) ∧ Fr n0 LQ ∧ hQ_ = h0
def Fn7 (Z : State) (a0 : Addr) (p1 : Int32) (dc : Addr) (kd : ClassId) (hD : List (Int32 × Value)) (n : Int32) (x : Int32) (h0 : Heap) (n0 : Nat) (sQ : State) (oQ : Outcome) (UQ : State) : Prop := ∃ vQ LQ, oQ = .returned vQ ∧ Q7 Z a0 p1 dc kd hD n x h0 n0 vQ UQ.heap LQ ∧ FrameEnd sQ oQ UQ LQ ({ frames := 0, cells := 0, slots := 0, locals := 0 } : Room).cells ({ frames := 0, cells := 0, slots := 0, locals := 0 } : Room).slots
set_option maxRecDepth 65536 in
set_option maxHeartbeats 40000000 in
theorem rm7 (l : Launch) (Z : State) (aZ : Array Value) (hw : ∀ d ∈ tables_1, d.before aZ Z = true) (ws : List Jvm.Cond) (a0 : Addr) (p1 : Int32) (dc : Addr) (kd : ClassId) (hD : List (Int32 × Value)) (n : Int32) (x : Int32) (h0 : Heap) (n0 : Nat) (Z0 : n0 ≤ h0.size) (F_documents_a0 : Fld Z h0 a0 "com/example/maat/maat/search/Accumulator" "documents" "[I" (.ref dc)) (V_dc : Arh Z h0 dc kd .int n hD [] (.int (0 : Int32))) (rd : getH hD [] (.int (0 : Int32)) p1.toNatClampNeg = (.int x)) (hb_ : ¬ p1 < 0 ∧ p1 < n) :
    MetFree l (⟨"com/example/maat/maat/search/Accumulator", "document", "(I)I"⟩ : MethodName) (head1 (Jvm.Cond.code (⟨"com/example/maat/maat/search/Accumulator", "document", "(I)I"⟩ : MethodName) prog_23_method_4_code 2 (some .int) :: ws) ({ frames := 0, cells := 0, slots := 0, locals := 0 } : Room)) (fun aQ UQ => aQ = #[(.ref a0), (.int p1)] ∧ Z.Warmed39 UQ.vm ∧ UQ.heap = h0) (fun _ _ _ _ _ => True) (fun _ UQ oQ UR => ∃ vQ LQ, oQ = .returned vQ ∧ Q7 Z a0 p1 dc kd hD n x h0 n0 vQ UR.heap LQ ∧ FrameEnd UQ oQ UR LQ ({ frames := 0, cells := 0, slots := 0, locals := 0 } : Room).cells ({ frames := 0, cells := 0, slots := 0, locals := 0 } : Room).slots) := by
  refine MetFree.of_bodySF (plainFor_of_name pn_0) hisR ?_
  intro p e s m args below meth c s₁ Bd hml0 hP hK
  obtain ⟨rfl, hZ, hh⟩ := hP
  have hx := Bd.exec
  have hby := Bd.bytes
  have hml : c.maxLocals = 2 := hml0
  have hown : s.vm.findClass "com/example/maat/maat/search/Accumulator" = some m.cls := findClass_of_methodNamed Bd.named
  have hnm := (name_of_methodNamed Bd.named Bd.method).1
  have X0 : Stand p l e ({ frames := 0, cells := 0, slots := 0, locals := 0 } : Room) s m #[(.ref a0), (.int p1)] below meth c s₁ [] 0 0 := Stand.of_body Bd
  have e0 : s₁.heap = h0 := by rw [← hh, Bd.state]; rfl
  have N0 := Fr.nil n0
  have K0 : Keep h0 h0 [] := Keep.refl _ _
  have w_21 := hw _ (List.mem_of_getElem? (i := 21) rfl)
  have first_ : Rn p e below (s₁.setTop (mkF m 0 #[.val (.ref a0), .val (.int p1)] [])) (Fn7 Z a0 p1 dc kd hD n x h0 n0 s) := by
    generalize hG : (Fn7 Z a0 p1 dc kd hD n x h0 n0 s) = G
    refine R.aloadN X0 hx (hb hby d7_0) rfl rfl (pc' := 1) rfl ?_
    refine R.getF X0 hx hZ hown (host := "") (Or.inl w_21) Via.refl e0 F_documents_a0 (hb hby d7_1) (pc' := 4) rfl ?_; intro T1 X1 e1
    refine R.iloadN X1 hx (hb hby d7_4) rfl (pc' := 5) rfl ?_
    refine R.iaload X1 hx hZ e1 V_dc (hb_ : ¬ p1 < 0 ∧ p1 < n) (v := (.int x)) (rd) (hb hby d7_5) (pc' := 6) rfl ?_
    rw [← hG]
    exact Rn.ret X1 (BodyLoose.notSynchronized Bd) (v := some (.int x)) (fun h => by rw [Bd.returns] at h; cases h) (Q := Q7 Z a0 p1 dc kd hD n x h0 n0) e1 (fun fs hr => retOut X1 hx (t := .int) Bd.returns rfl (Or.inl ⟨rfl, Or.inl rfl, _, rfl⟩) (hb hby d7_6) hr) ⟨rfl, N0, rfl⟩ (by decide) (by decide)
  exact (Rn.st (fun t k => castTop (ef_7 m a0 p1) k) first_ : Rn p e below (s₁.setTop (entryFrame m #[(.ref a0), (.int p1)] 2)) (Fn7 Z a0 p1 dc kd hD n x h0 n0 s))
theorem d8_0 : decode prog_23_method_5_code 0 = .ok (.aload_n 0, 1) := by decide +kernel
theorem d8_1 : decode prog_23_method_5_code 1 = .ok (.getfield 7, 3) := by decide +kernel
theorem d8_4 : decode prog_23_method_5_code 4 = .ok (.iload_n 1, 1) := by decide +kernel
theorem d8_5 : decode prog_23_method_5_code 5 = .ok (.daload, 1) := by decide +kernel
theorem d8_6 : decode prog_23_method_5_code 6 = .ok (.dreturn, 1) := by decide +kernel
theorem ef_8 (m : MethodId) (x0 : Addr) (x1 : Int32) : entryFrame m #[(.ref x0), (.int x1)] 2 = mkF m 0 #[.val (.ref x0), .val (.int x1)] [] := by first | (simp [entryFrame, mkF, argsToLocals, Value.category]; done) | rfl
def Q8 (Z : State) (a0 : Addr) (p1 : Int32) (sc : Addr) (ks : ClassId) (hS : List (Int32 × Value)) (n : Int32) (x : UInt64) (h0 : Heap) (n0 : Nat) (vQ : Option Value) (hQ_ : Heap) (LQ : List Loc) : Prop := vQ = some (.double x) ∧ Fr n0 LQ ∧ hQ_ = h0
def Fn8 (Z : State) (a0 : Addr) (p1 : Int32) (sc : Addr) (ks : ClassId) (hS : List (Int32 × Value)) (n : Int32) (x : UInt64) (h0 : Heap) (n0 : Nat) (sQ : State) (oQ : Outcome) (UQ : State) : Prop := ∃ vQ LQ, oQ = .returned vQ ∧ Q8 Z a0 p1 sc ks hS n x h0 n0 vQ UQ.heap LQ ∧ FrameEnd sQ oQ UQ LQ ({ frames := 0, cells := 0, slots := 0, locals := 0 } : Room).cells ({ frames := 0, cells := 0, slots := 0, locals := 0 } : Room).slots
set_option maxRecDepth 65536 in
set_option maxHeartbeats 40000000 in
theorem rm8 (l : Launch) (Z : State) (aZ : Array Value) (hw : ∀ d ∈ tables_1, d.before aZ Z = true) (ws : List Jvm.Cond) (a0 : Addr) (p1 : Int32) (sc : Addr) (ks : ClassId) (hS : List (Int32 × Value)) (n : Int32) (x : UInt64) (h0 : Heap) (n0 : Nat) (Z0 : n0 ≤ h0.size) (F_scores_a0 : Fld Z h0 a0 "com/example/maat/maat/search/Accumulator" "scores" "[D" (.ref sc)) (V_sc : Arh Z h0 sc ks .double n hS [] (.double (0 : UInt64))) (rd : getH hS [] (.double (0 : UInt64)) p1.toNatClampNeg = (.double x)) (hb_ : ¬ p1 < 0 ∧ p1 < n) :
    MetFree l (⟨"com/example/maat/maat/search/Accumulator", "score", "(I)D"⟩ : MethodName) (head1 (Jvm.Cond.code (⟨"com/example/maat/maat/search/Accumulator", "score", "(I)D"⟩ : MethodName) prog_23_method_5_code 2 (some .double) :: ws) ({ frames := 0, cells := 0, slots := 0, locals := 0 } : Room)) (fun aQ UQ => aQ = #[(.ref a0), (.int p1)] ∧ Z.Warmed39 UQ.vm ∧ UQ.heap = h0) (fun _ _ _ _ _ => True) (fun _ UQ oQ UR => ∃ vQ LQ, oQ = .returned vQ ∧ Q8 Z a0 p1 sc ks hS n x h0 n0 vQ UR.heap LQ ∧ FrameEnd UQ oQ UR LQ ({ frames := 0, cells := 0, slots := 0, locals := 0 } : Room).cells ({ frames := 0, cells := 0, slots := 0, locals := 0 } : Room).slots) := by
  refine MetFree.of_bodySF (plainFor_of_name pn_0) hisR ?_
  intro p e s m args below meth c s₁ Bd hml0 hP hK
  obtain ⟨rfl, hZ, hh⟩ := hP
  have hx := Bd.exec
  have hby := Bd.bytes
  have hml : c.maxLocals = 2 := hml0
  have hown : s.vm.findClass "com/example/maat/maat/search/Accumulator" = some m.cls := findClass_of_methodNamed Bd.named
  have hnm := (name_of_methodNamed Bd.named Bd.method).1
  have X0 : Stand p l e ({ frames := 0, cells := 0, slots := 0, locals := 0 } : Room) s m #[(.ref a0), (.int p1)] below meth c s₁ [] 0 0 := Stand.of_body Bd
  have e0 : s₁.heap = h0 := by rw [← hh, Bd.state]; rfl
  have N0 := Fr.nil n0
  have K0 : Keep h0 h0 [] := Keep.refl _ _
  have w_15 := hw _ (List.mem_of_getElem? (i := 15) rfl)
  have first_ : Rn p e below (s₁.setTop (mkF m 0 #[.val (.ref a0), .val (.int p1)] [])) (Fn8 Z a0 p1 sc ks hS n x h0 n0 s) := by
    generalize hG : (Fn8 Z a0 p1 sc ks hS n x h0 n0 s) = G
    refine R.aloadN X0 hx (hb hby d8_0) rfl rfl (pc' := 1) rfl ?_
    refine R.getF X0 hx hZ hown (host := "") (Or.inl w_15) Via.refl e0 F_scores_a0 (hb hby d8_1) (pc' := 4) rfl ?_; intro T1 X1 e1
    refine R.iloadN X1 hx (hb hby d8_4) rfl (pc' := 5) rfl ?_
    refine R.daload X1 hx hZ e1 V_sc (hb_ : ¬ p1 < 0 ∧ p1 < n) (v := (.double x)) (rd) (hb hby d8_5) (pc' := 6) rfl ?_
    rw [← hG]
    exact Rn.ret X1 (BodyLoose.notSynchronized Bd) (v := some (.double x)) (fun h => by rw [Bd.returns] at h; cases h) (Q := Q8 Z a0 p1 sc ks hS n x h0 n0) e1 (fun fs hr => retOut X1 hx (t := .double) Bd.returns rfl (Or.inr (Or.inr (Or.inl ⟨rfl, rfl, _, rfl⟩))) (hb hby d8_6) hr) ⟨rfl, N0, rfl⟩ (by decide) (by decide)
  exact (Rn.st (fun t k => castTop (ef_8 m a0 p1) k) first_ : Rn p e below (s₁.setTop (entryFrame m #[(.ref a0), (.int p1)] 2)) (Fn8 Z a0 p1 sc ks hS n x h0 n0 s))
theorem d1_0 : decode method_2_code 0 = .ok (.iload_n 0, 1) := by decide +kernel
theorem d1_1 : decode method_2_code 1 = .ok (.sipush 255, 3) := by decide +kernel
theorem d1_4 : decode method_2_code 4 = .ok (.iand, 1) := by decide +kernel
theorem d1_5 : decode method_2_code 5 = .ok (.iconst 3, 1) := by decide +kernel
theorem d1_6 : decode method_2_code 6 = .ok (.irem, 1) := by decide +kernel
theorem d1_7 : decode method_2_code 7 = .ok (.ireturn, 1) := by decide +kernel
theorem pn_1 : plainName "com/example/maat/maat/search/AccumulatorClearPinLaw" = true := by first | (simp [plainName, overriddenIn]; done) | decide +kernel
theorem ef_1 (m : MethodId) (x0 : Int32) : entryFrame m #[(.int x0)] 1 = mkF m 0 #[.val (.int x0)] [] := by first | (simp [entryFrame, mkF, argsToLocals, Value.category]; done) | rfl
def Q1 (Z : State) (p0 : Int32) (h0 : Heap) (n0 : Nat) (vQ : Option Value) (hQ_ : Heap) (LQ : List Loc) : Prop := vQ = some (.int ((p0 &&& (255 : Int32)) % (3 : Int32))) ∧ Fr n0 LQ ∧ hQ_ = h0
def Fn1 (Z : State) (p0 : Int32) (h0 : Heap) (n0 : Nat) (sQ : State) (oQ : Outcome) (UQ : State) : Prop := ∃ vQ LQ, oQ = .returned vQ ∧ Q1 Z p0 h0 n0 vQ UQ.heap LQ ∧ FrameEnd sQ oQ UQ LQ ({ frames := 0, cells := 0, slots := 0, locals := 0 } : Room).cells ({ frames := 0, cells := 0, slots := 0, locals := 0 } : Room).slots
set_option maxRecDepth 65536 in
set_option maxHeartbeats 40000000 in
theorem rm1 (l : Launch) (Z : State) (aZ : Array Value) (hw : ∀ d ∈ tables_1, d.before aZ Z = true) (ws : List Jvm.Cond) (p0 : Int32) (h0 : Heap) (n0 : Nat) (Z0 : n0 ≤ h0.size) :
    MetFree l (⟨"com/example/maat/maat/search/AccumulatorClearPinLaw", "doc", "(I)I"⟩ : MethodName) (head1 (Jvm.Cond.code (⟨"com/example/maat/maat/search/AccumulatorClearPinLaw", "doc", "(I)I"⟩ : MethodName) method_2_code 1 (some .int) :: ws) ({ frames := 0, cells := 0, slots := 0, locals := 0 } : Room)) (fun aQ UQ => aQ = #[(.int p0)] ∧ Z.Warmed39 UQ.vm ∧ UQ.heap = h0) (fun _ _ _ _ _ => True) (fun _ UQ oQ UR => ∃ vQ LQ, oQ = .returned vQ ∧ Q1 Z p0 h0 n0 vQ UR.heap LQ ∧ FrameEnd UQ oQ UR LQ ({ frames := 0, cells := 0, slots := 0, locals := 0 } : Room).cells ({ frames := 0, cells := 0, slots := 0, locals := 0 } : Room).slots) := by
  refine MetFree.of_bodySF (plainFor_of_name pn_1) hisR ?_
  intro p e s m args below meth c s₁ Bd hml0 hP hK
  obtain ⟨rfl, hZ, hh⟩ := hP
  have hx := Bd.exec
  have hby := Bd.bytes
  have hml : c.maxLocals = 1 := hml0
  have hown : s.vm.findClass "com/example/maat/maat/search/AccumulatorClearPinLaw" = some m.cls := findClass_of_methodNamed Bd.named
  have hnm := (name_of_methodNamed Bd.named Bd.method).1
  have X0 : Stand p l e ({ frames := 0, cells := 0, slots := 0, locals := 0 } : Room) s m #[(.int p0)] below meth c s₁ [] 0 0 := Stand.of_body Bd
  have e0 : s₁.heap = h0 := by rw [← hh, Bd.state]; rfl
  have N0 := Fr.nil n0
  have K0 : Keep h0 h0 [] := Keep.refl _ _
  have first_ : Rn p e below (s₁.setTop (mkF m 0 #[.val (.int p0)] [])) (Fn1 Z p0 h0 n0 s) := by
    generalize hG : (Fn1 Z p0 h0 n0 s) = G
    refine R.iloadN X0 hx (hb hby d1_0) rfl (pc' := 1) rfl ?_
    refine R.sipush X0 hx (hb hby d1_1) (v := (255 : Int32)) (by decide) (pc' := 4) rfl ?_
    refine R.iand X0 hx (hb hby d1_4) rfl (pc' := 5) rfl ?_
    refine R.iconst X0 hx (hb hby d1_5) (v := (3 : Int32)) (by decide) (pc' := 6) rfl ?_
    refine R.irem X0 hx (hb hby d1_6) (by decide : (3 : Int32) ≠ (0 : Int32)) (pc' := 7) rfl ?_
    rw [← hG]
    exact Rn.ret X0 (BodyLoose.notSynchronized Bd) (v := some (.int ((p0 &&& (255 : Int32)) % (3 : Int32)))) (fun h => by rw [Bd.returns] at h; cases h) (Q := Q1 Z p0 h0 n0) e0 (fun fs hr => retOut X0 hx (t := .int) Bd.returns rfl (Or.inl ⟨rfl, Or.inl rfl, _, rfl⟩) (hb hby d1_7) hr) ⟨rfl, N0, rfl⟩ (by decide) (by decide)
  exact (Rn.st (fun t k => castTop (ef_1 m p0) k) first_ : Rn p e below (s₁.setTop (entryFrame m #[(.int p0)] 1)) (Fn1 Z p0 h0 n0 s))
theorem d4_0 : decode prog_23_method_6_code 0 = .ok (.iconst 0, 1) := by decide +kernel
theorem d4_1 : decode prog_23_method_6_code 1 = .ok (.istore_n 1, 1) := by decide +kernel
theorem d4_2 : decode prog_23_method_6_code 2 = .ok (.iload_n 1, 1) := by decide +kernel
theorem d4_3 : decode prog_23_method_6_code 3 = .ok (.aload_n 0, 1) := by decide +kernel
theorem d4_4 : decode prog_23_method_6_code 4 = .ok (.getfield 21, 3) := by decide +kernel
theorem d4_7 : decode prog_23_method_6_code 7 = .ok (.if_icmp .ge 33, 3) := by decide +kernel
theorem d4_40 : decode prog_23_method_6_code 40 = .ok (.aload_n 0, 1) := by decide +kernel
theorem d4_41 : decode prog_23_method_6_code 41 = .ok (.iconst 0, 1) := by decide +kernel
theorem d4_42 : decode prog_23_method_6_code 42 = .ok (.putfield 21, 3) := by decide +kernel
theorem d4_45 : decode prog_23_method_6_code 45 = .ok (.return_, 1) := by decide +kernel
theorem ef_cl0 (m : MethodId) (x0 : Addr) : entryFrame m #[(.ref x0)] 2 = mkF m 0 #[.val (.ref x0), .unset] [] := by first | (simp [entryFrame, mkF, argsToLocals, Value.category]; done) | rfl
def Qcl0 (Z : State) (a0 : Addr) (sc : Addr) (ks : ClassId) (hS : List (Int32 × Value)) (rt : Addr) (kr : ClassId) (hR : List (Int32 × Value)) (dc : Addr) (kd : ClassId) (hD : List (Int32 × Value)) (n : Int32) (h0 : Heap) (n0 : Nat) (vQ : Option Value) (hQ_ : Heap) (LQ : List Loc) : Prop := vQ = none ∧ Fr n0 LQ ∧ Keep h0 hQ_ [a0, sc, rt] ∧ (Exa Z hQ_ a0 "com/example/maat/maat/search/Accumulator") ∧ (Fld Z hQ_ a0 "com/example/maat/maat/search/Accumulator" "scores" "[D" (.ref sc)) ∧ (Fld Z hQ_ a0 "com/example/maat/maat/search/Accumulator" "retrieved" "[Z" (.ref rt)) ∧ (Fld Z hQ_ a0 "com/example/maat/maat/search/Accumulator" "documents" "[I" (.ref dc)) ∧ (Fld Z hQ_ a0 "com/example/maat/maat/search/Accumulator" "size" "I" (.int (0 : Int32))) ∧ (Arh Z hQ_ sc ks .double n hS [] (.double (0 : UInt64))) ∧ (Arh Z hQ_ rt kr .boolean n hR [] (.int (0 : Int32)))
def Fncl0 (Z : State) (a0 : Addr) (sc : Addr) (ks : ClassId) (hS : List (Int32 × Value)) (rt : Addr) (kr : ClassId) (hR : List (Int32 × Value)) (dc : Addr) (kd : ClassId) (hD : List (Int32 × Value)) (n : Int32) (h0 : Heap) (n0 : Nat) (sQ : State) (oQ : Outcome) (UQ : State) : Prop := ∃ vQ LQ, oQ = .returned vQ ∧ Qcl0 Z a0 sc ks hS rt kr hR dc kd hD n h0 n0 vQ UQ.heap LQ ∧ FrameEnd sQ oQ UQ LQ ({ frames := 0, cells := 0, slots := 0, locals := 0 } : Room).cells ({ frames := 0, cells := 0, slots := 0, locals := 0 } : Room).slots
set_option maxRecDepth 65536 in
set_option maxHeartbeats 40000000 in
theorem rmcl0 (l : Launch) (Z : State) (aZ : Array Value) (hw : ∀ d ∈ tables_1, d.before aZ Z = true) (ws : List Jvm.Cond) (a0 : Addr) (sc : Addr) (ks : ClassId) (hS : List (Int32 × Value)) (rt : Addr) (kr : ClassId) (hR : List (Int32 × Value)) (dc : Addr) (kd : ClassId) (hD : List (Int32 × Value)) (n : Int32) (h0 : Heap) (n0 : Nat) (Z0 : n0 ≤ h0.size) (E_a0 : Exa Z h0 a0 "com/example/maat/maat/search/Accumulator") (F_scores_a0 : Fld Z h0 a0 "com/example/maat/maat/search/Accumulator" "scores" "[D" (.ref sc)) (F_retrieved_a0 : Fld Z h0 a0 "com/example/maat/maat/search/Accumulator" "retrieved" "[Z" (.ref rt)) (F_documents_a0 : Fld Z h0 a0 "com/example/maat/maat/search/Accumulator" "documents" "[I" (.ref dc)) (F_size_a0 : Fld Z h0 a0 "com/example/maat/maat/search/Accumulator" "size" "I" (.int (0 : Int32))) (g_a0 : n0 ≤ a0) (V_sc : Arh Z h0 sc ks .double n hS [] (.double (0 : UInt64))) (V_rt : Arh Z h0 rt kr .boolean n hR [] (.int (0 : Int32))) (V_dc : Arh Z h0 dc kd .int n hD [] (.int (0 : Int32))) (g_sc : n0 ≤ sc) (g_rt : n0 ≤ rt) (ne_a0_sc : a0 ≠ sc) (ne_a0_rt : a0 ≠ rt) (ne_a0_dc : a0 ≠ dc) (ne_sc_rt : sc ≠ rt) (ne_sc_dc : sc ≠ dc) (ne_rt_dc : rt ≠ dc) :
    MetFree l (⟨"com/example/maat/maat/search/Accumulator", "clear", "()V"⟩ : MethodName) (head1 (Jvm.Cond.code (⟨"com/example/maat/maat/search/Accumulator", "clear", "()V"⟩ : MethodName) prog_23_method_6_code 2 none :: ws) ({ frames := 0, cells := 0, slots := 0, locals := 0 } : Room)) (fun aQ UQ => aQ = #[(.ref a0)] ∧ Z.Warmed39 UQ.vm ∧ UQ.heap = h0) (fun _ _ _ _ _ => True) (fun _ UQ oQ UR => ∃ vQ LQ, oQ = .returned vQ ∧ Qcl0 Z a0 sc ks hS rt kr hR dc kd hD n h0 n0 vQ UR.heap LQ ∧ FrameEnd UQ oQ UR LQ ({ frames := 0, cells := 0, slots := 0, locals := 0 } : Room).cells ({ frames := 0, cells := 0, slots := 0, locals := 0 } : Room).slots) := by
  refine MetFree.of_bodySF (plainFor_of_name pn_0) hisR ?_
  intro p e s m args below meth c s₁ Bd hml0 hP hK
  obtain ⟨rfl, hZ, hh⟩ := hP
  have hx := Bd.exec
  have hby := Bd.bytes
  have hml : c.maxLocals = 2 := hml0
  have hown : s.vm.findClass "com/example/maat/maat/search/Accumulator" = some m.cls := findClass_of_methodNamed Bd.named
  have hnm := (name_of_methodNamed Bd.named Bd.method).1
  have X0 : Stand p l e ({ frames := 0, cells := 0, slots := 0, locals := 0 } : Room) s m #[(.ref a0)] below meth c s₁ [] 0 0 := Stand.of_body Bd
  have e0 : s₁.heap = h0 := by rw [← hh, Bd.state]; rfl
  have N0 := Fr.nil n0
  have K0 : Keep h0 h0 [a0, sc, rt] := Keep.refl _ _
  have w_6 := hw _ (List.mem_of_getElem? (i := 6) rfl)
  have w_16 := hw _ (List.mem_of_getElem? (i := 16) rfl)
  have w_19 := hw _ (List.mem_of_getElem? (i := 19) rfl)
  have w_22 := hw _ (List.mem_of_getElem? (i := 22) rfl)
  have w_28 := hw _ (List.mem_of_getElem? (i := 28) rfl)
  have w_29 := hw _ (List.mem_of_getElem? (i := 29) rfl)
  have first_ : Rn p e below (s₁.setTop (mkF m 0 #[.val (.ref a0), .unset] [])) (Fncl0 Z a0 sc ks hS rt kr hR dc kd hD n h0 n0 s) := by
    generalize hG : (Fncl0 Z a0 sc ks hS rt kr hR dc kd hD n h0 n0 s) = G
    refine R.iconst X0 hx (hb hby d4_0) (v := (0 : Int32)) (by decide) (pc' := 1) rfl ?_
    refine R.istoreN X0 hx (hb hby d4_1) (L' := #[.val (.ref a0), .val (.int (0 : Int32))]) rfl (pc' := 2) rfl ?_
    refine R.iloadN X0 hx (hb hby d4_2) rfl (pc' := 3) rfl ?_
    refine R.aloadN X0 hx (hb hby d4_3) rfl rfl (pc' := 4) rfl ?_
    refine R.getF X0 hx hZ hown (host := "") (Or.inl w_28) Via.refl e0 F_size_a0 (hb hby d4_4) (pc' := 7) rfl ?_; intro T1 X1 e1
    refine R.icmpYes X1 hx (hb hby d4_7) (flt (by decide : ¬ ((0 : Int32) < (0 : Int32)))).2.1 (by decide) (pc' := 40) (by decide) ?_
    refine R.aloadN X1 hx (hb hby d4_40) rfl rfl (pc' := 41) rfl ?_
    refine R.iconst X1 hx (hb hby d4_41) (v := (0 : Int32)) (by decide) (pc' := 42) rfl ?_
    refine R.putF X1 hx hZ hown (host := "") (Or.inl w_28) Via.refl e1 F_size_a0 E_a0 (Or.inl w_29) w_6 (ty := .int) (by decide) rfl rfl (hb hby d4_42) (pc' := 45) rfl ?_; intro T2 h2 X2 e2 W2
    have E_a0 := E_a0.wr W2
    have F_scores_a0 := F_scores_a0.other W2 (Or.inr (slot_ne (Or.inr w_16) (Or.inl w_29) (by decide) (t := (.array .double)) (t' := .int) (by decide) (by decide)))
    have F_retrieved_a0 := F_retrieved_a0.other W2 (Or.inr (slot_ne (Or.inr w_19) (Or.inl w_29) (by decide) (t := (.array .boolean)) (t' := .int) (by decide) (by decide)))
    have F_documents_a0 := F_documents_a0.other W2 (Or.inr (slot_ne (Or.inr w_22) (Or.inl w_29) (by decide) (t := (.array .int)) (t' := .int) (by decide) (by decide)))
    have V_sc := V_sc.other W2 (Ne.symm ne_a0_sc)
    have V_rt := V_rt.other W2 (Ne.symm ne_a0_rt)
    have V_dc := V_dc.other W2 (Ne.symm ne_a0_dc)
    have F_size_a0 : Fld Z h2 a0 "com/example/maat/maat/search/Accumulator" "size" "I" (.int (0 : Int32)) := F_size_a0.same W2
    have N2 := Fr.snoc X2 N0 g_a0
    have K2 : Keep h0 h2 [a0, sc, rt] := K0.wr W2 (Or.inl (List.mem_of_getElem? (i := 0) rfl))
    have Z2 : n0 ≤ h2.size := Nat.le_trans Z0 (Keep.of_wr W2).1
    rw [← hG]
    exact Rn.ret X2 (BodyLoose.notSynchronized Bd) (v := none) (fun _ => rfl) (Q := Qcl0 Z a0 sc ks hS rt kr hR dc kd hD n h0 n0) e2 (fun fs hr => X2.returnOut hx Bd.returns (hb hby d4_45) hr) ⟨rfl, N2, K2, E_a0, F_scores_a0, F_retrieved_a0, F_documents_a0, F_size_a0, V_sc, V_rt⟩ (by decide) (by decide)
  exact (Rn.st (fun t k => castTop (ef_cl0 m a0) k) first_ : Rn p e below (s₁.setTop (entryFrame m #[(.ref a0)] 2)) (Fncl0 Z a0 sc ks hS rt kr hR dc kd hD n h0 n0 s))
theorem d4_10 : decode prog_23_method_6_code 10 = .ok (.aload_n 0, 1) := by decide +kernel
theorem d4_11 : decode prog_23_method_6_code 11 = .ok (.getfield 7, 3) := by decide +kernel
theorem d4_14 : decode prog_23_method_6_code 14 = .ok (.aload_n 0, 1) := by decide +kernel
theorem d4_15 : decode prog_23_method_6_code 15 = .ok (.getfield 17, 3) := by decide +kernel
theorem d4_18 : decode prog_23_method_6_code 18 = .ok (.iload_n 1, 1) := by decide +kernel
theorem d4_19 : decode prog_23_method_6_code 19 = .ok (.iaload, 1) := by decide +kernel
theorem d4_20 : decode prog_23_method_6_code 20 = .ok (.dconst 0, 1) := by decide +kernel
theorem d4_21 : decode prog_23_method_6_code 21 = .ok (.dastore, 1) := by decide +kernel
theorem d4_22 : decode prog_23_method_6_code 22 = .ok (.aload_n 0, 1) := by decide +kernel
theorem d4_23 : decode prog_23_method_6_code 23 = .ok (.getfield 13, 3) := by decide +kernel
theorem d4_26 : decode prog_23_method_6_code 26 = .ok (.aload_n 0, 1) := by decide +kernel
theorem d4_27 : decode prog_23_method_6_code 27 = .ok (.getfield 17, 3) := by decide +kernel
theorem d4_30 : decode prog_23_method_6_code 30 = .ok (.iload_n 1, 1) := by decide +kernel
theorem d4_31 : decode prog_23_method_6_code 31 = .ok (.iaload, 1) := by decide +kernel
theorem d4_32 : decode prog_23_method_6_code 32 = .ok (.iconst 0, 1) := by decide +kernel
theorem d4_33 : decode prog_23_method_6_code 33 = .ok (.bastore, 1) := by decide +kernel
theorem d4_34 : decode prog_23_method_6_code 34 = .ok (.iinc 1 1, 3) := by decide +kernel
theorem d4_37 : decode prog_23_method_6_code 37 = .ok (.goto (-35), 3) := by decide +kernel
theorem ef_cl1 (m : MethodId) (x0 : Addr) : entryFrame m #[(.ref x0)] 2 = mkF m 0 #[.val (.ref x0), .unset] [] := by first | (simp [entryFrame, mkF, argsToLocals, Value.category]; done) | rfl
def Qcl1 (Z : State) (a0 : Addr) (sc : Addr) (ks : ClassId) (hS : List (Int32 × Value)) (rt : Addr) (kr : ClassId) (hR : List (Int32 × Value)) (dc : Addr) (kd : ClassId) (hD : List (Int32 × Value)) (n : Int32) (q0 : Int32) (h0 : Heap) (n0 : Nat) (vQ : Option Value) (hQ_ : Heap) (LQ : List Loc) : Prop := vQ = none ∧ Fr n0 LQ ∧ Keep h0 hQ_ [a0, sc, rt] ∧ (Exa Z hQ_ a0 "com/example/maat/maat/search/Accumulator") ∧ (Fld Z hQ_ a0 "com/example/maat/maat/search/Accumulator" "scores" "[D" (.ref sc)) ∧ (Fld Z hQ_ a0 "com/example/maat/maat/search/Accumulator" "retrieved" "[Z" (.ref rt)) ∧ (Fld Z hQ_ a0 "com/example/maat/maat/search/Accumulator" "documents" "[I" (.ref dc)) ∧ (Fld Z hQ_ a0 "com/example/maat/maat/search/Accumulator" "size" "I" (.int (0 : Int32))) ∧ (Arh Z hQ_ sc ks .double n ((q0, (.double FP.dconst0)) :: hS) [] (.double (0 : UInt64))) ∧ (Arh Z hQ_ rt kr .boolean n ((q0, (.int (0 : Int32))) :: hR) [] (.int (0 : Int32)))
def Fncl1 (Z : State) (a0 : Addr) (sc : Addr) (ks : ClassId) (hS : List (Int32 × Value)) (rt : Addr) (kr : ClassId) (hR : List (Int32 × Value)) (dc : Addr) (kd : ClassId) (hD : List (Int32 × Value)) (n : Int32) (q0 : Int32) (h0 : Heap) (n0 : Nat) (sQ : State) (oQ : Outcome) (UQ : State) : Prop := ∃ vQ LQ, oQ = .returned vQ ∧ Qcl1 Z a0 sc ks hS rt kr hR dc kd hD n q0 h0 n0 vQ UQ.heap LQ ∧ FrameEnd sQ oQ UQ LQ ({ frames := 0, cells := 0, slots := 0, locals := 0 } : Room).cells ({ frames := 0, cells := 0, slots := 0, locals := 0 } : Room).slots
set_option maxRecDepth 65536 in
set_option maxHeartbeats 40000000 in
theorem rmcl1 (l : Launch) (Z : State) (aZ : Array Value) (hw : ∀ d ∈ tables_1, d.before aZ Z = true) (ws : List Jvm.Cond) (a0 : Addr) (sc : Addr) (ks : ClassId) (hS : List (Int32 × Value)) (rt : Addr) (kr : ClassId) (hR : List (Int32 × Value)) (dc : Addr) (kd : ClassId) (hD : List (Int32 × Value)) (n : Int32) (q0 : Int32) (h0 : Heap) (n0 : Nat) (Z0 : n0 ≤ h0.size) (E_a0 : Exa Z h0 a0 "com/example/maat/maat/search/Accumulator") (F_scores_a0 : Fld Z h0 a0 "com/example/maat/maat/search/Accumulator" "scores" "[D" (.ref sc)) (F_retrieved_a0 : Fld Z h0 a0 "com/example/maat/maat/search/Accumulator" "retrieved" "[Z" (.ref rt)) (F_documents_a0 : Fld Z h0 a0 "com/example/maat/maat/search/Accumulator" "documents" "[I" (.ref dc)) (F_size_a0 : Fld Z h0 a0 "com/example/maat/maat/search/Accumulator" "size" "I" (.int (1 : Int32))) (g_a0 : n0 ≤ a0) (V_sc : Arh Z h0 sc ks .double n hS [] (.double (0 : UInt64))) (V_rt : Arh Z h0 rt kr .boolean n hR [] (.int (0 : Int32))) (V_dc : Arh Z h0 dc kd .int n hD [] (.int (0 : Int32))) (g_sc : n0 ≤ sc) (g_rt : n0 ≤ rt) (ne_a0_sc : a0 ≠ sc) (ne_a0_rt : a0 ≠ rt) (ne_a0_dc : a0 ≠ dc) (ne_sc_rt : sc ≠ rt) (ne_sc_dc : sc ≠ dc) (ne_rt_dc : rt ≠ dc) (rd0 : getH hD [] (.int (0 : Int32)) ((0 : Int32)).toNatClampNeg = (.int q0)) (hi0 : ¬ (0 : Int32) < 0 ∧ (0 : Int32) < n) (hb0 : ¬ q0 < 0 ∧ q0 < n) :
    MetFree l (⟨"com/example/maat/maat/search/Accumulator", "clear", "()V"⟩ : MethodName) (head1 (Jvm.Cond.code (⟨"com/example/maat/maat/search/Accumulator", "clear", "()V"⟩ : MethodName) prog_23_method_6_code 2 none :: ws) ({ frames := 0, cells := 0, slots := 0, locals := 0 } : Room)) (fun aQ UQ => aQ = #[(.ref a0)] ∧ Z.Warmed39 UQ.vm ∧ UQ.heap = h0) (fun _ _ _ _ _ => True) (fun _ UQ oQ UR => ∃ vQ LQ, oQ = .returned vQ ∧ Qcl1 Z a0 sc ks hS rt kr hR dc kd hD n q0 h0 n0 vQ UR.heap LQ ∧ FrameEnd UQ oQ UR LQ ({ frames := 0, cells := 0, slots := 0, locals := 0 } : Room).cells ({ frames := 0, cells := 0, slots := 0, locals := 0 } : Room).slots) := by
  refine MetFree.of_bodySF (plainFor_of_name pn_0) hisR ?_
  intro p e s m args below meth c s₁ Bd hml0 hP hK
  obtain ⟨rfl, hZ, hh⟩ := hP
  have hx := Bd.exec
  have hby := Bd.bytes
  have hml : c.maxLocals = 2 := hml0
  have hown : s.vm.findClass "com/example/maat/maat/search/Accumulator" = some m.cls := findClass_of_methodNamed Bd.named
  have hnm := (name_of_methodNamed Bd.named Bd.method).1
  have X0 : Stand p l e ({ frames := 0, cells := 0, slots := 0, locals := 0 } : Room) s m #[(.ref a0)] below meth c s₁ [] 0 0 := Stand.of_body Bd
  have e0 : s₁.heap = h0 := by rw [← hh, Bd.state]; rfl
  have N0 := Fr.nil n0
  have K0 : Keep h0 h0 [a0, sc, rt] := Keep.refl _ _
  have w_6 := hw _ (List.mem_of_getElem? (i := 6) rfl)
  have w_15 := hw _ (List.mem_of_getElem? (i := 15) rfl)
  have w_16 := hw _ (List.mem_of_getElem? (i := 16) rfl)
  have w_18 := hw _ (List.mem_of_getElem? (i := 18) rfl)
  have w_19 := hw _ (List.mem_of_getElem? (i := 19) rfl)
  have w_21 := hw _ (List.mem_of_getElem? (i := 21) rfl)
  have w_22 := hw _ (List.mem_of_getElem? (i := 22) rfl)
  have w_28 := hw _ (List.mem_of_getElem? (i := 28) rfl)
  have w_29 := hw _ (List.mem_of_getElem? (i := 29) rfl)
  have first_ : Rn p e below (s₁.setTop (mkF m 0 #[.val (.ref a0), .unset] [])) (Fncl1 Z a0 sc ks hS rt kr hR dc kd hD n q0 h0 n0 s) := by
    generalize hG : (Fncl1 Z a0 sc ks hS rt kr hR dc kd hD n q0 h0 n0 s) = G
    refine R.iconst X0 hx (hb hby d4_0) (v := (0 : Int32)) (by decide) (pc' := 1) rfl ?_
    refine R.istoreN X0 hx (hb hby d4_1) (L' := #[.val (.ref a0), .val (.int (0 : Int32))]) rfl (pc' := 2) rfl ?_
    refine R.iloadN X0 hx (hb hby d4_2) rfl (pc' := 3) rfl ?_
    refine R.aloadN X0 hx (hb hby d4_3) rfl rfl (pc' := 4) rfl ?_
    refine R.getF X0 hx hZ hown (host := "") (Or.inl w_28) Via.refl e0 F_size_a0 (hb hby d4_4) (pc' := 7) rfl ?_; intro T1 X1 e1
    refine R.icmpNo X1 hx (hb hby d4_7) (tlt (by decide : (0 : Int32) < (1 : Int32))).2.1 (pc' := 10) rfl ?_
    refine R.aloadN X1 hx (hb hby d4_10) rfl rfl (pc' := 11) rfl ?_
    refine R.getF X1 hx hZ hown (host := "") (Or.inl w_15) Via.refl e1 F_scores_a0 (hb hby d4_11) (pc' := 14) rfl ?_; intro T2 X2 e2
    refine R.aloadN X2 hx (hb hby d4_14) rfl rfl (pc' := 15) rfl ?_
    refine R.getF X2 hx hZ hown (host := "") (Or.inl w_21) Via.refl e2 F_documents_a0 (hb hby d4_15) (pc' := 18) rfl ?_; intro T3 X3 e3
    refine R.iloadN X3 hx (hb hby d4_18) rfl (pc' := 19) rfl ?_
    refine R.iaload X3 hx hZ e3 V_dc (hi0 : ¬ (0 : Int32) < 0 ∧ (0 : Int32) < n) (v := (.int q0)) (rd0) (hb hby d4_19) (pc' := 20) rfl ?_
    refine R.dconst0 X3 hx (hb hby d4_20) (pc' := 21) rfl ?_
    refine R.dastore X3 hx hZ e3 V_sc (hb0 : ¬ q0 < 0 ∧ q0 < n) (hb hby d4_21) (pc' := 22) rfl ?_; intro T4 h4 X4 e4 W4 V4
    have E_a0 := E_a0.wr W4
    have F_scores_a0 := F_scores_a0.other W4 (Or.inl ne_a0_sc)
    have F_retrieved_a0 := F_retrieved_a0.other W4 (Or.inl ne_a0_sc)
    have F_documents_a0 := F_documents_a0.other W4 (Or.inl ne_a0_sc)
    have F_size_a0 := F_size_a0.other W4 (Or.inl ne_a0_sc)
    have V_rt := V_rt.other W4 (Ne.symm ne_sc_rt)
    have V_dc := V_dc.other W4 (Ne.symm ne_sc_dc)
    have V_sc : Arh Z h4 sc ks .double n ((q0, (.double FP.dconst0)) :: hS) [] (.double (0 : UInt64)) := V4
    have N4 := Fr.snoc X4 N0 g_sc
    have K4 : Keep h0 h4 [a0, sc, rt] := K0.wr W4 (Or.inl (List.mem_of_getElem? (i := 1) rfl))
    have Z4 : n0 ≤ h4.size := Nat.le_trans Z0 (Keep.of_wr W4).1
    refine R.aloadN X4 hx (hb hby d4_22) rfl rfl (pc' := 23) rfl ?_
    refine R.getF X4 hx hZ hown (host := "") (Or.inl w_18) Via.refl e4 F_retrieved_a0 (hb hby d4_23) (pc' := 26) rfl ?_; intro T5 X5 e5
    refine R.aloadN X5 hx (hb hby d4_26) rfl rfl (pc' := 27) rfl ?_
    refine R.getF X5 hx hZ hown (host := "") (Or.inl w_21) Via.refl e5 F_documents_a0 (hb hby d4_27) (pc' := 30) rfl ?_; intro T6 X6 e6
    refine R.iloadN X6 hx (hb hby d4_30) rfl (pc' := 31) rfl ?_
    refine R.iaload X6 hx hZ e6 V_dc (hi0 : ¬ (0 : Int32) < 0 ∧ (0 : Int32) < n) (v := (.int q0)) (rd0) (hb hby d4_31) (pc' := 32) rfl ?_
    refine R.iconst X6 hx (hb hby d4_32) (v := (0 : Int32)) (by decide) (pc' := 33) rfl ?_
    refine R.bastoreZ X6 hx hZ e6 V_rt (hb0 : ¬ q0 < 0 ∧ q0 < n) (by decide) (hb hby d4_33) (pc' := 34) rfl ?_; intro T7 h7 X7 e7 W7 V7
    have E_a0 := E_a0.wr W7
    have F_scores_a0 := F_scores_a0.other W7 (Or.inl ne_a0_rt)
    have F_retrieved_a0 := F_retrieved_a0.other W7 (Or.inl ne_a0_rt)
    have F_documents_a0 := F_documents_a0.other W7 (Or.inl ne_a0_rt)
    have F_size_a0 := F_size_a0.other W7 (Or.inl ne_a0_rt)
    have V_dc := V_dc.other W7 (Ne.symm ne_rt_dc)
    have V_sc := V_sc.other W7 ne_sc_rt
    have V_rt : Arh Z h7 rt kr .boolean n ((q0, (.int (0 : Int32))) :: hR) [] (.int (0 : Int32)) := V7
    have N7 := Fr.snoc X7 N4 g_rt
    have K7 : Keep h0 h7 [a0, sc, rt] := K4.wr W7 (Or.inl (List.mem_of_getElem? (i := 2) rfl))
    have Z7 : n0 ≤ h7.size := Nat.le_trans Z4 (Keep.of_wr W7).1
    refine R.iinc X7 hx (hb hby d4_34) rfl (L' := #[.val (.ref a0), .val (.int (1 : Int32))]) rfl (pc' := 37) rfl ?_
    refine R.goto X7 hx (hb hby d4_37) (by decide) (pc' := 2) (by decide) ?_
    refine R.iloadN X7 hx (hb hby d4_2) rfl (pc' := 3) rfl ?_
    refine R.aloadN X7 hx (hb hby d4_3) rfl rfl (pc' := 4) rfl ?_
    refine R.getF X7 hx hZ hown (host := "") (Or.inl w_28) Via.refl e7 F_size_a0 (hb hby d4_4) (pc' := 7) rfl ?_; intro T8 X8 e8
    refine R.icmpYes X8 hx (hb hby d4_7) (flt (by decide : ¬ ((1 : Int32) < (1 : Int32)))).2.1 (by decide) (pc' := 40) (by decide) ?_
    refine R.aloadN X8 hx (hb hby d4_40) rfl rfl (pc' := 41) rfl ?_
    refine R.iconst X8 hx (hb hby d4_41) (v := (0 : Int32)) (by decide) (pc' := 42) rfl ?_
    refine R.putF X8 hx hZ hown (host := "") (Or.inl w_28) Via.refl e8 F_size_a0 E_a0 (Or.inl w_29) w_6 (ty := .int) (by decide) rfl rfl (hb hby d4_42) (pc' := 45) rfl ?_; intro T9 h9 X9 e9 W9
    have E_a0 := E_a0.wr W9
    have F_scores_a0 := F_scores_a0.other W9 (Or.inr (slot_ne (Or.inr w_16) (Or.inl w_29) (by decide) (t := (.array .double)) (t' := .int) (by decide) (by decide)))
    have F_retrieved_a0 := F_retrieved_a0.other W9 (Or.inr (slot_ne (Or.inr w_19) (Or.inl w_29) (by decide) (t := (.array .boolean)) (t' := .int) (by decide) (by decide)))
    have F_documents_a0 := F_documents_a0.other W9 (Or.inr (slot_ne (Or.inr w_22) (Or.inl w_29) (by decide) (t := (.array .int)) (t' := .int) (by decide) (by decide)))
    have V_dc := V_dc.other W9 (Ne.symm ne_a0_dc)
    have V_sc := V_sc.other W9 (Ne.symm ne_a0_sc)
    have V_rt := V_rt.other W9 (Ne.symm ne_a0_rt)
    have F_size_a0 : Fld Z h9 a0 "com/example/maat/maat/search/Accumulator" "size" "I" (.int (0 : Int32)) := F_size_a0.same W9
    have N9 := Fr.snoc X9 N7 g_a0
    have K9 : Keep h0 h9 [a0, sc, rt] := K7.wr W9 (Or.inl (List.mem_of_getElem? (i := 0) rfl))
    have Z9 : n0 ≤ h9.size := Nat.le_trans Z7 (Keep.of_wr W9).1
    rw [← hG]
    exact Rn.ret X9 (BodyLoose.notSynchronized Bd) (v := none) (fun _ => rfl) (Q := Qcl1 Z a0 sc ks hS rt kr hR dc kd hD n q0 h0 n0) e9 (fun fs hr => X9.returnOut hx Bd.returns (hb hby d4_45) hr) ⟨rfl, N9, K9, E_a0, F_scores_a0, F_retrieved_a0, F_documents_a0, F_size_a0, V_sc, V_rt⟩ (by decide) (by decide)
  exact (Rn.st (fun t k => castTop (ef_cl1 m a0) k) first_ : Rn p e below (s₁.setTop (entryFrame m #[(.ref a0)] 2)) (Fncl1 Z a0 sc ks hS rt kr hR dc kd hD n q0 h0 n0 s))
theorem ef_cl2 (m : MethodId) (x0 : Addr) : entryFrame m #[(.ref x0)] 2 = mkF m 0 #[.val (.ref x0), .unset] [] := by first | (simp [entryFrame, mkF, argsToLocals, Value.category]; done) | rfl
def Qcl2 (Z : State) (a0 : Addr) (sc : Addr) (ks : ClassId) (hS : List (Int32 × Value)) (rt : Addr) (kr : ClassId) (hR : List (Int32 × Value)) (dc : Addr) (kd : ClassId) (hD : List (Int32 × Value)) (n : Int32) (q0 : Int32) (q1 : Int32) (h0 : Heap) (n0 : Nat) (vQ : Option Value) (hQ_ : Heap) (LQ : List Loc) : Prop := vQ = none ∧ Fr n0 LQ ∧ Keep h0 hQ_ [a0, sc, rt] ∧ (Exa Z hQ_ a0 "com/example/maat/maat/search/Accumulator") ∧ (Fld Z hQ_ a0 "com/example/maat/maat/search/Accumulator" "scores" "[D" (.ref sc)) ∧ (Fld Z hQ_ a0 "com/example/maat/maat/search/Accumulator" "retrieved" "[Z" (.ref rt)) ∧ (Fld Z hQ_ a0 "com/example/maat/maat/search/Accumulator" "documents" "[I" (.ref dc)) ∧ (Fld Z hQ_ a0 "com/example/maat/maat/search/Accumulator" "size" "I" (.int (0 : Int32))) ∧ (Arh Z hQ_ sc ks .double n ((q1, (.double FP.dconst0)) :: (q0, (.double FP.dconst0)) :: hS) [] (.double (0 : UInt64))) ∧ (Arh Z hQ_ rt kr .boolean n ((q1, (.int (0 : Int32))) :: (q0, (.int (0 : Int32))) :: hR) [] (.int (0 : Int32)))
def Fncl2 (Z : State) (a0 : Addr) (sc : Addr) (ks : ClassId) (hS : List (Int32 × Value)) (rt : Addr) (kr : ClassId) (hR : List (Int32 × Value)) (dc : Addr) (kd : ClassId) (hD : List (Int32 × Value)) (n : Int32) (q0 : Int32) (q1 : Int32) (h0 : Heap) (n0 : Nat) (sQ : State) (oQ : Outcome) (UQ : State) : Prop := ∃ vQ LQ, oQ = .returned vQ ∧ Qcl2 Z a0 sc ks hS rt kr hR dc kd hD n q0 q1 h0 n0 vQ UQ.heap LQ ∧ FrameEnd sQ oQ UQ LQ ({ frames := 0, cells := 0, slots := 0, locals := 0 } : Room).cells ({ frames := 0, cells := 0, slots := 0, locals := 0 } : Room).slots
set_option maxRecDepth 65536 in
set_option maxHeartbeats 40000000 in
theorem rmcl2 (l : Launch) (Z : State) (aZ : Array Value) (hw : ∀ d ∈ tables_1, d.before aZ Z = true) (ws : List Jvm.Cond) (a0 : Addr) (sc : Addr) (ks : ClassId) (hS : List (Int32 × Value)) (rt : Addr) (kr : ClassId) (hR : List (Int32 × Value)) (dc : Addr) (kd : ClassId) (hD : List (Int32 × Value)) (n : Int32) (q0 : Int32) (q1 : Int32) (h0 : Heap) (n0 : Nat) (Z0 : n0 ≤ h0.size) (E_a0 : Exa Z h0 a0 "com/example/maat/maat/search/Accumulator") (F_scores_a0 : Fld Z h0 a0 "com/example/maat/maat/search/Accumulator" "scores" "[D" (.ref sc)) (F_retrieved_a0 : Fld Z h0 a0 "com/example/maat/maat/search/Accumulator" "retrieved" "[Z" (.ref rt)) (F_documents_a0 : Fld Z h0 a0 "com/example/maat/maat/search/Accumulator" "documents" "[I" (.ref dc)) (F_size_a0 : Fld Z h0 a0 "com/example/maat/maat/search/Accumulator" "size" "I" (.int (2 : Int32))) (g_a0 : n0 ≤ a0) (V_sc : Arh Z h0 sc ks .double n hS [] (.double (0 : UInt64))) (V_rt : Arh Z h0 rt kr .boolean n hR [] (.int (0 : Int32))) (V_dc : Arh Z h0 dc kd .int n hD [] (.int (0 : Int32))) (g_sc : n0 ≤ sc) (g_rt : n0 ≤ rt) (ne_a0_sc : a0 ≠ sc) (ne_a0_rt : a0 ≠ rt) (ne_a0_dc : a0 ≠ dc) (ne_sc_rt : sc ≠ rt) (ne_sc_dc : sc ≠ dc) (ne_rt_dc : rt ≠ dc) (rd0 : getH hD [] (.int (0 : Int32)) ((0 : Int32)).toNatClampNeg = (.int q0)) (rd1 : getH hD [] (.int (0 : Int32)) ((1 : Int32)).toNatClampNeg = (.int q1)) (hi0 : ¬ (0 : Int32) < 0 ∧ (0 : Int32) < n) (hi1 : ¬ (1 : Int32) < 0 ∧ (1 : Int32) < n) (hb0 : ¬ q0 < 0 ∧ q0 < n) (hb1 : ¬ q1 < 0 ∧ q1 < n) :
    MetFree l (⟨"com/example/maat/maat/search/Accumulator", "clear", "()V"⟩ : MethodName) (head1 (Jvm.Cond.code (⟨"com/example/maat/maat/search/Accumulator", "clear", "()V"⟩ : MethodName) prog_23_method_6_code 2 none :: ws) ({ frames := 0, cells := 0, slots := 0, locals := 0 } : Room)) (fun aQ UQ => aQ = #[(.ref a0)] ∧ Z.Warmed39 UQ.vm ∧ UQ.heap = h0) (fun _ _ _ _ _ => True) (fun _ UQ oQ UR => ∃ vQ LQ, oQ = .returned vQ ∧ Qcl2 Z a0 sc ks hS rt kr hR dc kd hD n q0 q1 h0 n0 vQ UR.heap LQ ∧ FrameEnd UQ oQ UR LQ ({ frames := 0, cells := 0, slots := 0, locals := 0 } : Room).cells ({ frames := 0, cells := 0, slots := 0, locals := 0 } : Room).slots) := by
  refine MetFree.of_bodySF (plainFor_of_name pn_0) hisR ?_
  intro p e s m args below meth c s₁ Bd hml0 hP hK
  obtain ⟨rfl, hZ, hh⟩ := hP
  have hx := Bd.exec
  have hby := Bd.bytes
  have hml : c.maxLocals = 2 := hml0
  have hown : s.vm.findClass "com/example/maat/maat/search/Accumulator" = some m.cls := findClass_of_methodNamed Bd.named
  have hnm := (name_of_methodNamed Bd.named Bd.method).1
  have X0 : Stand p l e ({ frames := 0, cells := 0, slots := 0, locals := 0 } : Room) s m #[(.ref a0)] below meth c s₁ [] 0 0 := Stand.of_body Bd
  have e0 : s₁.heap = h0 := by rw [← hh, Bd.state]; rfl
  have N0 := Fr.nil n0
  have K0 : Keep h0 h0 [a0, sc, rt] := Keep.refl _ _
  have w_6 := hw _ (List.mem_of_getElem? (i := 6) rfl)
  have w_15 := hw _ (List.mem_of_getElem? (i := 15) rfl)
  have w_16 := hw _ (List.mem_of_getElem? (i := 16) rfl)
  have w_18 := hw _ (List.mem_of_getElem? (i := 18) rfl)
  have w_19 := hw _ (List.mem_of_getElem? (i := 19) rfl)
  have w_21 := hw _ (List.mem_of_getElem? (i := 21) rfl)
  have w_22 := hw _ (List.mem_of_getElem? (i := 22) rfl)
  have w_28 := hw _ (List.mem_of_getElem? (i := 28) rfl)
  have w_29 := hw _ (List.mem_of_getElem? (i := 29) rfl)
  have first_ : Rn p e below (s₁.setTop (mkF m 0 #[.val (.ref a0), .unset] [])) (Fncl2 Z a0 sc ks hS rt kr hR dc kd hD n q0 q1 h0 n0 s) := by
    generalize hG : (Fncl2 Z a0 sc ks hS rt kr hR dc kd hD n q0 q1 h0 n0 s) = G
    refine R.iconst X0 hx (hb hby d4_0) (v := (0 : Int32)) (by decide) (pc' := 1) rfl ?_
    refine R.istoreN X0 hx (hb hby d4_1) (L' := #[.val (.ref a0), .val (.int (0 : Int32))]) rfl (pc' := 2) rfl ?_
    refine R.iloadN X0 hx (hb hby d4_2) rfl (pc' := 3) rfl ?_
    refine R.aloadN X0 hx (hb hby d4_3) rfl rfl (pc' := 4) rfl ?_
    refine R.getF X0 hx hZ hown (host := "") (Or.inl w_28) Via.refl e0 F_size_a0 (hb hby d4_4) (pc' := 7) rfl ?_; intro T1 X1 e1
    refine R.icmpNo X1 hx (hb hby d4_7) (tlt (by decide : (0 : Int32) < (2 : Int32))).2.1 (pc' := 10) rfl ?_
    refine R.aloadN X1 hx (hb hby d4_10) rfl rfl (pc' := 11) rfl ?_
    refine R.getF X1 hx hZ hown (host := "") (Or.inl w_15) Via.refl e1 F_scores_a0 (hb hby d4_11) (pc' := 14) rfl ?_; intro T2 X2 e2
    refine R.aloadN X2 hx (hb hby d4_14) rfl rfl (pc' := 15) rfl ?_
    refine R.getF X2 hx hZ hown (host := "") (Or.inl w_21) Via.refl e2 F_documents_a0 (hb hby d4_15) (pc' := 18) rfl ?_; intro T3 X3 e3
    refine R.iloadN X3 hx (hb hby d4_18) rfl (pc' := 19) rfl ?_
    refine R.iaload X3 hx hZ e3 V_dc (hi0 : ¬ (0 : Int32) < 0 ∧ (0 : Int32) < n) (v := (.int q0)) (rd0) (hb hby d4_19) (pc' := 20) rfl ?_
    refine R.dconst0 X3 hx (hb hby d4_20) (pc' := 21) rfl ?_
    refine R.dastore X3 hx hZ e3 V_sc (hb0 : ¬ q0 < 0 ∧ q0 < n) (hb hby d4_21) (pc' := 22) rfl ?_; intro T4 h4 X4 e4 W4 V4
    have E_a0 := E_a0.wr W4
    have F_scores_a0 := F_scores_a0.other W4 (Or.inl ne_a0_sc)
    have F_retrieved_a0 := F_retrieved_a0.other W4 (Or.inl ne_a0_sc)
    have F_documents_a0 := F_documents_a0.other W4 (Or.inl ne_a0_sc)
    have F_size_a0 := F_size_a0.other W4 (Or.inl ne_a0_sc)
    have V_rt := V_rt.other W4 (Ne.symm ne_sc_rt)
    have V_dc := V_dc.other W4 (Ne.symm ne_sc_dc)
    have V_sc : Arh Z h4 sc ks .double n ((q0, (.double FP.dconst0)) :: hS) [] (.double (0 : UInt64)) := V4
    have N4 := Fr.snoc X4 N0 g_sc
    have K4 : Keep h0 h4 [a0, sc, rt] := K0.wr W4 (Or.inl (List.mem_of_getElem? (i := 1) rfl))
    have Z4 : n0 ≤ h4.size := Nat.le_trans Z0 (Keep.of_wr W4).1
    refine R.aloadN X4 hx (hb hby d4_22) rfl rfl (pc' := 23) rfl ?_
    refine R.getF X4 hx hZ hown (host := "") (Or.inl w_18) Via.refl e4 F_retrieved_a0 (hb hby d4_23) (pc' := 26) rfl ?_; intro T5 X5 e5
    refine R.aloadN X5 hx (hb hby d4_26) rfl rfl (pc' := 27) rfl ?_
    refine R.getF X5 hx hZ hown (host := "") (Or.inl w_21) Via.refl e5 F_documents_a0 (hb hby d4_27) (pc' := 30) rfl ?_; intro T6 X6 e6
    refine R.iloadN X6 hx (hb hby d4_30) rfl (pc' := 31) rfl ?_
    refine R.iaload X6 hx hZ e6 V_dc (hi0 : ¬ (0 : Int32) < 0 ∧ (0 : Int32) < n) (v := (.int q0)) (rd0) (hb hby d4_31) (pc' := 32) rfl ?_
    refine R.iconst X6 hx (hb hby d4_32) (v := (0 : Int32)) (by decide) (pc' := 33) rfl ?_
    refine R.bastoreZ X6 hx hZ e6 V_rt (hb0 : ¬ q0 < 0 ∧ q0 < n) (by decide) (hb hby d4_33) (pc' := 34) rfl ?_; intro T7 h7 X7 e7 W7 V7
    have E_a0 := E_a0.wr W7
    have F_scores_a0 := F_scores_a0.other W7 (Or.inl ne_a0_rt)
    have F_retrieved_a0 := F_retrieved_a0.other W7 (Or.inl ne_a0_rt)
    have F_documents_a0 := F_documents_a0.other W7 (Or.inl ne_a0_rt)
    have F_size_a0 := F_size_a0.other W7 (Or.inl ne_a0_rt)
    have V_dc := V_dc.other W7 (Ne.symm ne_rt_dc)
    have V_sc := V_sc.other W7 ne_sc_rt
    have V_rt : Arh Z h7 rt kr .boolean n ((q0, (.int (0 : Int32))) :: hR) [] (.int (0 : Int32)) := V7
    have N7 := Fr.snoc X7 N4 g_rt
    have K7 : Keep h0 h7 [a0, sc, rt] := K4.wr W7 (Or.inl (List.mem_of_getElem? (i := 2) rfl))
    have Z7 : n0 ≤ h7.size := Nat.le_trans Z4 (Keep.of_wr W7).1
    refine R.iinc X7 hx (hb hby d4_34) rfl (L' := #[.val (.ref a0), .val (.int (1 : Int32))]) rfl (pc' := 37) rfl ?_
    refine R.goto X7 hx (hb hby d4_37) (by decide) (pc' := 2) (by decide) ?_
    refine R.iloadN X7 hx (hb hby d4_2) rfl (pc' := 3) rfl ?_
    refine R.aloadN X7 hx (hb hby d4_3) rfl rfl (pc' := 4) rfl ?_
    refine R.getF X7 hx hZ hown (host := "") (Or.inl w_28) Via.refl e7 F_size_a0 (hb hby d4_4) (pc' := 7) rfl ?_; intro T8 X8 e8
    refine R.icmpNo X8 hx (hb hby d4_7) (tlt (by decide : (1 : Int32) < (2 : Int32))).2.1 (pc' := 10) rfl ?_
    refine R.aloadN X8 hx (hb hby d4_10) rfl rfl (pc' := 11) rfl ?_
    refine R.getF X8 hx hZ hown (host := "") (Or.inl w_15) Via.refl e8 F_scores_a0 (hb hby d4_11) (pc' := 14) rfl ?_; intro T9 X9 e9
    refine R.aloadN X9 hx (hb hby d4_14) rfl rfl (pc' := 15) rfl ?_
    refine R.getF X9 hx hZ hown (host := "") (Or.inl w_21) Via.refl e9 F_documents_a0 (hb hby d4_15) (pc' := 18) rfl ?_; intro T10 X10 e10
    refine R.iloadN X10 hx (hb hby d4_18) rfl (pc' := 19) rfl ?_
    refine R.iaload X10 hx hZ e10 V_dc (hi1 : ¬ (1 : Int32) < 0 ∧ (1 : Int32) < n) (v := (.int q1)) (rd1) (hb hby d4_19) (pc' := 20) rfl ?_
    refine R.dconst0 X10 hx (hb hby d4_20) (pc' := 21) rfl ?_
    refine R.dastore X10 hx hZ e10 V_sc (hb1 : ¬ q1 < 0 ∧ q1 < n) (hb hby d4_21) (pc' := 22) rfl ?_; intro T11 h11 X11 e11 W11 V11
    have E_a0 := E_a0.wr W11
    have F_scores_a0 := F_scores_a0.other W11 (Or.inl ne_a0_sc)
    have F_retrieved_a0 := F_retrieved_a0.other W11 (Or.inl ne_a0_sc)
    have F_documents_a0 := F_documents_a0.other W11 (Or.inl ne_a0_sc)
    have F_size_a0 := F_size_a0.other W11 (Or.inl ne_a0_sc)
    have V_dc := V_dc.other W11 (Ne.symm ne_sc_dc)
    have V_rt := V_rt.other W11 (Ne.symm ne_sc_rt)
    have V_sc : Arh Z h11 sc ks .double n ((q1, (.double FP.dconst0)) :: (q0, (.double FP.dconst0)) :: hS) [] (.double (0 : UInt64)) := V11
    have N11 := Fr.snoc X11 N7 g_sc
    have K11 : Keep h0 h11 [a0, sc, rt] := K7.wr W11 (Or.inl (List.mem_of_getElem? (i := 1) rfl))
    have Z11 : n0 ≤ h11.size := Nat.le_trans Z7 (Keep.of_wr W11).1
    refine R.aloadN X11 hx (hb hby d4_22) rfl rfl (pc' := 23) rfl ?_
    refine R.getF X11 hx hZ hown (host := "") (Or.inl w_18) Via.refl e11 F_retrieved_a0 (hb hby d4_23) (pc' := 26) rfl ?_; intro T12 X12 e12
    refine R.aloadN X12 hx (hb hby d4_26) rfl rfl (pc' := 27) rfl ?_
    refine R.getF X12 hx hZ hown (host := "") (Or.inl w_21) Via.refl e12 F_documents_a0 (hb hby d4_27) (pc' := 30) rfl ?_; intro T13 X13 e13
    refine R.iloadN X13 hx (hb hby d4_30) rfl (pc' := 31) rfl ?_
    refine R.iaload X13 hx hZ e13 V_dc (hi1 : ¬ (1 : Int32) < 0 ∧ (1 : Int32) < n) (v := (.int q1)) (rd1) (hb hby d4_31) (pc' := 32) rfl ?_
    refine R.iconst X13 hx (hb hby d4_32) (v := (0 : Int32)) (by decide) (pc' := 33) rfl ?_
    refine R.bastoreZ X13 hx hZ e13 V_rt (hb1 : ¬ q1 < 0 ∧ q1 < n) (by decide) (hb hby d4_33) (pc' := 34) rfl ?_; intro T14 h14 X14 e14 W14 V14
    have E_a0 := E_a0.wr W14
    have F_scores_a0 := F_scores_a0.other W14 (Or.inl ne_a0_rt)
    have F_retrieved_a0 := F_retrieved_a0.other W14 (Or.inl ne_a0_rt)
    have F_documents_a0 := F_documents_a0.other W14 (Or.inl ne_a0_rt)
    have F_size_a0 := F_size_a0.other W14 (Or.inl ne_a0_rt)
    have V_dc := V_dc.other W14 (Ne.symm ne_rt_dc)
    have V_sc := V_sc.other W14 ne_sc_rt
    have V_rt : Arh Z h14 rt kr .boolean n ((q1, (.int (0 : Int32))) :: (q0, (.int (0 : Int32))) :: hR) [] (.int (0 : Int32)) := V14
    have N14 := Fr.snoc X14 N11 g_rt
    have K14 : Keep h0 h14 [a0, sc, rt] := K11.wr W14 (Or.inl (List.mem_of_getElem? (i := 2) rfl))
    have Z14 : n0 ≤ h14.size := Nat.le_trans Z11 (Keep.of_wr W14).1
    refine R.iinc X14 hx (hb hby d4_34) rfl (L' := #[.val (.ref a0), .val (.int (2 : Int32))]) rfl (pc' := 37) rfl ?_
    refine R.goto X14 hx (hb hby d4_37) (by decide) (pc' := 2) (by decide) ?_
    refine R.iloadN X14 hx (hb hby d4_2) rfl (pc' := 3) rfl ?_
    refine R.aloadN X14 hx (hb hby d4_3) rfl rfl (pc' := 4) rfl ?_
    refine R.getF X14 hx hZ hown (host := "") (Or.inl w_28) Via.refl e14 F_size_a0 (hb hby d4_4) (pc' := 7) rfl ?_; intro T15 X15 e15
    refine R.icmpYes X15 hx (hb hby d4_7) (flt (by decide : ¬ ((2 : Int32) < (2 : Int32)))).2.1 (by decide) (pc' := 40) (by decide) ?_
    refine R.aloadN X15 hx (hb hby d4_40) rfl rfl (pc' := 41) rfl ?_
    refine R.iconst X15 hx (hb hby d4_41) (v := (0 : Int32)) (by decide) (pc' := 42) rfl ?_
    refine R.putF X15 hx hZ hown (host := "") (Or.inl w_28) Via.refl e15 F_size_a0 E_a0 (Or.inl w_29) w_6 (ty := .int) (by decide) rfl rfl (hb hby d4_42) (pc' := 45) rfl ?_; intro T16 h16 X16 e16 W16
    have E_a0 := E_a0.wr W16
    have F_scores_a0 := F_scores_a0.other W16 (Or.inr (slot_ne (Or.inr w_16) (Or.inl w_29) (by decide) (t := (.array .double)) (t' := .int) (by decide) (by decide)))
    have F_retrieved_a0 := F_retrieved_a0.other W16 (Or.inr (slot_ne (Or.inr w_19) (Or.inl w_29) (by decide) (t := (.array .boolean)) (t' := .int) (by decide) (by decide)))
    have F_documents_a0 := F_documents_a0.other W16 (Or.inr (slot_ne (Or.inr w_22) (Or.inl w_29) (by decide) (t := (.array .int)) (t' := .int) (by decide) (by decide)))
    have V_dc := V_dc.other W16 (Ne.symm ne_a0_dc)
    have V_sc := V_sc.other W16 (Ne.symm ne_a0_sc)
    have V_rt := V_rt.other W16 (Ne.symm ne_a0_rt)
    have F_size_a0 : Fld Z h16 a0 "com/example/maat/maat/search/Accumulator" "size" "I" (.int (0 : Int32)) := F_size_a0.same W16
    have N16 := Fr.snoc X16 N14 g_a0
    have K16 : Keep h0 h16 [a0, sc, rt] := K14.wr W16 (Or.inl (List.mem_of_getElem? (i := 0) rfl))
    have Z16 : n0 ≤ h16.size := Nat.le_trans Z14 (Keep.of_wr W16).1
    rw [← hG]
    exact Rn.ret X16 (BodyLoose.notSynchronized Bd) (v := none) (fun _ => rfl) (Q := Qcl2 Z a0 sc ks hS rt kr hR dc kd hD n q0 q1 h0 n0) e16 (fun fs hr => X16.returnOut hx Bd.returns (hb hby d4_45) hr) ⟨rfl, N16, K16, E_a0, F_scores_a0, F_retrieved_a0, F_documents_a0, F_size_a0, V_sc, V_rt⟩ (by decide) (by decide)
  exact (Rn.st (fun t k => castTop (ef_cl2 m a0) k) first_ : Rn p e below (s₁.setTop (entryFrame m #[(.ref a0)] 2)) (Fncl2 Z a0 sc ks hS rt kr hR dc kd hD n q0 q1 h0 n0 s))
theorem ef_cl3 (m : MethodId) (x0 : Addr) : entryFrame m #[(.ref x0)] 2 = mkF m 0 #[.val (.ref x0), .unset] [] := by first | (simp [entryFrame, mkF, argsToLocals, Value.category]; done) | rfl
def Qcl3 (Z : State) (a0 : Addr) (sc : Addr) (ks : ClassId) (hS : List (Int32 × Value)) (rt : Addr) (kr : ClassId) (hR : List (Int32 × Value)) (dc : Addr) (kd : ClassId) (hD : List (Int32 × Value)) (n : Int32) (q0 : Int32) (q1 : Int32) (q2 : Int32) (h0 : Heap) (n0 : Nat) (vQ : Option Value) (hQ_ : Heap) (LQ : List Loc) : Prop := vQ = none ∧ Fr n0 LQ ∧ Keep h0 hQ_ [a0, sc, rt] ∧ (Exa Z hQ_ a0 "com/example/maat/maat/search/Accumulator") ∧ (Fld Z hQ_ a0 "com/example/maat/maat/search/Accumulator" "scores" "[D" (.ref sc)) ∧ (Fld Z hQ_ a0 "com/example/maat/maat/search/Accumulator" "retrieved" "[Z" (.ref rt)) ∧ (Fld Z hQ_ a0 "com/example/maat/maat/search/Accumulator" "documents" "[I" (.ref dc)) ∧ (Fld Z hQ_ a0 "com/example/maat/maat/search/Accumulator" "size" "I" (.int (0 : Int32))) ∧ (Arh Z hQ_ sc ks .double n ((q2, (.double FP.dconst0)) :: (q1, (.double FP.dconst0)) :: (q0, (.double FP.dconst0)) :: hS) [] (.double (0 : UInt64))) ∧ (Arh Z hQ_ rt kr .boolean n ((q2, (.int (0 : Int32))) :: (q1, (.int (0 : Int32))) :: (q0, (.int (0 : Int32))) :: hR) [] (.int (0 : Int32)))
def Fncl3 (Z : State) (a0 : Addr) (sc : Addr) (ks : ClassId) (hS : List (Int32 × Value)) (rt : Addr) (kr : ClassId) (hR : List (Int32 × Value)) (dc : Addr) (kd : ClassId) (hD : List (Int32 × Value)) (n : Int32) (q0 : Int32) (q1 : Int32) (q2 : Int32) (h0 : Heap) (n0 : Nat) (sQ : State) (oQ : Outcome) (UQ : State) : Prop := ∃ vQ LQ, oQ = .returned vQ ∧ Qcl3 Z a0 sc ks hS rt kr hR dc kd hD n q0 q1 q2 h0 n0 vQ UQ.heap LQ ∧ FrameEnd sQ oQ UQ LQ ({ frames := 0, cells := 0, slots := 0, locals := 0 } : Room).cells ({ frames := 0, cells := 0, slots := 0, locals := 0 } : Room).slots
set_option maxRecDepth 65536 in
set_option maxHeartbeats 40000000 in
theorem rmcl3 (l : Launch) (Z : State) (aZ : Array Value) (hw : ∀ d ∈ tables_1, d.before aZ Z = true) (ws : List Jvm.Cond) (a0 : Addr) (sc : Addr) (ks : ClassId) (hS : List (Int32 × Value)) (rt : Addr) (kr : ClassId) (hR : List (Int32 × Value)) (dc : Addr) (kd : ClassId) (hD : List (Int32 × Value)) (n : Int32) (q0 : Int32) (q1 : Int32) (q2 : Int32) (h0 : Heap) (n0 : Nat) (Z0 : n0 ≤ h0.size) (E_a0 : Exa Z h0 a0 "com/example/maat/maat/search/Accumulator") (F_scores_a0 : Fld Z h0 a0 "com/example/maat/maat/search/Accumulator" "scores" "[D" (.ref sc)) (F_retrieved_a0 : Fld Z h0 a0 "com/example/maat/maat/search/Accumulator" "retrieved" "[Z" (.ref rt)) (F_documents_a0 : Fld Z h0 a0 "com/example/maat/maat/search/Accumulator" "documents" "[I" (.ref dc)) (F_size_a0 : Fld Z h0 a0 "com/example/maat/maat/search/Accumulator" "size" "I" (.int (3 : Int32))) (g_a0 : n0 ≤ a0) (V_sc : Arh Z h0 sc ks .double n hS [] (.double (0 : UInt64))) (V_rt : Arh Z h0 rt kr .boolean n hR [] (.int (0 : Int32))) (V_dc : Arh Z h0 dc kd .int n hD [] (.int (0 : Int32))) (g_sc : n0 ≤ sc) (g_rt : n0 ≤ rt) (ne_a0_sc : a0 ≠ sc) (ne_a0_rt : a0 ≠ rt) (ne_a0_dc : a0 ≠ dc) (ne_sc_rt : sc ≠ rt) (ne_sc_dc : sc ≠ dc) (ne_rt_dc : rt ≠ dc) (rd0 : getH hD [] (.int (0 : Int32)) ((0 : Int32)).toNatClampNeg = (.int q0)) (rd1 : getH hD [] (.int (0 : Int32)) ((1 : Int32)).toNatClampNeg = (.int q1)) (rd2 : getH hD [] (.int (0 : Int32)) ((2 : Int32)).toNatClampNeg = (.int q2)) (hi0 : ¬ (0 : Int32) < 0 ∧ (0 : Int32) < n) (hi1 : ¬ (1 : Int32) < 0 ∧ (1 : Int32) < n) (hi2 : ¬ (2 : Int32) < 0 ∧ (2 : Int32) < n) (hb0 : ¬ q0 < 0 ∧ q0 < n) (hb1 : ¬ q1 < 0 ∧ q1 < n) (hb2 : ¬ q2 < 0 ∧ q2 < n) :
    MetFree l (⟨"com/example/maat/maat/search/Accumulator", "clear", "()V"⟩ : MethodName) (head1 (Jvm.Cond.code (⟨"com/example/maat/maat/search/Accumulator", "clear", "()V"⟩ : MethodName) prog_23_method_6_code 2 none :: ws) ({ frames := 0, cells := 0, slots := 0, locals := 0 } : Room)) (fun aQ UQ => aQ = #[(.ref a0)] ∧ Z.Warmed39 UQ.vm ∧ UQ.heap = h0) (fun _ _ _ _ _ => True) (fun _ UQ oQ UR => ∃ vQ LQ, oQ = .returned vQ ∧ Qcl3 Z a0 sc ks hS rt kr hR dc kd hD n q0 q1 q2 h0 n0 vQ UR.heap LQ ∧ FrameEnd UQ oQ UR LQ ({ frames := 0, cells := 0, slots := 0, locals := 0 } : Room).cells ({ frames := 0, cells := 0, slots := 0, locals := 0 } : Room).slots) := by
  refine MetFree.of_bodySF (plainFor_of_name pn_0) hisR ?_
  intro p e s m args below meth c s₁ Bd hml0 hP hK
  obtain ⟨rfl, hZ, hh⟩ := hP
  have hx := Bd.exec
  have hby := Bd.bytes
  have hml : c.maxLocals = 2 := hml0
  have hown : s.vm.findClass "com/example/maat/maat/search/Accumulator" = some m.cls := findClass_of_methodNamed Bd.named
  have hnm := (name_of_methodNamed Bd.named Bd.method).1
  have X0 : Stand p l e ({ frames := 0, cells := 0, slots := 0, locals := 0 } : Room) s m #[(.ref a0)] below meth c s₁ [] 0 0 := Stand.of_body Bd
  have e0 : s₁.heap = h0 := by rw [← hh, Bd.state]; rfl
  have N0 := Fr.nil n0
  have K0 : Keep h0 h0 [a0, sc, rt] := Keep.refl _ _
  have w_6 := hw _ (List.mem_of_getElem? (i := 6) rfl)
  have w_15 := hw _ (List.mem_of_getElem? (i := 15) rfl)
  have w_16 := hw _ (List.mem_of_getElem? (i := 16) rfl)
  have w_18 := hw _ (List.mem_of_getElem? (i := 18) rfl)
  have w_19 := hw _ (List.mem_of_getElem? (i := 19) rfl)
  have w_21 := hw _ (List.mem_of_getElem? (i := 21) rfl)
  have w_22 := hw _ (List.mem_of_getElem? (i := 22) rfl)
  have w_28 := hw _ (List.mem_of_getElem? (i := 28) rfl)
  have w_29 := hw _ (List.mem_of_getElem? (i := 29) rfl)
  have first_ : Rn p e below (s₁.setTop (mkF m 0 #[.val (.ref a0), .unset] [])) (Fncl3 Z a0 sc ks hS rt kr hR dc kd hD n q0 q1 q2 h0 n0 s) := by
    generalize hG : (Fncl3 Z a0 sc ks hS rt kr hR dc kd hD n q0 q1 q2 h0 n0 s) = G
    refine R.iconst X0 hx (hb hby d4_0) (v := (0 : Int32)) (by decide) (pc' := 1) rfl ?_
    refine R.istoreN X0 hx (hb hby d4_1) (L' := #[.val (.ref a0), .val (.int (0 : Int32))]) rfl (pc' := 2) rfl ?_
    refine R.iloadN X0 hx (hb hby d4_2) rfl (pc' := 3) rfl ?_
    refine R.aloadN X0 hx (hb hby d4_3) rfl rfl (pc' := 4) rfl ?_
    refine R.getF X0 hx hZ hown (host := "") (Or.inl w_28) Via.refl e0 F_size_a0 (hb hby d4_4) (pc' := 7) rfl ?_; intro T1 X1 e1
    refine R.icmpNo X1 hx (hb hby d4_7) (tlt (by decide : (0 : Int32) < (3 : Int32))).2.1 (pc' := 10) rfl ?_
    refine R.aloadN X1 hx (hb hby d4_10) rfl rfl (pc' := 11) rfl ?_
    refine R.getF X1 hx hZ hown (host := "") (Or.inl w_15) Via.refl e1 F_scores_a0 (hb hby d4_11) (pc' := 14) rfl ?_; intro T2 X2 e2
    refine R.aloadN X2 hx (hb hby d4_14) rfl rfl (pc' := 15) rfl ?_
    refine R.getF X2 hx hZ hown (host := "") (Or.inl w_21) Via.refl e2 F_documents_a0 (hb hby d4_15) (pc' := 18) rfl ?_; intro T3 X3 e3
    refine R.iloadN X3 hx (hb hby d4_18) rfl (pc' := 19) rfl ?_
    refine R.iaload X3 hx hZ e3 V_dc (hi0 : ¬ (0 : Int32) < 0 ∧ (0 : Int32) < n) (v := (.int q0)) (rd0) (hb hby d4_19) (pc' := 20) rfl ?_
    refine R.dconst0 X3 hx (hb hby d4_20) (pc' := 21) rfl ?_
    refine R.dastore X3 hx hZ e3 V_sc (hb0 : ¬ q0 < 0 ∧ q0 < n) (hb hby d4_21) (pc' := 22) rfl ?_; intro T4 h4 X4 e4 W4 V4
    have E_a0 := E_a0.wr W4
    have F_scores_a0 := F_scores_a0.other W4 (Or.inl ne_a0_sc)
    have F_retrieved_a0 := F_retrieved_a0.other W4 (Or.inl ne_a0_sc)
    have F_documents_a0 := F_documents_a0.other W4 (Or.inl ne_a0_sc)
    have F_size_a0 := F_size_a0.other W4 (Or.inl ne_a0_sc)
    have V_rt := V_rt.other W4 (Ne.symm ne_sc_rt)
    have V_dc := V_dc.other W4 (Ne.symm ne_sc_dc)
    have V_sc : Arh Z h4 sc ks .double n ((q0, (.double FP.dconst0)) :: hS) [] (.double (0 : UInt64)) := V4
    have N4 := Fr.snoc X4 N0 g_sc
    have K4 : Keep h0 h4 [a0, sc, rt] := K0.wr W4 (Or.inl (List.mem_of_getElem? (i := 1) rfl))
    have Z4 : n0 ≤ h4.size := Nat.le_trans Z0 (Keep.of_wr W4).1
    refine R.aloadN X4 hx (hb hby d4_22) rfl rfl (pc' := 23) rfl ?_
    refine R.getF X4 hx hZ hown (host := "") (Or.inl w_18) Via.refl e4 F_retrieved_a0 (hb hby d4_23) (pc' := 26) rfl ?_; intro T5 X5 e5
    refine R.aloadN X5 hx (hb hby d4_26) rfl rfl (pc' := 27) rfl ?_
    refine R.getF X5 hx hZ hown (host := "") (Or.inl w_21) Via.refl e5 F_documents_a0 (hb hby d4_27) (pc' := 30) rfl ?_; intro T6 X6 e6
    refine R.iloadN X6 hx (hb hby d4_30) rfl (pc' := 31) rfl ?_
    refine R.iaload X6 hx hZ e6 V_dc (hi0 : ¬ (0 : Int32) < 0 ∧ (0 : Int32) < n) (v := (.int q0)) (rd0) (hb hby d4_31) (pc' := 32) rfl ?_
    refine R.iconst X6 hx (hb hby d4_32) (v := (0 : Int32)) (by decide) (pc' := 33) rfl ?_
    refine R.bastoreZ X6 hx hZ e6 V_rt (hb0 : ¬ q0 < 0 ∧ q0 < n) (by decide) (hb hby d4_33) (pc' := 34) rfl ?_; intro T7 h7 X7 e7 W7 V7
    have E_a0 := E_a0.wr W7
    have F_scores_a0 := F_scores_a0.other W7 (Or.inl ne_a0_rt)
    have F_retrieved_a0 := F_retrieved_a0.other W7 (Or.inl ne_a0_rt)
    have F_documents_a0 := F_documents_a0.other W7 (Or.inl ne_a0_rt)
    have F_size_a0 := F_size_a0.other W7 (Or.inl ne_a0_rt)
    have V_dc := V_dc.other W7 (Ne.symm ne_rt_dc)
    have V_sc := V_sc.other W7 ne_sc_rt
    have V_rt : Arh Z h7 rt kr .boolean n ((q0, (.int (0 : Int32))) :: hR) [] (.int (0 : Int32)) := V7
    have N7 := Fr.snoc X7 N4 g_rt
    have K7 : Keep h0 h7 [a0, sc, rt] := K4.wr W7 (Or.inl (List.mem_of_getElem? (i := 2) rfl))
    have Z7 : n0 ≤ h7.size := Nat.le_trans Z4 (Keep.of_wr W7).1
    refine R.iinc X7 hx (hb hby d4_34) rfl (L' := #[.val (.ref a0), .val (.int (1 : Int32))]) rfl (pc' := 37) rfl ?_
    refine R.goto X7 hx (hb hby d4_37) (by decide) (pc' := 2) (by decide) ?_
    refine R.iloadN X7 hx (hb hby d4_2) rfl (pc' := 3) rfl ?_
    refine R.aloadN X7 hx (hb hby d4_3) rfl rfl (pc' := 4) rfl ?_
    refine R.getF X7 hx hZ hown (host := "") (Or.inl w_28) Via.refl e7 F_size_a0 (hb hby d4_4) (pc' := 7) rfl ?_; intro T8 X8 e8
    refine R.icmpNo X8 hx (hb hby d4_7) (tlt (by decide : (1 : Int32) < (3 : Int32))).2.1 (pc' := 10) rfl ?_
    refine R.aloadN X8 hx (hb hby d4_10) rfl rfl (pc' := 11) rfl ?_
    refine R.getF X8 hx hZ hown (host := "") (Or.inl w_15) Via.refl e8 F_scores_a0 (hb hby d4_11) (pc' := 14) rfl ?_; intro T9 X9 e9
    refine R.aloadN X9 hx (hb hby d4_14) rfl rfl (pc' := 15) rfl ?_
    refine R.getF X9 hx hZ hown (host := "") (Or.inl w_21) Via.refl e9 F_documents_a0 (hb hby d4_15) (pc' := 18) rfl ?_; intro T10 X10 e10
    refine R.iloadN X10 hx (hb hby d4_18) rfl (pc' := 19) rfl ?_
    refine R.iaload X10 hx hZ e10 V_dc (hi1 : ¬ (1 : Int32) < 0 ∧ (1 : Int32) < n) (v := (.int q1)) (rd1) (hb hby d4_19) (pc' := 20) rfl ?_
    refine R.dconst0 X10 hx (hb hby d4_20) (pc' := 21) rfl ?_
    refine R.dastore X10 hx hZ e10 V_sc (hb1 : ¬ q1 < 0 ∧ q1 < n) (hb hby d4_21) (pc' := 22) rfl ?_; intro T11 h11 X11 e11 W11 V11
    have E_a0 := E_a0.wr W11
    have F_scores_a0 := F_scores_a0.other W11 (Or.inl ne_a0_sc)
    have F_retrieved_a0 := F_retrieved_a0.other W11 (Or.inl ne_a0_sc)
    have F_documents_a0 := F_documents_a0.other W11 (Or.inl ne_a0_sc)
    have F_size_a0 := F_size_a0.other W11 (Or.inl ne_a0_sc)
    have V_dc := V_dc.other W11 (Ne.symm ne_sc_dc)
    have V_rt := V_rt.other W11 (Ne.symm ne_sc_rt)
    have V_sc : Arh Z h11 sc ks .double n ((q1, (.double FP.dconst0)) :: (q0, (.double FP.dconst0)) :: hS) [] (.double (0 : UInt64)) := V11
    have N11 := Fr.snoc X11 N7 g_sc
    have K11 : Keep h0 h11 [a0, sc, rt] := K7.wr W11 (Or.inl (List.mem_of_getElem? (i := 1) rfl))
    have Z11 : n0 ≤ h11.size := Nat.le_trans Z7 (Keep.of_wr W11).1
    refine R.aloadN X11 hx (hb hby d4_22) rfl rfl (pc' := 23) rfl ?_
    refine R.getF X11 hx hZ hown (host := "") (Or.inl w_18) Via.refl e11 F_retrieved_a0 (hb hby d4_23) (pc' := 26) rfl ?_; intro T12 X12 e12
    refine R.aloadN X12 hx (hb hby d4_26) rfl rfl (pc' := 27) rfl ?_
    refine R.getF X12 hx hZ hown (host := "") (Or.inl w_21) Via.refl e12 F_documents_a0 (hb hby d4_27) (pc' := 30) rfl ?_; intro T13 X13 e13
    refine R.iloadN X13 hx (hb hby d4_30) rfl (pc' := 31) rfl ?_
    refine R.iaload X13 hx hZ e13 V_dc (hi1 : ¬ (1 : Int32) < 0 ∧ (1 : Int32) < n) (v := (.int q1)) (rd1) (hb hby d4_31) (pc' := 32) rfl ?_
    refine R.iconst X13 hx (hb hby d4_32) (v := (0 : Int32)) (by decide) (pc' := 33) rfl ?_
    refine R.bastoreZ X13 hx hZ e13 V_rt (hb1 : ¬ q1 < 0 ∧ q1 < n) (by decide) (hb hby d4_33) (pc' := 34) rfl ?_; intro T14 h14 X14 e14 W14 V14
    have E_a0 := E_a0.wr W14
    have F_scores_a0 := F_scores_a0.other W14 (Or.inl ne_a0_rt)
    have F_retrieved_a0 := F_retrieved_a0.other W14 (Or.inl ne_a0_rt)
    have F_documents_a0 := F_documents_a0.other W14 (Or.inl ne_a0_rt)
    have F_size_a0 := F_size_a0.other W14 (Or.inl ne_a0_rt)
    have V_dc := V_dc.other W14 (Ne.symm ne_rt_dc)
    have V_sc := V_sc.other W14 ne_sc_rt
    have V_rt : Arh Z h14 rt kr .boolean n ((q1, (.int (0 : Int32))) :: (q0, (.int (0 : Int32))) :: hR) [] (.int (0 : Int32)) := V14
    have N14 := Fr.snoc X14 N11 g_rt
    have K14 : Keep h0 h14 [a0, sc, rt] := K11.wr W14 (Or.inl (List.mem_of_getElem? (i := 2) rfl))
    have Z14 : n0 ≤ h14.size := Nat.le_trans Z11 (Keep.of_wr W14).1
    refine R.iinc X14 hx (hb hby d4_34) rfl (L' := #[.val (.ref a0), .val (.int (2 : Int32))]) rfl (pc' := 37) rfl ?_
    refine R.goto X14 hx (hb hby d4_37) (by decide) (pc' := 2) (by decide) ?_
    refine R.iloadN X14 hx (hb hby d4_2) rfl (pc' := 3) rfl ?_
    refine R.aloadN X14 hx (hb hby d4_3) rfl rfl (pc' := 4) rfl ?_
    refine R.getF X14 hx hZ hown (host := "") (Or.inl w_28) Via.refl e14 F_size_a0 (hb hby d4_4) (pc' := 7) rfl ?_; intro T15 X15 e15
    refine R.icmpNo X15 hx (hb hby d4_7) (tlt (by decide : (2 : Int32) < (3 : Int32))).2.1 (pc' := 10) rfl ?_
    refine R.aloadN X15 hx (hb hby d4_10) rfl rfl (pc' := 11) rfl ?_
    refine R.getF X15 hx hZ hown (host := "") (Or.inl w_15) Via.refl e15 F_scores_a0 (hb hby d4_11) (pc' := 14) rfl ?_; intro T16 X16 e16
    refine R.aloadN X16 hx (hb hby d4_14) rfl rfl (pc' := 15) rfl ?_
    refine R.getF X16 hx hZ hown (host := "") (Or.inl w_21) Via.refl e16 F_documents_a0 (hb hby d4_15) (pc' := 18) rfl ?_; intro T17 X17 e17
    refine R.iloadN X17 hx (hb hby d4_18) rfl (pc' := 19) rfl ?_
    refine R.iaload X17 hx hZ e17 V_dc (hi2 : ¬ (2 : Int32) < 0 ∧ (2 : Int32) < n) (v := (.int q2)) (rd2) (hb hby d4_19) (pc' := 20) rfl ?_
    refine R.dconst0 X17 hx (hb hby d4_20) (pc' := 21) rfl ?_
    refine R.dastore X17 hx hZ e17 V_sc (hb2 : ¬ q2 < 0 ∧ q2 < n) (hb hby d4_21) (pc' := 22) rfl ?_; intro T18 h18 X18 e18 W18 V18
    have E_a0 := E_a0.wr W18
    have F_scores_a0 := F_scores_a0.other W18 (Or.inl ne_a0_sc)
    have F_retrieved_a0 := F_retrieved_a0.other W18 (Or.inl ne_a0_sc)
    have F_documents_a0 := F_documents_a0.other W18 (Or.inl ne_a0_sc)
    have F_size_a0 := F_size_a0.other W18 (Or.inl ne_a0_sc)
    have V_dc := V_dc.other W18 (Ne.symm ne_sc_dc)
    have V_rt := V_rt.other W18 (Ne.symm ne_sc_rt)
    have V_sc : Arh Z h18 sc ks .double n ((q2, (.double FP.dconst0)) :: (q1, (.double FP.dconst0)) :: (q0, (.double FP.dconst0)) :: hS) [] (.double (0 : UInt64)) := V18
    have N18 := Fr.snoc X18 N14 g_sc
    have K18 : Keep h0 h18 [a0, sc, rt] := K14.wr W18 (Or.inl (List.mem_of_getElem? (i := 1) rfl))
    have Z18 : n0 ≤ h18.size := Nat.le_trans Z14 (Keep.of_wr W18).1
    refine R.aloadN X18 hx (hb hby d4_22) rfl rfl (pc' := 23) rfl ?_
    refine R.getF X18 hx hZ hown (host := "") (Or.inl w_18) Via.refl e18 F_retrieved_a0 (hb hby d4_23) (pc' := 26) rfl ?_; intro T19 X19 e19
    refine R.aloadN X19 hx (hb hby d4_26) rfl rfl (pc' := 27) rfl ?_
    refine R.getF X19 hx hZ hown (host := "") (Or.inl w_21) Via.refl e19 F_documents_a0 (hb hby d4_27) (pc' := 30) rfl ?_; intro T20 X20 e20
    refine R.iloadN X20 hx (hb hby d4_30) rfl (pc' := 31) rfl ?_
    refine R.iaload X20 hx hZ e20 V_dc (hi2 : ¬ (2 : Int32) < 0 ∧ (2 : Int32) < n) (v := (.int q2)) (rd2) (hb hby d4_31) (pc' := 32) rfl ?_
    refine R.iconst X20 hx (hb hby d4_32) (v := (0 : Int32)) (by decide) (pc' := 33) rfl ?_
    refine R.bastoreZ X20 hx hZ e20 V_rt (hb2 : ¬ q2 < 0 ∧ q2 < n) (by decide) (hb hby d4_33) (pc' := 34) rfl ?_; intro T21 h21 X21 e21 W21 V21
    have E_a0 := E_a0.wr W21
    have F_scores_a0 := F_scores_a0.other W21 (Or.inl ne_a0_rt)
    have F_retrieved_a0 := F_retrieved_a0.other W21 (Or.inl ne_a0_rt)
    have F_documents_a0 := F_documents_a0.other W21 (Or.inl ne_a0_rt)
    have F_size_a0 := F_size_a0.other W21 (Or.inl ne_a0_rt)
    have V_dc := V_dc.other W21 (Ne.symm ne_rt_dc)
    have V_sc := V_sc.other W21 ne_sc_rt
    have V_rt : Arh Z h21 rt kr .boolean n ((q2, (.int (0 : Int32))) :: (q1, (.int (0 : Int32))) :: (q0, (.int (0 : Int32))) :: hR) [] (.int (0 : Int32)) := V21
    have N21 := Fr.snoc X21 N18 g_rt
    have K21 : Keep h0 h21 [a0, sc, rt] := K18.wr W21 (Or.inl (List.mem_of_getElem? (i := 2) rfl))
    have Z21 : n0 ≤ h21.size := Nat.le_trans Z18 (Keep.of_wr W21).1
    refine R.iinc X21 hx (hb hby d4_34) rfl (L' := #[.val (.ref a0), .val (.int (3 : Int32))]) rfl (pc' := 37) rfl ?_
    refine R.goto X21 hx (hb hby d4_37) (by decide) (pc' := 2) (by decide) ?_
    refine R.iloadN X21 hx (hb hby d4_2) rfl (pc' := 3) rfl ?_
    refine R.aloadN X21 hx (hb hby d4_3) rfl rfl (pc' := 4) rfl ?_
    refine R.getF X21 hx hZ hown (host := "") (Or.inl w_28) Via.refl e21 F_size_a0 (hb hby d4_4) (pc' := 7) rfl ?_; intro T22 X22 e22
    refine R.icmpYes X22 hx (hb hby d4_7) (flt (by decide : ¬ ((3 : Int32) < (3 : Int32)))).2.1 (by decide) (pc' := 40) (by decide) ?_
    refine R.aloadN X22 hx (hb hby d4_40) rfl rfl (pc' := 41) rfl ?_
    refine R.iconst X22 hx (hb hby d4_41) (v := (0 : Int32)) (by decide) (pc' := 42) rfl ?_
    refine R.putF X22 hx hZ hown (host := "") (Or.inl w_28) Via.refl e22 F_size_a0 E_a0 (Or.inl w_29) w_6 (ty := .int) (by decide) rfl rfl (hb hby d4_42) (pc' := 45) rfl ?_; intro T23 h23 X23 e23 W23
    have E_a0 := E_a0.wr W23
    have F_scores_a0 := F_scores_a0.other W23 (Or.inr (slot_ne (Or.inr w_16) (Or.inl w_29) (by decide) (t := (.array .double)) (t' := .int) (by decide) (by decide)))
    have F_retrieved_a0 := F_retrieved_a0.other W23 (Or.inr (slot_ne (Or.inr w_19) (Or.inl w_29) (by decide) (t := (.array .boolean)) (t' := .int) (by decide) (by decide)))
    have F_documents_a0 := F_documents_a0.other W23 (Or.inr (slot_ne (Or.inr w_22) (Or.inl w_29) (by decide) (t := (.array .int)) (t' := .int) (by decide) (by decide)))
    have V_dc := V_dc.other W23 (Ne.symm ne_a0_dc)
    have V_sc := V_sc.other W23 (Ne.symm ne_a0_sc)
    have V_rt := V_rt.other W23 (Ne.symm ne_a0_rt)
    have F_size_a0 : Fld Z h23 a0 "com/example/maat/maat/search/Accumulator" "size" "I" (.int (0 : Int32)) := F_size_a0.same W23
    have N23 := Fr.snoc X23 N21 g_a0
    have K23 : Keep h0 h23 [a0, sc, rt] := K21.wr W23 (Or.inl (List.mem_of_getElem? (i := 0) rfl))
    have Z23 : n0 ≤ h23.size := Nat.le_trans Z21 (Keep.of_wr W23).1
    rw [← hG]
    exact Rn.ret X23 (BodyLoose.notSynchronized Bd) (v := none) (fun _ => rfl) (Q := Qcl3 Z a0 sc ks hS rt kr hR dc kd hD n q0 q1 q2 h0 n0) e23 (fun fs hr => X23.returnOut hx Bd.returns (hb hby d4_45) hr) ⟨rfl, N23, K23, E_a0, F_scores_a0, F_retrieved_a0, F_documents_a0, F_size_a0, V_sc, V_rt⟩ (by decide) (by decide)
  exact (Rn.st (fun t k => castTop (ef_cl3 m a0) k) first_ : Rn p e below (s₁.setTop (entryFrame m #[(.ref a0)] 2)) (Fncl3 Z a0 sc ks hS rt kr hR dc kd hD n q0 q1 q2 h0 n0 s))
theorem pd_0 : parseMethodDescriptor "(I)I" = some ⟨[.int], some .int⟩ := by decide +kernel
abbrev mY0 : MethodName := (⟨"com/example/maat/maat/search/AccumulatorClearPinLaw", "doc", "(I)I"⟩ : MethodName)
theorem pd_1 : parseMethodDescriptor "(I)V" = some ⟨[.int], none⟩ := by decide +kernel
abbrev mY1 : MethodName := (⟨"com/example/maat/maat/search/Accumulator", "<init>", "(I)V"⟩ : MethodName)
theorem pd_2 : parseMethodDescriptor "(ID)V" = some ⟨[.int, .double], none⟩ := by decide +kernel
abbrev mY2 : MethodName := (⟨"com/example/maat/maat/search/Accumulator", "add", "(ID)V"⟩ : MethodName)
theorem pd_3 : parseMethodDescriptor "()I" = some ⟨[], some .int⟩ := by decide +kernel
abbrev mY3 : MethodName := (⟨"com/example/maat/maat/search/Accumulator", "size", "()I"⟩ : MethodName)
abbrev mY4 : MethodName := (⟨"com/example/maat/maat/search/Accumulator", "document", "(I)I"⟩ : MethodName)
theorem pd_4 : parseMethodDescriptor "(I)D" = some ⟨[.int], some .double⟩ := by decide +kernel
abbrev mY5 : MethodName := (⟨"com/example/maat/maat/search/Accumulator", "score", "(I)D"⟩ : MethodName)
theorem pd_5 : parseMethodDescriptor "()V" = some ⟨[], none⟩ := by decide +kernel
abbrev mY6 : MethodName := (⟨"com/example/maat/maat/search/Accumulator", "clear", "()V"⟩ : MethodName)
theorem ef_0 (m : MethodId) (x0 : Int32) (x1 : Int32) (x2 : Int32) (x3 : Int32) (x4 : Int32) : entryFrame m #[(.int x0), (.int x1), (.int x2), (.int x3), (.int x4)] maxLocals = mkF m 0 #[.val (.int x0), .val (.int x1), .val (.int x2), .val (.int x3), .val (.int x4), .unset, .unset, .unset, .unset, .unset, .unset, .unset, .unset, .unset, .unset, .unset, .unset, .unset, .unset, .unset, .unset, .unset, .unset, .unset, .unset] [] := by first | (simp [entryFrame, mkF, argsToLocals, Value.category, maxLocals]; done) | rfl
def Q0 (Z : State) (p0 : Int32) (p1 : Int32) (p2 : Int32) (p3 : Int32) (p4 : Int32) (h0 : Heap) (n0 : Nat) (vQ : Option Value) (hQ_ : Heap) (LQ : List Loc) : Prop := vQ = some (.int 1) ∧ Fr n0 LQ
def Fn0 (Z : State) (p0 : Int32) (p1 : Int32) (p2 : Int32) (p3 : Int32) (p4 : Int32) (h0 : Heap) (n0 : Nat) (sQ : State) (oQ : Outcome) (UQ : State) : Prop := ∃ vQ LQ, oQ = .returned vQ ∧ Q0 Z p0 p1 p2 p3 p4 h0 n0 vQ UQ.heap LQ ∧ FrameEnd sQ oQ UQ LQ room_1.cells room_1.slots
set_option maxRecDepth 65536 in
set_option maxHeartbeats 40000000 in
theorem rm0 (l : Launch) (Z : State) (aZ : Array Value) (hw : ∀ d ∈ tables_1, d.before aZ Z = true) (ws : List Jvm.Cond) (p0 : Int32) (p1 : Int32) (p2 : Int32) (p3 : Int32) (p4 : Int32) (h0 : Heap) (n0 : Nat) (Z0 : n0 ≤ h0.size) :
    MetFree l x (head1 (Jvm.Cond.code x code maxLocals ret :: ws) room_1) (fun aQ UQ => aQ = #[(.int p0), (.int p1), (.int p2), (.int p3), (.int p4)] ∧ Z.Warmed39 UQ.vm ∧ UQ.heap = h0) (fun _ _ _ _ _ => True) (fun _ UQ oQ UR => ∃ vQ LQ, oQ = .returned vQ ∧ Q0 Z p0 p1 p2 p3 p4 h0 n0 vQ UR.heap LQ ∧ FrameEnd UQ oQ UR LQ room_1.cells room_1.slots) := by
  refine MetFree.of_bodySF (plainFor_of_name pn_1) hisR ?_
  intro p e s m args below meth c s₁ Bd hml0 hP hK
  obtain ⟨rfl, hZ, hh⟩ := hP
  have hx := Bd.exec
  have hby := Bd.bytes
  have hml : c.maxLocals = 25 := hml0
  have hown : s.vm.findClass "com/example/maat/maat/search/AccumulatorClearPinLaw" = some m.cls := findClass_of_methodNamed Bd.named
  have hnm := (name_of_methodNamed Bd.named Bd.method).1
  have X0 : Stand p l e room_1 s m #[(.int p0), (.int p1), (.int p2), (.int p3), (.int p4)] below meth c s₁ [] 0 0 := Stand.of_body Bd
  have e0 : s₁.heap = h0 := by rw [← hh, Bd.state]; rfl
  have N0 := Fr.nil n0
  have K0 : Keep h0 h0 [] := Keep.refl _ _
  have w_0 := hw _ (List.mem_of_getElem? (i := 0) rfl)
  have w_1 := hw _ (List.mem_of_getElem? (i := 1) rfl)
  have w_2 := hw _ (List.mem_of_getElem? (i := 2) rfl)
  have w_3 := hw _ (List.mem_of_getElem? (i := 3) rfl)
  have w_4 := hw _ (List.mem_of_getElem? (i := 4) rfl)
  have w_5 := hw _ (List.mem_of_getElem? (i := 5) rfl)
  have w_6 := hw _ (List.mem_of_getElem? (i := 6) rfl)
  have w_7 := hw _ (List.mem_of_getElem? (i := 7) rfl)
  have w_8 := hw _ (List.mem_of_getElem? (i := 8) rfl)
  have w_9 := hw _ (List.mem_of_getElem? (i := 9) rfl)
  have w_10 := hw _ (List.mem_of_getElem? (i := 10) rfl)
  have w_16 := hw _ (List.mem_of_getElem? (i := 16) rfl)
  have w_19 := hw _ (List.mem_of_getElem? (i := 19) rfl)
  have w_22 := hw _ (List.mem_of_getElem? (i := 22) rfl)
  have w_23 := hw _ (List.mem_of_getElem? (i := 23) rfl)
  have w_24 := hw _ (List.mem_of_getElem? (i := 24) rfl)
  have w_25 := hw _ (List.mem_of_getElem? (i := 25) rfl)
  have w_26 := hw _ (List.mem_of_getElem? (i := 26) rfl)
  have w_27 := hw _ (List.mem_of_getElem? (i := 27) rfl)
  have w_29 := hw _ (List.mem_of_getElem? (i := 29) rfl)
  have w_30 := hw _ (List.mem_of_getElem? (i := 30) rfl)
  have w_31 := hw _ (List.mem_of_getElem? (i := 31) rfl)
  have w_32 := hw _ (List.mem_of_getElem? (i := 32) rfl)
  have w_33 := hw _ (List.mem_of_getElem? (i := 33) rfl)
  have w_34 := hw _ (List.mem_of_getElem? (i := 34) rfl)
  have w_35 := hw _ (List.mem_of_getElem? (i := 35) rfl)
  have w_36 := hw _ (List.mem_of_getElem? (i := 36) rfl)
  have w_37 := hw _ (List.mem_of_getElem? (i := 37) rfl)
  have w_38 := hw _ (List.mem_of_getElem? (i := 38) rfl)
  have w_39 := hw _ (List.mem_of_getElem? (i := 39) rfl)
  have w_40 := hw _ (List.mem_of_getElem? (i := 40) rfl)
  have w_41 := hw _ (List.mem_of_getElem? (i := 41) rfl)
  have w_42 := hw _ (List.mem_of_getElem? (i := 42) rfl)
  have w_43 := hw _ (List.mem_of_getElem? (i := 43) rfl)
  have w_44 := hw _ (List.mem_of_getElem? (i := 44) rfl)
  have w_45 := hw _ (List.mem_of_getElem? (i := 45) rfl)
  have w_46 := hw _ (List.mem_of_getElem? (i := 46) rfl)
  have w_47 := hw _ (List.mem_of_getElem? (i := 47) rfl)
  have w_48 := hw _ (List.mem_of_getElem? (i := 48) rfl)
  have w_49 := hw _ (List.mem_of_getElem? (i := 49) rfl)
  have first_ : Rn p e below (s₁.setTop (mkF m 0 #[.val (.int p0), .val (.int p1), .val (.int p2), .val (.int p3), .val (.int p4), .unset, .unset, .unset, .unset, .unset, .unset, .unset, .unset, .unset, .unset, .unset, .unset, .unset, .unset, .unset, .unset, .unset, .unset, .unset, .unset] [])) (Fn0 Z p0 p1 p2 p3 p4 h0 n0 s) := by
    generalize hG : (Fn0 Z p0 p1 p2 p3 p4 h0 n0 s) = G
    refine R.iloadN X0 hx (hb hby at_0) rfl (pc' := 1) rfl ?_
    refine R.iconst X0 hx (hb hby at_1) (v := (3 : Int32)) (by decide) (pc' := 2) rfl ?_
    refine R.iand X0 hx (hb hby at_2) rfl (pc' := 3) rfl ?_
    show Rn p e below (s₁.setTop (mkF m 3 #[.val (.int p0), .val (.int p1), .val (.int p2), .val (.int p3), .val (.int p4), .unset, .unset, .unset, .unset, .unset, .unset, .unset, .unset, .unset, .unset, .unset, .unset, .unset, .unset, .unset, .unset, .unset, .unset, .unset, .unset] [(.int (p0 &&& (3 : Int32)))])) G
    generalize hi1 : (p0 &&& (3 : Int32)) = i1
    refine R.istore X0 hx (hb hby at_3) (L' := #[.val (.int p0), .val (.int p1), .val (.int p2), .val (.int p3), .val (.int p4), .val (.int i1), .unset, .unset, .unset, .unset, .unset, .unset, .unset, .unset, .unset, .unset, .unset, .unset, .unset, .unset, .unset, .unset, .unset, .unset, .unset]) rfl (pc' := 5) rfl ?_
    refine R.iloadN X0 hx (hb hby at_5) rfl (pc' := 6) rfl ?_
    refine R.callS X0 hx hZ (y := mY0) hown w_0 w_1 w_2 w_3 (by decide) e0 (rm1 l Z aZ hw [] p1 h0 n0 Z0 ) (by decide) (W := 0) (Nat.le_of_eq rfl) (by decide) (by rw [hml]; rfl) (lenOf pd_0 rfl) rfl (hb hby at_6) (pc' := 9) rfl (by decide) (by decide) ?_; intro v2 T2 L2 X2 hQ2
    obtain ⟨rfl, N2q, e2⟩ := hQ2
    have N2 := Fr.app N0 N2q
    show Rn p e below (T2.setTop (mkF m 9 #[.val (.int p0), .val (.int p1), .val (.int p2), .val (.int p3), .val (.int p4), .val (.int i1), .unset, .unset, .unset, .unset, .unset, .unset, .unset, .unset, .unset, .unset, .unset, .unset, .unset, .unset, .unset, .unset, .unset, .unset, .unset] [(.int ((p1 &&& (255 : Int32)) % (3 : Int32)))])) G
    generalize hi3 : ((p1 &&& (255 : Int32)) % (3 : Int32)) = i3
    refine R.istore X2 hx (hb hby at_9) (L' := #[.val (.int p0), .val (.int p1), .val (.int p2), .val (.int p3), .val (.int p4), .val (.int i1), .val (.int i3), .unset, .unset, .unset, .unset, .unset, .unset, .unset, .unset, .unset, .unset, .unset, .unset, .unset, .unset, .unset, .unset, .unset, .unset]) rfl (pc' := 11) rfl ?_
    refine R.iloadN X2 hx (hb hby at_11) rfl (pc' := 12) rfl ?_
    refine R.bipush X2 hx (hb hby at_12) (v := (8 : Int32)) (by decide) (pc' := 14) rfl ?_
    refine R.iushr X2 hx (hb hby at_14) (pc' := 15) rfl ?_
    refine R.callS X2 hx hZ (y := mY0) hown w_0 w_1 w_2 w_3 (by decide) e2 (rm1 l Z aZ hw [] ((p1.toUInt32 >>> ((8 : Int32) &&& 31).toUInt32).toInt32) h0 n0 Z0 ) (by decide) (W := 0) (Nat.le_of_eq rfl) (by decide) (by rw [hml]; rfl) (lenOf pd_0 rfl) rfl (hb hby at_15) (pc' := 18) rfl (by decide) (by decide) ?_; intro v4 T4 L4 X4 hQ4
    obtain ⟨rfl, N4q, e4⟩ := hQ4
    have N4 := Fr.app N2 N4q
    show Rn p e below (T4.setTop (mkF m 18 #[.val (.int p0), .val (.int p1), .val (.int p2), .val (.int p3), .val (.int p4), .val (.int i1), .val (.int i3), .unset, .unset, .unset, .unset, .unset, .unset, .unset, .unset, .unset, .unset, .unset, .unset, .unset, .unset, .unset, .unset, .unset, .unset] [(.int ((((p1.toUInt32 >>> ((8 : Int32) &&& 31).toUInt32).toInt32) &&& (255 : Int32)) % (3 : Int32)))])) G
    generalize hi5 : ((((p1.toUInt32 >>> ((8 : Int32) &&& 31).toUInt32).toInt32) &&& (255 : Int32)) % (3 : Int32)) = i5
    refine R.istore X4 hx (hb hby at_18) (L' := #[.val (.int p0), .val (.int p1), .val (.int p2), .val (.int p3), .val (.int p4), .val (.int i1), .val (.int i3), .val (.int i5), .unset, .unset, .unset, .unset, .unset, .unset, .unset, .unset, .unset, .unset, .unset, .unset, .unset, .unset, .unset, .unset, .unset]) rfl (pc' := 20) rfl ?_
    refine R.iloadN X4 hx (hb hby at_20) rfl (pc' := 21) rfl ?_
    refine R.bipush X4 hx (hb hby at_21) (v := (16 : Int32)) (by decide) (pc' := 23) rfl ?_
    refine R.iushr X4 hx (hb hby at_23) (pc' := 24) rfl ?_
    refine R.callS X4 hx hZ (y := mY0) hown w_0 w_1 w_2 w_3 (by decide) e4 (rm1 l Z aZ hw [] ((p1.toUInt32 >>> ((16 : Int32) &&& 31).toUInt32).toInt32) h0 n0 Z0 ) (by decide) (W := 0) (Nat.le_of_eq rfl) (by decide) (by rw [hml]; rfl) (lenOf pd_0 rfl) rfl (hb hby at_24) (pc' := 27) rfl (by decide) (by decide) ?_; intro v6 T6 L6 X6 hQ6
    obtain ⟨rfl, N6q, e6⟩ := hQ6
    have N6 := Fr.app N4 N6q
    show Rn p e below (T6.setTop (mkF m 27 #[.val (.int p0), .val (.int p1), .val (.int p2), .val (.int p3), .val (.int p4), .val (.int i1), .val (.int i3), .val (.int i5), .unset, .unset, .unset, .unset, .unset, .unset, .unset, .unset, .unset, .unset, .unset, .unset, .unset, .unset, .unset, .unset, .unset] [(.int ((((p1.toUInt32 >>> ((16 : Int32) &&& 31).toUInt32).toInt32) &&& (255 : Int32)) % (3 : Int32)))])) G
    generalize hi7 : ((((p1.toUInt32 >>> ((16 : Int32) &&& 31).toUInt32).toInt32) &&& (255 : Int32)) % (3 : Int32)) = i7
    refine R.istore X6 hx (hb hby at_27) (L' := #[.val (.int p0), .val (.int p1), .val (.int p2), .val (.int p3), .val (.int p4), .val (.int i1), .val (.int i3), .val (.int i5), .val (.int i7), .unset, .unset, .unset, .unset, .unset, .unset, .unset, .unset, .unset, .unset, .unset, .unset, .unset, .unset, .unset, .unset]) rfl (pc' := 29) rfl ?_
    have r_6 := own_m hi3
    have r_7 := own_m hi5
    have r_8 := own_m hi7
    refine R.iloadN X6 hx (hb hby at_29) rfl (pc' := 30) rfl ?_
    refine R.bipush X6 hx (hb hby at_30) (v := (15 : Int32)) (by decide) (pc' := 32) rfl ?_
    refine R.iand X6 hx (hb hby at_32) rfl (pc' := 33) rfl ?_
    refine R.iconst X6 hx (hb hby at_33) (v := (1 : Int32)) (by decide) (pc' := 34) rfl ?_
    refine R.iadd X6 hx (hb hby at_34) rfl (pc' := 35) rfl ?_
    refine R.i2d X6 hx (hb hby at_35) (pc' := 36) rfl ?_
    show Rn p e below (T6.setTop (mkF m 36 #[.val (.int p0), .val (.int p1), .val (.int p2), .val (.int p3), .val (.int p4), .val (.int i1), .val (.int i3), .val (.int i5), .val (.int i7), .unset, .unset, .unset, .unset, .unset, .unset, .unset, .unset, .unset, .unset, .unset, .unset, .unset, .unset, .unset, .unset] [(.double (FP.i2d ((p2 &&& (15 : Int32)) + (1 : Int32))))])) G
    generalize hr8 : (FP.i2d ((p2 &&& (15 : Int32)) + (1 : Int32))) = r8
    refine R.dstore X6 hx (hb hby at_36) (L' := #[.val (.int p0), .val (.int p1), .val (.int p2), .val (.int p3), .val (.int p4), .val (.int i1), .val (.int i3), .val (.int i5), .val (.int i7), .val (.double r8), .second, .unset, .unset, .unset, .unset, .unset, .unset, .unset, .unset, .unset, .unset, .unset, .unset, .unset, .unset]) rfl (pc' := 38) rfl ?_
    refine R.iloadN X6 hx (hb hby at_38) rfl (pc' := 39) rfl ?_
    refine R.iconst X6 hx (hb hby at_39) (v := (4 : Int32)) (by decide) (pc' := 40) rfl ?_
    refine R.iushr X6 hx (hb hby at_40) (pc' := 41) rfl ?_
    refine R.bipush X6 hx (hb hby at_41) (v := (15 : Int32)) (by decide) (pc' := 43) rfl ?_
    refine R.iand X6 hx (hb hby at_43) rfl (pc' := 44) rfl ?_
    refine R.iconst X6 hx (hb hby at_44) (v := (1 : Int32)) (by decide) (pc' := 45) rfl ?_
    refine R.iadd X6 hx (hb hby at_45) rfl (pc' := 46) rfl ?_
    refine R.i2d X6 hx (hb hby at_46) (pc' := 47) rfl ?_
    show Rn p e below (T6.setTop (mkF m 47 #[.val (.int p0), .val (.int p1), .val (.int p2), .val (.int p3), .val (.int p4), .val (.int i1), .val (.int i3), .val (.int i5), .val (.int i7), .val (.double r8), .second, .unset, .unset, .unset, .unset, .unset, .unset, .unset, .unset, .unset, .unset, .unset, .unset, .unset, .unset] [(.double (FP.i2d ((((p2.toUInt32 >>> ((4 : Int32) &&& 31).toUInt32).toInt32) &&& (15 : Int32)) + (1 : Int32))))])) G
    generalize hr9 : (FP.i2d ((((p2.toUInt32 >>> ((4 : Int32) &&& 31).toUInt32).toInt32) &&& (15 : Int32)) + (1 : Int32))) = r9
    refine R.dstore X6 hx (hb hby at_47) (L' := #[.val (.int p0), .val (.int p1), .val (.int p2), .val (.int p3), .val (.int p4), .val (.int i1), .val (.int i3), .val (.int i5), .val (.int i7), .val (.double r8), .second, .val (.double r9), .second, .unset, .unset, .unset, .unset, .unset, .unset, .unset, .unset, .unset, .unset, .unset, .unset]) rfl (pc' := 49) rfl ?_
    refine R.iloadN X6 hx (hb hby at_49) rfl (pc' := 50) rfl ?_
    refine R.bipush X6 hx (hb hby at_50) (v := (8 : Int32)) (by decide) (pc' := 52) rfl ?_
    refine R.iushr X6 hx (hb hby at_52) (pc' := 53) rfl ?_
    refine R.bipush X6 hx (hb hby at_53) (v := (15 : Int32)) (by decide) (pc' := 55) rfl ?_
    refine R.iand X6 hx (hb hby at_55) rfl (pc' := 56) rfl ?_
    refine R.iconst X6 hx (hb hby at_56) (v := (1 : Int32)) (by decide) (pc' := 57) rfl ?_
    refine R.iadd X6 hx (hb hby at_57) rfl (pc' := 58) rfl ?_
    refine R.i2d X6 hx (hb hby at_58) (pc' := 59) rfl ?_
    show Rn p e below (T6.setTop (mkF m 59 #[.val (.int p0), .val (.int p1), .val (.int p2), .val (.int p3), .val (.int p4), .val (.int i1), .val (.int i3), .val (.int i5), .val (.int i7), .val (.double r8), .second, .val (.double r9), .second, .unset, .unset, .unset, .unset, .unset, .unset, .unset, .unset, .unset, .unset, .unset, .unset] [(.double (FP.i2d ((((p2.toUInt32 >>> ((8 : Int32) &&& 31).toUInt32).toInt32) &&& (15 : Int32)) + (1 : Int32))))])) G
    generalize hr10 : (FP.i2d ((((p2.toUInt32 >>> ((8 : Int32) &&& 31).toUInt32).toInt32) &&& (15 : Int32)) + (1 : Int32))) = r10
    refine R.dstore X6 hx (hb hby at_59) (L' := #[.val (.int p0), .val (.int p1), .val (.int p2), .val (.int p3), .val (.int p4), .val (.int i1), .val (.int i3), .val (.int i5), .val (.int i7), .val (.double r8), .second, .val (.double r9), .second, .val (.double r10), .second, .unset, .unset, .unset, .unset, .unset, .unset, .unset, .unset, .unset, .unset]) rfl (pc' := 61) rfl ?_
    refine R.iloadN X6 hx (hb hby at_61) rfl (pc' := 62) rfl ?_
    refine R.ldcI X6 hx hZ hown w_4 (hb hby at_62) (pc' := 64) rfl ?_
    refine R.iand X6 hx (hb hby at_64) rfl (pc' := 65) rfl ?_
    refine R.iconst X6 hx (hb hby at_65) (v := (3 : Int32)) (by decide) (pc' := 66) rfl ?_
    refine R.irem X6 hx (hb hby at_66) (by decide : (3 : Int32) ≠ (0 : Int32)) (pc' := 67) rfl ?_
    show Rn p e below (T6.setTop (mkF m 67 #[.val (.int p0), .val (.int p1), .val (.int p2), .val (.int p3), .val (.int p4), .val (.int i1), .val (.int i3), .val (.int i5), .val (.int i7), .val (.double r8), .second, .val (.double r9), .second, .val (.double r10), .second, .unset, .unset, .unset, .unset, .unset, .unset, .unset, .unset, .unset, .unset] [(.int ((p3 &&& (2147483647 : Int32)) % (3 : Int32)))])) G
    generalize hi11 : ((p3 &&& (2147483647 : Int32)) % (3 : Int32)) = i11
    refine R.istore X6 hx (hb hby at_67) (L' := #[.val (.int p0), .val (.int p1), .val (.int p2), .val (.int p3), .val (.int p4), .val (.int i1), .val (.int i3), .val (.int i5), .val (.int i7), .val (.double r8), .second, .val (.double r9), .second, .val (.double r10), .second, .val (.int i11), .unset, .unset, .unset, .unset, .unset, .unset, .unset, .unset, .unset]) rfl (pc' := 69) rfl ?_
    refine R.iload X6 hx (hb hby at_69) rfl (pc' := 71) rfl ?_
    refine R.bipush X6 hx (hb hby at_71) (v := (15 : Int32)) (by decide) (pc' := 73) rfl ?_
    refine R.iand X6 hx (hb hby at_73) rfl (pc' := 74) rfl ?_
    refine R.i2d X6 hx (hb hby at_74) (pc' := 75) rfl ?_
    show Rn p e below (T6.setTop (mkF m 75 #[.val (.int p0), .val (.int p1), .val (.int p2), .val (.int p3), .val (.int p4), .val (.int i1), .val (.int i3), .val (.int i5), .val (.int i7), .val (.double r8), .second, .val (.double r9), .second, .val (.double r10), .second, .val (.int i11), .unset, .unset, .unset, .unset, .unset, .unset, .unset, .unset, .unset] [(.double (FP.i2d (p4 &&& (15 : Int32))))])) G
    generalize hr12 : (FP.i2d (p4 &&& (15 : Int32))) = r12
    refine R.dstore X6 hx (hb hby at_75) (L' := #[.val (.int p0), .val (.int p1), .val (.int p2), .val (.int p3), .val (.int p4), .val (.int i1), .val (.int i3), .val (.int i5), .val (.int i7), .val (.double r8), .second, .val (.double r9), .second, .val (.double r10), .second, .val (.int i11), .val (.double r12), .second, .unset, .unset, .unset, .unset, .unset, .unset, .unset]) rfl (pc' := 77) rfl ?_
    refine R.iload X6 hx (hb hby at_77) rfl (pc' := 79) rfl ?_
    refine R.iconst X6 hx (hb hby at_79) (v := (1 : Int32)) (by decide) (pc' := 80) rfl ?_
    refine R.iadd X6 hx (hb hby at_80) rfl (pc' := 81) rfl ?_
    refine R.iconst X6 hx (hb hby at_81) (v := (3 : Int32)) (by decide) (pc' := 82) rfl ?_
    refine R.irem X6 hx (hb hby at_82) (by decide : (3 : Int32) ≠ (0 : Int32)) (pc' := 83) rfl ?_
    show Rn p e below (T6.setTop (mkF m 83 #[.val (.int p0), .val (.int p1), .val (.int p2), .val (.int p3), .val (.int p4), .val (.int i1), .val (.int i3), .val (.int i5), .val (.int i7), .val (.double r8), .second, .val (.double r9), .second, .val (.double r10), .second, .val (.int i11), .val (.double r12), .second, .unset, .unset, .unset, .unset, .unset, .unset, .unset] [(.int ((i11 + (1 : Int32)) % (3 : Int32)))])) G
    generalize hi13 : ((i11 + (1 : Int32)) % (3 : Int32)) = i13
    refine R.istore X6 hx (hb hby at_83) (L' := #[.val (.int p0), .val (.int p1), .val (.int p2), .val (.int p3), .val (.int p4), .val (.int i1), .val (.int i3), .val (.int i5), .val (.int i7), .val (.double r8), .second, .val (.double r9), .second, .val (.double r10), .second, .val (.int i11), .val (.double r12), .second, .val (.int i13), .unset, .unset, .unset, .unset, .unset, .unset]) rfl (pc' := 85) rfl ?_
    refine R.iload X6 hx (hb hby at_85) rfl (pc' := 87) rfl ?_
    refine R.iconst X6 hx (hb hby at_87) (v := (2 : Int32)) (by decide) (pc' := 88) rfl ?_
    refine R.iadd X6 hx (hb hby at_88) rfl (pc' := 89) rfl ?_
    refine R.iconst X6 hx (hb hby at_89) (v := (3 : Int32)) (by decide) (pc' := 90) rfl ?_
    refine R.irem X6 hx (hb hby at_90) (by decide : (3 : Int32) ≠ (0 : Int32)) (pc' := 91) rfl ?_
    show Rn p e below (T6.setTop (mkF m 91 #[.val (.int p0), .val (.int p1), .val (.int p2), .val (.int p3), .val (.int p4), .val (.int i1), .val (.int i3), .val (.int i5), .val (.int i7), .val (.double r8), .second, .val (.double r9), .second, .val (.double r10), .second, .val (.int i11), .val (.double r12), .second, .val (.int i13), .unset, .unset, .unset, .unset, .unset, .unset] [(.int ((i11 + (2 : Int32)) % (3 : Int32)))])) G
    generalize hi14 : ((i11 + (2 : Int32)) % (3 : Int32)) = i14
    refine R.istore X6 hx (hb hby at_91) (L' := #[.val (.int p0), .val (.int p1), .val (.int p2), .val (.int p3), .val (.int p4), .val (.int i1), .val (.int i3), .val (.int i5), .val (.int i7), .val (.double r8), .second, .val (.double r9), .second, .val (.double r10), .second, .val (.int i11), .val (.double r12), .second, .val (.int i13), .val (.int i14), .unset, .unset, .unset, .unset, .unset]) rfl (pc' := 93) rfl ?_
    obtain ⟨m9, b9, D9⟩ := own_sc hr8
    obtain ⟨m11, b11, D11⟩ := own_sc hr9
    obtain ⟨m13, b13, D13⟩ := own_sc hr10
    obtain ⟨m16, b16, D16⟩ := own_t hr12
    have r_15 := own_e hi11
    have r_18 := own_nxt (d := 1) r_15 (by decide) (by decide) hi13
    have e_i13_i11 : ¬ i13.toInt = i11.toInt := by omega
    have r_19 := own_nxt (d := 2) r_15 (by decide) (by decide) hi14
    have e_i14_i11 : ¬ i14.toInt = i11.toInt := by omega
    have e3 : (3 : Int32).toInt = 3 := by decide
    refine R.newO X6 hx hZ hown w_5 w_6 w_7 e6 (hb hby at_93) (pc' := 96) rfl (by decide) (by decide) ?_; intro T15 h15 b15 g15 X15 e15 E15 A15 D15
    have g_b15 : n0 ≤ b15 := Nat.le_trans Z0 (Nat.le_of_eq g15.symm)
    have sz_b15 : h0.size ≤ b15 := Nat.le_trans K0.1 (Nat.le_of_eq g15.symm)
    have K15 : Keep h0 h15 [] := K0.ext E15
    have Z15 : n0 ≤ h15.size := Nat.le_trans Z0 E15.1
    have E_b15 := A15
    have F_scores_b15 : Fld Z h15 b15 "com/example/maat/maat/search/Accumulator" "scores" "[D" .null := D15 (Or.inr w_16) (ty := (.array .double)) (by decide)
    have F_retrieved_b15 : Fld Z h15 b15 "com/example/maat/maat/search/Accumulator" "retrieved" "[Z" .null := D15 (Or.inr w_19) (ty := (.array .boolean)) (by decide)
    have F_documents_b15 : Fld Z h15 b15 "com/example/maat/maat/search/Accumulator" "documents" "[I" .null := D15 (Or.inr w_22) (ty := (.array .int)) (by decide)
    have F_size_b15 : Fld Z h15 b15 "com/example/maat/maat/search/Accumulator" "size" "I" (.int (0 : Int32)) := D15 (Or.inl w_29) (ty := .int) (by decide)
    refine R.dup X15 hx (hb hby at_96) rfl (pc' := 97) rfl ?_
    refine R.iconst X15 hx (hb hby at_97) (v := (3 : Int32)) (by decide) (pc' := 98) rfl ?_
    refine R.special X15 hx hZ (y := mY1) rfl hown w_8 w_9 w_7 w_10 (by decide) e15 (rm2 l Z aZ hw [] b15 (3 : Int32) h15 n0 Z15 E_b15 F_scores_b15 F_retrieved_b15 F_documents_b15 F_size_b15 g_b15 (by decide) (by decide)) (by decide) (W := 1) (Nat.le_of_eq rfl) (by decide) (by rw [hml]; rfl) (lenOf pd_1 rfl) rfl (hb hby at_98) (pc' := 101) rfl (by decide) (by decide) ?_; intro v16 T16 L16 X16 hQ16
    obtain ⟨sc_16, rt_16, dc_16, ks_16, kr_16, kd_16, rfl, N16q, Kc16, P16_0, P16_1, P16_2, P16_3, P16_4, P16_5, P16_6, P16_7, P16_8, P16_9, P16_10, P16_11, P16_12, P16_13⟩ := hQ16
    have N16 := Fr.app N6 N16q
    generalize e16 : T16.heap = h16 at Kc16 P16_0 P16_1 P16_2 P16_3 P16_4 P16_5 P16_6 P16_7 P16_8 P16_9 P16_10 P16_11 P16_12 P16_13
    have K16 : Keep h0 h16 [] := K15.trans Kc16 ((allS (Or.inr sz_b15) all0))
    have Z16 : n0 ≤ h16.size := Nat.le_trans Z15 Kc16.1
    have ne_b15_sc_16 : b15 ≠ sc_16 := Nat.ne_of_lt (Nat.lt_of_lt_of_le E_b15.lt P16_0)
    have g_sc_16 : n0 ≤ sc_16 := Nat.le_trans Z15 P16_0
    have sz_sc_16 : h0.size ≤ sc_16 := Nat.le_trans K15.1 P16_0
    have ne_b15_rt_16 : b15 ≠ rt_16 := Nat.ne_of_lt (Nat.lt_of_lt_of_le E_b15.lt P16_1)
    have g_rt_16 : n0 ≤ rt_16 := Nat.le_trans Z15 P16_1
    have sz_rt_16 : h0.size ≤ rt_16 := Nat.le_trans K15.1 P16_1
    have ne_b15_dc_16 : b15 ≠ dc_16 := Nat.ne_of_lt (Nat.lt_of_lt_of_le E_b15.lt P16_2)
    have g_dc_16 : n0 ≤ dc_16 := Nat.le_trans Z15 P16_2
    have sz_dc_16 : h0.size ≤ dc_16 := Nat.le_trans K15.1 P16_2
    have f_sc_16 := P16_0
    have f_rt_16 := P16_1
    have f_dc_16 := P16_2
    have ne_sc_16_rt_16 : sc_16 ≠ rt_16 := P16_3
    have ne_sc_16_dc_16 : sc_16 ≠ dc_16 := P16_4
    have ne_rt_16_dc_16 : rt_16 ≠ dc_16 := P16_5
    have E_b15 : Exa Z h16 b15 "com/example/maat/maat/search/Accumulator" := P16_6
    have F_scores_b15 : Fld Z h16 b15 "com/example/maat/maat/search/Accumulator" "scores" "[D" (.ref sc_16) := P16_7
    have F_retrieved_b15 : Fld Z h16 b15 "com/example/maat/maat/search/Accumulator" "retrieved" "[Z" (.ref rt_16) := P16_8
    have F_documents_b15 : Fld Z h16 b15 "com/example/maat/maat/search/Accumulator" "documents" "[I" (.ref dc_16) := P16_9
    have F_size_b15 : Fld Z h16 b15 "com/example/maat/maat/search/Accumulator" "size" "I" (.int (0 : Int32)) := P16_10
    have V_sc_16 : Arh Z h16 sc_16 ks_16 .double (3 : Int32) [] [] (.double (0 : UInt64)) := P16_11
    have V_sc_16 : Arh Z h16 sc_16 ks_16 .double (3 : Int32) [] [] (.double (0 : UInt64)) := V_sc_16
    have V_rt_16 : Arh Z h16 rt_16 kr_16 .boolean (3 : Int32) [] [] (.int (0 : Int32)) := P16_12
    have V_rt_16 : Arh Z h16 rt_16 kr_16 .boolean (3 : Int32) [] [] (.int (0 : Int32)) := V_rt_16
    have V_dc_16 : Arh Z h16 dc_16 kd_16 .int (3 : Int32) [] [] (.int (0 : Int32)) := P16_13
    have V_dc_16 : Arh Z h16 dc_16 kd_16 .int (3 : Int32) [] [] (.int (0 : Int32)) := V_dc_16
    refine R.astore X16 hx (hb hby at_101) rfl (L' := #[.val (.int p0), .val (.int p1), .val (.int p2), .val (.int p3), .val (.int p4), .val (.int i1), .val (.int i3), .val (.int i5), .val (.int i7), .val (.double r8), .second, .val (.double r9), .second, .val (.double r10), .second, .val (.int i11), .val (.double r12), .second, .val (.int i13), .val (.int i14), .val (.ref b15), .unset, .unset, .unset, .unset]) rfl (pc' := 103) rfl ?_
    have J153 : ∀ (TJ153 : State) (hJ153 : Heap) (lJ153 : List Loc) (XJ153 : Stand p l e room_1 s m #[(.int p0), (.int p1), (.int p2), (.int p3), (.int p4)] below meth c TJ153 lJ153 4 13) (eJ153 : TJ153.heap = hJ153) (NJ153 : Fr n0 lJ153) (KJ153 : Keep h0 hJ153 []) (ZJ153 : n0 ≤ hJ153.size) (hD : List (Int32 × Value)) (E_b15 : Exa Z hJ153 b15 "com/example/maat/maat/search/Accumulator") (F_scores_b15 : Fld Z hJ153 b15 "com/example/maat/maat/search/Accumulator" "scores" "[D" (.ref sc_16)) (F_retrieved_b15 : Fld Z hJ153 b15 "com/example/maat/maat/search/Accumulator" "retrieved" "[Z" (.ref rt_16)) (F_documents_b15 : Fld Z hJ153 b15 "com/example/maat/maat/search/Accumulator" "documents" "[I" (.ref dc_16)) (F_size_b15 : Fld Z hJ153 b15 "com/example/maat/maat/search/Accumulator" "size" "I" (.int (0 : Int32))) (V_sc_16 : Arh Z hJ153 sc_16 ks_16 .double (3 : Int32) [] [] (.double (0 : UInt64))) (V_rt_16 : Arh Z hJ153 rt_16 kr_16 .boolean (3 : Int32) [] [] (.int (0 : Int32))) (V_dc_16 : Arh Z hJ153 dc_16 kd_16 .int (3 : Int32) hD [] (.int (0 : Int32))), Rn p e below (TJ153.setTop (mkF m 153 #[.val (.int p0), .val (.int p1), .val (.int p2), .val (.int p3), .val (.int p4), .val (.int i1), .val (.int i3), .val (.int i5), .val (.int i7), .val (.double r8), .second, .val (.double r9), .second, .val (.double r10), .second, .val (.int i11), .val (.double r12), .second, .val (.int i13), .val (.int i14), .val (.ref b15), .unset, .unset, .unset, .unset] [])) G := by
      intro TJ153 hJ153 lJ153 XJ153 eJ153 NJ153 KJ153 ZJ153 hD E_b15 F_scores_b15 F_retrieved_b15 F_documents_b15 F_size_b15 V_sc_16 V_rt_16 V_dc_16
      refine R.aload XJ153 hx (hb hby at_153) rfl rfl (pc' := 155) rfl ?_
      refine R.iload XJ153 hx (hb hby at_155) rfl (pc' := 157) rfl ?_
      refine R.dload XJ153 hx (hb hby at_157) rfl (pc' := 159) rfl ?_
      refine R.virtual XJ153 hx hZ (y := mY2) (z := mY2) hown w_30 w_31 (notFace_of_selects (args := #[]) (mvT hZ w_33)) w_33 w_32 w_7 w_34 (by decide) eJ153 E_b15 (rmnew l Z aZ hw [] b15 i11 r12 sc_16 ks_16 [] rt_16 kr_16 [] dc_16 kd_16 hD (3 : Int32) (0 : UInt64) (0 : Int32) hJ153 n0 ZJ153 E_b15 F_scores_b15 F_retrieved_b15 F_documents_b15 F_size_b15 g_b15 V_sc_16 V_rt_16 V_dc_16 g_sc_16 g_rt_16 g_dc_16 ne_b15_sc_16 ne_b15_rt_16 ne_b15_dc_16 ne_sc_16_rt_16 ne_sc_16_dc_16 ne_rt_16_dc_16 (own_getH_nil _ _) (own_getH_nil _ _) ((Dy.add own_zero D16 (by omega) (by decide)).nn) ((own_bd (show 0 ≤ i11.toInt ∧ i11.toInt < (3 : Int32).toInt by omega) : ¬ i11 < 0 ∧ i11 < (3 : Int32))) ((⟨by decide, by decide⟩ : ¬ (0 : Int32) < 0 ∧ (0 : Int32) < (3 : Int32)))) (by decide) (W := 0) (Nat.le_of_eq rfl) (by decide) (by rw [hml]; rfl) (lenOf pd_2 rfl) rfl (hb hby at_159) (pc' := 162) rfl (by decide) (by decide) ?_; intro v17 T17 L17 X17 hQ17
      obtain ⟨rfl, N17q, Kc17, P17_0, P17_1, P17_2, P17_3, P17_4, P17_5, P17_6, P17_7⟩ := hQ17
      have N17 := Fr.app NJ153 N17q
      generalize e17 : T17.heap = h17 at Kc17 P17_0 P17_1 P17_2 P17_3 P17_4 P17_5 P17_6 P17_7
      have K17 : Keep h0 h17 [] := KJ153.trans Kc17 ((allS (Or.inr sz_b15) (allS (Or.inr sz_sc_16) (allS (Or.inr sz_rt_16) (allS (Or.inr sz_dc_16) all0)))))
      have Z17 : n0 ≤ h17.size := Nat.le_trans ZJ153 Kc17.1
      have E_b15 : Exa Z h17 b15 "com/example/maat/maat/search/Accumulator" := P17_0
      have F_scores_b15 : Fld Z h17 b15 "com/example/maat/maat/search/Accumulator" "scores" "[D" (.ref sc_16) := P17_1
      have F_retrieved_b15 : Fld Z h17 b15 "com/example/maat/maat/search/Accumulator" "retrieved" "[Z" (.ref rt_16) := P17_2
      have F_documents_b15 : Fld Z h17 b15 "com/example/maat/maat/search/Accumulator" "documents" "[I" (.ref dc_16) := P17_3
      have F_size_b15 : Fld Z h17 b15 "com/example/maat/maat/search/Accumulator" "size" "I" (.int (1 : Int32)) := P17_4
      have V_sc_16 : Arh Z h17 sc_16 ks_16 .double (3 : Int32) ((i11, (.double (FP.dadd (0 : UInt64) r12))) :: []) [] (.double (0 : UInt64)) := P17_5
      have V_sc_16 : Arh Z h17 sc_16 ks_16 .double (3 : Int32) [(i11, (.double (FP.dadd (0 : UInt64) r12)))] [] (.double (0 : UInt64)) := V_sc_16
      have V_rt_16 : Arh Z h17 rt_16 kr_16 .boolean (3 : Int32) ((i11, (.int (1 : Int32))) :: []) [] (.int (0 : Int32)) := P17_6
      have V_rt_16 : Arh Z h17 rt_16 kr_16 .boolean (3 : Int32) [(i11, (.int (1 : Int32)))] [] (.int (0 : Int32)) := V_rt_16
      have V_dc_16 : Arh Z h17 dc_16 kd_16 .int (3 : Int32) (((0 : Int32), (.int i11)) :: hD) [] (.int (0 : Int32)) := P17_7
      have V_dc_16 : Arh Z h17 dc_16 kd_16 .int (3 : Int32) (((0 : Int32), (.int i11)) :: hD) [] (.int (0 : Int32)) := V_dc_16
      refine R.aload X17 hx (hb hby at_162) rfl rfl (pc' := 164) rfl ?_
      refine R.virtual X17 hx hZ (y := mY3) (z := mY3) hown w_35 w_36 (notFace_of_selects (args := #[]) (mvT hZ w_38)) w_38 w_37 w_7 w_39 (by decide) e17 E_b15 (rm6 l Z aZ hw [] b15 (1 : Int32) h17 n0 Z17 F_size_b15) (by decide) (W := 0) (Nat.le_of_eq rfl) (by decide) (by rw [hml]; rfl) (lenOf pd_3 rfl) rfl (hb hby at_164) (pc' := 167) rfl (by decide) (by decide) ?_; intro v18 T18 L18 X18 hQ18
      obtain ⟨rfl, N18q, e18⟩ := hQ18
      have N18 := Fr.app N17 N18q
      refine R.iconst X18 hx (hb hby at_167) (v := (1 : Int32)) (by decide) (pc' := 168) rfl ?_
      refine R.icmpNo X18 hx (hb hby at_168) (teq (by decide : (1 : Int32) = (1 : Int32))).2 (pc' := 171) rfl ?_
      refine R.iconst X18 hx (hb hby at_171) (v := (1 : Int32)) (by decide) (pc' := 172) rfl ?_
      refine R.goto X18 hx (hb hby at_172) (by decide) (pc' := 176) (by decide) ?_
      refine R.istore X18 hx (hb hby at_176) (L' := #[.val (.int p0), .val (.int p1), .val (.int p2), .val (.int p3), .val (.int p4), .val (.int i1), .val (.int i3), .val (.int i5), .val (.int i7), .val (.double r8), .second, .val (.double r9), .second, .val (.double r10), .second, .val (.int i11), .val (.double r12), .second, .val (.int i13), .val (.int i14), .val (.ref b15), .val (.int (1 : Int32)), .unset, .unset, .unset]) rfl (pc' := 178) rfl ?_
      refine R.iload X18 hx (hb hby at_178) rfl (pc' := 180) rfl ?_
      refine R.ifNo X18 hx (hb hby at_180) (feq (by decide : ¬ ((1 : Int32) = (0 : Int32)))).1 (pc' := 183) rfl ?_
      refine R.aload X18 hx (hb hby at_183) rfl rfl (pc' := 185) rfl ?_
      refine R.iconst X18 hx (hb hby at_185) (v := (0 : Int32)) (by decide) (pc' := 186) rfl ?_
      refine R.virtual X18 hx hZ (y := mY4) (z := mY4) hown w_40 w_41 (notFace_of_selects (args := #[]) (mvT hZ w_43)) w_43 w_42 w_7 w_44 (by decide) e18 E_b15 (rm7 l Z aZ hw [] b15 (0 : Int32) dc_16 kd_16 (((0 : Int32), (.int i11)) :: hD) (3 : Int32) i11 h17 n0 Z17 F_documents_b15 V_dc_16 (getH_hit ((⟨by decide, by decide⟩ : ¬ (0 : Int32) < 0 ∧ (0 : Int32) < (3 : Int32))).1 (rfl)) ((⟨by decide, by decide⟩ : ¬ (0 : Int32) < 0 ∧ (0 : Int32) < (3 : Int32)))) (by decide) (W := 0) (Nat.le_of_eq rfl) (by decide) (by rw [hml]; rfl) (lenOf pd_0 rfl) rfl (hb hby at_186) (pc' := 189) rfl (by decide) (by decide) ?_; intro v19 T19 L19 X19 hQ19
      obtain ⟨rfl, N19q, e19⟩ := hQ19
      have N19 := Fr.app N18 N19q
      refine R.iload X19 hx (hb hby at_189) rfl (pc' := 191) rfl ?_
      refine R.icmpNo X19 hx (hb hby at_191) (teq (rfl : i11 = i11)).2 (pc' := 194) rfl ?_
      refine R.iconst X19 hx (hb hby at_194) (v := (1 : Int32)) (by decide) (pc' := 195) rfl ?_
      refine R.goto X19 hx (hb hby at_195) (by decide) (pc' := 199) (by decide) ?_
      refine R.istore X19 hx (hb hby at_199) (L' := #[.val (.int p0), .val (.int p1), .val (.int p2), .val (.int p3), .val (.int p4), .val (.int i1), .val (.int i3), .val (.int i5), .val (.int i7), .val (.double r8), .second, .val (.double r9), .second, .val (.double r10), .second, .val (.int i11), .val (.double r12), .second, .val (.int i13), .val (.int i14), .val (.ref b15), .val (.int (1 : Int32)), .val (.int (1 : Int32)), .unset, .unset]) rfl (pc' := 201) rfl ?_
      refine R.aload X19 hx (hb hby at_201) rfl rfl (pc' := 203) rfl ?_
      refine R.iload X19 hx (hb hby at_203) rfl (pc' := 205) rfl ?_
      refine R.virtual X19 hx hZ (y := mY5) (z := mY5) hown w_45 w_46 (notFace_of_selects (args := #[]) (mvT hZ w_48)) w_48 w_47 w_7 w_49 (by decide) e19 E_b15 (rm8 l Z aZ hw [] b15 i11 sc_16 ks_16 [(i11, (.double (FP.dadd (0 : UInt64) r12)))] (3 : Int32) (FP.dadd (0 : UInt64) r12) h17 n0 Z17 F_scores_b15 V_sc_16 (getH_hit ((own_bd (show 0 ≤ i11.toInt ∧ i11.toInt < (3 : Int32).toInt by omega) : ¬ i11 < 0 ∧ i11 < (3 : Int32))).1 (rfl)) ((own_bd (show 0 ≤ i11.toInt ∧ i11.toInt < (3 : Int32).toInt by omega) : ¬ i11 < 0 ∧ i11 < (3 : Int32)))) (by decide) (W := 0) (Nat.le_of_eq rfl) (by decide) (by rw [hml]; rfl) (lenOf pd_4 rfl) rfl (hb hby at_205) (pc' := 208) rfl (by decide) (by decide) ?_; intro v20 T20 L20 X20 hQ20
      obtain ⟨rfl, N20q, e20⟩ := hQ20
      have N20 := Fr.app N19 N20q
      refine R.dload X20 hx (hb hby at_208) rfl (pc' := 210) rfl ?_
      refine R.dcmp X20 hx (hb hby at_210) (Dy.cmp (Dy.add own_zero D16 (by omega) (by decide)) D16 _ : cmpValue (FP.dcmp (FP.dadd (0 : UInt64) r12) r12) .l = (own_ci (0 + m16) m16)) (pc' := 211) rfl ?_
      refine R.ifNo X20 hx (hb hby at_211) (teq (own_ci_eq.mpr (by omega) : (own_ci (0 + m16) m16) = (0 : Int32))).2 (pc' := 214) rfl ?_
      refine R.iconst X20 hx (hb hby at_214) (v := (1 : Int32)) (by decide) (pc' := 215) rfl ?_
      refine R.goto X20 hx (hb hby at_215) (by decide) (pc' := 219) (by decide) ?_
      refine R.istore X20 hx (hb hby at_219) (L' := #[.val (.int p0), .val (.int p1), .val (.int p2), .val (.int p3), .val (.int p4), .val (.int i1), .val (.int i3), .val (.int i5), .val (.int i7), .val (.double r8), .second, .val (.double r9), .second, .val (.double r10), .second, .val (.int i11), .val (.double r12), .second, .val (.int i13), .val (.int i14), .val (.ref b15), .val (.int (1 : Int32)), .val (.int (1 : Int32)), .val (.int (1 : Int32)), .unset]) rfl (pc' := 221) rfl ?_
      refine R.aload X20 hx (hb hby at_221) rfl rfl (pc' := 223) rfl ?_
      refine R.iload X20 hx (hb hby at_223) rfl (pc' := 225) rfl ?_
      refine R.virtual X20 hx hZ (y := mY5) (z := mY5) hown w_45 w_46 (notFace_of_selects (args := #[]) (mvT hZ w_48)) w_48 w_47 w_7 w_49 (by decide) e20 E_b15 (rm8 l Z aZ hw [] b15 i13 sc_16 ks_16 [(i11, (.double (FP.dadd (0 : UInt64) r12)))] (3 : Int32) (0 : UInt64) h17 n0 Z17 F_scores_b15 V_sc_16 (getH_miss ((own_bd (show 0 ≤ i13.toInt ∧ i13.toInt < (3 : Int32).toInt by omega) : ¬ i13 < 0 ∧ i13 < (3 : Int32))).1 (own_neI (by omega)) (own_getH_nil _ _)) ((own_bd (show 0 ≤ i13.toInt ∧ i13.toInt < (3 : Int32).toInt by omega) : ¬ i13 < 0 ∧ i13 < (3 : Int32)))) (by decide) (W := 0) (Nat.le_of_eq rfl) (by decide) (by rw [hml]; rfl) (lenOf pd_4 rfl) rfl (hb hby at_225) (pc' := 228) rfl (by decide) (by decide) ?_; intro v21 T21 L21 X21 hQ21
      obtain ⟨rfl, N21q, e21⟩ := hQ21
      have N21 := Fr.app N20 N21q
      refine R.dconst0 X21 hx (hb hby at_228) (pc' := 229) rfl ?_
      refine R.dcmp X21 hx (hb hby at_229) (Dy.cmp own_zero own_zero' _ : cmpValue (FP.dcmp (0 : UInt64) FP.dconst0) .l = (own_ci 0 0)) (pc' := 230) rfl ?_
      refine R.ifNo X21 hx (hb hby at_230) (teq (own_ci_eq.mpr (by omega) : (own_ci 0 0) = (0 : Int32))).2 (pc' := 233) rfl ?_
      refine R.aload X21 hx (hb hby at_233) rfl rfl (pc' := 235) rfl ?_
      refine R.iload X21 hx (hb hby at_235) rfl (pc' := 237) rfl ?_
      refine R.virtual X21 hx hZ (y := mY5) (z := mY5) hown w_45 w_46 (notFace_of_selects (args := #[]) (mvT hZ w_48)) w_48 w_47 w_7 w_49 (by decide) e21 E_b15 (rm8 l Z aZ hw [] b15 i14 sc_16 ks_16 [(i11, (.double (FP.dadd (0 : UInt64) r12)))] (3 : Int32) (0 : UInt64) h17 n0 Z17 F_scores_b15 V_sc_16 (getH_miss ((own_bd (show 0 ≤ i14.toInt ∧ i14.toInt < (3 : Int32).toInt by omega) : ¬ i14 < 0 ∧ i14 < (3 : Int32))).1 (own_neI (by omega)) (own_getH_nil _ _)) ((own_bd (show 0 ≤ i14.toInt ∧ i14.toInt < (3 : Int32).toInt by omega) : ¬ i14 < 0 ∧ i14 < (3 : Int32)))) (by decide) (W := 0) (Nat.le_of_eq rfl) (by decide) (by rw [hml]; rfl) (lenOf pd_4 rfl) rfl (hb hby at_237) (pc' := 240) rfl (by decide) (by decide) ?_; intro v22 T22 L22 X22 hQ22
      obtain ⟨rfl, N22q, e22⟩ := hQ22
      have N22 := Fr.app N21 N22q
      refine R.dconst0 X22 hx (hb hby at_240) (pc' := 241) rfl ?_
      refine R.dcmp X22 hx (hb hby at_241) (Dy.cmp own_zero own_zero' _ : cmpValue (FP.dcmp (0 : UInt64) FP.dconst0) .l = (own_ci 0 0)) (pc' := 242) rfl ?_
      refine R.ifNo X22 hx (hb hby at_242) (teq (own_ci_eq.mpr (by omega) : (own_ci 0 0) = (0 : Int32))).2 (pc' := 245) rfl ?_
      refine R.iconst X22 hx (hb hby at_245) (v := (1 : Int32)) (by decide) (pc' := 246) rfl ?_
      refine R.goto X22 hx (hb hby at_246) (by decide) (pc' := 250) (by decide) ?_
      refine R.istore X22 hx (hb hby at_250) (L' := #[.val (.int p0), .val (.int p1), .val (.int p2), .val (.int p3), .val (.int p4), .val (.int i1), .val (.int i3), .val (.int i5), .val (.int i7), .val (.double r8), .second, .val (.double r9), .second, .val (.double r10), .second, .val (.int i11), .val (.double r12), .second, .val (.int i13), .val (.int i14), .val (.ref b15), .val (.int (1 : Int32)), .val (.int (1 : Int32)), .val (.int (1 : Int32)), .val (.int (1 : Int32))]) rfl (pc' := 252) rfl ?_
      refine R.iload X22 hx (hb hby at_252) rfl (pc' := 254) rfl ?_
      refine R.ifNo X22 hx (hb hby at_254) (feq (by decide : ¬ ((1 : Int32) = (0 : Int32)))).1 (pc' := 257) rfl ?_
      refine R.iload X22 hx (hb hby at_257) rfl (pc' := 259) rfl ?_
      refine R.ifNo X22 hx (hb hby at_259) (feq (by decide : ¬ ((1 : Int32) = (0 : Int32)))).1 (pc' := 262) rfl ?_
      refine R.iload X22 hx (hb hby at_262) rfl (pc' := 264) rfl ?_
      refine R.ifNo X22 hx (hb hby at_264) (feq (by decide : ¬ ((1 : Int32) = (0 : Int32)))).1 (pc' := 267) rfl ?_
      refine R.iload X22 hx (hb hby at_267) rfl (pc' := 269) rfl ?_
      refine R.ifNo X22 hx (hb hby at_269) (feq (by decide : ¬ ((1 : Int32) = (0 : Int32)))).1 (pc' := 272) rfl ?_
      refine R.iconst X22 hx (hb hby at_272) (v := (1 : Int32)) (by decide) (pc' := 273) rfl ?_
      refine R.goto X22 hx (hb hby at_273) (by decide) (pc' := 277) (by decide) ?_
      rw [← hG]
      exact Rn.ret X22 (BodyLoose.notSynchronized Bd) (v := some (.int (1 : Int32))) (fun h => by rw [Bd.returns] at h; cases h) (Q := Q0 Z p0 p1 p2 p3 p4 h0 n0) e22 (fun fs hr => retN X22 hx (t := .boolean) Bd.returns (by simp) (hb hby at_277) hr) ⟨rfl, N22⟩ (by decide) (by decide)
    refine R.iload X16 hx (hb hby at_103) rfl (pc' := 105) rfl ?_
    refine R.iconst X16 hx (hb hby at_105) (v := (1 : Int32)) (by decide) (pc' := 106) rfl ?_
    by_cases hc106 : i1 < (1 : Int32)
    · refine R.icmpYes X16 hx (hb hby at_106) (tlt hc106).1 (by decide) (pc' := 118) (by decide) ?_
      refine R.iload X16 hx (hb hby at_118) rfl (pc' := 120) rfl ?_
      refine R.iconst X16 hx (hb hby at_120) (v := (2 : Int32)) (by decide) (pc' := 121) rfl ?_
      refine R.icmpYes X16 hx (hb hby at_121) (tlt (own_lt_tr hc106 (by decide) : i1 < (2 : Int32))).1 (by decide) (pc' := 133) (by decide) ?_
      refine R.iload X16 hx (hb hby at_133) rfl (pc' := 135) rfl ?_
      refine R.iconst X16 hx (hb hby at_135) (v := (3 : Int32)) (by decide) (pc' := 136) rfl ?_
      refine R.icmpYes X16 hx (hb hby at_136) (tlt (own_lt_tr hc106 (by decide) : i1 < (3 : Int32))).1 (by decide) (pc' := 148) (by decide) ?_
      refine R.aload X16 hx (hb hby at_148) rfl rfl (pc' := 150) rfl ?_
      refine R.virtual X16 hx hZ (y := mY6) (z := mY6) hown w_23 w_24 (notFace_of_selects (args := #[]) (mvT hZ w_26)) w_26 w_25 w_7 w_27 (by decide) e16 E_b15 (rmcl0 l Z aZ hw [] b15 sc_16 ks_16 [] rt_16 kr_16 [] dc_16 kd_16 [] (3 : Int32) h16 n0 Z16 E_b15 F_scores_b15 F_retrieved_b15 F_documents_b15 F_size_b15 g_b15 V_sc_16 V_rt_16 V_dc_16 g_sc_16 g_rt_16 ne_b15_sc_16 ne_b15_rt_16 ne_b15_dc_16 ne_sc_16_rt_16 ne_sc_16_dc_16 ne_rt_16_dc_16) (by decide) (W := 0) (Nat.le_of_eq rfl) (by decide) (by rw [hml]; rfl) (lenOf pd_5 rfl) rfl (hb hby at_150) (pc' := 153) rfl (by decide) (by decide) ?_; intro v23 T23 L23 X23 hQ23
      obtain ⟨rfl, N23q, Kc23, P23_0, P23_1, P23_2, P23_3, P23_4, P23_5, P23_6⟩ := hQ23
      have N23 := Fr.app N16 N23q
      generalize e23 : T23.heap = h23 at Kc23 P23_0 P23_1 P23_2 P23_3 P23_4 P23_5 P23_6
      have K23 : Keep h0 h23 [] := K16.trans Kc23 ((allS (Or.inr sz_b15) (allS (Or.inr sz_sc_16) (allS (Or.inr sz_rt_16) all0))))
      have Z23 : n0 ≤ h23.size := Nat.le_trans Z16 Kc23.1
      have V_dc_16 := V_dc_16.keep Kc23 (ninS (Ne.symm ne_b15_dc_16) (ninS (Ne.symm ne_sc_16_dc_16) (ninS (Ne.symm ne_rt_16_dc_16) nin0)))
      have E_b15 : Exa Z h23 b15 "com/example/maat/maat/search/Accumulator" := P23_0
      have F_scores_b15 : Fld Z h23 b15 "com/example/maat/maat/search/Accumulator" "scores" "[D" (.ref sc_16) := P23_1
      have F_retrieved_b15 : Fld Z h23 b15 "com/example/maat/maat/search/Accumulator" "retrieved" "[Z" (.ref rt_16) := P23_2
      have F_documents_b15 : Fld Z h23 b15 "com/example/maat/maat/search/Accumulator" "documents" "[I" (.ref dc_16) := P23_3
      have F_size_b15 : Fld Z h23 b15 "com/example/maat/maat/search/Accumulator" "size" "I" (.int (0 : Int32)) := P23_4
      have V_sc_16 : Arh Z h23 sc_16 ks_16 .double (3 : Int32) [] [] (.double (0 : UInt64)) := P23_5
      have V_sc_16 : Arh Z h23 sc_16 ks_16 .double (3 : Int32) [] [] (.double (0 : UInt64)) := V_sc_16
      have V_rt_16 : Arh Z h23 rt_16 kr_16 .boolean (3 : Int32) [] [] (.int (0 : Int32)) := P23_6
      have V_rt_16 : Arh Z h23 rt_16 kr_16 .boolean (3 : Int32) [] [] (.int (0 : Int32)) := V_rt_16
      have V_sc_16 : Arh Z h23 sc_16 ks_16 .double (3 : Int32) [] [] (.double (0 : UInt64)) := own_clean V_sc_16 (fun i => own_getH_nil _ _)
      have V_rt_16 : Arh Z h23 rt_16 kr_16 .boolean (3 : Int32) [] [] (.int (0 : Int32)) := own_clean V_rt_16 (fun i => own_getH_nil _ _)
      exact J153 _ _ _ X23 e23 N23 K23 Z23 _ E_b15 F_scores_b15 F_retrieved_b15 F_documents_b15 F_size_b15 V_sc_16 V_rt_16 V_dc_16
    · refine R.icmpNo X16 hx (hb hby at_106) (flt hc106).1 (pc' := 109) rfl ?_
      refine R.aload X16 hx (hb hby at_109) rfl rfl (pc' := 111) rfl ?_
      refine R.iload X16 hx (hb hby at_111) rfl (pc' := 113) rfl ?_
      refine R.dload X16 hx (hb hby at_113) rfl (pc' := 115) rfl ?_
      refine R.virtual X16 hx hZ (y := mY2) (z := mY2) hown w_30 w_31 (notFace_of_selects (args := #[]) (mvT hZ w_33)) w_33 w_32 w_7 w_34 (by decide) e16 E_b15 (rmnew l Z aZ hw [] b15 i3 r8 sc_16 ks_16 [] rt_16 kr_16 [] dc_16 kd_16 [] (3 : Int32) (0 : UInt64) (0 : Int32) h16 n0 Z16 E_b15 F_scores_b15 F_retrieved_b15 F_documents_b15 F_size_b15 g_b15 V_sc_16 V_rt_16 V_dc_16 g_sc_16 g_rt_16 g_dc_16 ne_b15_sc_16 ne_b15_rt_16 ne_b15_dc_16 ne_sc_16_rt_16 ne_sc_16_dc_16 ne_rt_16_dc_16 (own_getH_nil _ _) (own_getH_nil _ _) ((Dy.add own_zero D9 (by omega) (by decide)).nn) ((own_bd (show 0 ≤ i3.toInt ∧ i3.toInt < (3 : Int32).toInt by omega) : ¬ i3 < 0 ∧ i3 < (3 : Int32))) ((⟨by decide, by decide⟩ : ¬ (0 : Int32) < 0 ∧ (0 : Int32) < (3 : Int32)))) (by decide) (W := 0) (Nat.le_of_eq rfl) (by decide) (by rw [hml]; rfl) (lenOf pd_2 rfl) rfl (hb hby at_115) (pc' := 118) rfl (by decide) (by decide) ?_; intro v24 T24 L24 X24 hQ24
      obtain ⟨rfl, N24q, Kc24, P24_0, P24_1, P24_2, P24_3, P24_4, P24_5, P24_6, P24_7⟩ := hQ24
      have N24 := Fr.app N16 N24q
      generalize e24 : T24.heap = h24 at Kc24 P24_0 P24_1 P24_2 P24_3 P24_4 P24_5 P24_6 P24_7
      have K24 : Keep h0 h24 [] := K16.trans Kc24 ((allS (Or.inr sz_b15) (allS (Or.inr sz_sc_16) (allS (Or.inr sz_rt_16) (allS (Or.inr sz_dc_16) all0)))))
      have Z24 : n0 ≤ h24.size := Nat.le_trans Z16 Kc24.1
      have E_b15 : Exa Z h24 b15 "com/example/maat/maat/search/Accumulator" := P24_0
      have F_scores_b15 : Fld Z h24 b15 "com/example/maat/maat/search/Accumulator" "scores" "[D" (.ref sc_16) := P24_1
      have F_retrieved_b15 : Fld Z h24 b15 "com/example/maat/maat/search/Accumulator" "retrieved" "[Z" (.ref rt_16) := P24_2
      have F_documents_b15 : Fld Z h24 b15 "com/example/maat/maat/search/Accumulator" "documents" "[I" (.ref dc_16) := P24_3
      have F_size_b15 : Fld Z h24 b15 "com/example/maat/maat/search/Accumulator" "size" "I" (.int (1 : Int32)) := P24_4
      have V_sc_16 : Arh Z h24 sc_16 ks_16 .double (3 : Int32) ((i3, (.double (FP.dadd (0 : UInt64) r8))) :: []) [] (.double (0 : UInt64)) := P24_5
      have V_sc_16 : Arh Z h24 sc_16 ks_16 .double (3 : Int32) [(i3, (.double (FP.dadd (0 : UInt64) r8)))] [] (.double (0 : UInt64)) := V_sc_16
      have V_rt_16 : Arh Z h24 rt_16 kr_16 .boolean (3 : Int32) ((i3, (.int (1 : Int32))) :: []) [] (.int (0 : Int32)) := P24_6
      have V_rt_16 : Arh Z h24 rt_16 kr_16 .boolean (3 : Int32) [(i3, (.int (1 : Int32)))] [] (.int (0 : Int32)) := V_rt_16
      have V_dc_16 : Arh Z h24 dc_16 kd_16 .int (3 : Int32) (((0 : Int32), (.int i3)) :: []) [] (.int (0 : Int32)) := P24_7
      have V_dc_16 : Arh Z h24 dc_16 kd_16 .int (3 : Int32) [((0 : Int32), (.int i3))] [] (.int (0 : Int32)) := V_dc_16
      refine R.iload X24 hx (hb hby at_118) rfl (pc' := 120) rfl ?_
      refine R.iconst X24 hx (hb hby at_120) (v := (2 : Int32)) (by decide) (pc' := 121) rfl ?_
      by_cases hc121 : i1 < (2 : Int32)
      · refine R.icmpYes X24 hx (hb hby at_121) (tlt hc121).1 (by decide) (pc' := 133) (by decide) ?_
        refine R.iload X24 hx (hb hby at_133) rfl (pc' := 135) rfl ?_
        refine R.iconst X24 hx (hb hby at_135) (v := (3 : Int32)) (by decide) (pc' := 136) rfl ?_
        refine R.icmpYes X24 hx (hb hby at_136) (tlt (own_lt_tr hc121 (by decide) : i1 < (3 : Int32))).1 (by decide) (pc' := 148) (by decide) ?_
        refine R.aload X24 hx (hb hby at_148) rfl rfl (pc' := 150) rfl ?_
        refine R.virtual X24 hx hZ (y := mY6) (z := mY6) hown w_23 w_24 (notFace_of_selects (args := #[]) (mvT hZ w_26)) w_26 w_25 w_7 w_27 (by decide) e24 E_b15 (rmcl1 l Z aZ hw [] b15 sc_16 ks_16 [(i3, (.double (FP.dadd (0 : UInt64) r8)))] rt_16 kr_16 [(i3, (.int (1 : Int32)))] dc_16 kd_16 [((0 : Int32), (.int i3))] (3 : Int32) i3 h24 n0 Z24 E_b15 F_scores_b15 F_retrieved_b15 F_documents_b15 F_size_b15 g_b15 V_sc_16 V_rt_16 V_dc_16 g_sc_16 g_rt_16 ne_b15_sc_16 ne_b15_rt_16 ne_b15_dc_16 ne_sc_16_rt_16 ne_sc_16_dc_16 ne_rt_16_dc_16 (getH_hit ((⟨by decide, by decide⟩ : ¬ (0 : Int32) < 0 ∧ (0 : Int32) < (3 : Int32))).1 (rfl)) (⟨by decide, by decide⟩) ((own_bd (show 0 ≤ i3.toInt ∧ i3.toInt < (3 : Int32).toInt by omega) : ¬ i3 < 0 ∧ i3 < (3 : Int32)))) (by decide) (W := 0) (Nat.le_of_eq rfl) (by decide) (by rw [hml]; rfl) (lenOf pd_5 rfl) rfl (hb hby at_150) (pc' := 153) rfl (by decide) (by decide) ?_; intro v25 T25 L25 X25 hQ25
        obtain ⟨rfl, N25q, Kc25, P25_0, P25_1, P25_2, P25_3, P25_4, P25_5, P25_6⟩ := hQ25
        have N25 := Fr.app N24 N25q
        generalize e25 : T25.heap = h25 at Kc25 P25_0 P25_1 P25_2 P25_3 P25_4 P25_5 P25_6
        have K25 : Keep h0 h25 [] := K24.trans Kc25 ((allS (Or.inr sz_b15) (allS (Or.inr sz_sc_16) (allS (Or.inr sz_rt_16) all0))))
        have Z25 : n0 ≤ h25.size := Nat.le_trans Z24 Kc25.1
        have V_dc_16 := V_dc_16.keep Kc25 (ninS (Ne.symm ne_b15_dc_16) (ninS (Ne.symm ne_sc_16_dc_16) (ninS (Ne.symm ne_rt_16_dc_16) nin0)))
        have E_b15 : Exa Z h25 b15 "com/example/maat/maat/search/Accumulator" := P25_0
        have F_scores_b15 : Fld Z h25 b15 "com/example/maat/maat/search/Accumulator" "scores" "[D" (.ref sc_16) := P25_1
        have F_retrieved_b15 : Fld Z h25 b15 "com/example/maat/maat/search/Accumulator" "retrieved" "[Z" (.ref rt_16) := P25_2
        have F_documents_b15 : Fld Z h25 b15 "com/example/maat/maat/search/Accumulator" "documents" "[I" (.ref dc_16) := P25_3
        have F_size_b15 : Fld Z h25 b15 "com/example/maat/maat/search/Accumulator" "size" "I" (.int (0 : Int32)) := P25_4
        have V_sc_16 : Arh Z h25 sc_16 ks_16 .double (3 : Int32) ((i3, (.double FP.dconst0)) :: [(i3, (.double (FP.dadd (0 : UInt64) r8)))]) [] (.double (0 : UInt64)) := P25_5
        have V_sc_16 : Arh Z h25 sc_16 ks_16 .double (3 : Int32) [(i3, (.double FP.dconst0)), (i3, (.double (FP.dadd (0 : UInt64) r8)))] [] (.double (0 : UInt64)) := V_sc_16
        have V_rt_16 : Arh Z h25 rt_16 kr_16 .boolean (3 : Int32) ((i3, (.int (0 : Int32))) :: [(i3, (.int (1 : Int32)))]) [] (.int (0 : Int32)) := P25_6
        have V_rt_16 : Arh Z h25 rt_16 kr_16 .boolean (3 : Int32) [(i3, (.int (0 : Int32))), (i3, (.int (1 : Int32)))] [] (.int (0 : Int32)) := V_rt_16
        have V_sc_16 : Arh Z h25 sc_16 ks_16 .double (3 : Int32) [] [] (.double (0 : UInt64)) := own_clean V_sc_16 (fun i => own_cl0 rfl (fun n0 => own_cl1 (by omega) (own_getH_nil _ _)))
        have V_rt_16 : Arh Z h25 rt_16 kr_16 .boolean (3 : Int32) [] [] (.int (0 : Int32)) := own_clean V_rt_16 (fun i => own_cl0 rfl (fun n0 => own_cl1 (by omega) (own_getH_nil _ _)))
        exact J153 _ _ _ X25 e25 N25 K25 Z25 _ E_b15 F_scores_b15 F_retrieved_b15 F_documents_b15 F_size_b15 V_sc_16 V_rt_16 V_dc_16
      · refine R.icmpNo X24 hx (hb hby at_121) (flt hc121).1 (pc' := 124) rfl ?_
        by_cases hq_i5_i3 : i5 = i3
        · have e_i5_i3 : i5.toInt = i3.toInt := congrArg Int32.toInt hq_i5_i3
          refine R.aload X24 hx (hb hby at_124) rfl rfl (pc' := 126) rfl ?_
          refine R.iload X24 hx (hb hby at_126) rfl (pc' := 128) rfl ?_
          refine R.dload X24 hx (hb hby at_128) rfl (pc' := 130) rfl ?_
          refine R.virtual X24 hx hZ (y := mY2) (z := mY2) hown w_30 w_31 (notFace_of_selects (args := #[]) (mvT hZ w_33)) w_33 w_32 w_7 w_34 (by decide) e24 E_b15 (rmold l Z aZ hw [] b15 i5 r9 sc_16 ks_16 [(i3, (.double (FP.dadd (0 : UInt64) r8)))] rt_16 kr_16 [(i3, (.int (1 : Int32)))] (3 : Int32) (FP.dadd (0 : UInt64) r8) h24 n0 Z24 F_scores_b15 F_retrieved_b15 V_sc_16 V_rt_16 g_sc_16 ne_b15_sc_16 ne_sc_16_rt_16 (getH_hit ((own_bd (show 0 ≤ i5.toInt ∧ i5.toInt < (3 : Int32).toInt by omega) : ¬ i5 < 0 ∧ i5 < (3 : Int32))).1 (own_eqI (by omega))) (getH_hit ((own_bd (show 0 ≤ i5.toInt ∧ i5.toInt < (3 : Int32).toInt by omega) : ¬ i5 < 0 ∧ i5 < (3 : Int32))).1 (own_eqI (by omega))) ((Dy.add (Dy.add own_zero D9 (by omega) (by decide)) D11 (by omega) (by decide)).nn) ((own_bd (show 0 ≤ i5.toInt ∧ i5.toInt < (3 : Int32).toInt by omega) : ¬ i5 < 0 ∧ i5 < (3 : Int32)))) (by decide) (W := 0) (Nat.le_of_eq rfl) (by decide) (by rw [hml]; rfl) (lenOf pd_2 rfl) rfl (hb hby at_130) (pc' := 133) rfl (by decide) (by decide) ?_; intro v26 T26 L26 X26 hQ26
          obtain ⟨rfl, N26q, Kc26, P26_0⟩ := hQ26
          have N26 := Fr.app N24 N26q
          generalize e26 : T26.heap = h26 at Kc26 P26_0
          have K26 : Keep h0 h26 [] := K24.trans Kc26 ((allS (Or.inr sz_sc_16) all0))
          have Z26 : n0 ≤ h26.size := Nat.le_trans Z24 Kc26.1
          have E_b15 := E_b15.keep Kc26
          have F_scores_b15 := F_scores_b15.keep Kc26 (ninS ne_b15_sc_16 nin0)
          have F_retrieved_b15 := F_retrieved_b15.keep Kc26 (ninS ne_b15_sc_16 nin0)
          have F_documents_b15 := F_documents_b15.keep Kc26 (ninS ne_b15_sc_16 nin0)
          have F_size_b15 := F_size_b15.keep Kc26 (ninS ne_b15_sc_16 nin0)
          have V_rt_16 := V_rt_16.keep Kc26 (ninS (Ne.symm ne_sc_16_rt_16) nin0)
          have V_dc_16 := V_dc_16.keep Kc26 (ninS (Ne.symm ne_sc_16_dc_16) nin0)
          have V_sc_16 : Arh Z h26 sc_16 ks_16 .double (3 : Int32) ((i5, (.double (FP.dadd (FP.dadd (0 : UInt64) r8) r9))) :: [(i3, (.double (FP.dadd (0 : UInt64) r8)))]) [] (.double (0 : UInt64)) := P26_0
          have V_sc_16 : Arh Z h26 sc_16 ks_16 .double (3 : Int32) [(i5, (.double (FP.dadd (FP.dadd (0 : UInt64) r8) r9))), (i3, (.double (FP.dadd (0 : UInt64) r8)))] [] (.double (0 : UInt64)) := V_sc_16
          refine R.iload X26 hx (hb hby at_133) rfl (pc' := 135) rfl ?_
          refine R.iconst X26 hx (hb hby at_135) (v := (3 : Int32)) (by decide) (pc' := 136) rfl ?_
          by_cases hc136 : i1 < (3 : Int32)
          · refine R.icmpYes X26 hx (hb hby at_136) (tlt hc136).1 (by decide) (pc' := 148) (by decide) ?_
            refine R.aload X26 hx (hb hby at_148) rfl rfl (pc' := 150) rfl ?_
            refine R.virtual X26 hx hZ (y := mY6) (z := mY6) hown w_23 w_24 (notFace_of_selects (args := #[]) (mvT hZ w_26)) w_26 w_25 w_7 w_27 (by decide) e26 E_b15 (rmcl1 l Z aZ hw [] b15 sc_16 ks_16 [(i5, (.double (FP.dadd (FP.dadd (0 : UInt64) r8) r9))), (i3, (.double (FP.dadd (0 : UInt64) r8)))] rt_16 kr_16 [(i3, (.int (1 : Int32)))] dc_16 kd_16 [((0 : Int32), (.int i3))] (3 : Int32) i3 h26 n0 Z26 E_b15 F_scores_b15 F_retrieved_b15 F_documents_b15 F_size_b15 g_b15 V_sc_16 V_rt_16 V_dc_16 g_sc_16 g_rt_16 ne_b15_sc_16 ne_b15_rt_16 ne_b15_dc_16 ne_sc_16_rt_16 ne_sc_16_dc_16 ne_rt_16_dc_16 (getH_hit ((⟨by decide, by decide⟩ : ¬ (0 : Int32) < 0 ∧ (0 : Int32) < (3 : Int32))).1 (rfl)) (⟨by decide, by decide⟩) ((own_bd (show 0 ≤ i3.toInt ∧ i3.toInt < (3 : Int32).toInt by omega) : ¬ i3 < 0 ∧ i3 < (3 : Int32)))) (by decide) (W := 0) (Nat.le_of_eq rfl) (by decide) (by rw [hml]; rfl) (lenOf pd_5 rfl) rfl (hb hby at_150) (pc' := 153) rfl (by decide) (by decide) ?_; intro v27 T27 L27 X27 hQ27
            obtain ⟨rfl, N27q, Kc27, P27_0, P27_1, P27_2, P27_3, P27_4, P27_5, P27_6⟩ := hQ27
            have N27 := Fr.app N26 N27q
            generalize e27 : T27.heap = h27 at Kc27 P27_0 P27_1 P27_2 P27_3 P27_4 P27_5 P27_6
            have K27 : Keep h0 h27 [] := K26.trans Kc27 ((allS (Or.inr sz_b15) (allS (Or.inr sz_sc_16) (allS (Or.inr sz_rt_16) all0))))
            have Z27 : n0 ≤ h27.size := Nat.le_trans Z26 Kc27.1
            have V_dc_16 := V_dc_16.keep Kc27 (ninS (Ne.symm ne_b15_dc_16) (ninS (Ne.symm ne_sc_16_dc_16) (ninS (Ne.symm ne_rt_16_dc_16) nin0)))
            have E_b15 : Exa Z h27 b15 "com/example/maat/maat/search/Accumulator" := P27_0
            have F_scores_b15 : Fld Z h27 b15 "com/example/maat/maat/search/Accumulator" "scores" "[D" (.ref sc_16) := P27_1
            have F_retrieved_b15 : Fld Z h27 b15 "com/example/maat/maat/search/Accumulator" "retrieved" "[Z" (.ref rt_16) := P27_2
            have F_documents_b15 : Fld Z h27 b15 "com/example/maat/maat/search/Accumulator" "documents" "[I" (.ref dc_16) := P27_3
            have F_size_b15 : Fld Z h27 b15 "com/example/maat/maat/search/Accumulator" "size" "I" (.int (0 : Int32)) := P27_4
            have V_sc_16 : Arh Z h27 sc_16 ks_16 .double (3 : Int32) ((i3, (.double FP.dconst0)) :: [(i5, (.double (FP.dadd (FP.dadd (0 : UInt64) r8) r9))), (i3, (.double (FP.dadd (0 : UInt64) r8)))]) [] (.double (0 : UInt64)) := P27_5
            have V_sc_16 : Arh Z h27 sc_16 ks_16 .double (3 : Int32) [(i3, (.double FP.dconst0)), (i5, (.double (FP.dadd (FP.dadd (0 : UInt64) r8) r9))), (i3, (.double (FP.dadd (0 : UInt64) r8)))] [] (.double (0 : UInt64)) := V_sc_16
            have V_rt_16 : Arh Z h27 rt_16 kr_16 .boolean (3 : Int32) ((i3, (.int (0 : Int32))) :: [(i3, (.int (1 : Int32)))]) [] (.int (0 : Int32)) := P27_6
            have V_rt_16 : Arh Z h27 rt_16 kr_16 .boolean (3 : Int32) [(i3, (.int (0 : Int32))), (i3, (.int (1 : Int32)))] [] (.int (0 : Int32)) := V_rt_16
            have V_sc_16 : Arh Z h27 sc_16 ks_16 .double (3 : Int32) [] [] (.double (0 : UInt64)) := own_clean V_sc_16 (fun i => own_cl0 rfl (fun n0 => own_cl1 (by omega) (own_cl1 (by omega) (own_getH_nil _ _))))
            have V_rt_16 : Arh Z h27 rt_16 kr_16 .boolean (3 : Int32) [] [] (.int (0 : Int32)) := own_clean V_rt_16 (fun i => own_cl0 rfl (fun n0 => own_cl1 (by omega) (own_getH_nil _ _)))
            exact J153 _ _ _ X27 e27 N27 K27 Z27 _ E_b15 F_scores_b15 F_retrieved_b15 F_documents_b15 F_size_b15 V_sc_16 V_rt_16 V_dc_16
          · refine R.icmpNo X26 hx (hb hby at_136) (flt hc136).1 (pc' := 139) rfl ?_
            by_cases hq_i7_i3 : i7 = i3
            · have e_i7_i3 : i7.toInt = i3.toInt := congrArg Int32.toInt hq_i7_i3
              refine R.aload X26 hx (hb hby at_139) rfl rfl (pc' := 141) rfl ?_
              refine R.iload X26 hx (hb hby at_141) rfl (pc' := 143) rfl ?_
              refine R.dload X26 hx (hb hby at_143) rfl (pc' := 145) rfl ?_
              refine R.virtual X26 hx hZ (y := mY2) (z := mY2) hown w_30 w_31 (notFace_of_selects (args := #[]) (mvT hZ w_33)) w_33 w_32 w_7 w_34 (by decide) e26 E_b15 (rmold l Z aZ hw [] b15 i7 r10 sc_16 ks_16 [(i5, (.double (FP.dadd (FP.dadd (0 : UInt64) r8) r9))), (i3, (.double (FP.dadd (0 : UInt64) r8)))] rt_16 kr_16 [(i3, (.int (1 : Int32)))] (3 : Int32) (FP.dadd (FP.dadd (0 : UInt64) r8) r9) h26 n0 Z26 F_scores_b15 F_retrieved_b15 V_sc_16 V_rt_16 g_sc_16 ne_b15_sc_16 ne_sc_16_rt_16 (getH_hit ((own_bd (show 0 ≤ i7.toInt ∧ i7.toInt < (3 : Int32).toInt by omega) : ¬ i7 < 0 ∧ i7 < (3 : Int32))).1 (own_eqI (by omega))) (getH_hit ((own_bd (show 0 ≤ i7.toInt ∧ i7.toInt < (3 : Int32).toInt by omega) : ¬ i7 < 0 ∧ i7 < (3 : Int32))).1 (own_eqI (by omega))) ((Dy.add (Dy.add (Dy.add own_zero D9 (by omega) (by decide)) D11 (by omega) (by decide)) D13 (by omega) (by decide)).nn) ((own_bd (show 0 ≤ i7.toInt ∧ i7.toInt < (3 : Int32).toInt by omega) : ¬ i7 < 0 ∧ i7 < (3 : Int32)))) (by decide) (W := 0) (Nat.le_of_eq rfl) (by decide) (by rw [hml]; rfl) (lenOf pd_2 rfl) rfl (hb hby at_145) (pc' := 148) rfl (by decide) (by decide) ?_; intro v28 T28 L28 X28 hQ28
              obtain ⟨rfl, N28q, Kc28, P28_0⟩ := hQ28
              have N28 := Fr.app N26 N28q
              generalize e28 : T28.heap = h28 at Kc28 P28_0
              have K28 : Keep h0 h28 [] := K26.trans Kc28 ((allS (Or.inr sz_sc_16) all0))
              have Z28 : n0 ≤ h28.size := Nat.le_trans Z26 Kc28.1
              have E_b15 := E_b15.keep Kc28
              have F_scores_b15 := F_scores_b15.keep Kc28 (ninS ne_b15_sc_16 nin0)
              have F_retrieved_b15 := F_retrieved_b15.keep Kc28 (ninS ne_b15_sc_16 nin0)
              have F_documents_b15 := F_documents_b15.keep Kc28 (ninS ne_b15_sc_16 nin0)
              have F_size_b15 := F_size_b15.keep Kc28 (ninS ne_b15_sc_16 nin0)
              have V_rt_16 := V_rt_16.keep Kc28 (ninS (Ne.symm ne_sc_16_rt_16) nin0)
              have V_dc_16 := V_dc_16.keep Kc28 (ninS (Ne.symm ne_sc_16_dc_16) nin0)
              have V_sc_16 : Arh Z h28 sc_16 ks_16 .double (3 : Int32) ((i7, (.double (FP.dadd (FP.dadd (FP.dadd (0 : UInt64) r8) r9) r10))) :: [(i5, (.double (FP.dadd (FP.dadd (0 : UInt64) r8) r9))), (i3, (.double (FP.dadd (0 : UInt64) r8)))]) [] (.double (0 : UInt64)) := P28_0
              have V_sc_16 : Arh Z h28 sc_16 ks_16 .double (3 : Int32) [(i7, (.double (FP.dadd (FP.dadd (FP.dadd (0 : UInt64) r8) r9) r10))), (i5, (.double (FP.dadd (FP.dadd (0 : UInt64) r8) r9))), (i3, (.double (FP.dadd (0 : UInt64) r8)))] [] (.double (0 : UInt64)) := V_sc_16
              refine R.aload X28 hx (hb hby at_148) rfl rfl (pc' := 150) rfl ?_
              refine R.virtual X28 hx hZ (y := mY6) (z := mY6) hown w_23 w_24 (notFace_of_selects (args := #[]) (mvT hZ w_26)) w_26 w_25 w_7 w_27 (by decide) e28 E_b15 (rmcl1 l Z aZ hw [] b15 sc_16 ks_16 [(i7, (.double (FP.dadd (FP.dadd (FP.dadd (0 : UInt64) r8) r9) r10))), (i5, (.double (FP.dadd (FP.dadd (0 : UInt64) r8) r9))), (i3, (.double (FP.dadd (0 : UInt64) r8)))] rt_16 kr_16 [(i3, (.int (1 : Int32)))] dc_16 kd_16 [((0 : Int32), (.int i3))] (3 : Int32) i3 h28 n0 Z28 E_b15 F_scores_b15 F_retrieved_b15 F_documents_b15 F_size_b15 g_b15 V_sc_16 V_rt_16 V_dc_16 g_sc_16 g_rt_16 ne_b15_sc_16 ne_b15_rt_16 ne_b15_dc_16 ne_sc_16_rt_16 ne_sc_16_dc_16 ne_rt_16_dc_16 (getH_hit ((⟨by decide, by decide⟩ : ¬ (0 : Int32) < 0 ∧ (0 : Int32) < (3 : Int32))).1 (rfl)) (⟨by decide, by decide⟩) ((own_bd (show 0 ≤ i3.toInt ∧ i3.toInt < (3 : Int32).toInt by omega) : ¬ i3 < 0 ∧ i3 < (3 : Int32)))) (by decide) (W := 0) (Nat.le_of_eq rfl) (by decide) (by rw [hml]; rfl) (lenOf pd_5 rfl) rfl (hb hby at_150) (pc' := 153) rfl (by decide) (by decide) ?_; intro v29 T29 L29 X29 hQ29
              obtain ⟨rfl, N29q, Kc29, P29_0, P29_1, P29_2, P29_3, P29_4, P29_5, P29_6⟩ := hQ29
              have N29 := Fr.app N28 N29q
              generalize e29 : T29.heap = h29 at Kc29 P29_0 P29_1 P29_2 P29_3 P29_4 P29_5 P29_6
              have K29 : Keep h0 h29 [] := K28.trans Kc29 ((allS (Or.inr sz_b15) (allS (Or.inr sz_sc_16) (allS (Or.inr sz_rt_16) all0))))
              have Z29 : n0 ≤ h29.size := Nat.le_trans Z28 Kc29.1
              have V_dc_16 := V_dc_16.keep Kc29 (ninS (Ne.symm ne_b15_dc_16) (ninS (Ne.symm ne_sc_16_dc_16) (ninS (Ne.symm ne_rt_16_dc_16) nin0)))
              have E_b15 : Exa Z h29 b15 "com/example/maat/maat/search/Accumulator" := P29_0
              have F_scores_b15 : Fld Z h29 b15 "com/example/maat/maat/search/Accumulator" "scores" "[D" (.ref sc_16) := P29_1
              have F_retrieved_b15 : Fld Z h29 b15 "com/example/maat/maat/search/Accumulator" "retrieved" "[Z" (.ref rt_16) := P29_2
              have F_documents_b15 : Fld Z h29 b15 "com/example/maat/maat/search/Accumulator" "documents" "[I" (.ref dc_16) := P29_3
              have F_size_b15 : Fld Z h29 b15 "com/example/maat/maat/search/Accumulator" "size" "I" (.int (0 : Int32)) := P29_4
              have V_sc_16 : Arh Z h29 sc_16 ks_16 .double (3 : Int32) ((i3, (.double FP.dconst0)) :: [(i7, (.double (FP.dadd (FP.dadd (FP.dadd (0 : UInt64) r8) r9) r10))), (i5, (.double (FP.dadd (FP.dadd (0 : UInt64) r8) r9))), (i3, (.double (FP.dadd (0 : UInt64) r8)))]) [] (.double (0 : UInt64)) := P29_5
              have V_sc_16 : Arh Z h29 sc_16 ks_16 .double (3 : Int32) [(i3, (.double FP.dconst0)), (i7, (.double (FP.dadd (FP.dadd (FP.dadd (0 : UInt64) r8) r9) r10))), (i5, (.double (FP.dadd (FP.dadd (0 : UInt64) r8) r9))), (i3, (.double (FP.dadd (0 : UInt64) r8)))] [] (.double (0 : UInt64)) := V_sc_16
              have V_rt_16 : Arh Z h29 rt_16 kr_16 .boolean (3 : Int32) ((i3, (.int (0 : Int32))) :: [(i3, (.int (1 : Int32)))]) [] (.int (0 : Int32)) := P29_6
              have V_rt_16 : Arh Z h29 rt_16 kr_16 .boolean (3 : Int32) [(i3, (.int (0 : Int32))), (i3, (.int (1 : Int32)))] [] (.int (0 : Int32)) := V_rt_16
              have V_sc_16 : Arh Z h29 sc_16 ks_16 .double (3 : Int32) [] [] (.double (0 : UInt64)) := own_clean V_sc_16 (fun i => own_cl0 rfl (fun n0 => own_cl1 (by omega) (own_cl1 (by omega) (own_cl1 (by omega) (own_getH_nil _ _)))))
              have V_rt_16 : Arh Z h29 rt_16 kr_16 .boolean (3 : Int32) [] [] (.int (0 : Int32)) := own_clean V_rt_16 (fun i => own_cl0 rfl (fun n0 => own_cl1 (by omega) (own_getH_nil _ _)))
              exact J153 _ _ _ X29 e29 N29 K29 Z29 _ E_b15 F_scores_b15 F_retrieved_b15 F_documents_b15 F_size_b15 V_sc_16 V_rt_16 V_dc_16
            · have e_i7_i3 : ¬ i7.toInt = i3.toInt := fun q => hq_i7_i3 (Int32.toInt_inj.mp q)
              refine R.aload X26 hx (hb hby at_139) rfl rfl (pc' := 141) rfl ?_
              refine R.iload X26 hx (hb hby at_141) rfl (pc' := 143) rfl ?_
              refine R.dload X26 hx (hb hby at_143) rfl (pc' := 145) rfl ?_
              refine R.virtual X26 hx hZ (y := mY2) (z := mY2) hown w_30 w_31 (notFace_of_selects (args := #[]) (mvT hZ w_33)) w_33 w_32 w_7 w_34 (by decide) e26 E_b15 (rmnew l Z aZ hw [] b15 i7 r10 sc_16 ks_16 [(i5, (.double (FP.dadd (FP.dadd (0 : UInt64) r8) r9))), (i3, (.double (FP.dadd (0 : UInt64) r8)))] rt_16 kr_16 [(i3, (.int (1 : Int32)))] dc_16 kd_16 [((0 : Int32), (.int i3))] (3 : Int32) (0 : UInt64) (1 : Int32) h26 n0 Z26 E_b15 F_scores_b15 F_retrieved_b15 F_documents_b15 F_size_b15 g_b15 V_sc_16 V_rt_16 V_dc_16 g_sc_16 g_rt_16 g_dc_16 ne_b15_sc_16 ne_b15_rt_16 ne_b15_dc_16 ne_sc_16_rt_16 ne_sc_16_dc_16 ne_rt_16_dc_16 (getH_miss ((own_bd (show 0 ≤ i7.toInt ∧ i7.toInt < (3 : Int32).toInt by omega) : ¬ i7 < 0 ∧ i7 < (3 : Int32))).1 (own_neI (by omega)) (own_getH_nil _ _)) (getH_miss ((own_bd (show 0 ≤ i7.toInt ∧ i7.toInt < (3 : Int32).toInt by omega) : ¬ i7 < 0 ∧ i7 < (3 : Int32))).1 (own_neI (by omega)) (getH_miss ((own_bd (show 0 ≤ i7.toInt ∧ i7.toInt < (3 : Int32).toInt by omega) : ¬ i7 < 0 ∧ i7 < (3 : Int32))).1 (own_neI (by omega)) (own_getH_nil _ _))) ((Dy.add own_zero D13 (by omega) (by decide)).nn) ((own_bd (show 0 ≤ i7.toInt ∧ i7.toInt < (3 : Int32).toInt by omega) : ¬ i7 < 0 ∧ i7 < (3 : Int32))) ((⟨by decide, by decide⟩ : ¬ (1 : Int32) < 0 ∧ (1 : Int32) < (3 : Int32)))) (by decide) (W := 0) (Nat.le_of_eq rfl) (by decide) (by rw [hml]; rfl) (lenOf pd_2 rfl) rfl (hb hby at_145) (pc' := 148) rfl (by decide) (by decide) ?_; intro v30 T30 L30 X30 hQ30
              obtain ⟨rfl, N30q, Kc30, P30_0, P30_1, P30_2, P30_3, P30_4, P30_5, P30_6, P30_7⟩ := hQ30
              have N30 := Fr.app N26 N30q
              generalize e30 : T30.heap = h30 at Kc30 P30_0 P30_1 P30_2 P30_3 P30_4 P30_5 P30_6 P30_7
              have K30 : Keep h0 h30 [] := K26.trans Kc30 ((allS (Or.inr sz_b15) (allS (Or.inr sz_sc_16) (allS (Or.inr sz_rt_16) (allS (Or.inr sz_dc_16) all0)))))
              have Z30 : n0 ≤ h30.size := Nat.le_trans Z26 Kc30.1
              have E_b15 : Exa Z h30 b15 "com/example/maat/maat/search/Accumulator" := P30_0
              have F_scores_b15 : Fld Z h30 b15 "com/example/maat/maat/search/Accumulator" "scores" "[D" (.ref sc_16) := P30_1
              have F_retrieved_b15 : Fld Z h30 b15 "com/example/maat/maat/search/Accumulator" "retrieved" "[Z" (.ref rt_16) := P30_2
              have F_documents_b15 : Fld Z h30 b15 "com/example/maat/maat/search/Accumulator" "documents" "[I" (.ref dc_16) := P30_3
              have F_size_b15 : Fld Z h30 b15 "com/example/maat/maat/search/Accumulator" "size" "I" (.int (2 : Int32)) := P30_4
              have V_sc_16 : Arh Z h30 sc_16 ks_16 .double (3 : Int32) ((i7, (.double (FP.dadd (0 : UInt64) r10))) :: [(i5, (.double (FP.dadd (FP.dadd (0 : UInt64) r8) r9))), (i3, (.double (FP.dadd (0 : UInt64) r8)))]) [] (.double (0 : UInt64)) := P30_5
              have V_sc_16 : Arh Z h30 sc_16 ks_16 .double (3 : Int32) [(i7, (.double (FP.dadd (0 : UInt64) r10))), (i5, (.double (FP.dadd (FP.dadd (0 : UInt64) r8) r9))), (i3, (.double (FP.dadd (0 : UInt64) r8)))] [] (.double (0 : UInt64)) := V_sc_16
              have V_rt_16 : Arh Z h30 rt_16 kr_16 .boolean (3 : Int32) ((i7, (.int (1 : Int32))) :: [(i3, (.int (1 : Int32)))]) [] (.int (0 : Int32)) := P30_6
              have V_rt_16 : Arh Z h30 rt_16 kr_16 .boolean (3 : Int32) [(i7, (.int (1 : Int32))), (i3, (.int (1 : Int32)))] [] (.int (0 : Int32)) := V_rt_16
              have V_dc_16 : Arh Z h30 dc_16 kd_16 .int (3 : Int32) (((1 : Int32), (.int i7)) :: [((0 : Int32), (.int i3))]) [] (.int (0 : Int32)) := P30_7
              have V_dc_16 : Arh Z h30 dc_16 kd_16 .int (3 : Int32) [((1 : Int32), (.int i7)), ((0 : Int32), (.int i3))] [] (.int (0 : Int32)) := V_dc_16
              refine R.aload X30 hx (hb hby at_148) rfl rfl (pc' := 150) rfl ?_
              refine R.virtual X30 hx hZ (y := mY6) (z := mY6) hown w_23 w_24 (notFace_of_selects (args := #[]) (mvT hZ w_26)) w_26 w_25 w_7 w_27 (by decide) e30 E_b15 (rmcl2 l Z aZ hw [] b15 sc_16 ks_16 [(i7, (.double (FP.dadd (0 : UInt64) r10))), (i5, (.double (FP.dadd (FP.dadd (0 : UInt64) r8) r9))), (i3, (.double (FP.dadd (0 : UInt64) r8)))] rt_16 kr_16 [(i7, (.int (1 : Int32))), (i3, (.int (1 : Int32)))] dc_16 kd_16 [((1 : Int32), (.int i7)), ((0 : Int32), (.int i3))] (3 : Int32) i3 i7 h30 n0 Z30 E_b15 F_scores_b15 F_retrieved_b15 F_documents_b15 F_size_b15 g_b15 V_sc_16 V_rt_16 V_dc_16 g_sc_16 g_rt_16 ne_b15_sc_16 ne_b15_rt_16 ne_b15_dc_16 ne_sc_16_rt_16 ne_sc_16_dc_16 ne_rt_16_dc_16 (getH_miss ((⟨by decide, by decide⟩ : ¬ (0 : Int32) < 0 ∧ (0 : Int32) < (3 : Int32))).1 (by decide) (getH_hit ((⟨by decide, by decide⟩ : ¬ (0 : Int32) < 0 ∧ (0 : Int32) < (3 : Int32))).1 (rfl))) (getH_hit ((⟨by decide, by decide⟩ : ¬ (1 : Int32) < 0 ∧ (1 : Int32) < (3 : Int32))).1 (rfl)) (⟨by decide, by decide⟩) (⟨by decide, by decide⟩) ((own_bd (show 0 ≤ i3.toInt ∧ i3.toInt < (3 : Int32).toInt by omega) : ¬ i3 < 0 ∧ i3 < (3 : Int32))) ((own_bd (show 0 ≤ i7.toInt ∧ i7.toInt < (3 : Int32).toInt by omega) : ¬ i7 < 0 ∧ i7 < (3 : Int32)))) (by decide) (W := 0) (Nat.le_of_eq rfl) (by decide) (by rw [hml]; rfl) (lenOf pd_5 rfl) rfl (hb hby at_150) (pc' := 153) rfl (by decide) (by decide) ?_; intro v31 T31 L31 X31 hQ31
              obtain ⟨rfl, N31q, Kc31, P31_0, P31_1, P31_2, P31_3, P31_4, P31_5, P31_6⟩ := hQ31
              have N31 := Fr.app N30 N31q
              generalize e31 : T31.heap = h31 at Kc31 P31_0 P31_1 P31_2 P31_3 P31_4 P31_5 P31_6
              have K31 : Keep h0 h31 [] := K30.trans Kc31 ((allS (Or.inr sz_b15) (allS (Or.inr sz_sc_16) (allS (Or.inr sz_rt_16) all0))))
              have Z31 : n0 ≤ h31.size := Nat.le_trans Z30 Kc31.1
              have V_dc_16 := V_dc_16.keep Kc31 (ninS (Ne.symm ne_b15_dc_16) (ninS (Ne.symm ne_sc_16_dc_16) (ninS (Ne.symm ne_rt_16_dc_16) nin0)))
              have E_b15 : Exa Z h31 b15 "com/example/maat/maat/search/Accumulator" := P31_0
              have F_scores_b15 : Fld Z h31 b15 "com/example/maat/maat/search/Accumulator" "scores" "[D" (.ref sc_16) := P31_1
              have F_retrieved_b15 : Fld Z h31 b15 "com/example/maat/maat/search/Accumulator" "retrieved" "[Z" (.ref rt_16) := P31_2
              have F_documents_b15 : Fld Z h31 b15 "com/example/maat/maat/search/Accumulator" "documents" "[I" (.ref dc_16) := P31_3
              have F_size_b15 : Fld Z h31 b15 "com/example/maat/maat/search/Accumulator" "size" "I" (.int (0 : Int32)) := P31_4
              have V_sc_16 : Arh Z h31 sc_16 ks_16 .double (3 : Int32) ((i7, (.double FP.dconst0)) :: (i3, (.double FP.dconst0)) :: [(i7, (.double (FP.dadd (0 : UInt64) r10))), (i5, (.double (FP.dadd (FP.dadd (0 : UInt64) r8) r9))), (i3, (.double (FP.dadd (0 : UInt64) r8)))]) [] (.double (0 : UInt64)) := P31_5
              have V_sc_16 : Arh Z h31 sc_16 ks_16 .double (3 : Int32) [(i7, (.double FP.dconst0)), (i3, (.double FP.dconst0)), (i7, (.double (FP.dadd (0 : UInt64) r10))), (i5, (.double (FP.dadd (FP.dadd (0 : UInt64) r8) r9))), (i3, (.double (FP.dadd (0 : UInt64) r8)))] [] (.double (0 : UInt64)) := V_sc_16
              have V_rt_16 : Arh Z h31 rt_16 kr_16 .boolean (3 : Int32) ((i7, (.int (0 : Int32))) :: (i3, (.int (0 : Int32))) :: [(i7, (.int (1 : Int32))), (i3, (.int (1 : Int32)))]) [] (.int (0 : Int32)) := P31_6
              have V_rt_16 : Arh Z h31 rt_16 kr_16 .boolean (3 : Int32) [(i7, (.int (0 : Int32))), (i3, (.int (0 : Int32))), (i7, (.int (1 : Int32))), (i3, (.int (1 : Int32)))] [] (.int (0 : Int32)) := V_rt_16
              have V_sc_16 : Arh Z h31 sc_16 ks_16 .double (3 : Int32) [] [] (.double (0 : UInt64)) := own_clean V_sc_16 (fun i => own_cl0 rfl (fun n0 => own_cl0 rfl (fun n1 => own_cl1 (by omega) (own_cl1 (by omega) (own_cl1 (by omega) (own_getH_nil _ _))))))
              have V_rt_16 : Arh Z h31 rt_16 kr_16 .boolean (3 : Int32) [] [] (.int (0 : Int32)) := own_clean V_rt_16 (fun i => own_cl0 rfl (fun n0 => own_cl0 rfl (fun n1 => own_cl1 (by omega) (own_cl1 (by omega) (own_getH_nil _ _)))))
              exact J153 _ _ _ X31 e31 N31 K31 Z31 _ E_b15 F_scores_b15 F_retrieved_b15 F_documents_b15 F_size_b15 V_sc_16 V_rt_16 V_dc_16
        · have e_i5_i3 : ¬ i5.toInt = i3.toInt := fun q => hq_i5_i3 (Int32.toInt_inj.mp q)
          refine R.aload X24 hx (hb hby at_124) rfl rfl (pc' := 126) rfl ?_
          refine R.iload X24 hx (hb hby at_126) rfl (pc' := 128) rfl ?_
          refine R.dload X24 hx (hb hby at_128) rfl (pc' := 130) rfl ?_
          refine R.virtual X24 hx hZ (y := mY2) (z := mY2) hown w_30 w_31 (notFace_of_selects (args := #[]) (mvT hZ w_33)) w_33 w_32 w_7 w_34 (by decide) e24 E_b15 (rmnew l Z aZ hw [] b15 i5 r9 sc_16 ks_16 [(i3, (.double (FP.dadd (0 : UInt64) r8)))] rt_16 kr_16 [(i3, (.int (1 : Int32)))] dc_16 kd_16 [((0 : Int32), (.int i3))] (3 : Int32) (0 : UInt64) (1 : Int32) h24 n0 Z24 E_b15 F_scores_b15 F_retrieved_b15 F_documents_b15 F_size_b15 g_b15 V_sc_16 V_rt_16 V_dc_16 g_sc_16 g_rt_16 g_dc_16 ne_b15_sc_16 ne_b15_rt_16 ne_b15_dc_16 ne_sc_16_rt_16 ne_sc_16_dc_16 ne_rt_16_dc_16 (getH_miss ((own_bd (show 0 ≤ i5.toInt ∧ i5.toInt < (3 : Int32).toInt by omega) : ¬ i5 < 0 ∧ i5 < (3 : Int32))).1 (own_neI (by omega)) (own_getH_nil _ _)) (getH_miss ((own_bd (show 0 ≤ i5.toInt ∧ i5.toInt < (3 : Int32).toInt by omega) : ¬ i5 < 0 ∧ i5 < (3 : Int32))).1 (own_neI (by omega)) (own_getH_nil _ _)) ((Dy.add own_zero D11 (by omega) (by decide)).nn) ((own_bd (show 0 ≤ i5.toInt ∧ i5.toInt < (3 : Int32).toInt by omega) : ¬ i5 < 0 ∧ i5 < (3 : Int32))) ((⟨by decide, by decide⟩ : ¬ (1 : Int32) < 0 ∧ (1 : Int32) < (3 : Int32)))) (by decide) (W := 0) (Nat.le_of_eq rfl) (by decide) (by rw [hml]; rfl) (lenOf pd_2 rfl) rfl (hb hby at_130) (pc' := 133) rfl (by decide) (by decide) ?_; intro v32 T32 L32 X32 hQ32
          obtain ⟨rfl, N32q, Kc32, P32_0, P32_1, P32_2, P32_3, P32_4, P32_5, P32_6, P32_7⟩ := hQ32
          have N32 := Fr.app N24 N32q
          generalize e32 : T32.heap = h32 at Kc32 P32_0 P32_1 P32_2 P32_3 P32_4 P32_5 P32_6 P32_7
          have K32 : Keep h0 h32 [] := K24.trans Kc32 ((allS (Or.inr sz_b15) (allS (Or.inr sz_sc_16) (allS (Or.inr sz_rt_16) (allS (Or.inr sz_dc_16) all0)))))
          have Z32 : n0 ≤ h32.size := Nat.le_trans Z24 Kc32.1
          have E_b15 : Exa Z h32 b15 "com/example/maat/maat/search/Accumulator" := P32_0
          have F_scores_b15 : Fld Z h32 b15 "com/example/maat/maat/search/Accumulator" "scores" "[D" (.ref sc_16) := P32_1
          have F_retrieved_b15 : Fld Z h32 b15 "com/example/maat/maat/search/Accumulator" "retrieved" "[Z" (.ref rt_16) := P32_2
          have F_documents_b15 : Fld Z h32 b15 "com/example/maat/maat/search/Accumulator" "documents" "[I" (.ref dc_16) := P32_3
          have F_size_b15 : Fld Z h32 b15 "com/example/maat/maat/search/Accumulator" "size" "I" (.int (2 : Int32)) := P32_4
          have V_sc_16 : Arh Z h32 sc_16 ks_16 .double (3 : Int32) ((i5, (.double (FP.dadd (0 : UInt64) r9))) :: [(i3, (.double (FP.dadd (0 : UInt64) r8)))]) [] (.double (0 : UInt64)) := P32_5
          have V_sc_16 : Arh Z h32 sc_16 ks_16 .double (3 : Int32) [(i5, (.double (FP.dadd (0 : UInt64) r9))), (i3, (.double (FP.dadd (0 : UInt64) r8)))] [] (.double (0 : UInt64)) := V_sc_16
          have V_rt_16 : Arh Z h32 rt_16 kr_16 .boolean (3 : Int32) ((i5, (.int (1 : Int32))) :: [(i3, (.int (1 : Int32)))]) [] (.int (0 : Int32)) := P32_6
          have V_rt_16 : Arh Z h32 rt_16 kr_16 .boolean (3 : Int32) [(i5, (.int (1 : Int32))), (i3, (.int (1 : Int32)))] [] (.int (0 : Int32)) := V_rt_16
          have V_dc_16 : Arh Z h32 dc_16 kd_16 .int (3 : Int32) (((1 : Int32), (.int i5)) :: [((0 : Int32), (.int i3))]) [] (.int (0 : Int32)) := P32_7
          have V_dc_16 : Arh Z h32 dc_16 kd_16 .int (3 : Int32) [((1 : Int32), (.int i5)), ((0 : Int32), (.int i3))] [] (.int (0 : Int32)) := V_dc_16
          refine R.iload X32 hx (hb hby at_133) rfl (pc' := 135) rfl ?_
          refine R.iconst X32 hx (hb hby at_135) (v := (3 : Int32)) (by decide) (pc' := 136) rfl ?_
          by_cases hc136 : i1 < (3 : Int32)
          · refine R.icmpYes X32 hx (hb hby at_136) (tlt hc136).1 (by decide) (pc' := 148) (by decide) ?_
            refine R.aload X32 hx (hb hby at_148) rfl rfl (pc' := 150) rfl ?_
            refine R.virtual X32 hx hZ (y := mY6) (z := mY6) hown w_23 w_24 (notFace_of_selects (args := #[]) (mvT hZ w_26)) w_26 w_25 w_7 w_27 (by decide) e32 E_b15 (rmcl2 l Z aZ hw [] b15 sc_16 ks_16 [(i5, (.double (FP.dadd (0 : UInt64) r9))), (i3, (.double (FP.dadd (0 : UInt64) r8)))] rt_16 kr_16 [(i5, (.int (1 : Int32))), (i3, (.int (1 : Int32)))] dc_16 kd_16 [((1 : Int32), (.int i5)), ((0 : Int32), (.int i3))] (3 : Int32) i3 i5 h32 n0 Z32 E_b15 F_scores_b15 F_retrieved_b15 F_documents_b15 F_size_b15 g_b15 V_sc_16 V_rt_16 V_dc_16 g_sc_16 g_rt_16 ne_b15_sc_16 ne_b15_rt_16 ne_b15_dc_16 ne_sc_16_rt_16 ne_sc_16_dc_16 ne_rt_16_dc_16 (getH_miss ((⟨by decide, by decide⟩ : ¬ (0 : Int32) < 0 ∧ (0 : Int32) < (3 : Int32))).1 (by decide) (getH_hit ((⟨by decide, by decide⟩ : ¬ (0 : Int32) < 0 ∧ (0 : Int32) < (3 : Int32))).1 (rfl))) (getH_hit ((⟨by decide, by decide⟩ : ¬ (1 : Int32) < 0 ∧ (1 : Int32) < (3 : Int32))).1 (rfl)) (⟨by decide, by decide⟩) (⟨by decide, by decide⟩) ((own_bd (show 0 ≤ i3.toInt ∧ i3.toInt < (3 : Int32).toInt by omega) : ¬ i3 < 0 ∧ i3 < (3 : Int32))) ((own_bd (show 0 ≤ i5.toInt ∧ i5.toInt < (3 : Int32).toInt by omega) : ¬ i5 < 0 ∧ i5 < (3 : Int32)))) (by decide) (W := 0) (Nat.le_of_eq rfl) (by decide) (by rw [hml]; rfl) (lenOf pd_5 rfl) rfl (hb hby at_150) (pc' := 153) rfl (by decide) (by decide) ?_; intro v33 T33 L33 X33 hQ33
            obtain ⟨rfl, N33q, Kc33, P33_0, P33_1, P33_2, P33_3, P33_4, P33_5, P33_6⟩ := hQ33
            have N33 := Fr.app N32 N33q
            generalize e33 : T33.heap = h33 at Kc33 P33_0 P33_1 P33_2 P33_3 P33_4 P33_5 P33_6
            have K33 : Keep h0 h33 [] := K32.trans Kc33 ((allS (Or.inr sz_b15) (allS (Or.inr sz_sc_16) (allS (Or.inr sz_rt_16) all0))))
            have Z33 : n0 ≤ h33.size := Nat.le_trans Z32 Kc33.1
            have V_dc_16 := V_dc_16.keep Kc33 (ninS (Ne.symm ne_b15_dc_16) (ninS (Ne.symm ne_sc_16_dc_16) (ninS (Ne.symm ne_rt_16_dc_16) nin0)))
            have E_b15 : Exa Z h33 b15 "com/example/maat/maat/search/Accumulator" := P33_0
            have F_scores_b15 : Fld Z h33 b15 "com/example/maat/maat/search/Accumulator" "scores" "[D" (.ref sc_16) := P33_1
            have F_retrieved_b15 : Fld Z h33 b15 "com/example/maat/maat/search/Accumulator" "retrieved" "[Z" (.ref rt_16) := P33_2
            have F_documents_b15 : Fld Z h33 b15 "com/example/maat/maat/search/Accumulator" "documents" "[I" (.ref dc_16) := P33_3
            have F_size_b15 : Fld Z h33 b15 "com/example/maat/maat/search/Accumulator" "size" "I" (.int (0 : Int32)) := P33_4
            have V_sc_16 : Arh Z h33 sc_16 ks_16 .double (3 : Int32) ((i5, (.double FP.dconst0)) :: (i3, (.double FP.dconst0)) :: [(i5, (.double (FP.dadd (0 : UInt64) r9))), (i3, (.double (FP.dadd (0 : UInt64) r8)))]) [] (.double (0 : UInt64)) := P33_5
            have V_sc_16 : Arh Z h33 sc_16 ks_16 .double (3 : Int32) [(i5, (.double FP.dconst0)), (i3, (.double FP.dconst0)), (i5, (.double (FP.dadd (0 : UInt64) r9))), (i3, (.double (FP.dadd (0 : UInt64) r8)))] [] (.double (0 : UInt64)) := V_sc_16
            have V_rt_16 : Arh Z h33 rt_16 kr_16 .boolean (3 : Int32) ((i5, (.int (0 : Int32))) :: (i3, (.int (0 : Int32))) :: [(i5, (.int (1 : Int32))), (i3, (.int (1 : Int32)))]) [] (.int (0 : Int32)) := P33_6
            have V_rt_16 : Arh Z h33 rt_16 kr_16 .boolean (3 : Int32) [(i5, (.int (0 : Int32))), (i3, (.int (0 : Int32))), (i5, (.int (1 : Int32))), (i3, (.int (1 : Int32)))] [] (.int (0 : Int32)) := V_rt_16
            have V_sc_16 : Arh Z h33 sc_16 ks_16 .double (3 : Int32) [] [] (.double (0 : UInt64)) := own_clean V_sc_16 (fun i => own_cl0 rfl (fun n0 => own_cl0 rfl (fun n1 => own_cl1 (by omega) (own_cl1 (by omega) (own_getH_nil _ _)))))
            have V_rt_16 : Arh Z h33 rt_16 kr_16 .boolean (3 : Int32) [] [] (.int (0 : Int32)) := own_clean V_rt_16 (fun i => own_cl0 rfl (fun n0 => own_cl0 rfl (fun n1 => own_cl1 (by omega) (own_cl1 (by omega) (own_getH_nil _ _)))))
            exact J153 _ _ _ X33 e33 N33 K33 Z33 _ E_b15 F_scores_b15 F_retrieved_b15 F_documents_b15 F_size_b15 V_sc_16 V_rt_16 V_dc_16
          · refine R.icmpNo X32 hx (hb hby at_136) (flt hc136).1 (pc' := 139) rfl ?_
            by_cases hq_i7_i3 : i7 = i3
            · have e_i7_i3 : i7.toInt = i3.toInt := congrArg Int32.toInt hq_i7_i3
              refine R.aload X32 hx (hb hby at_139) rfl rfl (pc' := 141) rfl ?_
              refine R.iload X32 hx (hb hby at_141) rfl (pc' := 143) rfl ?_
              refine R.dload X32 hx (hb hby at_143) rfl (pc' := 145) rfl ?_
              refine R.virtual X32 hx hZ (y := mY2) (z := mY2) hown w_30 w_31 (notFace_of_selects (args := #[]) (mvT hZ w_33)) w_33 w_32 w_7 w_34 (by decide) e32 E_b15 (rmold l Z aZ hw [] b15 i7 r10 sc_16 ks_16 [(i5, (.double (FP.dadd (0 : UInt64) r9))), (i3, (.double (FP.dadd (0 : UInt64) r8)))] rt_16 kr_16 [(i5, (.int (1 : Int32))), (i3, (.int (1 : Int32)))] (3 : Int32) (FP.dadd (0 : UInt64) r8) h32 n0 Z32 F_scores_b15 F_retrieved_b15 V_sc_16 V_rt_16 g_sc_16 ne_b15_sc_16 ne_sc_16_rt_16 (getH_miss ((own_bd (show 0 ≤ i7.toInt ∧ i7.toInt < (3 : Int32).toInt by omega) : ¬ i7 < 0 ∧ i7 < (3 : Int32))).1 (own_neI (by omega)) (getH_hit ((own_bd (show 0 ≤ i7.toInt ∧ i7.toInt < (3 : Int32).toInt by omega) : ¬ i7 < 0 ∧ i7 < (3 : Int32))).1 (own_eqI (by omega)))) (getH_miss ((own_bd (show 0 ≤ i7.toInt ∧ i7.toInt < (3 : Int32).toInt by omega) : ¬ i7 < 0 ∧ i7 < (3 : Int32))).1 (own_neI (by omega)) (getH_hit ((own_bd (show 0 ≤ i7.toInt ∧ i7.toInt < (3 : Int32).toInt by omega) : ¬ i7 < 0 ∧ i7 < (3 : Int32))).1 (own_eqI (by omega)))) ((Dy.add (Dy.add own_zero D9 (by omega) (by decide)) D13 (by omega) (by decide)).nn) ((own_bd (show 0 ≤ i7.toInt ∧ i7.toInt < (3 : Int32).toInt by omega) : ¬ i7 < 0 ∧ i7 < (3 : Int32)))) (by decide) (W := 0) (Nat.le_of_eq rfl) (by decide) (by rw [hml]; rfl) (lenOf pd_2 rfl) rfl (hb hby at_145) (pc' := 148) rfl (by decide) (by decide) ?_; intro v34 T34 L34 X34 hQ34
              obtain ⟨rfl, N34q, Kc34, P34_0⟩ := hQ34
              have N34 := Fr.app N32 N34q
              generalize e34 : T34.heap = h34 at Kc34 P34_0
              have K34 : Keep h0 h34 [] := K32.trans Kc34 ((allS (Or.inr sz_sc_16) all0))
              have Z34 : n0 ≤ h34.size := Nat.le_trans Z32 Kc34.1
              have E_b15 := E_b15.keep Kc34
              have F_scores_b15 := F_scores_b15.keep Kc34 (ninS ne_b15_sc_16 nin0)
              have F_retrieved_b15 := F_retrieved_b15.keep Kc34 (ninS ne_b15_sc_16 nin0)
              have F_documents_b15 := F_documents_b15.keep Kc34 (ninS ne_b15_sc_16 nin0)
              have F_size_b15 := F_size_b15.keep Kc34 (ninS ne_b15_sc_16 nin0)
              have V_rt_16 := V_rt_16.keep Kc34 (ninS (Ne.symm ne_sc_16_rt_16) nin0)
              have V_dc_16 := V_dc_16.keep Kc34 (ninS (Ne.symm ne_sc_16_dc_16) nin0)
              have V_sc_16 : Arh Z h34 sc_16 ks_16 .double (3 : Int32) ((i7, (.double (FP.dadd (FP.dadd (0 : UInt64) r8) r10))) :: [(i5, (.double (FP.dadd (0 : UInt64) r9))), (i3, (.double (FP.dadd (0 : UInt64) r8)))]) [] (.double (0 : UInt64)) := P34_0
              have V_sc_16 : Arh Z h34 sc_16 ks_16 .double (3 : Int32) [(i7, (.double (FP.dadd (FP.dadd (0 : UInt64) r8) r10))), (i5, (.double (FP.dadd (0 : UInt64) r9))), (i3, (.double (FP.dadd (0 : UInt64) r8)))] [] (.double (0 : UInt64)) := V_sc_16
              refine R.aload X34 hx (hb hby at_148) rfl rfl (pc' := 150) rfl ?_
              refine R.virtual X34 hx hZ (y := mY6) (z := mY6) hown w_23 w_24 (notFace_of_selects (args := #[]) (mvT hZ w_26)) w_26 w_25 w_7 w_27 (by decide) e34 E_b15 (rmcl2 l Z aZ hw [] b15 sc_16 ks_16 [(i7, (.double (FP.dadd (FP.dadd (0 : UInt64) r8) r10))), (i5, (.double (FP.dadd (0 : UInt64) r9))), (i3, (.double (FP.dadd (0 : UInt64) r8)))] rt_16 kr_16 [(i5, (.int (1 : Int32))), (i3, (.int (1 : Int32)))] dc_16 kd_16 [((1 : Int32), (.int i5)), ((0 : Int32), (.int i3))] (3 : Int32) i3 i5 h34 n0 Z34 E_b15 F_scores_b15 F_retrieved_b15 F_documents_b15 F_size_b15 g_b15 V_sc_16 V_rt_16 V_dc_16 g_sc_16 g_rt_16 ne_b15_sc_16 ne_b15_rt_16 ne_b15_dc_16 ne_sc_16_rt_16 ne_sc_16_dc_16 ne_rt_16_dc_16 (getH_miss ((⟨by decide, by decide⟩ : ¬ (0 : Int32) < 0 ∧ (0 : Int32) < (3 : Int32))).1 (by decide) (getH_hit ((⟨by decide, by decide⟩ : ¬ (0 : Int32) < 0 ∧ (0 : Int32) < (3 : Int32))).1 (rfl))) (getH_hit ((⟨by decide, by decide⟩ : ¬ (1 : Int32) < 0 ∧ (1 : Int32) < (3 : Int32))).1 (rfl)) (⟨by decide, by decide⟩) (⟨by decide, by decide⟩) ((own_bd (show 0 ≤ i3.toInt ∧ i3.toInt < (3 : Int32).toInt by omega) : ¬ i3 < 0 ∧ i3 < (3 : Int32))) ((own_bd (show 0 ≤ i5.toInt ∧ i5.toInt < (3 : Int32).toInt by omega) : ¬ i5 < 0 ∧ i5 < (3 : Int32)))) (by decide) (W := 0) (Nat.le_of_eq rfl) (by decide) (by rw [hml]; rfl) (lenOf pd_5 rfl) rfl (hb hby at_150) (pc' := 153) rfl (by decide) (by decide) ?_; intro v35 T35 L35 X35 hQ35
              obtain ⟨rfl, N35q, Kc35, P35_0, P35_1, P35_2, P35_3, P35_4, P35_5, P35_6⟩ := hQ35
              have N35 := Fr.app N34 N35q
              generalize e35 : T35.heap = h35 at Kc35 P35_0 P35_1 P35_2 P35_3 P35_4 P35_5 P35_6
              have K35 : Keep h0 h35 [] := K34.trans Kc35 ((allS (Or.inr sz_b15) (allS (Or.inr sz_sc_16) (allS (Or.inr sz_rt_16) all0))))
              have Z35 : n0 ≤ h35.size := Nat.le_trans Z34 Kc35.1
              have V_dc_16 := V_dc_16.keep Kc35 (ninS (Ne.symm ne_b15_dc_16) (ninS (Ne.symm ne_sc_16_dc_16) (ninS (Ne.symm ne_rt_16_dc_16) nin0)))
              have E_b15 : Exa Z h35 b15 "com/example/maat/maat/search/Accumulator" := P35_0
              have F_scores_b15 : Fld Z h35 b15 "com/example/maat/maat/search/Accumulator" "scores" "[D" (.ref sc_16) := P35_1
              have F_retrieved_b15 : Fld Z h35 b15 "com/example/maat/maat/search/Accumulator" "retrieved" "[Z" (.ref rt_16) := P35_2
              have F_documents_b15 : Fld Z h35 b15 "com/example/maat/maat/search/Accumulator" "documents" "[I" (.ref dc_16) := P35_3
              have F_size_b15 : Fld Z h35 b15 "com/example/maat/maat/search/Accumulator" "size" "I" (.int (0 : Int32)) := P35_4
              have V_sc_16 : Arh Z h35 sc_16 ks_16 .double (3 : Int32) ((i5, (.double FP.dconst0)) :: (i3, (.double FP.dconst0)) :: [(i7, (.double (FP.dadd (FP.dadd (0 : UInt64) r8) r10))), (i5, (.double (FP.dadd (0 : UInt64) r9))), (i3, (.double (FP.dadd (0 : UInt64) r8)))]) [] (.double (0 : UInt64)) := P35_5
              have V_sc_16 : Arh Z h35 sc_16 ks_16 .double (3 : Int32) [(i5, (.double FP.dconst0)), (i3, (.double FP.dconst0)), (i7, (.double (FP.dadd (FP.dadd (0 : UInt64) r8) r10))), (i5, (.double (FP.dadd (0 : UInt64) r9))), (i3, (.double (FP.dadd (0 : UInt64) r8)))] [] (.double (0 : UInt64)) := V_sc_16
              have V_rt_16 : Arh Z h35 rt_16 kr_16 .boolean (3 : Int32) ((i5, (.int (0 : Int32))) :: (i3, (.int (0 : Int32))) :: [(i5, (.int (1 : Int32))), (i3, (.int (1 : Int32)))]) [] (.int (0 : Int32)) := P35_6
              have V_rt_16 : Arh Z h35 rt_16 kr_16 .boolean (3 : Int32) [(i5, (.int (0 : Int32))), (i3, (.int (0 : Int32))), (i5, (.int (1 : Int32))), (i3, (.int (1 : Int32)))] [] (.int (0 : Int32)) := V_rt_16
              have V_sc_16 : Arh Z h35 sc_16 ks_16 .double (3 : Int32) [] [] (.double (0 : UInt64)) := own_clean V_sc_16 (fun i => own_cl0 rfl (fun n0 => own_cl0 rfl (fun n1 => own_cl1 (by omega) (own_cl1 (by omega) (own_cl1 (by omega) (own_getH_nil _ _))))))
              have V_rt_16 : Arh Z h35 rt_16 kr_16 .boolean (3 : Int32) [] [] (.int (0 : Int32)) := own_clean V_rt_16 (fun i => own_cl0 rfl (fun n0 => own_cl0 rfl (fun n1 => own_cl1 (by omega) (own_cl1 (by omega) (own_getH_nil _ _)))))
              exact J153 _ _ _ X35 e35 N35 K35 Z35 _ E_b15 F_scores_b15 F_retrieved_b15 F_documents_b15 F_size_b15 V_sc_16 V_rt_16 V_dc_16
            · have e_i7_i3 : ¬ i7.toInt = i3.toInt := fun q => hq_i7_i3 (Int32.toInt_inj.mp q)
              by_cases hq_i7_i5 : i7 = i5
              · have e_i7_i5 : i7.toInt = i5.toInt := congrArg Int32.toInt hq_i7_i5
                refine R.aload X32 hx (hb hby at_139) rfl rfl (pc' := 141) rfl ?_
                refine R.iload X32 hx (hb hby at_141) rfl (pc' := 143) rfl ?_
                refine R.dload X32 hx (hb hby at_143) rfl (pc' := 145) rfl ?_
                refine R.virtual X32 hx hZ (y := mY2) (z := mY2) hown w_30 w_31 (notFace_of_selects (args := #[]) (mvT hZ w_33)) w_33 w_32 w_7 w_34 (by decide) e32 E_b15 (rmold l Z aZ hw [] b15 i7 r10 sc_16 ks_16 [(i5, (.double (FP.dadd (0 : UInt64) r9))), (i3, (.double (FP.dadd (0 : UInt64) r8)))] rt_16 kr_16 [(i5, (.int (1 : Int32))), (i3, (.int (1 : Int32)))] (3 : Int32) (FP.dadd (0 : UInt64) r9) h32 n0 Z32 F_scores_b15 F_retrieved_b15 V_sc_16 V_rt_16 g_sc_16 ne_b15_sc_16 ne_sc_16_rt_16 (getH_hit ((own_bd (show 0 ≤ i7.toInt ∧ i7.toInt < (3 : Int32).toInt by omega) : ¬ i7 < 0 ∧ i7 < (3 : Int32))).1 (own_eqI (by omega))) (getH_hit ((own_bd (show 0 ≤ i7.toInt ∧ i7.toInt < (3 : Int32).toInt by omega) : ¬ i7 < 0 ∧ i7 < (3 : Int32))).1 (own_eqI (by omega))) ((Dy.add (Dy.add own_zero D11 (by omega) (by decide)) D13 (by omega) (by decide)).nn) ((own_bd (show 0 ≤ i7.toInt ∧ i7.toInt < (3 : Int32).toInt by omega) : ¬ i7 < 0 ∧ i7 < (3 : Int32)))) (by decide) (W := 0) (Nat.le_of_eq rfl) (by decide) (by rw [hml]; rfl) (lenOf pd_2 rfl) rfl (hb hby at_145) (pc' := 148) rfl (by decide) (by decide) ?_; intro v36 T36 L36 X36 hQ36
                obtain ⟨rfl, N36q, Kc36, P36_0⟩ := hQ36
                have N36 := Fr.app N32 N36q
                generalize e36 : T36.heap = h36 at Kc36 P36_0
                have K36 : Keep h0 h36 [] := K32.trans Kc36 ((allS (Or.inr sz_sc_16) all0))
                have Z36 : n0 ≤ h36.size := Nat.le_trans Z32 Kc36.1
                have E_b15 := E_b15.keep Kc36
                have F_scores_b15 := F_scores_b15.keep Kc36 (ninS ne_b15_sc_16 nin0)
                have F_retrieved_b15 := F_retrieved_b15.keep Kc36 (ninS ne_b15_sc_16 nin0)
                have F_documents_b15 := F_documents_b15.keep Kc36 (ninS ne_b15_sc_16 nin0)
                have F_size_b15 := F_size_b15.keep Kc36 (ninS ne_b15_sc_16 nin0)
                have V_rt_16 := V_rt_16.keep Kc36 (ninS (Ne.symm ne_sc_16_rt_16) nin0)
                have V_dc_16 := V_dc_16.keep Kc36 (ninS (Ne.symm ne_sc_16_dc_16) nin0)
                have V_sc_16 : Arh Z h36 sc_16 ks_16 .double (3 : Int32) ((i7, (.double (FP.dadd (FP.dadd (0 : UInt64) r9) r10))) :: [(i5, (.double (FP.dadd (0 : UInt64) r9))), (i3, (.double (FP.dadd (0 : UInt64) r8)))]) [] (.double (0 : UInt64)) := P36_0
                have V_sc_16 : Arh Z h36 sc_16 ks_16 .double (3 : Int32) [(i7, (.double (FP.dadd (FP.dadd (0 : UInt64) r9) r10))), (i5, (.double (FP.dadd (0 : UInt64) r9))), (i3, (.double (FP.dadd (0 : UInt64) r8)))] [] (.double (0 : UInt64)) := V_sc_16
                refine R.aload X36 hx (hb hby at_148) rfl rfl (pc' := 150) rfl ?_
                refine R.virtual X36 hx hZ (y := mY6) (z := mY6) hown w_23 w_24 (notFace_of_selects (args := #[]) (mvT hZ w_26)) w_26 w_25 w_7 w_27 (by decide) e36 E_b15 (rmcl2 l Z aZ hw [] b15 sc_16 ks_16 [(i7, (.double (FP.dadd (FP.dadd (0 : UInt64) r9) r10))), (i5, (.double (FP.dadd (0 : UInt64) r9))), (i3, (.double (FP.dadd (0 : UInt64) r8)))] rt_16 kr_16 [(i5, (.int (1 : Int32))), (i3, (.int (1 : Int32)))] dc_16 kd_16 [((1 : Int32), (.int i5)), ((0 : Int32), (.int i3))] (3 : Int32) i3 i5 h36 n0 Z36 E_b15 F_scores_b15 F_retrieved_b15 F_documents_b15 F_size_b15 g_b15 V_sc_16 V_rt_16 V_dc_16 g_sc_16 g_rt_16 ne_b15_sc_16 ne_b15_rt_16 ne_b15_dc_16 ne_sc_16_rt_16 ne_sc_16_dc_16 ne_rt_16_dc_16 (getH_miss ((⟨by decide, by decide⟩ : ¬ (0 : Int32) < 0 ∧ (0 : Int32) < (3 : Int32))).1 (by decide) (getH_hit ((⟨by decide, by decide⟩ : ¬ (0 : Int32) < 0 ∧ (0 : Int32) < (3 : Int32))).1 (rfl))) (getH_hit ((⟨by decide, by decide⟩ : ¬ (1 : Int32) < 0 ∧ (1 : Int32) < (3 : Int32))).1 (rfl)) (⟨by decide, by decide⟩) (⟨by decide, by decide⟩) ((own_bd (show 0 ≤ i3.toInt ∧ i3.toInt < (3 : Int32).toInt by omega) : ¬ i3 < 0 ∧ i3 < (3 : Int32))) ((own_bd (show 0 ≤ i5.toInt ∧ i5.toInt < (3 : Int32).toInt by omega) : ¬ i5 < 0 ∧ i5 < (3 : Int32)))) (by decide) (W := 0) (Nat.le_of_eq rfl) (by decide) (by rw [hml]; rfl) (lenOf pd_5 rfl) rfl (hb hby at_150) (pc' := 153) rfl (by decide) (by decide) ?_; intro v37 T37 L37 X37 hQ37
                obtain ⟨rfl, N37q, Kc37, P37_0, P37_1, P37_2, P37_3, P37_4, P37_5, P37_6⟩ := hQ37
                have N37 := Fr.app N36 N37q
                generalize e37 : T37.heap = h37 at Kc37 P37_0 P37_1 P37_2 P37_3 P37_4 P37_5 P37_6
                have K37 : Keep h0 h37 [] := K36.trans Kc37 ((allS (Or.inr sz_b15) (allS (Or.inr sz_sc_16) (allS (Or.inr sz_rt_16) all0))))
                have Z37 : n0 ≤ h37.size := Nat.le_trans Z36 Kc37.1
                have V_dc_16 := V_dc_16.keep Kc37 (ninS (Ne.symm ne_b15_dc_16) (ninS (Ne.symm ne_sc_16_dc_16) (ninS (Ne.symm ne_rt_16_dc_16) nin0)))
                have E_b15 : Exa Z h37 b15 "com/example/maat/maat/search/Accumulator" := P37_0
                have F_scores_b15 : Fld Z h37 b15 "com/example/maat/maat/search/Accumulator" "scores" "[D" (.ref sc_16) := P37_1
                have F_retrieved_b15 : Fld Z h37 b15 "com/example/maat/maat/search/Accumulator" "retrieved" "[Z" (.ref rt_16) := P37_2
                have F_documents_b15 : Fld Z h37 b15 "com/example/maat/maat/search/Accumulator" "documents" "[I" (.ref dc_16) := P37_3
                have F_size_b15 : Fld Z h37 b15 "com/example/maat/maat/search/Accumulator" "size" "I" (.int (0 : Int32)) := P37_4
                have V_sc_16 : Arh Z h37 sc_16 ks_16 .double (3 : Int32) ((i5, (.double FP.dconst0)) :: (i3, (.double FP.dconst0)) :: [(i7, (.double (FP.dadd (FP.dadd (0 : UInt64) r9) r10))), (i5, (.double (FP.dadd (0 : UInt64) r9))), (i3, (.double (FP.dadd (0 : UInt64) r8)))]) [] (.double (0 : UInt64)) := P37_5
                have V_sc_16 : Arh Z h37 sc_16 ks_16 .double (3 : Int32) [(i5, (.double FP.dconst0)), (i3, (.double FP.dconst0)), (i7, (.double (FP.dadd (FP.dadd (0 : UInt64) r9) r10))), (i5, (.double (FP.dadd (0 : UInt64) r9))), (i3, (.double (FP.dadd (0 : UInt64) r8)))] [] (.double (0 : UInt64)) := V_sc_16
                have V_rt_16 : Arh Z h37 rt_16 kr_16 .boolean (3 : Int32) ((i5, (.int (0 : Int32))) :: (i3, (.int (0 : Int32))) :: [(i5, (.int (1 : Int32))), (i3, (.int (1 : Int32)))]) [] (.int (0 : Int32)) := P37_6
                have V_rt_16 : Arh Z h37 rt_16 kr_16 .boolean (3 : Int32) [(i5, (.int (0 : Int32))), (i3, (.int (0 : Int32))), (i5, (.int (1 : Int32))), (i3, (.int (1 : Int32)))] [] (.int (0 : Int32)) := V_rt_16
                have V_sc_16 : Arh Z h37 sc_16 ks_16 .double (3 : Int32) [] [] (.double (0 : UInt64)) := own_clean V_sc_16 (fun i => own_cl0 rfl (fun n0 => own_cl0 rfl (fun n1 => own_cl1 (by omega) (own_cl1 (by omega) (own_cl1 (by omega) (own_getH_nil _ _))))))
                have V_rt_16 : Arh Z h37 rt_16 kr_16 .boolean (3 : Int32) [] [] (.int (0 : Int32)) := own_clean V_rt_16 (fun i => own_cl0 rfl (fun n0 => own_cl0 rfl (fun n1 => own_cl1 (by omega) (own_cl1 (by omega) (own_getH_nil _ _)))))
                exact J153 _ _ _ X37 e37 N37 K37 Z37 _ E_b15 F_scores_b15 F_retrieved_b15 F_documents_b15 F_size_b15 V_sc_16 V_rt_16 V_dc_16
              · have e_i7_i5 : ¬ i7.toInt = i5.toInt := fun q => hq_i7_i5 (Int32.toInt_inj.mp q)
                refine R.aload X32 hx (hb hby at_139) rfl rfl (pc' := 141) rfl ?_
                refine R.iload X32 hx (hb hby at_141) rfl (pc' := 143) rfl ?_
                refine R.dload X32 hx (hb hby at_143) rfl (pc' := 145) rfl ?_
                refine R.virtual X32 hx hZ (y := mY2) (z := mY2) hown w_30 w_31 (notFace_of_selects (args := #[]) (mvT hZ w_33)) w_33 w_32 w_7 w_34 (by decide) e32 E_b15 (rmnew l Z aZ hw [] b15 i7 r10 sc_16 ks_16 [(i5, (.double (FP.dadd (0 : UInt64) r9))), (i3, (.double (FP.dadd (0 : UInt64) r8)))] rt_16 kr_16 [(i5, (.int (1 : Int32))), (i3, (.int (1 : Int32)))] dc_16 kd_16 [((1 : Int32), (.int i5)), ((0 : Int32), (.int i3))] (3 : Int32) (0 : UInt64) (2 : Int32) h32 n0 Z32 E_b15 F_scores_b15 F_retrieved_b15 F_documents_b15 F_size_b15 g_b15 V_sc_16 V_rt_16 V_dc_16 g_sc_16 g_rt_16 g_dc_16 ne_b15_sc_16 ne_b15_rt_16 ne_b15_dc_16 ne_sc_16_rt_16 ne_sc_16_dc_16 ne_rt_16_dc_16 (getH_miss ((own_bd (show 0 ≤ i7.toInt ∧ i7.toInt < (3 : Int32).toInt by omega) : ¬ i7 < 0 ∧ i7 < (3 : Int32))).1 (own_neI (by omega)) (getH_miss ((own_bd (show 0 ≤ i7.toInt ∧ i7.toInt < (3 : Int32).toInt by omega) : ¬ i7 < 0 ∧ i7 < (3 : Int32))).1 (own_neI (by omega)) (own_getH_nil _ _))) (getH_miss ((own_bd (show 0 ≤ i7.toInt ∧ i7.toInt < (3 : Int32).toInt by omega) : ¬ i7 < 0 ∧ i7 < (3 : Int32))).1 (own_neI (by omega)) (getH_miss ((own_bd (show 0 ≤ i7.toInt ∧ i7.toInt < (3 : Int32).toInt by omega) : ¬ i7 < 0 ∧ i7 < (3 : Int32))).1 (own_neI (by omega)) (own_getH_nil _ _))) ((Dy.add own_zero D13 (by omega) (by decide)).nn) ((own_bd (show 0 ≤ i7.toInt ∧ i7.toInt < (3 : Int32).toInt by omega) : ¬ i7 < 0 ∧ i7 < (3 : Int32))) ((⟨by decide, by decide⟩ : ¬ (2 : Int32) < 0 ∧ (2 : Int32) < (3 : Int32)))) (by decide) (W := 0) (Nat.le_of_eq rfl) (by decide) (by rw [hml]; rfl) (lenOf pd_2 rfl) rfl (hb hby at_145) (pc' := 148) rfl (by decide) (by decide) ?_; intro v38 T38 L38 X38 hQ38
                obtain ⟨rfl, N38q, Kc38, P38_0, P38_1, P38_2, P38_3, P38_4, P38_5, P38_6, P38_7⟩ := hQ38
                have N38 := Fr.app N32 N38q
                generalize e38 : T38.heap = h38 at Kc38 P38_0 P38_1 P38_2 P38_3 P38_4 P38_5 P38_6 P38_7
                have K38 : Keep h0 h38 [] := K32.trans Kc38 ((allS (Or.inr sz_b15) (allS (Or.inr sz_sc_16) (allS (Or.inr sz_rt_16) (allS (Or.inr sz_dc_16) all0)))))
                have Z38 : n0 ≤ h38.size := Nat.le_trans Z32 Kc38.1
                have E_b15 : Exa Z h38 b15 "com/example/maat/maat/search/Accumulator" := P38_0
                have F_scores_b15 : Fld Z h38 b15 "com/example/maat/maat/search/Accumulator" "scores" "[D" (.ref sc_16) := P38_1
                have F_retrieved_b15 : Fld Z h38 b15 "com/example/maat/maat/search/Accumulator" "retrieved" "[Z" (.ref rt_16) := P38_2
                have F_documents_b15 : Fld Z h38 b15 "com/example/maat/maat/search/Accumulator" "documents" "[I" (.ref dc_16) := P38_3
                have F_size_b15 : Fld Z h38 b15 "com/example/maat/maat/search/Accumulator" "size" "I" (.int (3 : Int32)) := P38_4
                have V_sc_16 : Arh Z h38 sc_16 ks_16 .double (3 : Int32) ((i7, (.double (FP.dadd (0 : UInt64) r10))) :: [(i5, (.double (FP.dadd (0 : UInt64) r9))), (i3, (.double (FP.dadd (0 : UInt64) r8)))]) [] (.double (0 : UInt64)) := P38_5
                have V_sc_16 : Arh Z h38 sc_16 ks_16 .double (3 : Int32) [(i7, (.double (FP.dadd (0 : UInt64) r10))), (i5, (.double (FP.dadd (0 : UInt64) r9))), (i3, (.double (FP.dadd (0 : UInt64) r8)))] [] (.double (0 : UInt64)) := V_sc_16
                have V_rt_16 : Arh Z h38 rt_16 kr_16 .boolean (3 : Int32) ((i7, (.int (1 : Int32))) :: [(i5, (.int (1 : Int32))), (i3, (.int (1 : Int32)))]) [] (.int (0 : Int32)) := P38_6
                have V_rt_16 : Arh Z h38 rt_16 kr_16 .boolean (3 : Int32) [(i7, (.int (1 : Int32))), (i5, (.int (1 : Int32))), (i3, (.int (1 : Int32)))] [] (.int (0 : Int32)) := V_rt_16
                have V_dc_16 : Arh Z h38 dc_16 kd_16 .int (3 : Int32) (((2 : Int32), (.int i7)) :: [((1 : Int32), (.int i5)), ((0 : Int32), (.int i3))]) [] (.int (0 : Int32)) := P38_7
                have V_dc_16 : Arh Z h38 dc_16 kd_16 .int (3 : Int32) [((2 : Int32), (.int i7)), ((1 : Int32), (.int i5)), ((0 : Int32), (.int i3))] [] (.int (0 : Int32)) := V_dc_16
                refine R.aload X38 hx (hb hby at_148) rfl rfl (pc' := 150) rfl ?_
                refine R.virtual X38 hx hZ (y := mY6) (z := mY6) hown w_23 w_24 (notFace_of_selects (args := #[]) (mvT hZ w_26)) w_26 w_25 w_7 w_27 (by decide) e38 E_b15 (rmcl3 l Z aZ hw [] b15 sc_16 ks_16 [(i7, (.double (FP.dadd (0 : UInt64) r10))), (i5, (.double (FP.dadd (0 : UInt64) r9))), (i3, (.double (FP.dadd (0 : UInt64) r8)))] rt_16 kr_16 [(i7, (.int (1 : Int32))), (i5, (.int (1 : Int32))), (i3, (.int (1 : Int32)))] dc_16 kd_16 [((2 : Int32), (.int i7)), ((1 : Int32), (.int i5)), ((0 : Int32), (.int i3))] (3 : Int32) i3 i5 i7 h38 n0 Z38 E_b15 F_scores_b15 F_retrieved_b15 F_documents_b15 F_size_b15 g_b15 V_sc_16 V_rt_16 V_dc_16 g_sc_16 g_rt_16 ne_b15_sc_16 ne_b15_rt_16 ne_b15_dc_16 ne_sc_16_rt_16 ne_sc_16_dc_16 ne_rt_16_dc_16 (getH_miss ((⟨by decide, by decide⟩ : ¬ (0 : Int32) < 0 ∧ (0 : Int32) < (3 : Int32))).1 (by decide) (getH_miss ((⟨by decide, by decide⟩ : ¬ (0 : Int32) < 0 ∧ (0 : Int32) < (3 : Int32))).1 (by decide) (getH_hit ((⟨by decide, by decide⟩ : ¬ (0 : Int32) < 0 ∧ (0 : Int32) < (3 : Int32))).1 (rfl)))) (getH_miss ((⟨by decide, by decide⟩ : ¬ (1 : Int32) < 0 ∧ (1 : Int32) < (3 : Int32))).1 (by decide) (getH_hit ((⟨by decide, by decide⟩ : ¬ (1 : Int32) < 0 ∧ (1 : Int32) < (3 : Int32))).1 (rfl))) (getH_hit ((⟨by decide, by decide⟩ : ¬ (2 : Int32) < 0 ∧ (2 : Int32) < (3 : Int32))).1 (rfl)) (⟨by decide, by decide⟩) (⟨by decide, by decide⟩) (⟨by decide, by decide⟩) ((own_bd (show 0 ≤ i3.toInt ∧ i3.toInt < (3 : Int32).toInt by omega) : ¬ i3 < 0 ∧ i3 < (3 : Int32))) ((own_bd (show 0 ≤ i5.toInt ∧ i5.toInt < (3 : Int32).toInt by omega) : ¬ i5 < 0 ∧ i5 < (3 : Int32))) ((own_bd (show 0 ≤ i7.toInt ∧ i7.toInt < (3 : Int32).toInt by omega) : ¬ i7 < 0 ∧ i7 < (3 : Int32)))) (by decide) (W := 0) (Nat.le_of_eq rfl) (by decide) (by rw [hml]; rfl) (lenOf pd_5 rfl) rfl (hb hby at_150) (pc' := 153) rfl (by decide) (by decide) ?_; intro v39 T39 L39 X39 hQ39
                obtain ⟨rfl, N39q, Kc39, P39_0, P39_1, P39_2, P39_3, P39_4, P39_5, P39_6⟩ := hQ39
                have N39 := Fr.app N38 N39q
                generalize e39 : T39.heap = h39 at Kc39 P39_0 P39_1 P39_2 P39_3 P39_4 P39_5 P39_6
                have K39 : Keep h0 h39 [] := K38.trans Kc39 ((allS (Or.inr sz_b15) (allS (Or.inr sz_sc_16) (allS (Or.inr sz_rt_16) all0))))
                have Z39 : n0 ≤ h39.size := Nat.le_trans Z38 Kc39.1
                have V_dc_16 := V_dc_16.keep Kc39 (ninS (Ne.symm ne_b15_dc_16) (ninS (Ne.symm ne_sc_16_dc_16) (ninS (Ne.symm ne_rt_16_dc_16) nin0)))
                have E_b15 : Exa Z h39 b15 "com/example/maat/maat/search/Accumulator" := P39_0
                have F_scores_b15 : Fld Z h39 b15 "com/example/maat/maat/search/Accumulator" "scores" "[D" (.ref sc_16) := P39_1
                have F_retrieved_b15 : Fld Z h39 b15 "com/example/maat/maat/search/Accumulator" "retrieved" "[Z" (.ref rt_16) := P39_2
                have F_documents_b15 : Fld Z h39 b15 "com/example/maat/maat/search/Accumulator" "documents" "[I" (.ref dc_16) := P39_3
                have F_size_b15 : Fld Z h39 b15 "com/example/maat/maat/search/Accumulator" "size" "I" (.int (0 : Int32)) := P39_4
                have V_sc_16 : Arh Z h39 sc_16 ks_16 .double (3 : Int32) ((i7, (.double FP.dconst0)) :: (i5, (.double FP.dconst0)) :: (i3, (.double FP.dconst0)) :: [(i7, (.double (FP.dadd (0 : UInt64) r10))), (i5, (.double (FP.dadd (0 : UInt64) r9))), (i3, (.double (FP.dadd (0 : UInt64) r8)))]) [] (.double (0 : UInt64)) := P39_5
                have V_sc_16 : Arh Z h39 sc_16 ks_16 .double (3 : Int32) [(i7, (.double FP.dconst0)), (i5, (.double FP.dconst0)), (i3, (.double FP.dconst0)), (i7, (.double (FP.dadd (0 : UInt64) r10))), (i5, (.double (FP.dadd (0 : UInt64) r9))), (i3, (.double (FP.dadd (0 : UInt64) r8)))] [] (.double (0 : UInt64)) := V_sc_16
                have V_rt_16 : Arh Z h39 rt_16 kr_16 .boolean (3 : Int32) ((i7, (.int (0 : Int32))) :: (i5, (.int (0 : Int32))) :: (i3, (.int (0 : Int32))) :: [(i7, (.int (1 : Int32))), (i5, (.int (1 : Int32))), (i3, (.int (1 : Int32)))]) [] (.int (0 : Int32)) := P39_6
                have V_rt_16 : Arh Z h39 rt_16 kr_16 .boolean (3 : Int32) [(i7, (.int (0 : Int32))), (i5, (.int (0 : Int32))), (i3, (.int (0 : Int32))), (i7, (.int (1 : Int32))), (i5, (.int (1 : Int32))), (i3, (.int (1 : Int32)))] [] (.int (0 : Int32)) := V_rt_16
                have V_sc_16 : Arh Z h39 sc_16 ks_16 .double (3 : Int32) [] [] (.double (0 : UInt64)) := own_clean V_sc_16 (fun i => own_cl0 rfl (fun n0 => own_cl0 rfl (fun n1 => own_cl0 rfl (fun n2 => own_cl1 (by omega) (own_cl1 (by omega) (own_cl1 (by omega) (own_getH_nil _ _)))))))
                have V_rt_16 : Arh Z h39 rt_16 kr_16 .boolean (3 : Int32) [] [] (.int (0 : Int32)) := own_clean V_rt_16 (fun i => own_cl0 rfl (fun n0 => own_cl0 rfl (fun n1 => own_cl0 rfl (fun n2 => own_cl1 (by omega) (own_cl1 (by omega) (own_cl1 (by omega) (own_getH_nil _ _)))))))
                exact J153 _ _ _ X39 e39 N39 K39 Z39 _ E_b15 F_scores_b15 F_retrieved_b15 F_documents_b15 F_size_b15 V_sc_16 V_rt_16 V_dc_16
  exact (Rn.st (fun t k => castTop (ef_0 m p0 p1 p2 p3 p4) k) first_ : Rn p e below (s₁.setTop (entryFrame m #[(.int p0), (.int p1), (.int p2), (.int p3), (.int p4)] maxLocals)) (Fn0 Z p0 p1 p2 p3 p4 h0 n0 s))
set_option maxRecDepth 65536 in
set_option maxHeartbeats 40000000 in
theorem comes_1 {Post : Tables → Env → Array Value → State → Outcome → State → Prop} (hpost : ∀ tb e args s v u, (limb_1_1.after args s (.returned v) u = true ∧ limb_1_2.after args s (.returned v) u = true ∧ True) → FrameEnd s (.returned v) u (Jvm.fieldLocs frame_1_writes args s ++ Jvm.arrayLocs frame_1_arrays args s ++ Jvm.staticLocs frame_1_statics s) 16 128 → Post tb e args s (.returned v) u) :
    ArmFor flags0 classFile x code maxLocals ret World_1 tables_1 room_1 Calls_1 rest_1 Pre_1 Post := by
  intro l hfl _ _ p e ha hc hk s m args below hf hA hF happ hP
  obtain ⟨hcalls, hrest, hpre⟩ := hP
  obtain ⟨-, -, -, hnamed, -, -, -, hat⟩ := (Spec.applies_iff hf).mp happ
  obtain ⟨hg, hn⟩ := and_e (Cond.before_iff.mp (show (Jvm.Cond.and given_1 narrow_1).before args s = true from hpre))
  obtain ⟨g1, g2⟩ := and_e hg
  obtain ⟨g3, g4⟩ := and_e g2
  obtain ⟨g5, g6⟩ := and_e g4
  obtain ⟨g7, g8⟩ := and_e g6
  obtain ⟨g9, g10⟩ := and_e g8
  obtain ⟨w0, w1, w2, w3, w4, rfl⟩ : ∃ w0 w1 w2 w3 w4 : Value, args = #[w0, w1, w2, w3, w4] := by
    have hs : args.size = 5 := by simpa [Cond.value, given_1] using g1
    obtain ⟨L⟩ := args
    match L, hs with
    | [w0, w1, w2, w3, w4], _ => exact ⟨w0, w1, w2, w3, w4, rfl⟩
  have hw := fun d (hd : d ∈ tables_1) => atoms_spec (ws := Jvm.Cond.code x code maxLocals ret :: tables_1) hat d (List.mem_cons_of_mem _ hd)
  obtain ⟨i0, ei0⟩ := is_v g3
  obtain rfl : w0 = (.int i0) := Option.some.inj ei0
  obtain ⟨i1, ei1⟩ := is_v g5
  obtain rfl : w1 = (.int i1) := Option.some.inj ei1
  obtain ⟨i2, ei2⟩ := is_v g7
  obtain rfl : w2 = (.int i2) := Option.some.inj ei2
  obtain ⟨i3, ei3⟩ := is_v g9
  obtain rfl : w3 = (.int i3) := Option.some.inj ei3
  obtain ⟨i4, ei4⟩ := is_v g10
  obtain rfl : w4 = (.int i4) := Option.some.inj ei4
  obtain ⟨n, o, h1, h2, h3, _, L, rfl, ⟨rfl, N⟩, hq⟩ := rm0 l s _ hw tables_1 i0 i1 i2 i3 i4 s.heap s.heap.size (Nat.le_refl _) p e ha hc hk s m _ below hf ((Spec.applies_iff_loose hf).mp happ).1 ⟨rfl, State.Warmed39.refl s, rfl⟩ trivial
  refine ⟨n, _, h1, h2, h3, hpost _ _ _ _ _ _ ⟨Cond.after_iff.mpr rfl, Cond.after_iff.mpr (eq_i res_at (Term.int_eval (1)) rfl), trivial⟩ ⟨hq.1, hq.2.1, (hq.2.2.sift fun y hy => Or.inr (N y hy)).mono (by decide) (by decide)⟩⟩
theorem main_1_1 : Claimed_1_1 := comes_1 fun _ _ _ _ _ _ h hF => ⟨h.1, hF⟩
theorem main_1_2 : Claimed_1_2 := comes_1 fun _ _ _ _ _ _ h hF => ⟨h.2.1, hF⟩
end Jvm.Pilot.@@N@@
namespace Jvm.Pilot.@@N@@
open Jvm Jvm.ClassFile Sem Op Lib Jvm.Free Jvm.Stand Jvm.Pilot.@@N@@.Jvm.D
/-! MADE BY PROGRAM (witnessworld.py) out of the Statement's table words and the real class files: 13 classes; the members and pool entries that the words name. The judged class is class 1, her method 2. -/
namespace start1
open Jvm.ClassFile
def u (s : String) : CpInfo := .utf8 (stringToUtf16 s)
/-- a pool by its gaps: so many unusable entries, then the entry; so many at the end -/
def gap : Nat → List CpInfo → List CpInfo
  | 0, r => r
  | n + 1, r => .unusable :: gap n r
def poolList (es : List (Nat × CpInfo)) (last : Nat) : List CpInfo := es.foldr (fun e r => gap e.1 (e.2 :: r)) (gap last [])
def pool (es : List (Nat × CpInfo)) (last : Nat) : Array CpInfo := ⟨poolList es last⟩
def fileOf (pool : Array CpInfo) (this : Nat) (attrs : Array Attribute := #[]) (ms : Array MethodInfo := #[]) (fl : Nat := 33) (sup : Nat := 0) (ifs : Array Nat := #[]) (fds : Array FieldInfo := #[]) : ClassFile where
  minorVersion := 0
  majorVersion := 65
  constantPool := pool
  accessFlags := fl
  thisClass := this
  superClass := sup
  interfaces := ifs
  fields := fds
  methods := ms
  attributes := attrs
def plain (name : String) (sup : Option ClassId) : Class where
  name := name
  kind := .ordinary
  loader := none
  accessFlags := 33
  super := sup
  interfaces := #[]
  cf := none
  fields := #[]
  methods := #[]
  instanceTypes := #[]
  staticTypes := #[]
  resolved := #[]
  callSites := []
  init := .initialized
  statics := none
  mirror := none

def pool0 : Array CpInfo := pool [(5, u "<init>"), (0, u "()V"), (1, .class_ 10), (1, u "java/lang/Object")] 113

def k0c0 : Code := { maxStack := 0, maxLocals := 1, code := object_method_1_code, exceptionTable := #[], attributes := #[] }
def k0m0 : Method := { name := "<init>", desc := "()V", sig := { parameters := [], returnType := none }, accessFlags := 1, code := some k0c0 }
/-- java/lang/Object -/
def k0 : Class := { plain "java/lang/Object" none with
  accessFlags := 33
  interfaces := #[]
  cf := some (fileOf pool0 8 #[] #[{ accessFlags := 1, nameIndex := 5, descriptorIndex := 6, attributes := #[] }] 33 0 #[] #[])
  fields := #[]
  methods := #[k0m0]
  instanceTypes := #[]
  staticTypes := #[]
  resolved := Array.replicate 124 none
  statics := none }

def pool1 : Array CpInfo := pool [(2, .class_ 4), (1, u "java/lang/Object"), (0, u "<init>"), (0, u "()V"), (0, .methodref 8 9), (0, .class_ 10), (0, .nameAndType 11 12), (0, u "com/example/maat/maat/search/AccumulatorClearPinLaw"), (0, u "doc"), (0, u "(I)I"), (0, .integer 2147483647), (0, .class_ 15), (0, u "com/example/maat/maat/search/Accumulator"), (0, .methodref 14 17), (0, .nameAndType 5 18), (0, u "(I)V"), (0, .methodref 14 20), (0, .nameAndType 21 22), (0, u "add"), (0, u "(ID)V"), (0, .methodref 14 24), (0, .nameAndType 25 6), (0, u "clear"), (0, .methodref 14 27), (0, .nameAndType 28 29), (0, u "size"), (0, u "()I"), (0, .methodref 14 31), (0, .nameAndType 32 12), (0, u "document"), (0, .methodref 14 34), (0, .nameAndType 35 36), (0, u "score"), (0, u "(I)D"), (2, u "law"), (0, u "(IIIII)Z")] 3

def k1m0 : Method := { name := "<init>", desc := "()V", sig := { parameters := [], returnType := none }, accessFlags := 1, code := none }
def k1c1 : Code := { maxStack := 2, maxLocals := 1, code := method_2_code, exceptionTable := #[], attributes := #[] }
def k1m1 : Method := { name := "doc", desc := "(I)I", sig := { parameters := [.int], returnType := some .int }, accessFlags := 10, code := some k1c1 }
def k1c2 : Code := { maxStack := 4, maxLocals := 25, code := code, exceptionTable := #[], attributes := #[] }
def k1m2 : Method := { name := "law", desc := "(IIIII)Z", sig := { parameters := [.int, .int, .int, .int, .int], returnType := some .boolean }, accessFlags := 9, code := some k1c2 }
/-- com/example/maat/maat/search/AccumulatorClearPinLaw -/
def k1 : Class := { plain "com/example/maat/maat/search/AccumulatorClearPinLaw" (some 0) with
  accessFlags := 49
  interfaces := #[]
  cf := some (fileOf pool1 8 #[] #[{ accessFlags := 1, nameIndex := 5, descriptorIndex := 6, attributes := #[] }, { accessFlags := 10, nameIndex := 11, descriptorIndex := 12, attributes := #[] }, { accessFlags := 9, nameIndex := 39, descriptorIndex := 40, attributes := #[] }] 49 2 #[] #[])
  fields := #[]
  methods := #[k1m0, k1m1, k1m2]
  instanceTypes := #[]
  staticTypes := #[]
  resolved := Array.replicate 44 none
  statics := none }

def pool2 : Array CpInfo := pool [(1, .methodref 2 3), (0, .class_ 4), (0, .nameAndType 5 6), (0, u "java/lang/Object"), (0, u "<init>"), (0, u "()V"), (0, .fieldref 8 9), (0, .class_ 10), (0, .nameAndType 11 12), (0, u "com/example/maat/maat/search/Accumulator"), (0, u "scores"), (0, u "[D"), (0, .fieldref 8 14), (0, .nameAndType 15 16), (0, u "retrieved"), (0, u "[Z"), (0, .fieldref 8 18), (0, .nameAndType 19 20), (0, u "documents"), (0, u "[I"), (0, .fieldref 8 22), (0, .nameAndType 23 24), (0, u "size"), (0, u "I"), (0, u "(I)V"), (2, u "add"), (0, u "(ID)V"), (1, u "()I"), (0, u "document"), (0, u "(I)I"), (0, u "score"), (0, u "(I)D"), (0, u "clear")] 2

def k2c0 : Code := { maxStack := 2, maxLocals := 2, code := prog_23_method_1_code, exceptionTable := #[], attributes := #[] }
def k2m0 : Method := { name := "<init>", desc := "(I)V", sig := { parameters := [.int], returnType := none }, accessFlags := 0, code := some k2c0 }
def k2c1 : Code := { maxStack := 6, maxLocals := 4, code := prog_23_method_2_code, exceptionTable := #[], attributes := #[] }
def k2m1 : Method := { name := "add", desc := "(ID)V", sig := { parameters := [.int, .double], returnType := none }, accessFlags := 0, code := some k2c1 }
def k2c2 : Code := { maxStack := 1, maxLocals := 1, code := prog_23_method_3_code, exceptionTable := #[], attributes := #[] }
def k2m2 : Method := { name := "size", desc := "()I", sig := { parameters := [], returnType := some .int }, accessFlags := 0, code := some k2c2 }
def k2c3 : Code := { maxStack := 2, maxLocals := 2, code := prog_23_method_4_code, exceptionTable := #[], attributes := #[] }
def k2m3 : Method := { name := "document", desc := "(I)I", sig := { parameters := [.int], returnType := some .int }, accessFlags := 0, code := some k2c3 }
def k2c4 : Code := { maxStack := 2, maxLocals := 2, code := prog_23_method_5_code, exceptionTable := #[], attributes := #[] }
def k2m4 : Method := { name := "score", desc := "(I)D", sig := { parameters := [.int], returnType := some .double }, accessFlags := 0, code := some k2c4 }
def k2c5 : Code := { maxStack := 4, maxLocals := 2, code := prog_23_method_6_code, exceptionTable := #[], attributes := #[] }
def k2m5 : Method := { name := "clear", desc := "()V", sig := { parameters := [], returnType := none }, accessFlags := 0, code := some k2c5 }
/-- com/example/maat/maat/search/Accumulator -/
def k2 : Class := { plain "com/example/maat/maat/search/Accumulator" (some 0) with
  accessFlags := 48
  interfaces := #[]
  cf := some (fileOf pool2 8 #[] #[{ accessFlags := 0, nameIndex := 5, descriptorIndex := 25, attributes := #[] }, { accessFlags := 0, nameIndex := 28, descriptorIndex := 29, attributes := #[] }, { accessFlags := 0, nameIndex := 23, descriptorIndex := 31, attributes := #[] }, { accessFlags := 0, nameIndex := 32, descriptorIndex := 33, attributes := #[] }, { accessFlags := 0, nameIndex := 34, descriptorIndex := 35, attributes := #[] }, { accessFlags := 0, nameIndex := 36, descriptorIndex := 6, attributes := #[] }] 48 2 #[] #[{ accessFlags := 18, nameIndex := 11, descriptorIndex := 12, attributes := #[] }, { accessFlags := 18, nameIndex := 15, descriptorIndex := 16, attributes := #[] }, { accessFlags := 18, nameIndex := 19, descriptorIndex := 20, attributes := #[] }, { accessFlags := 2, nameIndex := 23, descriptorIndex := 24, attributes := #[] }])
  fields := #[{ name := "scores", type := (.array .double), accessFlags := 18, slot := 0, constantValue := 0 }, { name := "retrieved", type := (.array .boolean), accessFlags := 18, slot := 1, constantValue := 0 }, { name := "documents", type := (.array .int), accessFlags := 18, slot := 2, constantValue := 0 }, { name := "size", type := .int, accessFlags := 2, slot := 3, constantValue := 0 }]
  methods := #[k2m0, k2m1, k2m2, k2m3, k2m4, k2m5]
  instanceTypes := #[(.array .double), (.array .boolean), (.array .int), .int]
  staticTypes := #[]
  resolved := Array.replicate 39 none
  statics := none }

def pool3 : Array CpInfo := pool [(1, u "java/lang/Cloneable"), (0, .class_ 1), (0, u "java/lang/Object"), (0, .class_ 3)] 3

/-- java/lang/Cloneable -/
def k3 : Class := { plain "java/lang/Cloneable" (some 0) with
  accessFlags := 1537
  interfaces := #[]
  cf := some (fileOf pool3 2 #[] #[] 1537 4 #[] #[])
  fields := #[]
  methods := #[]
  instanceTypes := #[]
  staticTypes := #[]
  resolved := Array.replicate 8 none
  statics := none }

def pool4 : Array CpInfo := pool [(1, u "java/io/Serializable"), (0, .class_ 1), (0, u "java/lang/Object"), (0, .class_ 3)] 3

/-- java/io/Serializable -/
def k4 : Class := { plain "java/io/Serializable" (some 0) with
  accessFlags := 1537
  interfaces := #[]
  cf := some (fileOf pool4 2 #[] #[] 1537 4 #[] #[])
  fields := #[]
  methods := #[]
  instanceTypes := #[]
  staticTypes := #[]
  resolved := Array.replicate 8 none
  statics := none }

/-- the primitive boolean -/
def k5 : Class := { plain "boolean" none with kind := .primitive 'Z', accessFlags := 0x411 }
/-- [Z -/
def k6 : Class := { plain "[Z" (some 0) with kind := .array 5 .boolean, interfaces := #[3, 4], accessFlags := 1041 }

/-- the primitive byte -/
def k7 : Class := { plain "byte" none with kind := .primitive 'B', accessFlags := 0x411 }
/-- [B -/
def k8 : Class := { plain "[B" (some 0) with kind := .array 7 .byte, interfaces := #[3, 4], accessFlags := 1041 }

/-- the primitive double -/
def k9 : Class := { plain "double" none with kind := .primitive 'D', accessFlags := 0x411 }
/-- [D -/
def k10 : Class := { plain "[D" (some 0) with kind := .array 9 .double, interfaces := #[3, 4], accessFlags := 1041 }

/-- the primitive int -/
def k11 : Class := { plain "int" none with kind := .primitive 'I', accessFlags := 0x411 }
/-- [I -/
def k12 : Class := { plain "[I" (some 0) with kind := .array 11 .int, interfaces := #[3, 4], accessFlags := 1041 }

def heap : Heap := #[]
def classes : Array Class := #[k0, k1, k2, k3, k4, k5, k6, k7, k8, k9, k10, k11, k12]
def interned : List (Array UInt16 × Addr) := []
def slotsUsed : Nat := 0
def theMethod : MethodId := ⟨1, 2⟩
def args0 : Array Value := #[.int 5, .int 5, .int 5, .int 5, .int 5]
def aboutOver (below : List Frame) : State where
  vm := { classes := classes, interned := interned.toArray }
  heap := heap
  slotsUsed := slotsUsed
  threads := #[{ frames := .invoking theMethod args0 :: below }]
def below0 : List Frame := [.native { method := ⟨0, 0⟩, args := #[] }]
def about1 : State := aboutOver below0
def p0 : Program := .bare "" "" ""
def e0 : Env := launch0.env 0 0 0
theorem w_frames : about1.frames = Frame.invoking theMethod args0 :: below0 := rfl
set_option maxRecDepth 65536 in
theorem w_args : argsFit about1.vm theMethod args0 = true := by decide +kernel
set_option maxRecDepth 65536 in
theorem w_heap : heapFits about1 = true := by decide +kernel
set_option maxRecDepth 65536 in
theorem w_runnable : about1.curStatus? = some .runnable := by decide +kernel
set_option maxRecDepth 65536 in
theorem w_alone : about1.alone = true := by decide +kernel
set_option maxRecDepth 65536 in
theorem w_named : about1.methodNamed? x = some theMethod := by decide +kernel
set_option maxRecDepth 65536 in
theorem w_hears : about1.hears theMethod below0 = true := by decide +kernel
set_option maxRecDepth 65536 in
theorem w_ripe : about1.ripe theMethod args0 below0 = true := by decide +kernel
theorem w_running : about1.status = .running := rfl
set_option maxRecDepth 65536 in
theorem w_room : about1.hasRoom e0.platform room_1 = true :=
  launch0.hasRoom_least _ room_1 (by decide +kernel) (by decide +kernel) (by decide +kernel) (by decide +kernel) (by decide +kernel) (by decide +kernel)
theorem allAtoms_all (ts : List Jvm.Cond) (a : Array Jvm.Value) (st : Jvm.State) : (allAtoms ts).before a st = ts.all (fun c => c.before a st) := by
  induction ts with
  | nil => rfl
  | cons c t ih =>
    show (Jvm.Cond.and c (allAtoms t)).before a st = _
    rw [Jvm.Cond.before_and, ih, List.all_cons]
def words1 : List Jvm.Cond := Jvm.Cond.code x code maxLocals ret :: tables_1
/-- a 'code' word, met by the world's own term for the bytes: nothing is compared byte by byte -/
theorem code_word {y : MethodName} {bytes : ByteArray} {mx : Nat} {rt : Option FieldType} {a : Array Value} {s : State} {m : MethodId} {meth : Method} {c : Code} (h1 : s.methodNamed? y = some m) (h2 : s.vm.method? m = some meth) (h3 : meth.code = some c) (h4 : c.code = bytes)
    (h5 : (c.maxLocals == mx && c.exceptionTable.isEmpty && decide (c.maxStack ≤ mostOperands) && decide (meth.sig.returnType = rt) && !meth.locks && decide (parseMethodDescriptor y.desc = some meth.sig)) = true) : (Jvm.Cond.code y bytes mx rt).before a s = true := by
  simp only [Bool.and_eq_true, beq_iff_eq, Bool.not_eq_true', decide_eq_true_eq] at h5
  obtain ⟨⟨⟨⟨⟨g1, g2⟩, g3⟩, g4⟩, g5⟩, g6⟩ := h5
  simp [Cond.before, Cond.holds, Cond.value, h1, h2, h3, h4, g1, g2, g3, g4, g5, g6]
def isCode : Jvm.Cond → Bool
  | .code _ _ _ _ => true
  | _ => false
theorem all_split {L : List Jvm.Cond} {P : Jvm.Cond → Bool} (h1 : L.all (fun c => isCode c || P c) = true) (h2 : ∀ c ∈ L.filter isCode, P c = true) : L.all P = true := by
  refine List.all_eq_true.mpr fun c hc => ?_
  have h := List.all_eq_true.mp h1 c hc
  rcases Bool.eq_false_or_eq_true (isCode c) with hi | hi
  · exact h2 c (List.mem_filter.mpr ⟨hc, hi⟩)
  · simpa [hi] using h
set_option maxRecDepth 65536 in
theorem w_c0 : (Jvm.Cond.code x code maxLocals ret).before args0 about1 = true := code_word (m := ⟨1, 2⟩) (meth := k1m2) (c := k1c2) (by decide +kernel) rfl rfl rfl (by decide +kernel)
set_option maxRecDepth 65536 in
theorem w_c1 : (Jvm.Cond.code ({ cls := "com/example/maat/maat/search/AccumulatorClearPinLaw", name := "doc", desc := "(I)I" } : Jvm.MethodName) method_2_code (1 : Nat) (Option.some Jvm.ClassFile.FieldType.int)).before args0 about1 = true := code_word (m := ⟨1, 1⟩) (meth := k1m1) (c := k1c1) (by decide +kernel) rfl rfl rfl (by decide +kernel)
set_option maxRecDepth 65536 in
theorem w_c2 : (Jvm.Cond.code ({ cls := "com/example/maat/maat/search/Accumulator", name := "<init>", desc := "(I)V" } : Jvm.MethodName) prog_23_method_1_code (2 : Nat) (Option.none : Option Jvm.ClassFile.FieldType)).before args0 about1 = true := code_word (m := ⟨2, 0⟩) (meth := k2m0) (c := k2c0) (by decide +kernel) rfl rfl rfl (by decide +kernel)
set_option maxRecDepth 65536 in
theorem w_c3 : (Jvm.Cond.code ({ cls := "java/lang/Object", name := "<init>", desc := "()V" } : Jvm.MethodName) object_method_1_code (1 : Nat) (Option.none : Option Jvm.ClassFile.FieldType)).before args0 about1 = true := code_word (m := ⟨0, 0⟩) (meth := k0m0) (c := k0c0) (by decide +kernel) rfl rfl rfl (by decide +kernel)
set_option maxRecDepth 65536 in
theorem w_c4 : (Jvm.Cond.code ({ cls := "com/example/maat/maat/search/Accumulator", name := "clear", desc := "()V" } : Jvm.MethodName) prog_23_method_6_code (2 : Nat) (Option.none : Option Jvm.ClassFile.FieldType)).before args0 about1 = true := code_word (m := ⟨2, 5⟩) (meth := k2m5) (c := k2c5) (by decide +kernel) rfl rfl rfl (by decide +kernel)
set_option maxRecDepth 65536 in
theorem w_c5 : (Jvm.Cond.code ({ cls := "com/example/maat/maat/search/Accumulator", name := "add", desc := "(ID)V" } : Jvm.MethodName) prog_23_method_2_code (4 : Nat) (Option.none : Option Jvm.ClassFile.FieldType)).before args0 about1 = true := code_word (m := ⟨2, 1⟩) (meth := k2m1) (c := k2c1) (by decide +kernel) rfl rfl rfl (by decide +kernel)
set_option maxRecDepth 65536 in
theorem w_c6 : (Jvm.Cond.code ({ cls := "com/example/maat/maat/search/Accumulator", name := "size", desc := "()I" } : Jvm.MethodName) prog_23_method_3_code (1 : Nat) (Option.some Jvm.ClassFile.FieldType.int)).before args0 about1 = true := code_word (m := ⟨2, 2⟩) (meth := k2m2) (c := k2c2) (by decide +kernel) rfl rfl rfl (by decide +kernel)
set_option maxRecDepth 65536 in
theorem w_c7 : (Jvm.Cond.code ({ cls := "com/example/maat/maat/search/Accumulator", name := "document", desc := "(I)I" } : Jvm.MethodName) prog_23_method_4_code (2 : Nat) (Option.some Jvm.ClassFile.FieldType.int)).before args0 about1 = true := code_word (m := ⟨2, 3⟩) (meth := k2m3) (c := k2c3) (by decide +kernel) rfl rfl rfl (by decide +kernel)
set_option maxRecDepth 65536 in
theorem w_c8 : (Jvm.Cond.code ({ cls := "com/example/maat/maat/search/Accumulator", name := "score", desc := "(I)D" } : Jvm.MethodName) prog_23_method_5_code (2 : Nat) (Option.some Jvm.ClassFile.FieldType.double)).before args0 about1 = true := code_word (m := ⟨2, 4⟩) (meth := k2m4) (c := k2c4) (by decide +kernel) rfl rfl rfl (by decide +kernel)
def codes1 : List Jvm.Cond := [Jvm.Cond.code x code maxLocals ret, Jvm.Cond.code ({ cls := "com/example/maat/maat/search/AccumulatorClearPinLaw", name := "doc", desc := "(I)I" } : Jvm.MethodName) method_2_code (1 : Nat) (Option.some Jvm.ClassFile.FieldType.int), Jvm.Cond.code ({ cls := "com/example/maat/maat/search/Accumulator", name := "<init>", desc := "(I)V" } : Jvm.MethodName) prog_23_method_1_code (2 : Nat) (Option.none : Option Jvm.ClassFile.FieldType), Jvm.Cond.code ({ cls := "java/lang/Object", name := "<init>", desc := "()V" } : Jvm.MethodName) object_method_1_code (1 : Nat) (Option.none : Option Jvm.ClassFile.FieldType), Jvm.Cond.code ({ cls := "com/example/maat/maat/search/Accumulator", name := "clear", desc := "()V" } : Jvm.MethodName) prog_23_method_6_code (2 : Nat) (Option.none : Option Jvm.ClassFile.FieldType), Jvm.Cond.code ({ cls := "com/example/maat/maat/search/Accumulator", name := "add", desc := "(ID)V" } : Jvm.MethodName) prog_23_method_2_code (4 : Nat) (Option.none : Option Jvm.ClassFile.FieldType), Jvm.Cond.code ({ cls := "com/example/maat/maat/search/Accumulator", name := "size", desc := "()I" } : Jvm.MethodName) prog_23_method_3_code (1 : Nat) (Option.some Jvm.ClassFile.FieldType.int), Jvm.Cond.code ({ cls := "com/example/maat/maat/search/Accumulator", name := "document", desc := "(I)I" } : Jvm.MethodName) prog_23_method_4_code (2 : Nat) (Option.some Jvm.ClassFile.FieldType.int), Jvm.Cond.code ({ cls := "com/example/maat/maat/search/Accumulator", name := "score", desc := "(I)D" } : Jvm.MethodName) prog_23_method_5_code (2 : Nat) (Option.some Jvm.ClassFile.FieldType.double)]
set_option maxRecDepth 65536 in
theorem codes_eq : words1.filter isCode = codes1 := rfl
theorem w_codes : ∀ c ∈ words1.filter isCode, c.before args0 about1 = true := by
  rw [codes_eq]
  intro c hc
  simp only [codes1, List.mem_cons, List.not_mem_nil, or_false] at hc
  rcases hc with rfl | rfl | rfl | rfl | rfl | rfl | rfl | rfl | rfl
  · exact w_c0
  · exact w_c1
  · exact w_c2
  · exact w_c3
  · exact w_c4
  · exact w_c5
  · exact w_c6
  · exact w_c7
  · exact w_c8
set_option maxRecDepth 65536 in
theorem w_t1 : (words1.take 24).all (fun c => isCode c || c.before args0 about1) = true := by decide +kernel
set_option maxRecDepth 65536 in
theorem w_t2 : ((words1.drop 24).take 24).all (fun c => isCode c || c.before args0 about1) = true := by decide +kernel
set_option maxRecDepth 65536 in
theorem w_t3 : ((words1.drop 24).drop 24).all (fun c => isCode c || c.before args0 about1) = true := by decide +kernel
theorem w_tables : (allAtoms (Jvm.Cond.code x code maxLocals ret :: tables_1)).before args0 about1 = true := by
  rw [allAtoms_all]
  show words1.all (fun c => c.before args0 about1) = true
  refine all_split ?_ w_codes
  rw [← List.take_append_drop 24 words1, List.all_append, w_t1, ← List.take_append_drop 24 (words1.drop 24), List.all_append, w_t2, w_t3]
  rfl
set_option maxRecDepth 65536 in
theorem w_case : (Jvm.Cond.and given_1 narrow_1).before args0 about1 = true := by decide +kernel
theorem w_applies : (headSpec (Jvm.Cond.code x code maxLocals ret :: tables_1) room_1).applies x e0.platform about1 = true :=
  (Spec.applies_iff w_frames).mpr ⟨w_running, w_runnable, w_alone, w_named, w_hears, w_ripe, w_room, w_tables⟩
theorem atStart : AtStart classFile x code maxLocals ret World_1 tables_1 room_1 Calls_1 rest_1 Pre_1 launch0 p0 e0 about1 theMethod args0 below0 :=
  ⟨lists_1, trivial, launch0.admits_env _ _ _, launch0.least_env, fairChoices_fair.cas, fairChoices_fair.clock, w_frames, w_args, w_heap, w_applies, trivial, trivial, w_case⟩
end start1
theorem witness_1 : WitnessClaimed_1 := ⟨start1.p0, start1.e0, start1.about1, start1.theMethod, start1.args0, start1.below0, start1.atStart⟩
end Jvm.Pilot.@@N@@

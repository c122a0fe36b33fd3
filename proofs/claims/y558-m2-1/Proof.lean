import JvmDerived
import JvmDerived.Pilot.@@N@@Statement
import JvmDerived.Pilot.@@N@@Code
set_option linter.unusedVariables false
set_option linter.unusedSimpArgs false
namespace Jvm.Pilot.@@N@@
section OwnFP
open Jvm.FP Jvm.FP.Core Jvm.Free.Fl
/-- what x stands for, in units of the least double -/
def own_zv (x : UInt64) : Int := zval b64 (val64 x)
/-- x is finite and stands for a / 2^k -/
def Dy (x : UInt64) (a : Int) (k : Nat) : Prop := DFin x ∧ own_zv x * ((2 ^ k : Nat) : Int) = a * (one64 : Int)
theorem Dy.nn {x : UInt64} {a : Int} {k : Nat} (h : Dy x a k) : NoNaN64 x := (fin64_core.mpr h.1).noNaN
theorem own_pp (k : Nat) : (0 : Int) < ((2 ^ k : Nat) : Int) := Int.natCast_pos.mpr (Nat.two_pow_pos k)
theorem own_up : (0 : Int) < (one64 : Int) := Int.natCast_pos.mpr one64_pos
theorem own_signed_abs (a : Int) : signed (decide (a < 0)) a.natAbs = a := by
  unfold signed
  by_cases h : a < 0
  · simp [h]; omega
  · simp [h]; omega
theorem own_datum (a : Int) (n : Nat) (ha : a.natAbs < 2 ^ 53) (hn : n ≤ 1074) : ∃ V : Datum, Core.fits b64 V ∧ V ≠ .nan ∧ zval b64 V = a * ((2 ^ n : Nat) : Int) := by
  have hq : b64.qmin = -1074 := qmin_b64
  have hqx : b64.qmax = 971 := by decide
  obtain ⟨c', q', hr, hu⟩ := round_exact good_b64 (decide (a < 0)) (c := a.natAbs) (q := (n : Int) - 1074) ha (by rw [hq]; omega) (by rw [hqx]; omega)
  have hV := round_fits good_b64 (.fin (decide (a < 0)) a.natAbs ((n : Int) - 1074))
  rw [hr] at hV
  refine ⟨_, hV, by simp, ?_⟩
  show signed (decide (a < 0)) (inUnits c' q' b64.qmin) = _
  rw [hu]
  unfold inUnits
  rw [signed_mul, own_signed_abs, hq, show (((n : Int) - 1074) - -1074).toNat = n by omega]
theorem own_notinf {a : Int} {n : Nat} {t : Bool} (ha : a.natAbs < 2 ^ 53) (hn : n ≤ 1074) : ¬ zval b64 (.inf t) = a * ((2 ^ n : Nat) : Int) := by
  intro e
  have q := congrArg Int.natAbs e
  rw [show zval b64 (.inf t) = signed t (b64.tails * 2 ^ (b64.exps - 2)) from rfl, natAbs_signed, Int.natAbs_mul, Int.natAbs_natCast] at q
  have l1 : a.natAbs * 2 ^ n < 2 ^ 53 * 2 ^ 1074 := Nat.mul_lt_mul_of_lt_of_le ha (Nat.pow_le_pow_right (by decide) hn) (Nat.two_pow_pos _)
  have l2 : 2 ^ 53 * 2 ^ 1074 < b64.tails * 2 ^ (b64.exps - 2) := by
    rw [tails_b64, show b64.exps - 2 = 2046 by decide, ← Nat.pow_add, ← Nat.pow_add]
    exact Nat.pow_lt_pow_right (by decide) (by decide)
  exact Nat.lt_irrefl _ (Nat.lt_trans l2 (by rw [q]; exact l1))
theorem own_round {s : Bool} {c : Nat} {q e0 a : Int} {k : Nat} (ha : a.natAbs < 2 ^ 53) (hk : k ≤ 1074) (h0 : e0 ≤ -1074) (h0e : e0 ≤ q)
    (h : signed s (inUnits c q e0) * ((2 ^ k : Nat) : Int) = a * ((2 ^ (-e0).toNat : Nat) : Int)) :
    (∃ s' c' q', round b64 (.fin s c q) = .fin s' c' q') ∧ zval b64 (round b64 (.fin s c q)) * ((2 ^ k : Nat) : Int) = a * (one64 : Int) := by
  have hq : b64.qmin = -1074 := qmin_b64
  obtain ⟨V, hV, hVn, hz⟩ := own_datum a (1074 - k) ha (by omega)
  have hs : zval b64 V * ((2 ^ (b64.qmin - e0).toNat : Nat) : Int) = signed s (inUnits c q e0) := by
    apply Int.eq_of_mul_eq_mul_right (a := ((2 ^ k : Nat) : Int)) (Int.ne_of_gt (own_pp k))
    rw [h, hz, hq, Int.mul_assoc, Int.mul_assoc, ← Int.natCast_mul, ← Int.natCast_mul, ← Nat.pow_add, ← Nat.pow_add]
    rw [show 1074 - k + ((-1074 - e0).toNat + k) = (-e0).toNat by omega]
  have le := zval_round_le good_b64 (s := s) (c := c) (q := q) (e0 := e0) hV hVn (by rw [hq]; exact h0) h0e (by rw [hs]; exact Int.le_refl _)
  have ge := zval_round_ge good_b64 (s := s) (c := c) (q := q) (e0 := e0) hV hVn (by rw [hq]; exact h0) h0e (by rw [hs]; exact Int.le_refl _)
  have e : zval b64 (round b64 (.fin s c q)) = a * ((2 ^ (1074 - k) : Nat) : Int) := by rw [← hz]; exact Int.le_antisymm le ge
  refine ⟨?_, by rw [e, Int.mul_assoc, ← Int.natCast_mul, ← Nat.pow_add, show 1074 - k + k = 1074 by omega]; rfl⟩
  cases hc : round b64 (.fin s c q) with
  | nan => exact absurd hc (roundRatio_ne_nan _ _ _ _ _)
  | fin s' c' q' => exact ⟨_, _, _, rfl⟩
  | inf t => rw [hc] at e; exact absurd e (own_notinf ha (by omega))
theorem Dy.add {x y : UInt64} {a b : Int} {k : Nat} (hx : Dy x a k) (hy : Dy y b k) (h : (a + b).natAbs < 2 ^ 53) (hk : k ≤ 1074) : Dy (FP.dadd x y) (a + b) k := by
  obtain ⟨⟨s, c, q, ex⟩, zx⟩ := hx
  obtain ⟨⟨t, d, r, ey⟩, zy⟩ := hy
  have fx := val64_fits x
  have fy := val64_fits y
  unfold own_zv at zx zy
  rw [ex] at fx zx
  rw [ey] at fy zy
  obtain ⟨sg, n, e, hs, he, hv⟩ := sum_units fx fy
  have hd : val64 (FP.dadd x y) = round b64 (.fin sg n e) := by rw [show FP.dadd x y = Core.dadd x y from rfl, val64_dadd, ex, ey, hs]
  obtain ⟨⟨s', c', q', h1⟩, h2⟩ := own_round (s := sg) (c := n) (q := e) (e0 := b64.qmin) (a := a + b) (k := k) h hk (Int.le_of_eq qmin_b64) he (by rw [hv, Int.add_mul, zx, zy, ← Int.add_mul, pow_qmin64])
  exact ⟨⟨s', c', q', hd.trans h1⟩, by unfold own_zv; rw [hd]; exact h2⟩
theorem Dy.sub {x y : UInt64} {a b : Int} {k : Nat} (hx : Dy x a k) (hy : Dy y b k) (h : (a - b).natAbs < 2 ^ 53) (hk : k ≤ 1074) : Dy (FP.dsub x y) (a - b) k := by
  obtain ⟨⟨s, c, q, ex⟩, zx⟩ := hx
  obtain ⟨⟨t, d, r, ey⟩, zy⟩ := hy
  have fx := val64_fits x
  have fy := negate_fits (val64_fits y)
  have zn := zval_negate b64 (val64 y)
  unfold own_zv at zx zy
  rw [ex] at fx zx
  rw [ey] at fy zy zn
  have fy' : Core.fits b64 (.fin (!t) d r) := fy
  have zn' : zval b64 (.fin (!t) d r) = -zval b64 (.fin t d r) := zn
  obtain ⟨sg, n, e, hs, he, hv⟩ := sum_units fx fy'
  have hd : val64 (FP.dsub x y) = round b64 (.fin sg n e) := by
    rw [show FP.dsub x y = Core.dsub x y from rfl, val64_dsub, ex, ey]
    exact congrArg (round b64) hs
  obtain ⟨⟨s', c', q', h1⟩, h2⟩ := own_round (s := sg) (c := n) (q := e) (e0 := b64.qmin) (a := a - b) (k := k) h hk (Int.le_of_eq qmin_b64) he (by rw [hv, zn', Int.add_mul, Int.neg_mul, zx, zy, ← Int.sub_eq_add_neg, ← Int.sub_mul, pow_qmin64])
  exact ⟨⟨s', c', q', hd.trans h1⟩, by unfold own_zv; rw [hd]; exact h2⟩
theorem own_two_qmin : 2 ^ (-(2 * b64.qmin)).toNat = one64 * one64 := by
  rw [show (-(2 * b64.qmin)).toNat = (-b64.qmin).toNat + (-b64.qmin).toNat by rw [qmin_b64]; decide, Nat.pow_add, pow_qmin64]
theorem Dy.mul {x y : UInt64} {a b : Int} {k j : Nat} (hx : Dy x a k) (hy : Dy y b j) (h : (a * b).natAbs < 2 ^ 53) (hk : k + j ≤ 1074) : Dy (FP.dmul x y) (a * b) (k + j) := by
  obtain ⟨⟨s, c, q, ex⟩, zx⟩ := hx
  obtain ⟨⟨t, d, r, ey⟩, zy⟩ := hy
  have fx := val64_fits x
  have fy := val64_fits y
  unfold own_zv at zx zy
  rw [ex] at fx zx
  rw [ey] at fy zy
  obtain ⟨hp, he, hv⟩ := product_units fx fy
  have hd : val64 (FP.dmul x y) = round b64 (.fin (s != t) (c * d) (q + r)) := by rw [show FP.dmul x y = Core.dmul x y from rfl, val64_dmul, ex, ey, hp]
  have hg : signed (s != t) (inUnits (c * d) (q + r) (2 * b64.qmin)) = zval b64 (.fin s c q) * zval b64 (.fin t d r) := by rw [hv, signed_xor]; rfl
  obtain ⟨⟨s', c', q', h1⟩, h2⟩ := own_round (s := s != t) (c := c * d) (q := q + r) (e0 := 2 * b64.qmin) (a := a * b) (k := k + j) h hk (by rw [qmin_b64]; decide) he (by
    rw [hg, own_two_qmin, Nat.pow_add, Int.natCast_mul, Int.natCast_mul]
    rw [show ∀ A B P Q : Int, A * B * (P * Q) = (A * P) * (B * Q) from fun A B P Q => by ac_rfl, zx, zy]
    exact (fun A B P : Int => by ac_rfl : ∀ A B P : Int, A * P * (B * P) = A * B * (P * P)) _ _ _)
  exact ⟨⟨s', c', q', hd.trans h1⟩, by unfold own_zv; rw [hd]; exact h2⟩
theorem own_units {c : Nat} {q r e0 : Int} (hq : b64.qmin ≤ q) (hr : b64.qmin ≤ r) (h1 : e0 ≤ q - r) (h2 : e0 ≤ b64.qmin) :
    inUnits c (q - r) e0 * 2 ^ (r - b64.qmin).toNat = inUnits c q b64.qmin * one64 * 2 ^ (b64.qmin - e0).toNat := by
  unfold inUnits one64
  rw [qmin_b64] at *
  rw [Nat.mul_assoc, ← Nat.pow_add, Nat.mul_assoc, Nat.mul_assoc, ← Nat.pow_add, ← Nat.pow_add]
  rw [show (q - r - e0).toNat + (r - -1074).toNat = (q - -1074).toNat + (1074 + (-1074 - e0).toNat) by omega]
theorem own_ddiv {x y : UInt64} {s t : Bool} {c d : Nat} {q r : Int} (ex : val64 x = .fin s c q) (ey : val64 y = .fin t d r) (hd : d ≠ 0) : val64 (FP.ddiv x y) = roundRatio b64 (s != t) c d (q - r) := by
  rw [show FP.ddiv x y = Core.ddiv x y from rfl, val64_ddiv, ex, ey]
  simp [quotient, hd]
theorem own_div_le {x y : UInt64} {s t : Bool} {c d : Nat} {q r : Int} (ex : val64 x = .fin s c q) (ey : val64 y = .fin t d r) (hd : d ≠ 0) {V : Datum} (hV : Core.fits b64 V) (hn : V ≠ .nan)
    (h : zmag b64 (val64 x) * one64 ≤ zmag b64 V * zmag b64 (val64 y)) : zmag b64 (val64 (FP.ddiv x y)) ≤ zmag b64 V := by
  have fx := val64_fits x
  have fy := val64_fits y
  rw [ex] at fx h
  rw [ey] at fy h
  rw [own_ddiv ex ey hd]
  refine zmag_roundRatio_le good_b64 (e0 := min (q - r) b64.qmin) (Nat.pos_of_ne_zero hd) hV hn (Int.min_le_right _ _) (Int.min_le_left _ _) ?_
  refine Nat.le_of_mul_le_mul_right (c := 2 ^ (r - b64.qmin).toNat) ?_ (Nat.two_pow_pos _)
  rw [own_units fx.2.1 fy.2.1 (Int.min_le_left _ _) (Int.min_le_right _ _)]
  refine Nat.le_trans (Nat.mul_le_mul_right _ h) (Nat.le_of_eq ?_)
  show zmag b64 V * inUnits d r b64.qmin * _ = _
  unfold inUnits
  exact (fun A B P Q : Nat => by ac_rfl : ∀ A B P Q : Nat, A * (B * P) * Q = A * Q * B * P) _ _ _ _
theorem own_div_ge {x y : UInt64} {s t : Bool} {c d : Nat} {q r : Int} (ex : val64 x = .fin s c q) (ey : val64 y = .fin t d r) (hd : d ≠ 0) {V : Datum} (hV : Core.fits b64 V)
    (h : zmag b64 V * zmag b64 (val64 y) ≤ zmag b64 (val64 x) * one64) : zmag b64 V ≤ zmag b64 (val64 (FP.ddiv x y)) := by
  have fx := val64_fits x
  have fy := val64_fits y
  rw [ex] at fx h
  rw [ey] at fy h
  rw [own_ddiv ex ey hd]
  refine zmag_roundRatio_ge good_b64 (e0 := min (q - r) b64.qmin) (Nat.pos_of_ne_zero hd) hV (Int.min_le_right _ _) (Int.min_le_left _ _) ?_
  refine Nat.le_of_mul_le_mul_right (c := 2 ^ (r - b64.qmin).toNat) ?_ (Nat.two_pow_pos _)
  rw [own_units fx.2.1 fy.2.1 (Int.min_le_left _ _) (Int.min_le_right _ _)]
  refine Nat.le_trans (Nat.le_of_eq ?_) (Nat.mul_le_mul_right _ h)
  show _ = zmag b64 V * inUnits d r b64.qmin * _
  unfold inUnits
  exact (fun A B P Q : Nat => by ac_rfl : ∀ A B P Q : Nat, A * Q * B * P = A * (B * P) * Q) _ _ _ _
theorem own_zval_abs (d : Datum) : (zval b64 d).natAbs = zmag b64 d := by unfold zval; exact natAbs_signed _ _
theorem Dy.div {x y : UInt64} {a b m : Int} {k j n : Nat} (hx : Dy x a k) (hy : Dy y b j) (hb : b ≠ 0) (hm : m.natAbs < 2 ^ 53) (hn : n ≤ 1074)
    (h : a * ((2 ^ j : Nat) : Int) * ((2 ^ n : Nat) : Int) = m * b * ((2 ^ k : Nat) : Int)) : Dy (FP.ddiv x y) m n := by
  obtain ⟨⟨s, c, q, ex⟩, zx⟩ := hx
  obtain ⟨⟨t, d, r, ey⟩, zy⟩ := hy
  unfold own_zv at zx zy
  obtain ⟨V, hV, hVn, hz⟩ := own_datum m (1074 - n) hm (by omega)
  have hzn : zval b64 V * ((2 ^ n : Nat) : Int) = m * (one64 : Int) := by rw [hz, Int.mul_assoc, ← Int.natCast_mul, ← Nat.pow_add, show 1074 - n + n = 1074 by omega]; rfl
  have hyn : zval b64 (val64 y) ≠ 0 := fun e => by
    rw [e, Int.zero_mul] at zy
    rcases Int.mul_eq_zero.mp zy.symm with q | q
    · exact hb q
    · exact absurd q (Int.ne_of_gt own_up)
  have hd : d ≠ 0 := fun e => by
    subst e
    rw [ey] at hyn
    exact hyn (by show signed t (inUnits 0 r b64.qmin) = 0; unfold inUnits; rw [Nat.zero_mul, signed_zero])
  have key : zval b64 V * zval b64 (val64 y) = zval b64 (val64 x) * (one64 : Int) := by
    have e1 : (zval b64 V * zval b64 (val64 y)) * (((2 ^ n : Nat) : Int) * ((2 ^ j : Nat) : Int) * ((2 ^ k : Nat) : Int)) = (zval b64 (val64 x) * (one64 : Int)) * (((2 ^ n : Nat) : Int) * ((2 ^ j : Nat) : Int) * ((2 ^ k : Nat) : Int)) := by
      rw [(fun A B P Q R : Int => by ac_rfl : ∀ A B P Q R : Int, A * B * (P * Q * R) = (A * P) * (B * Q) * R), hzn, zy,
        (fun A B P Q R : Int => by ac_rfl : ∀ A B P Q R : Int, A * B * (P * Q * R) = (A * R) * (B * P * Q)) (zval b64 (val64 x)), zx,
        (fun M B U K : Int => by ac_rfl : ∀ M B U K : Int, M * U * (B * U) * K = (M * B * K) * (U * U)), ← h]
      exact (fun A U P Q : Int => by ac_rfl : ∀ A U P Q : Int, A * Q * P * (U * U) = A * U * (U * P * Q)) _ _ _ _
    exact Int.eq_of_mul_eq_mul_right (Int.ne_of_gt (Int.mul_pos (Int.mul_pos (own_pp n) (own_pp j)) (own_pp k))) e1
  have kn : zmag b64 V * zmag b64 (val64 y) = zmag b64 (val64 x) * one64 := by
    have q := congrArg Int.natAbs key
    rw [Int.natAbs_mul, Int.natAbs_mul, own_zval_abs, own_zval_abs, own_zval_abs, Int.natAbs_natCast] at q
    exact q
  have le := own_div_le ex ey hd hV hVn (Nat.le_of_eq kn.symm)
  have ge := own_div_ge ex ey hd hV (Nat.le_of_eq kn)
  have em : zmag b64 (val64 (FP.ddiv x y)) = zmag b64 V := Nat.le_antisymm le ge
  have er := own_ddiv ex ey hd
  have es : sgn (val64 (FP.ddiv x y)) = (s != t) := by rw [er, sgn_roundRatio]
  have prod : zval b64 (val64 (FP.ddiv x y)) * zval b64 (val64 y) = zval b64 (val64 x) * (one64 : Int) := by
    unfold zval
    rw [es, em, ← signed_xor, kn, signed_mul, ex, ey]
    show signed ((s != t) != t) _ * _ = signed s _ * _
    rw [show ((s != t) != t) = s by cases s <;> cases t <;> rfl]
  have eq : zval b64 (val64 (FP.ddiv x y)) = zval b64 V := Int.eq_of_mul_eq_mul_right hyn (prod.trans key.symm)
  refine ⟨?_, by unfold own_zv; rw [eq]; exact hzn⟩
  cases hc : val64 (FP.ddiv x y) with
  | nan => exact absurd (er.symm.trans hc) (roundRatio_ne_nan _ _ _ _ _)
  | fin s' c' q' => exact ⟨_, _, _, hc⟩
  | inf t => rw [hc, hz] at eq; exact absurd eq (own_notinf hm (by omega))
theorem own_ofInt {x : UInt64} {i : Int} (hx : val64 x = round b64 (ofInt i)) (h : i.natAbs < 2 ^ 53) : Dy x i 0 := by
  obtain ⟨⟨s', c', q', h1⟩, h2⟩ := own_round (s := decide (i < 0)) (c := i.natAbs) (q := 0) (e0 := b64.qmin) (a := i) (k := 0) h (by decide) (Int.le_of_eq qmin_b64) (by rw [qmin_b64]; decide) (by
    unfold inUnits
    rw [signed_mul, own_signed_abs, show (0 - b64.qmin) = -b64.qmin by omega, pow_qmin64]; simp)
  exact ⟨⟨s', c', q', hx.trans h1⟩, by unfold own_zv; rw [hx]; exact h2⟩
theorem Dy.i2d (v : Int32) : Dy (FP.i2d v) v.toInt 0 := own_ofInt (val64_i2d v) (by have h1 := Int32.toInt_lt v; have h2 := Int32.le_toInt v; omega)
theorem Dy.l2d {v : Int64} (h : v.toInt.natAbs < 2 ^ 53) : Dy (FP.l2d v) v.toInt 0 := own_ofInt (val64_l2d v) h
theorem Dy.lit {x : UInt64} {a : Int} {k : Nat} (s : Bool) (c : Nat) (q : Int) (h : val64 x = .fin s c q) (h2 : signed s (inUnits c q b64.qmin) * ((2 ^ k : Nat) : Int) = a * (one64 : Int)) : Dy x a k :=
  ⟨⟨s, c, q, h⟩, by unfold own_zv; rw [h]; exact h2⟩
theorem Dy.up {x : UInt64} {a : Int} {k : Nat} (i : Nat) (h : Dy x a k) : Dy x (a * ((2 ^ i : Nat) : Int)) (k + i) :=
  ⟨h.1, by rw [Nat.pow_add, Int.natCast_mul, ← Int.mul_assoc, h.2]; exact (fun A B C : Int => by ac_rfl : ∀ A B C : Int, A * B * C = A * C * B) _ _ _⟩
theorem Dy.cast {x : UInt64} {a b : Int} {k j : Nat} (h : Dy x a k) (e : a = b) (e2 : k = j) : Dy x b j := e ▸ e2 ▸ h
/-- the int that dcmpl and dcmpg push for two numbers -/
def own_ci (a b : Int) : Int32 := if a < b then -1 else if a = b then 0 else 1
theorem own_ci_lt {a b : Int} : own_ci a b < 0 ↔ a < b := by unfold own_ci; split <;> (try split) <;> simp_all <;> omega
theorem own_ci_gt {a b : Int} : 0 < own_ci a b ↔ b < a := by unfold own_ci; split <;> (try split) <;> simp_all <;> omega
theorem own_ci_eq {a b : Int} : own_ci a b = 0 ↔ a = b := by unfold own_ci; split <;> (try split) <;> simp_all <;> omega
theorem own_dcmp {x y : UInt64} (hx : DFin x) (hy : DFin y) : FP.dcmp x y = some (compare (own_zv x) (own_zv y)) := by
  obtain ⟨s, c, q, ex⟩ := hx
  obtain ⟨t, d, r, ey⟩ := hy
  exact order_zval good_b64 (val64_fits x) (val64_fits y) (fun e => by cases ex.symm.trans e) (fun e => by cases ey.symm.trans e)
theorem Dy.dcmp {x y : UInt64} {a b : Int} {k : Nat} (hx : Dy x a k) (hy : Dy y b k) : FP.dcmp x y = some (compare a b) := by
  rw [own_dcmp hx.1 hy.1]
  congr 1
  refine compare_congr ?_ ?_
  · rw [← Int.mul_lt_mul_right (own_pp k), hx.2, hy.2, Int.mul_lt_mul_right own_up]
  · constructor
    · intro e
      have q := hx.2
      rw [e, hy.2] at q
      exact (Int.eq_of_mul_eq_mul_right (Int.ne_of_gt own_up) q).symm
    · intro e
      have q := hx.2
      rw [e, ← hy.2] at q
      exact Int.eq_of_mul_eq_mul_right (Int.ne_of_gt (own_pp k)) q
theorem Dy.cmp {x y : UInt64} {a b : Int} {k : Nat} (hx : Dy x a k) (hy : Dy y b k) (o : Jvm.ClassFile.CmpOp) : Jvm.Op.cmpValue (FP.dcmp x y) o = own_ci a b := by
  rw [hx.dcmp hy]
  unfold own_ci
  show Jvm.Op.cmpValue (some (compareOfLessAndEq a b)) o = _
  unfold compareOfLessAndEq
  by_cases h1 : a < b
  · simp [h1]; cases o <;> rfl
  · by_cases h2 : a = b
    · simp [h2]; cases o <;> rfl
    · simp [h1, h2]; cases o <;> rfl
end OwnFP
end Jvm.Pilot.@@N@@
namespace Jvm.Pilot.@@N@@
open Jvm Jvm.ClassFile Sem Op Lib Jvm.Free Jvm.Stand Jvm.LawKit Jvm.RoadKit Jvm.Free.Fl Bundle Jvm.Pilot.@@N@@.Jvm.D
/-- the run from A ends, and what it leaves meets F -/
def Rn (p : Program) (e : Env) (below : List Frame) (A : State) (F : Outcome → State → Prop) : Prop := ∃ s₂ o, Steps p.tables e below A s₂ ∧ s₂.status = .running ∧ Ended s₂ below o ∧ F o s₂
theorem Rn.st {p : Program} {e : Env} {below : List Frame} {A B : State} {F : Outcome → State → Prop} (h : ∀ t, Steps p.tables e below B t → Steps p.tables e below A t) (r : Rn p e below B F) : Rn p e below A F := by
  obtain ⟨s₂, o, h1, h2⟩ := r
  exact ⟨s₂, o, h _ h1, h2⟩
theorem Rn.ret {p : Program} {l : Launch} {e : Env} {R : Room} {s : State} {m : MethodId} {args : Array Value} {below : List Frame} {meth : Method} {c : Code} {T : State} {locs : List Loc} {cells slots k n : Nat} {A : State} {h : Heap}
    (X : Stand p l e R s m args below meth c T locs cells slots) (hlk : meth.locks = false) {v : Option Value} (hv : meth.sig.returnType = none → v = none) {Q : Option Value → Heap → List Loc → Prop} (eT : T.heap = h)
    (last : ∀ fs, (∀ (f : JFrame) (acts : List Action), f.method = m → f.locked = none → f.entered = [] → (doReturn e (T.setTop f) acts v).1 = T.setFrames fs) → Steps p.tables e below A (T.setFrames fs))
    (q : Q v h locs) (hc : cells ≤ k) (hs : slots ≤ n) : Rn p e below A (fun o U' => ∃ v L, o = .returned v ∧ Q v U'.heap L ∧ FrameEnd s o U' L k n) := by
  obtain ⟨fs, hr, hrun, hended, hW, hsame⟩ := X.leave hv hlk
  refine ⟨_, _, last fs hr, hrun, hended, _, _, rfl, ?_, ⟨_, rfl⟩, hW, hsame.mono hc hs⟩
  show Q v T.heap locs
  rw [eT]; exact q
theorem own_sta_keep {Z : State} {h h' : Heap} {C n d : String} {w : Value} {ws : List Addr} (F : Sta Z h C n d w) (K : Keep h h' ws) (q : ∀ x ∈ ws, ∀ cell : Cell, h[x]? = some cell → cell.vm.isStatics = false) : Sta Z h' C n d w := by
  obtain ⟨cf, i, k, f, st, cell, h1, h2, h3, h4, h5, h6, h7⟩ := F
  refine ⟨cf, i, k, f, st, cell, h1, h2, h3, h4, K.2.1 st cell h5 (fun hm => ?_), h6, h7⟩
  have e := q st hm cell h5
  rw [h6] at e
  exact absurd e (by decide)
theorem own_wadd (a b : Int32) : (a.toInt64 + b.toInt64).toInt = a.toInt + b.toInt := by
  have h1 := Int32.toInt_lt a; have h2 := Int32.le_toInt a; have h3 := Int32.toInt_lt b; have h4 := Int32.le_toInt b
  rw [Int64.toInt_add, Int32.toInt_toInt64, Int32.toInt_toInt64, Int.bmod_eq_of_le (by omega) (by omega)]
theorem own_mulL {a b : Int64} (h : (a.toInt * b.toInt).natAbs < 9223372036854775808) : (a * b).toInt = a.toInt * b.toInt := by
  rw [Int64.toInt_mul, Int.bmod_eq_of_le (by omega) (by omega)]
theorem own_addL {a b : Int64} (h : (a.toInt + b.toInt).natAbs < 9223372036854775808) : (a + b).toInt = a.toInt + b.toInt := by
  rw [Int64.toInt_add, Int.bmod_eq_of_le (by omega) (by omega)]
theorem own_subI {a b : Int32} (h : -2147483648 ≤ a.toInt - b.toInt ∧ a.toInt - b.toInt < 2147483648) : (a - b).toInt = a.toInt - b.toInt := by
  rw [Int32.toInt_sub, Int.bmod_eq_of_le (by omega) (by omega)]
theorem own_addI {a b : Int32} (h : -2147483648 ≤ a.toInt + b.toInt ∧ a.toInt + b.toInt < 2147483648) : (a + b).toInt = a.toInt + b.toInt := by
  rw [Int32.toInt_add, Int.bmod_eq_of_le (by omega) (by omega)]
theorem own_mulI {a b : Int32} (h : (a.toInt * b.toInt).natAbs < 2147483648) : (a * b).toInt = a.toInt * b.toInt := by
  rw [Int32.toInt_mul, Int.bmod_eq_of_le (by omega) (by omega)]
theorem own_masked {a r m : Int32} {d : Int} (hm : 0 ≤ m.toInt) (hd : 0 < d) {k : Int32} (hk : k.toInt = d) (h : (a &&& m) % k = r) : 0 ≤ r.toInt ∧ r.toInt < d := by
  have q := c_and a m hm
  have t := (c_irem (a &&& m) k d hk).1 q.1
  rw [h] at t
  rw [t]
  exact ⟨Int.emod_nonneg _ (Int.ne_of_gt hd), Int.emod_lt_of_pos _ hd⟩
theorem own_eqI {a b : Int32} (h : a.toInt = b.toInt) : a = b := Int32.toInt_inj.mp h
theorem own_neI {a b : Int32} (h : ¬ a.toInt = b.toInt) : ¬ a = b := fun q => h (congrArg Int32.toInt q)
theorem own_bd {j n : Int32} (h : 0 ≤ j.toInt ∧ j.toInt < n.toInt) : ¬ j < 0 ∧ j < n := by
  constructor
  · rw [Int32.lt_iff_toInt_lt]; have : (0 : Int32).toInt = 0 := by decide
    omega
  · rw [Int32.lt_iff_toInt_lt]; exact h.2
theorem own_getH_nil (dv : Value) (n : Nat) : getH [] [] dv n = dv := by simp [getH]
theorem own_pb {a b : Int} {A B : Nat} (ha : a.natAbs ≤ A) (hb : b.natAbs ≤ B) : (a * b).natAbs ≤ A * B := by rw [Int.natAbs_mul]; exact Nat.mul_le_mul ha hb
theorem own_b (a : Int32) : -2147483648 ≤ a.toInt ∧ a.toInt < 2147483648 := ⟨Int32.le_toInt a, Int32.toInt_lt a⟩
theorem own_wsub (a b : Int32) : (a.toInt64 - b.toInt64).toInt = a.toInt - b.toInt := by
  have h1 := Int32.toInt_lt a; have h2 := Int32.le_toInt a; have h3 := Int32.toInt_lt b; have h4 := Int32.le_toInt b
  rw [Int64.toInt_sub, Int32.toInt_toInt64, Int32.toInt_toInt64, Int.bmod_eq_of_le (by omega) (by omega)]
section RSteps
variable {p : Program} {l : Launch} {e : Env} {R : Room} {s : State} {m : MethodId} {args : Array Value} {below : List Frame} {meth : Method} {c : Code} {T : State} {locs : List Loc} {cells slots : Nat} {G : Outcome → State → Prop} {L L' : Array Slot} {S : List Value} {pc pc' : Nat}
theorem R.iloadN (X : Stand p l e R s m args below meth c T locs cells slots) (hx : p.tables.exec = Jvm.exec) {k : Fin 4} {v : Int32} (hd : decode c.code pc = .ok (.iload_n k, 1)) (hl : L[k.val]? = some (.val (.int v))) (hp : pc + 1 = pc') (r : Rn p e below (T.setTop (mkF m pc' L (.int v :: S))) G) : Rn p e below (T.setTop (mkF m pc L (S))) G := by
  subst hp; exact Rn.st (fun t q => XS.iloadN X.here hx rfl hd hl q) r
theorem R.iload (X : Stand p l e R s m args below meth c T locs cells slots) (hx : p.tables.exec = Jvm.exec) {k : Nat} {v : Int32} (hd : decode c.code pc = .ok (.iload k, 2)) (hl : L[k]? = some (.val (.int v))) (hp : pc + 2 = pc') (r : Rn p e below (T.setTop (mkF m pc' L (.int v :: S))) G) : Rn p e below (T.setTop (mkF m pc L (S))) G := by
  subst hp; exact Rn.st (fun t q => XS.iload X.here hx rfl hd hl q) r
theorem R.istoreN (X : Stand p l e R s m args below meth c T locs cells slots) (hx : p.tables.exec = Jvm.exec) {k : Fin 4} {v : Int32} (hd : decode c.code pc = .ok (.istore_n k, 1)) (hl : storeLocals L k.val (.int v) = some L') (hp : pc + 1 = pc') (r : Rn p e below (T.setTop (mkF m pc' L' (S))) G) : Rn p e below (T.setTop (mkF m pc L (.int v :: S))) G := by
  subst hp; exact Rn.st (fun t q => XS.istoreN X.here hx rfl hd rfl hl q) r
theorem R.istore (X : Stand p l e R s m args below meth c T locs cells slots) (hx : p.tables.exec = Jvm.exec) {k : Nat} {v : Int32} (hd : decode c.code pc = .ok (.istore k, 2)) (hl : storeLocals L k (.int v) = some L') (hp : pc + 2 = pc') (r : Rn p e below (T.setTop (mkF m pc' L' (S))) G) : Rn p e below (T.setTop (mkF m pc L (.int v :: S))) G := by
  subst hp; exact Rn.st (fun t q => XS.istore X.here hx rfl hd rfl hl q) r
theorem R.lloadN (X : Stand p l e R s m args below meth c T locs cells slots) (hx : p.tables.exec = Jvm.exec) {k : Fin 4} {v : Int64} (hd : decode c.code pc = .ok (.lload_n k, 1)) (hl : L[k.val]? = some (.val (.long v))) (hp : pc + 1 = pc') (r : Rn p e below (T.setTop (mkF m pc' L (.long v :: S))) G) : Rn p e below (T.setTop (mkF m pc L (S))) G := by
  subst hp; exact Rn.st (fun t q => XS.lloadN X.here hx rfl hd hl q) r
theorem R.lload (X : Stand p l e R s m args below meth c T locs cells slots) (hx : p.tables.exec = Jvm.exec) {k : Nat} {v : Int64} (hd : decode c.code pc = .ok (.lload k, 2)) (hl : L[k]? = some (.val (.long v))) (hp : pc + 2 = pc') (r : Rn p e below (T.setTop (mkF m pc' L (.long v :: S))) G) : Rn p e below (T.setTop (mkF m pc L (S))) G := by
  subst hp; exact Rn.st (fun t q => XS.lload X.here hx rfl hd hl q) r
theorem R.lstoreN (X : Stand p l e R s m args below meth c T locs cells slots) (hx : p.tables.exec = Jvm.exec) {k : Fin 4} {v : Int64} (hd : decode c.code pc = .ok (.lstore_n k, 1)) (hl : storeLocals L k.val (.long v) = some L') (hp : pc + 1 = pc') (r : Rn p e below (T.setTop (mkF m pc' L' (S))) G) : Rn p e below (T.setTop (mkF m pc L (.long v :: S))) G := by
  subst hp; exact Rn.st (fun t q => XS.lstoreN X.here hx rfl hd rfl hl q) r
theorem R.lstore (X : Stand p l e R s m args below meth c T locs cells slots) (hx : p.tables.exec = Jvm.exec) {k : Nat} {v : Int64} (hd : decode c.code pc = .ok (.lstore k, 2)) (hl : storeLocals L k (.long v) = some L') (hp : pc + 2 = pc') (r : Rn p e below (T.setTop (mkF m pc' L' (S))) G) : Rn p e below (T.setTop (mkF m pc L (.long v :: S))) G := by
  subst hp; exact Rn.st (fun t q => XS.lstore X.here hx rfl hd rfl hl q) r
theorem R.dloadN (X : Stand p l e R s m args below meth c T locs cells slots) (hx : p.tables.exec = Jvm.exec) {k : Fin 4} {v : UInt64} (hd : decode c.code pc = .ok (.dload_n k, 1)) (hl : L[k.val]? = some (.val (.double v))) (hp : pc + 1 = pc') (r : Rn p e below (T.setTop (mkF m pc' L (.double v :: S))) G) : Rn p e below (T.setTop (mkF m pc L (S))) G := by
  subst hp; exact Rn.st (fun t q => XS.dloadN X.here hx rfl hd hl q) r
theorem R.dload (X : Stand p l e R s m args below meth c T locs cells slots) (hx : p.tables.exec = Jvm.exec) {k : Nat} {v : UInt64} (hd : decode c.code pc = .ok (.dload k, 2)) (hl : L[k]? = some (.val (.double v))) (hp : pc + 2 = pc') (r : Rn p e below (T.setTop (mkF m pc' L (.double v :: S))) G) : Rn p e below (T.setTop (mkF m pc L (S))) G := by
  subst hp; exact Rn.st (fun t q => XS.dload X.here hx rfl hd hl q) r
theorem R.dstoreN (X : Stand p l e R s m args below meth c T locs cells slots) (hx : p.tables.exec = Jvm.exec) {k : Fin 4} {v : UInt64} (hd : decode c.code pc = .ok (.dstore_n k, 1)) (hl : storeLocals L k.val (.double v) = some L') (hp : pc + 1 = pc') (r : Rn p e below (T.setTop (mkF m pc' L' (S))) G) : Rn p e below (T.setTop (mkF m pc L (.double v :: S))) G := by
  subst hp; exact Rn.st (fun t q => XS.dstoreN X.here hx rfl hd rfl hl q) r
theorem R.dstore (X : Stand p l e R s m args below meth c T locs cells slots) (hx : p.tables.exec = Jvm.exec) {k : Nat} {v : UInt64} (hd : decode c.code pc = .ok (.dstore k, 2)) (hl : storeLocals L k (.double v) = some L') (hp : pc + 2 = pc') (r : Rn p e below (T.setTop (mkF m pc' L' (S))) G) : Rn p e below (T.setTop (mkF m pc L (.double v :: S))) G := by
  subst hp; exact Rn.st (fun t q => XS.dstore X.here hx rfl hd rfl hl q) r
theorem R.aloadN (X : Stand p l e R s m args below meth c T locs cells slots) (hx : p.tables.exec = Jvm.exec) {k : Fin 4} {v : Value} (hd : decode c.code pc = .ok (.aload_n k, 1)) (hl : L[k.val]? = some (.val v)) (hv : v.isRef = true) (hp : pc + 1 = pc') (r : Rn p e below (T.setTop (mkF m pc' L (v :: S))) G) : Rn p e below (T.setTop (mkF m pc L (S))) G := by
  subst hp; exact Rn.st (fun t q => XS.aloadN X.here hx rfl hd hl hv q) r
theorem R.aload (X : Stand p l e R s m args below meth c T locs cells slots) (hx : p.tables.exec = Jvm.exec) {k : Nat} {v : Value} (hd : decode c.code pc = .ok (.aload k, 2)) (hl : L[k]? = some (.val v)) (hv : v.isRef = true) (hp : pc + 2 = pc') (r : Rn p e below (T.setTop (mkF m pc' L (v :: S))) G) : Rn p e below (T.setTop (mkF m pc L (S))) G := by
  subst hp; exact Rn.st (fun t q => XS.aload X.here hx rfl hd hl hv q) r
theorem R.astoreN (X : Stand p l e R s m args below meth c T locs cells slots) (hx : p.tables.exec = Jvm.exec) {k : Fin 4} {v : Value} (hd : decode c.code pc = .ok (.astore_n k, 1)) (hv : v.isRef = true) (hl : storeLocals L k.val v = some L') (hp : pc + 1 = pc') (r : Rn p e below (T.setTop (mkF m pc' L' (S))) G) : Rn p e below (T.setTop (mkF m pc L (v :: S))) G := by
  subst hp; exact Rn.st (fun t q => XS.astoreN X.here hx rfl hd rfl hv hl q) r
theorem R.astore (X : Stand p l e R s m args below meth c T locs cells slots) (hx : p.tables.exec = Jvm.exec) {k : Nat} {v : Value} (hd : decode c.code pc = .ok (.astore k, 2)) (hv : v.isRef = true) (hl : storeLocals L k v = some L') (hp : pc + 2 = pc') (r : Rn p e below (T.setTop (mkF m pc' L' (S))) G) : Rn p e below (T.setTop (mkF m pc L (v :: S))) G := by
  subst hp; exact Rn.st (fun t q => XS.astore X.here hx rfl hd rfl hv hl q) r
theorem R.iconst (X : Stand p l e R s m args below meth c T locs cells slots) (hx : p.tables.exec = Jvm.exec) {i : Int} {v : Int32} (hd : decode c.code pc = .ok (.iconst i, 1)) (hv : Int32.ofInt i = v) (hp : pc + 1 = pc') (r : Rn p e below (T.setTop (mkF m pc' L (.int v :: S))) G) : Rn p e below (T.setTop (mkF m pc L (S))) G := by
  subst hp hv; exact Rn.st (fun t q => XS.iconst X.here hx rfl hd q) r
theorem R.bipush (X : Stand p l e R s m args below meth c T locs cells slots) (hx : p.tables.exec = Jvm.exec) {i : Int} {v : Int32} (hd : decode c.code pc = .ok (.bipush i, 2)) (hv : (Int8.ofInt i).toInt32 = v) (hp : pc + 2 = pc') (r : Rn p e below (T.setTop (mkF m pc' L (.int v :: S))) G) : Rn p e below (T.setTop (mkF m pc L (S))) G := by
  subst hp hv; exact Rn.st (fun t q => XS.bipush X.here hx rfl hd q) r
theorem R.sipush (X : Stand p l e R s m args below meth c T locs cells slots) (hx : p.tables.exec = Jvm.exec) {i : Int} {v : Int32} (hd : decode c.code pc = .ok (.sipush i, 3)) (hv : (Int16.ofInt i).toInt32 = v) (hp : pc + 3 = pc') (r : Rn p e below (T.setTop (mkF m pc' L (.int v :: S))) G) : Rn p e below (T.setTop (mkF m pc L (S))) G := by
  subst hp hv; exact Rn.st (fun t q => XS.sipush X.here hx rfl hd q) r
theorem R.lconst (X : Stand p l e R s m args below meth c T locs cells slots) (hx : p.tables.exec = Jvm.exec) {i : Fin 2} {v : Int64} (hd : decode c.code pc = .ok (.lconst i, 1)) (hv : Int64.ofNat i = v) (hp : pc + 1 = pc') (r : Rn p e below (T.setTop (mkF m pc' L (.long v :: S))) G) : Rn p e below (T.setTop (mkF m pc L (S))) G := by
  subst hp hv; exact Rn.st (fun t q => XS.lconst X.here hx rfl hd q) r
theorem R.dconst0 (X : Stand p l e R s m args below meth c T locs cells slots) (hx : p.tables.exec = Jvm.exec)  (hd : decode c.code pc = .ok (.dconst 0, 1)) (hp : pc + 1 = pc') (r : Rn p e below (T.setTop (mkF m pc' L (.double FP.dconst0 :: S))) G) : Rn p e below (T.setTop (mkF m pc L (S))) G := by
  subst hp; exact Rn.st (fun t q => XS.dconst0 X.here hx rfl hd rfl q) r
theorem R.dconst1 (X : Stand p l e R s m args below meth c T locs cells slots) (hx : p.tables.exec = Jvm.exec)  (hd : decode c.code pc = .ok (.dconst 1, 1)) (hp : pc + 1 = pc') (r : Rn p e below (T.setTop (mkF m pc' L (.double FP.dconst1 :: S))) G) : Rn p e below (T.setTop (mkF m pc L (S))) G := by
  subst hp; exact Rn.st (fun t q => XS.dconst1 X.here hx rfl hd rfl q) r
theorem R.aconstNull (X : Stand p l e R s m args below meth c T locs cells slots) (hx : p.tables.exec = Jvm.exec)  (hd : decode c.code pc = .ok (.aconst_null, 1)) (hp : pc + 1 = pc') (r : Rn p e below (T.setTop (mkF m pc' L (.null :: S))) G) : Rn p e below (T.setTop (mkF m pc L (S))) G := by
  subst hp; exact Rn.st (fun t q => XS.aconstNull X.here hx rfl hd q) r
theorem R.iadd (X : Stand p l e R s m args below meth c T locs cells slots) (hx : p.tables.exec = Jvm.exec) {x y v : Int32} (hd : decode c.code pc = .ok (.iadd, 1)) (hv : x + y = v) (hp : pc + 1 = pc') (r : Rn p e below (T.setTop (mkF m pc' L (.int v :: S))) G) : Rn p e below (T.setTop (mkF m pc L (.int y :: .int x :: S))) G := by
  subst hp hv; exact Rn.st (fun t q => XS.iadd X.here hx rfl hd rfl q) r
theorem R.ladd (X : Stand p l e R s m args below meth c T locs cells slots) (hx : p.tables.exec = Jvm.exec) {x y v : Int64} (hd : decode c.code pc = .ok (.ladd, 1)) (hv : x + y = v) (hp : pc + 1 = pc') (r : Rn p e below (T.setTop (mkF m pc' L (.long v :: S))) G) : Rn p e below (T.setTop (mkF m pc L (.long y :: .long x :: S))) G := by
  subst hp hv; exact Rn.st (fun t q => XS.ladd X.here hx rfl hd rfl q) r
theorem R.isub (X : Stand p l e R s m args below meth c T locs cells slots) (hx : p.tables.exec = Jvm.exec) {x y v : Int32} (hd : decode c.code pc = .ok (.isub, 1)) (hv : x - y = v) (hp : pc + 1 = pc') (r : Rn p e below (T.setTop (mkF m pc' L (.int v :: S))) G) : Rn p e below (T.setTop (mkF m pc L (.int y :: .int x :: S))) G := by
  subst hp hv; exact Rn.st (fun t q => XS.isub X.here hx rfl hd rfl q) r
theorem R.lsub (X : Stand p l e R s m args below meth c T locs cells slots) (hx : p.tables.exec = Jvm.exec) {x y v : Int64} (hd : decode c.code pc = .ok (.lsub, 1)) (hv : x - y = v) (hp : pc + 1 = pc') (r : Rn p e below (T.setTop (mkF m pc' L (.long v :: S))) G) : Rn p e below (T.setTop (mkF m pc L (.long y :: .long x :: S))) G := by
  subst hp hv; exact Rn.st (fun t q => XS.lsub X.here hx rfl hd rfl q) r
theorem R.imul (X : Stand p l e R s m args below meth c T locs cells slots) (hx : p.tables.exec = Jvm.exec) {x y v : Int32} (hd : decode c.code pc = .ok (.imul, 1)) (hv : x * y = v) (hp : pc + 1 = pc') (r : Rn p e below (T.setTop (mkF m pc' L (.int v :: S))) G) : Rn p e below (T.setTop (mkF m pc L (.int y :: .int x :: S))) G := by
  subst hp hv; exact Rn.st (fun t q => XS.imul X.here hx rfl hd rfl q) r
theorem R.lmul (X : Stand p l e R s m args below meth c T locs cells slots) (hx : p.tables.exec = Jvm.exec) {x y v : Int64} (hd : decode c.code pc = .ok (.lmul, 1)) (hv : x * y = v) (hp : pc + 1 = pc') (r : Rn p e below (T.setTop (mkF m pc' L (.long v :: S))) G) : Rn p e below (T.setTop (mkF m pc L (.long y :: .long x :: S))) G := by
  subst hp hv; exact Rn.st (fun t q => XS.lmul X.here hx rfl hd rfl q) r
theorem R.iand (X : Stand p l e R s m args below meth c T locs cells slots) (hx : p.tables.exec = Jvm.exec) {x y v : Int32} (hd : decode c.code pc = .ok (.iand, 1)) (hv : x &&& y = v) (hp : pc + 1 = pc') (r : Rn p e below (T.setTop (mkF m pc' L (.int v :: S))) G) : Rn p e below (T.setTop (mkF m pc L (.int y :: .int x :: S))) G := by
  subst hp hv; exact Rn.st (fun t q => XS.iand X.here hx rfl hd rfl q) r
theorem R.land (X : Stand p l e R s m args below meth c T locs cells slots) (hx : p.tables.exec = Jvm.exec) {x y v : Int64} (hd : decode c.code pc = .ok (.land, 1)) (hv : x &&& y = v) (hp : pc + 1 = pc') (r : Rn p e below (T.setTop (mkF m pc' L (.long v :: S))) G) : Rn p e below (T.setTop (mkF m pc L (.long y :: .long x :: S))) G := by
  subst hp hv; exact Rn.st (fun t q => XS.land X.here hx rfl hd rfl q) r
theorem R.ior (X : Stand p l e R s m args below meth c T locs cells slots) (hx : p.tables.exec = Jvm.exec) {x y v : Int32} (hd : decode c.code pc = .ok (.ior, 1)) (hv : x ||| y = v) (hp : pc + 1 = pc') (r : Rn p e below (T.setTop (mkF m pc' L (.int v :: S))) G) : Rn p e below (T.setTop (mkF m pc L (.int y :: .int x :: S))) G := by
  subst hp hv; exact Rn.st (fun t q => XS.ior X.here hx rfl hd rfl q) r
theorem R.lor (X : Stand p l e R s m args below meth c T locs cells slots) (hx : p.tables.exec = Jvm.exec) {x y v : Int64} (hd : decode c.code pc = .ok (.lor, 1)) (hv : x ||| y = v) (hp : pc + 1 = pc') (r : Rn p e below (T.setTop (mkF m pc' L (.long v :: S))) G) : Rn p e below (T.setTop (mkF m pc L (.long y :: .long x :: S))) G := by
  subst hp hv; exact Rn.st (fun t q => XS.lor X.here hx rfl hd rfl q) r
theorem R.ixor (X : Stand p l e R s m args below meth c T locs cells slots) (hx : p.tables.exec = Jvm.exec) {x y v : Int32} (hd : decode c.code pc = .ok (.ixor, 1)) (hv : x ^^^ y = v) (hp : pc + 1 = pc') (r : Rn p e below (T.setTop (mkF m pc' L (.int v :: S))) G) : Rn p e below (T.setTop (mkF m pc L (.int y :: .int x :: S))) G := by
  subst hp hv; exact Rn.st (fun t q => XS.ixor X.here hx rfl hd rfl q) r
theorem R.lxor (X : Stand p l e R s m args below meth c T locs cells slots) (hx : p.tables.exec = Jvm.exec) {x y v : Int64} (hd : decode c.code pc = .ok (.lxor, 1)) (hv : x ^^^ y = v) (hp : pc + 1 = pc') (r : Rn p e below (T.setTop (mkF m pc' L (.long v :: S))) G) : Rn p e below (T.setTop (mkF m pc L (.long y :: .long x :: S))) G := by
  subst hp hv; exact Rn.st (fun t q => XS.lxor X.here hx rfl hd rfl q) r
theorem R.ineg (X : Stand p l e R s m args below meth c T locs cells slots) (hx : p.tables.exec = Jvm.exec) {x : Int32} (hd : decode c.code pc = .ok (.ineg, 1)) (hp : pc + 1 = pc') (r : Rn p e below (T.setTop (mkF m pc' L (.int (-x) :: S))) G) : Rn p e below (T.setTop (mkF m pc L (.int x :: S))) G := by
  subst hp; exact Rn.st (fun t q => XS.ineg X.here hx rfl hd rfl q) r
theorem R.lneg (X : Stand p l e R s m args below meth c T locs cells slots) (hx : p.tables.exec = Jvm.exec) {x : Int64} (hd : decode c.code pc = .ok (.lneg, 1)) (hp : pc + 1 = pc') (r : Rn p e below (T.setTop (mkF m pc' L (.long (-x) :: S))) G) : Rn p e below (T.setTop (mkF m pc L (.long x :: S))) G := by
  subst hp; exact Rn.st (fun t q => XS.lneg X.here hx rfl hd rfl q) r
theorem R.i2l (X : Stand p l e R s m args below meth c T locs cells slots) (hx : p.tables.exec = Jvm.exec) {x : Int32} (hd : decode c.code pc = .ok (.i2l, 1)) (hp : pc + 1 = pc') (r : Rn p e below (T.setTop (mkF m pc' L (.long (x.toInt64) :: S))) G) : Rn p e below (T.setTop (mkF m pc L (.int x :: S))) G := by
  subst hp; exact Rn.st (fun t q => XS.i2l X.here hx rfl hd rfl q) r
theorem R.l2i (X : Stand p l e R s m args below meth c T locs cells slots) (hx : p.tables.exec = Jvm.exec) {x : Int64} (hd : decode c.code pc = .ok (.l2i, 1)) (hp : pc + 1 = pc') (r : Rn p e below (T.setTop (mkF m pc' L (.int (x.toInt32) :: S))) G) : Rn p e below (T.setTop (mkF m pc L (.long x :: S))) G := by
  subst hp; exact Rn.st (fun t q => XS.l2i X.here hx rfl hd rfl q) r
theorem R.i2b (X : Stand p l e R s m args below meth c T locs cells slots) (hx : p.tables.exec = Jvm.exec) {x : Int32} (hd : decode c.code pc = .ok (.i2b, 1)) (hp : pc + 1 = pc') (r : Rn p e below (T.setTop (mkF m pc' L (.int (x.toInt8.toInt32) :: S))) G) : Rn p e below (T.setTop (mkF m pc L (.int x :: S))) G := by
  subst hp; exact Rn.st (fun t q => XS.i2b X.here hx rfl hd rfl q) r
theorem R.i2s (X : Stand p l e R s m args below meth c T locs cells slots) (hx : p.tables.exec = Jvm.exec) {x : Int32} (hd : decode c.code pc = .ok (.i2s, 1)) (hp : pc + 1 = pc') (r : Rn p e below (T.setTop (mkF m pc' L (.int (x.toInt16.toInt32) :: S))) G) : Rn p e below (T.setTop (mkF m pc L (.int x :: S))) G := by
  subst hp; exact Rn.st (fun t q => XS.i2s X.here hx rfl hd rfl q) r
theorem R.i2c (X : Stand p l e R s m args below meth c T locs cells slots) (hx : p.tables.exec = Jvm.exec) {x : Int32} (hd : decode c.code pc = .ok (.i2c, 1)) (hp : pc + 1 = pc') (r : Rn p e below (T.setTop (mkF m pc' L (.int (x.toUInt32.toUInt16.toUInt32.toInt32) :: S))) G) : Rn p e below (T.setTop (mkF m pc L (.int x :: S))) G := by
  subst hp; exact Rn.st (fun t q => XS.i2c X.here hx rfl hd rfl q) r
theorem R.ishl (X : Stand p l e R s m args below meth c T locs cells slots) (hx : p.tables.exec = Jvm.exec) {x : Int32} {y : Int32} (hd : decode c.code pc = .ok (.ishl, 1)) (hp : pc + 1 = pc') (r : Rn p e below (T.setTop (mkF m pc' L (.int (x <<< (y &&& 31)) :: S))) G) : Rn p e below (T.setTop (mkF m pc L (.int y :: .int x :: S))) G := by
  subst hp; exact Rn.st (fun t q => XS.ishl X.here hx rfl hd rfl q) r
theorem R.ishr (X : Stand p l e R s m args below meth c T locs cells slots) (hx : p.tables.exec = Jvm.exec) {x : Int32} {y : Int32} (hd : decode c.code pc = .ok (.ishr, 1)) (hp : pc + 1 = pc') (r : Rn p e below (T.setTop (mkF m pc' L (.int (x >>> (y &&& 31)) :: S))) G) : Rn p e below (T.setTop (mkF m pc L (.int y :: .int x :: S))) G := by
  subst hp; exact Rn.st (fun t q => XS.ishr X.here hx rfl hd rfl q) r
theorem R.iushr (X : Stand p l e R s m args below meth c T locs cells slots) (hx : p.tables.exec = Jvm.exec) {x : Int32} {y : Int32} (hd : decode c.code pc = .ok (.iushr, 1)) (hp : pc + 1 = pc') (r : Rn p e below (T.setTop (mkF m pc' L (.int ((x.toUInt32 >>> (y &&& 31).toUInt32).toInt32) :: S))) G) : Rn p e below (T.setTop (mkF m pc L (.int y :: .int x :: S))) G := by
  subst hp; exact Rn.st (fun t q => XS.iushr X.here hx rfl hd rfl q) r
theorem R.lshl (X : Stand p l e R s m args below meth c T locs cells slots) (hx : p.tables.exec = Jvm.exec) {x : Int64} {y : Int32} (hd : decode c.code pc = .ok (.lshl, 1)) (hp : pc + 1 = pc') (r : Rn p e below (T.setTop (mkF m pc' L (.long (x <<< (y &&& 63).toInt64) :: S))) G) : Rn p e below (T.setTop (mkF m pc L (.int y :: .long x :: S))) G := by
  subst hp; exact Rn.st (fun t q => XS.lshl X.here hx rfl hd rfl q) r
theorem R.lshr (X : Stand p l e R s m args below meth c T locs cells slots) (hx : p.tables.exec = Jvm.exec) {x : Int64} {y : Int32} (hd : decode c.code pc = .ok (.lshr, 1)) (hp : pc + 1 = pc') (r : Rn p e below (T.setTop (mkF m pc' L (.long (x >>> (y &&& 63).toInt64) :: S))) G) : Rn p e below (T.setTop (mkF m pc L (.int y :: .long x :: S))) G := by
  subst hp; exact Rn.st (fun t q => XS.lshr X.here hx rfl hd rfl q) r
theorem R.lcmp (X : Stand p l e R s m args below meth c T locs cells slots) (hx : p.tables.exec = Jvm.exec) {x y : Int64} (hd : decode c.code pc = .ok (.lcmp, 1)) (hp : pc + 1 = pc') (r : Rn p e below (T.setTop (mkF m pc' L (.int (lcmpW x y) :: S))) G) : Rn p e below (T.setTop (mkF m pc L (.long y :: .long x :: S))) G := by
  subst hp; exact Rn.st (fun t q => XS.lcmp X.here hx rfl hd rfl q) r
theorem R.idiv (X : Stand p l e R s m args below meth c T locs cells slots) (hx : p.tables.exec = Jvm.exec) {x y : Int32} (hd : decode c.code pc = .ok (.idiv, 1)) (hy : y ≠ 0) (hp : pc + 1 = pc') (r : Rn p e below (T.setTop (mkF m pc' L (.int (x / y) :: S))) G) : Rn p e below (T.setTop (mkF m pc L (.int y :: .int x :: S))) G := by
  subst hp; exact Rn.st (fun t q => XS.idiv X.here hx rfl hd rfl hy q) r
theorem R.irem (X : Stand p l e R s m args below meth c T locs cells slots) (hx : p.tables.exec = Jvm.exec) {x y : Int32} (hd : decode c.code pc = .ok (.irem, 1)) (hy : y ≠ 0) (hp : pc + 1 = pc') (r : Rn p e below (T.setTop (mkF m pc' L (.int (x % y) :: S))) G) : Rn p e below (T.setTop (mkF m pc L (.int y :: .int x :: S))) G := by
  subst hp; exact Rn.st (fun t q => iremM X hx rfl hd rfl hy q) r
theorem R.ldiv (X : Stand p l e R s m args below meth c T locs cells slots) (hx : p.tables.exec = Jvm.exec) {x y : Int64} (hd : decode c.code pc = .ok (.ldiv, 1)) (hy : y ≠ 0) (hp : pc + 1 = pc') (r : Rn p e below (T.setTop (mkF m pc' L (.long (x / y) :: S))) G) : Rn p e below (T.setTop (mkF m pc L (.long y :: .long x :: S))) G := by
  subst hp; exact Rn.st (fun t q => XS.ldiv X.here hx rfl hd rfl hy q) r
theorem R.lrem (X : Stand p l e R s m args below meth c T locs cells slots) (hx : p.tables.exec = Jvm.exec) {x y : Int64} (hd : decode c.code pc = .ok (.lrem, 1)) (hy : y ≠ 0) (hp : pc + 1 = pc') (r : Rn p e below (T.setTop (mkF m pc' L (.long (x - (x / y) * y) :: S))) G) : Rn p e below (T.setTop (mkF m pc L (.long y :: .long x :: S))) G := by
  subst hp; exact Rn.st (fun t q => XS.lrem X.here hx rfl hd rfl hy q) r
theorem R.i2d (X : Stand p l e R s m args below meth c T locs cells slots) (hx : p.tables.exec = Jvm.exec) {x : Int32} (hd : decode c.code pc = .ok (.i2d, 1)) (hp : pc + 1 = pc') (r : Rn p e below (T.setTop (mkF m pc' L (.double (FP.i2d x) :: S))) G) : Rn p e below (T.setTop (mkF m pc L (.int x :: S))) G := by
  subst hp; exact Rn.st (fun t q => XS.i2dS X.here hx rfl hd rfl rfl q) r
theorem R.l2d (X : Stand p l e R s m args below meth c T locs cells slots) (hx : p.tables.exec = Jvm.exec) {x : Int64} (hd : decode c.code pc = .ok (.l2d, 1)) (hp : pc + 1 = pc') (r : Rn p e below (T.setTop (mkF m pc' L (.double (FP.l2d x) :: S))) G) : Rn p e below (T.setTop (mkF m pc L (.long x :: S))) G := by
  subst hp; exact Rn.st (fun t q => XS.l2dS X.here hx rfl hd rfl rfl q) r
theorem R.d2i (X : Stand p l e R s m args below meth c T locs cells slots) (hx : p.tables.exec = Jvm.exec) {x : UInt64} (hd : decode c.code pc = .ok (.d2i, 1)) (hp : pc + 1 = pc') (r : Rn p e below (T.setTop (mkF m pc' L (.int (FP.d2i x) :: S))) G) : Rn p e below (T.setTop (mkF m pc L (.double x :: S))) G := by
  subst hp; exact Rn.st (fun t q => XS.d2iS X.here hx rfl hd rfl rfl q) r
theorem R.d2l (X : Stand p l e R s m args below meth c T locs cells slots) (hx : p.tables.exec = Jvm.exec) {x : UInt64} (hd : decode c.code pc = .ok (.d2l, 1)) (hp : pc + 1 = pc') (r : Rn p e below (T.setTop (mkF m pc' L (.long (FP.d2l x) :: S))) G) : Rn p e below (T.setTop (mkF m pc L (.double x :: S))) G := by
  subst hp; exact Rn.st (fun t q => XS.d2lS X.here hx rfl hd rfl rfl q) r
theorem R.dadd (X : Stand p l e R s m args below meth c T locs cells slots) (hx : p.tables.exec = Jvm.exec) {x y : UInt64} (hd : decode c.code pc = .ok (.dadd, 1)) (hn : NoNaN64 (FP.dadd x y)) (hp : pc + 1 = pc') (r : Rn p e below (T.setTop (mkF m pc' L (.double (FP.dadd x y) :: S))) G) : Rn p e below (T.setTop (mkF m pc L (.double y :: .double x :: S))) G := by
  subst hp; exact Rn.st (fun t q => XS.daddS X.here hx rfl hd rfl hn rfl q) r
theorem R.dsub (X : Stand p l e R s m args below meth c T locs cells slots) (hx : p.tables.exec = Jvm.exec) {x y : UInt64} (hd : decode c.code pc = .ok (.dsub, 1)) (hn : NoNaN64 (FP.dsub x y)) (hp : pc + 1 = pc') (r : Rn p e below (T.setTop (mkF m pc' L (.double (FP.dsub x y) :: S))) G) : Rn p e below (T.setTop (mkF m pc L (.double y :: .double x :: S))) G := by
  subst hp; exact Rn.st (fun t q => XS.dsubS X.here hx rfl hd rfl hn rfl q) r
theorem R.dmul (X : Stand p l e R s m args below meth c T locs cells slots) (hx : p.tables.exec = Jvm.exec) {x y : UInt64} (hd : decode c.code pc = .ok (.dmul, 1)) (hn : NoNaN64 (FP.dmul x y)) (hp : pc + 1 = pc') (r : Rn p e below (T.setTop (mkF m pc' L (.double (FP.dmul x y) :: S))) G) : Rn p e below (T.setTop (mkF m pc L (.double y :: .double x :: S))) G := by
  subst hp; exact Rn.st (fun t q => XS.dmulS X.here hx rfl hd rfl hn rfl q) r
theorem R.ddiv (X : Stand p l e R s m args below meth c T locs cells slots) (hx : p.tables.exec = Jvm.exec) {x y : UInt64} (hd : decode c.code pc = .ok (.ddiv, 1)) (hn : NoNaN64 (FP.ddiv x y)) (hp : pc + 1 = pc') (r : Rn p e below (T.setTop (mkF m pc' L (.double (FP.ddiv x y) :: S))) G) : Rn p e below (T.setTop (mkF m pc L (.double y :: .double x :: S))) G := by
  subst hp; exact Rn.st (fun t q => XS.ddivS X.here hx rfl hd rfl hn rfl q) r
theorem R.dneg (X : Stand p l e R s m args below meth c T locs cells slots) (hx : p.tables.exec = Jvm.exec) {x : UInt64} (hd : decode c.code pc = .ok (.dneg, 1)) (hp : pc + 1 = pc') (r : Rn p e below (T.setTop (mkF m pc' L (.double (FP.dneg x) :: S))) G) : Rn p e below (T.setTop (mkF m pc L (.double x :: S))) G := by
  subst hp; exact Rn.st (fun t q => XS.dnegS X.here hx rfl hd rfl rfl q) r
theorem R.dcmp (X : Stand p l e R s m args below meth c T locs cells slots) (hx : p.tables.exec = Jvm.exec) {o : CmpOp} {x y : UInt64} {v : Int32} (hd : decode c.code pc = .ok (.dcmp o, 1)) (hv : cmpValue (FP.dcmp x y) o = v) (hp : pc + 1 = pc') (r : Rn p e below (T.setTop (mkF m pc' L (.int v :: S))) G) : Rn p e below (T.setTop (mkF m pc L (.double y :: .double x :: S))) G := by
  subst hp; exact Rn.st (fun t q => XS.dcmpS X.here hx rfl hd rfl hv q) r
theorem R.iinc (X : Stand p l e R s m args below meth c T locs cells slots) (hx : p.tables.exec = Jvm.exec) {k : Nat} {cst : Int} {x : Int32} (hd : decode c.code pc = .ok (.iinc k cst, 3)) (hl : L[k]? = some (.val (.int x))) (hl' : storeLocals L k (.int (x + Int32.ofInt cst)) = some L') (hp : pc + 3 = pc') (r : Rn p e below (T.setTop (mkF m pc' L' (S))) G) : Rn p e below (T.setTop (mkF m pc L (S))) G := by
  subst hp; exact Rn.st (fun t q => XS.iinc X.here hx rfl hd hl hl' q) r
theorem R.dup (X : Stand p l e R s m args below meth c T locs cells slots) (hx : p.tables.exec = Jvm.exec) {x : Value} (hd : decode c.code pc = .ok (.dup, 1)) (hc : x.category = 1) (hp : pc + 1 = pc') (r : Rn p e below (T.setTop (mkF m pc' L (x :: x :: S))) G) : Rn p e below (T.setTop (mkF m pc L (x :: S))) G := by
  subst hp; exact Rn.st (fun t q => XS.dup X.here hx rfl hd rfl hc q) r
theorem R.dupX1 (X : Stand p l e R s m args below meth c T locs cells slots) (hx : p.tables.exec = Jvm.exec) {x y : Value} (hd : decode c.code pc = .ok (.dup_x1, 1)) (hc : x.category = 1) (hc' : y.category = 1) (hp : pc + 1 = pc') (r : Rn p e below (T.setTop (mkF m pc' L (x :: y :: x :: S))) G) : Rn p e below (T.setTop (mkF m pc L (x :: y :: S))) G := by
  subst hp; exact Rn.st (fun t q => XS.dupX1 X.here hx rfl hd rfl hc hc' q) r
theorem R.dup2 (X : Stand p l e R s m args below meth c T locs cells slots) (hx : p.tables.exec = Jvm.exec) {x y : Value} (hd : decode c.code pc = .ok (.dup2, 1)) (hc : x.category = 1) (hc' : y.category = 1) (hp : pc + 1 = pc') (r : Rn p e below (T.setTop (mkF m pc' L (x :: y :: x :: y :: S))) G) : Rn p e below (T.setTop (mkF m pc L (x :: y :: S))) G := by
  subst hp; exact Rn.st (fun t q => Jvm.Free.XT.dup2 X.here hx rfl hd rfl hc hc' q) r
theorem R.pop (X : Stand p l e R s m args below meth c T locs cells slots) (hx : p.tables.exec = Jvm.exec) {x : Value} (hd : decode c.code pc = .ok (.pop, 1)) (hc : x.category = 1) (hp : pc + 1 = pc') (r : Rn p e below (T.setTop (mkF m pc' L (S))) G) : Rn p e below (T.setTop (mkF m pc L (x :: S))) G := by
  subst hp; exact Rn.st (fun t q => XS.pop X.here hx rfl hd rfl hc q) r
theorem R.ifYes (X : Stand p l e R s m args below meth c T locs cells slots) (hx : p.tables.exec = Jvm.exec) {cd : ClassFile.Cond} {x : Int32} {o : Int} (hd : decode c.code pc = .ok (.ifCond cd o, 3)) (hc : if_icmp.holds cd x 0 = true) (ho : 0 ≤ (pc : Int) + o) (hp : ((pc : Int) + o).toNat = pc') (r : Rn p e below (T.setTop (mkF m pc' L S)) G) : Rn p e below (T.setTop (mkF m pc L (.int x :: S))) G :=
  Rn.st (fun t q => XS.ifYes X.here hx rfl rfl hd rfl ((if0 _ _).trans hc) ho hp q) r
theorem R.ifNo (X : Stand p l e R s m args below meth c T locs cells slots) (hx : p.tables.exec = Jvm.exec) {cd : ClassFile.Cond} {x : Int32} {o : Int} (hd : decode c.code pc = .ok (.ifCond cd o, 3)) (hc : if_icmp.holds cd x 0 = false) (hp : pc + 3 = pc') (r : Rn p e below (T.setTop (mkF m pc' L (S))) G) : Rn p e below (T.setTop (mkF m pc L (.int x :: S))) G := by
  subst hp; exact Rn.st (fun t q => XS.ifNo X.here hx rfl hd rfl ((if0 _ _).trans hc) q) r
theorem R.icmpYes (X : Stand p l e R s m args below meth c T locs cells slots) (hx : p.tables.exec = Jvm.exec) {cd : ClassFile.Cond} {x y : Int32} {o : Int} (hd : decode c.code pc = .ok (.if_icmp cd o, 3)) (hc : if_icmp.holds cd x y = true) (ho : 0 ≤ (pc : Int) + o) (hp : ((pc : Int) + o).toNat = pc') (r : Rn p e below (T.setTop (mkF m pc' L S)) G) : Rn p e below (T.setTop (mkF m pc L (.int y :: .int x :: S))) G :=
  Rn.st (fun t q => XS.icmpYes X.here hx rfl rfl hd rfl hc ho hp q) r
theorem R.icmpNo (X : Stand p l e R s m args below meth c T locs cells slots) (hx : p.tables.exec = Jvm.exec) {cd : ClassFile.Cond} {x y : Int32} {o : Int} (hd : decode c.code pc = .ok (.if_icmp cd o, 3)) (hc : if_icmp.holds cd x y = false) (hp : pc + 3 = pc') (r : Rn p e below (T.setTop (mkF m pc' L (S))) G) : Rn p e below (T.setTop (mkF m pc L (.int y :: .int x :: S))) G := by
  subst hp; exact Rn.st (fun t q => XS.icmpNo X.here hx rfl hd rfl hc q) r
theorem R.goto (X : Stand p l e R s m args below meth c T locs cells slots) (hx : p.tables.exec = Jvm.exec)  {o : Int} (hd : decode c.code pc = .ok (.goto o, 3)) (ho : 0 ≤ (pc : Int) + o) (hp : ((pc : Int) + o).toNat = pc') (r : Rn p e below (T.setTop (mkF m pc' L S)) G) : Rn p e below (T.setTop (mkF m pc L (S))) G :=
  Rn.st (fun t q => XS.goto X.here hx rfl rfl hd ho hp q) r
theorem R.ifnullYes (X : Stand p l e R s m args below meth c T locs cells slots) (hx : p.tables.exec = Jvm.exec)  {o : Int} (hd : decode c.code pc = .ok (.ifnull o, 3)) (ho : 0 ≤ (pc : Int) + o) (hp : ((pc : Int) + o).toNat = pc') (r : Rn p e below (T.setTop (mkF m pc' L S)) G) : Rn p e below (T.setTop (mkF m pc L (.null :: S))) G :=
  Rn.st (fun t q => XS.ifnullYes X.here hx rfl rfl hd rfl ho hp q) r
theorem R.ifnullNo (X : Stand p l e R s m args below meth c T locs cells slots) (hx : p.tables.exec = Jvm.exec) {b : Addr} {o : Int} (hd : decode c.code pc = .ok (.ifnull o, 3)) (hp : pc + 3 = pc') (r : Rn p e below (T.setTop (mkF m pc' L (S))) G) : Rn p e below (T.setTop (mkF m pc L (.ref b :: S))) G := by
  subst hp; exact Rn.st (fun t q => XS.ifnullNo X.here hx rfl hd rfl q) r
theorem R.ifnonnullYes (X : Stand p l e R s m args below meth c T locs cells slots) (hx : p.tables.exec = Jvm.exec) {b : Addr} {o : Int} (hd : decode c.code pc = .ok (.ifnonnull o, 3)) (ho : 0 ≤ (pc : Int) + o) (hp : ((pc : Int) + o).toNat = pc') (r : Rn p e below (T.setTop (mkF m pc' L S)) G) : Rn p e below (T.setTop (mkF m pc L (.ref b :: S))) G :=
  Rn.st (fun t q => XS.ifnonnullYes X.here hx rfl rfl hd rfl ho hp q) r
theorem R.ifnonnullNo (X : Stand p l e R s m args below meth c T locs cells slots) (hx : p.tables.exec = Jvm.exec)  {o : Int} (hd : decode c.code pc = .ok (.ifnonnull o, 3)) (hp : pc + 3 = pc') (r : Rn p e below (T.setTop (mkF m pc' L (S))) G) : Rn p e below (T.setTop (mkF m pc L (.null :: S))) G := by
  subst hp; exact Rn.st (fun t q => XS.ifnonnullNo X.here hx rfl hd rfl q) r
end RSteps
section RBig
variable {p : Program} {l : Launch} {e : Env} {R : Room} {s : State} {m : MethodId} {args : Array Value} {below : List Frame} {meth : Method} {c : Code} {T : State} {locs : List Loc} {cells slots : Nat} {G : Outcome → State → Prop} {L L' : Array Slot} {S : List Value} {pc pc' : Nat} {Z : State} {a0 : Array Value} {h : Heap} {a : Addr} {own : String} {index : Nat}
theorem R.getF (X : Stand p l e R s m args below meth c T locs cells slots) (hx : p.tables.exec = Jvm.exec) (hZ : Z.Warmed39 s.vm) {R0 O n d host : String} (hown : s.vm.findClass own = some m.cls) (w : (Jvm.Cond.fieldLink own index R0 n d).before a0 Z = true ∨ (Jvm.Cond.fieldLinkNest own index R0 n d host).before a0 Z = true) (via : Via Z R0 O n d) (eT : T.heap = h) {v : Value} (F : Fld Z h a O n d v)
    (hd : decode c.code pc = .ok (.getfield index, 3)) (hp : pc + 3 = pc') (K : ∀ T', Stand p l e R s m args below meth c T' locs cells slots → T'.heap = h → Rn p e below (T'.setTop (mkF m pc' L (v :: S))) G) : Rn p e below (T.setTop (mkF m pc L (.ref a :: S))) G := by
  subst hp
  obtain ⟨T', X', e', st⟩ := getF X hx hZ hown w via eT F (g := mkF m pc L (.ref a :: S)) rfl rfl hd
  exact Rn.st st (K T' X' e')
theorem R.getS (X : Stand p l e R s m args below meth c T locs cells slots) (hx : p.tables.exec = Jvm.exec) (hZ : Z.Warmed39 s.vm) {R0 O n d host : String} (hown : s.vm.findClass own = some m.cls) (w : (Jvm.Cond.fieldLink own index R0 n d).before a0 Z = true ∨ (Jvm.Cond.fieldLinkNest own index R0 n d host).before a0 Z = true) (via : Via Z R0 O n d) (eT : T.heap = h) {v : Value} (F : Sta Z h O n d v)
    (hd : decode c.code pc = .ok (.getstatic index, 3)) (hp : pc + 3 = pc') (K : ∀ T', Stand p l e R s m args below meth c T' locs cells slots → T'.heap = h → Rn p e below (T'.setTop (mkF m pc' L (v :: S))) G) : Rn p e below (T.setTop (mkF m pc L S)) G := by
  subst hp
  obtain ⟨T', X', e', st⟩ := getS2 X hx hZ hown w via eT F (g := mkF m pc L S) rfl hd
  exact Rn.st st (K T' X' e')
theorem R.putF (X : Stand p l e R s m args below meth c T locs cells slots) (hx : p.tables.exec = Jvm.exec) (hZ : Z.Warmed39 s.vm) {R0 O n d host C : String} {kk : Nat} {ty : FieldType} (hown : s.vm.findClass own = some m.cls) (w : (Jvm.Cond.fieldLink own index R0 n d).before a0 Z = true ∨ (Jvm.Cond.fieldLinkNest own index R0 n d host).before a0 Z = true) (via : Via Z R0 O n d) (eT : T.heap = h) {v old : Value} (F : Fld Z h a O n d old) (E : Exa Z h a C)
    (Ly : (Jvm.Cond.lays C O n d).before a0 Z = true ∨ ((Jvm.Cond.laysFinal C O n d).before a0 Z = true ∧ own = O ∧ meth.name = "<init>")) (wi : (Jvm.Cond.instantiable C kk).before a0 Z = true) (hty : parseFieldDescriptor d = some ty) (hn : narrow ty v = v) (hf : fits ty v = true)
    (hd : decode c.code pc = .ok (.putfield index, 3)) (hp : pc + 3 = pc') (K : ∀ T' h', Stand p l e R s m args below meth c T' (locs ++ [⟨a, Jvm.RoadKit.slotOf Z O n d⟩]) cells slots → T'.heap = h' → Wr h h' a (Jvm.RoadKit.slotOf Z O n d) v → Rn p e below (T'.setTop (mkF m pc' L S)) G) : Rn p e below (T.setTop (mkF m pc L (v :: .ref a :: S))) G := by
  subst hp
  obtain ⟨T', h', X', e', W', st⟩ := putF X hx hZ hown w via eT F E Ly wi hty hn hf (g := mkF m pc L (v :: .ref a :: S)) rfl rfl hd
  exact Rn.st st (K T' h' X' e' W')
theorem R.newO (X : Stand p l e R s m args below meth c T locs cells slots) (hx : p.tables.exec = Jvm.exec) (hZ : Z.Warmed39 s.vm) {C : String} {n : Nat} (hown : s.vm.findClass own = some m.cls) (w : (Jvm.Cond.classLink own index C).before a0 Z = true) (wi : (Jvm.Cond.instantiable C n).before a0 Z = true) (wz : (Jvm.Cond.initialized C).before a0 Z = true) (eT : T.heap = h)
    (hd : decode c.code pc = .ok (.new index, 3)) (hp : pc + 3 = pc') (hc : cells + 1 ≤ R.cells) (hl : slots + n ≤ R.slots)
    (K : ∀ T' h' b, b = h.size → Stand p l e R s m args below meth c T' locs (cells + 1) (slots + n) → T'.heap = h' → Ext h h' → Exa Z h' b C → (∀ {O nm d : String} {ty : FieldType}, Laid Z a0 C O nm d → parseFieldDescriptor d = some ty → Fld Z h' b O nm d (defaultValue ty)) → Rn p e below (T'.setTop (mkF m pc' L (.ref b :: S))) G) : Rn p e below (T.setTop (mkF m pc L S)) G := by
  subst hp
  obtain ⟨T', h', X', e', E', A', D', -, st⟩ := newO X hx hZ hown w wi wz eT (g := mkF m pc L S) rfl hd hc hl
  exact Rn.st st (K T' h' _ rfl X' e' E' A' D')
theorem R.newP (X : Stand p l e R s m args below meth c T locs cells slots) (hx : p.tables.exec = Jvm.exec) (hZ : Z.Warmed39 s.vm) {aty : ArrayType} {ty : FieldType} (hty : newarray.typeOf aty = ty) (w : (Jvm.Cond.arrayClass ty).before a0 Z = true) (eT : T.heap = h) {n : Int32} (hn : ¬ n < 0) {cap : Nat} (hcap : n.toNatClampNeg ≤ cap) (hb : cap * 8 ≤ 536870912) {ad : String} (had : "[" ++ ty.toString = ad)
    (hd : decode c.code pc = .ok (.newarray aty, 2)) (hp : pc + 2 = pc') (hc : cells + 1 ≤ R.cells) (hl : slots + cap ≤ R.slots)
    (K : ∀ T' h' b k, b = h.size → Stand p l e R s m args below meth c T' locs (cells + 1) (slots + cap) → T'.heap = h' → Ext h h' → Exa Z h' b ad → Arh Z h' b k ty n [] [] (defaultValue ty) → Rn p e below (T'.setTop (mkF m pc' L (.ref b :: S))) G) : Rn p e below (T.setTop (mkF m pc L (.int n :: S))) G := by
  subst hp hty
  obtain ⟨T', h', k, X', e', E', A', EE, st⟩ := newPE X hx hZ w eT (g := mkF m pc L (.int n :: S)) rfl hd rfl hn hcap hb hc hl had
  exact Rn.st st (K T' h' _ k rfl X' e' E' EE (Arv.new A' hn).arh)
section Arr
variable {k : ClassId} {z : Int32} {hs : List (Int32 × Value)} {vs : List Value} {dv : Value} {j : Int32}
theorem R.alen (X : Stand p l e R s m args below meth c T locs cells slots) (hx : p.tables.exec = Jvm.exec) (hZ : Z.Warmed39 s.vm) (eT : T.heap = h) {ty : FieldType} (F : Arh Z h a k ty z hs vs dv) (hd : decode c.code pc = .ok (.arraylength, 1)) (hp : pc + 1 = pc') (r : Rn p e below (T.setTop (mkF m pc' L (.int z :: S))) G) : Rn p e below (T.setTop (mkF m pc L (.ref a :: S))) G := by
  subst hp
  obtain ⟨cl, Ar, qA, SA, NA, HA, GA⟩ := F
  exact Rn.st (fun t q => X.arraylength hx (by rw [eT]; exact Ar.1) (State.isArrayOf_alike hZ.alike Ar.2.1) (g := mkF m pc L (.ref a :: S)) rfl rfl hd _ (by rw [len_of SA NA]; exact q)) r
theorem R.daload (X : Stand p l e R s m args below meth c T locs cells slots) (hx : p.tables.exec = Jvm.exec) (hZ : Z.Warmed39 s.vm) (eT : T.heap = h) (F : Arh Z h a k .double z hs vs dv) (hb : ¬ j < 0 ∧ j < z) {v : Value} (hv : getH hs vs dv j.toNatClampNeg = v) (hd : decode c.code pc = .ok (.daload, 1)) (hp : pc + 1 = pc') (r : Rn p e below (T.setTop (mkF m pc' L (v :: S))) G) : Rn p e below (T.setTop (mkF m pc L (.int j :: .ref a :: S))) G := by
  subst hp
  obtain ⟨cl, Ar, qA, SA, NA, HA, GA⟩ := F
  have hin := inb_of SA hb
  exact Rn.st (fun t q => X.daload hx (by rw [eT]; exact Ar.1) (State.isArrayOf_alike hZ.alike Ar.2.1) Ar.2.2 hin (atH HA hin hv) (g := mkF m pc L (.int j :: .ref a :: S)) rfl rfl hd _ q) r
theorem R.iaload (X : Stand p l e R s m args below meth c T locs cells slots) (hx : p.tables.exec = Jvm.exec) (hZ : Z.Warmed39 s.vm) (eT : T.heap = h) (F : Arh Z h a k .int z hs vs dv) (hb : ¬ j < 0 ∧ j < z) {v : Value} (hv : getH hs vs dv j.toNatClampNeg = v) (hd : decode c.code pc = .ok (.iaload, 1)) (hp : pc + 1 = pc') (r : Rn p e below (T.setTop (mkF m pc' L (v :: S))) G) : Rn p e below (T.setTop (mkF m pc L (.int j :: .ref a :: S))) G := by
  subst hp
  obtain ⟨cl, Ar, qA, SA, NA, HA, GA⟩ := F
  have hin := inb_of SA hb
  exact Rn.st (fun t q => X.iaload hx (by rw [eT]; exact Ar.1) (State.isArrayOf_alike hZ.alike Ar.2.1) Ar.2.2 hin (atH HA hin hv) (g := mkF m pc L (.int j :: .ref a :: S)) rfl rfl hd _ q) r
theorem R.baloadZ (X : Stand p l e R s m args below meth c T locs cells slots) (hx : p.tables.exec = Jvm.exec) (hZ : Z.Warmed39 s.vm) (eT : T.heap = h) (F : Arh Z h a k .boolean z hs vs dv) (hb : ¬ j < 0 ∧ j < z) {v : Value} (hv : getH hs vs dv j.toNatClampNeg = v) (hd : decode c.code pc = .ok (.baload, 1)) (hp : pc + 1 = pc') (r : Rn p e below (T.setTop (mkF m pc' L (v :: S))) G) : Rn p e below (T.setTop (mkF m pc L (.int j :: .ref a :: S))) G := by
  subst hp
  obtain ⟨cl, Ar, qA, SA, NA, HA, GA⟩ := F
  have hin := inb_of SA hb
  exact Rn.st (fun t q => X.baloadBooleans hx (by rw [eT]; exact Ar.1) (State.isArrayOf_alike hZ.alike Ar.2.1) Ar.2.2 hin (atH HA hin hv) (g := mkF m pc L (.int j :: .ref a :: S)) rfl rfl hd _ q) r
theorem R.dastore (X : Stand p l e R s m args below meth c T locs cells slots) (hx : p.tables.exec = Jvm.exec) (hZ : Z.Warmed39 s.vm) (eT : T.heap = h) (F : Arh Z h a k .double z hs vs dv) (hb : ¬ j < 0 ∧ j < z) {x : UInt64} (hd : decode c.code pc = .ok (.dastore, 1)) (hp : pc + 1 = pc')
    (K : ∀ T' h', Stand p l e R s m args below meth c T' (locs ++ [⟨a, j.toNatClampNeg⟩]) cells slots → T'.heap = h' → Wr h h' a j.toNatClampNeg (.double x) → Arh Z h' a k .double z ((j, .double x) :: hs) vs dv → Rn p e below (T'.setTop (mkF m pc' L S)) G) : Rn p e below (T.setTop (mkF m pc L (.double x :: .int j :: .ref a :: S))) G := by
  subst hp
  obtain ⟨cl, Ar, qA, SA, NA, HA, GA⟩ := F
  have hin := inb_of SA hb
  obtain ⟨T', h', X', e', W', st⟩ := stD X hx hZ eT Ar (j := j) hin (g := mkF m pc L (.double x :: .int j :: .ref a :: S)) rfl rfl hd
  exact Rn.st st (K T' h' X' e' W' (Arh.push Ar qA SA NA HA GA rfl W' hin))
theorem R.iastore (X : Stand p l e R s m args below meth c T locs cells slots) (hx : p.tables.exec = Jvm.exec) (hZ : Z.Warmed39 s.vm) (eT : T.heap = h) (F : Arh Z h a k .int z hs vs dv) (hb : ¬ j < 0 ∧ j < z) {x : Int32} (hd : decode c.code pc = .ok (.iastore, 1)) (hp : pc + 1 = pc')
    (K : ∀ T' h', Stand p l e R s m args below meth c T' (locs ++ [⟨a, j.toNatClampNeg⟩]) cells slots → T'.heap = h' → Wr h h' a j.toNatClampNeg (.int x) → Arh Z h' a k .int z ((j, .int x) :: hs) vs dv → Rn p e below (T'.setTop (mkF m pc' L S)) G) : Rn p e below (T.setTop (mkF m pc L (.int x :: .int j :: .ref a :: S))) G := by
  subst hp
  obtain ⟨cl, Ar, qA, SA, NA, HA, GA⟩ := F
  have hin := inb_of SA hb
  obtain ⟨T', h', X', e', W', st⟩ := stI X hx hZ eT Ar (j := j) hin (g := mkF m pc L (.int x :: .int j :: .ref a :: S)) rfl rfl hd
  exact Rn.st st (K T' h' X' e' W' (Arh.push Ar qA SA NA HA GA rfl W' hin))
theorem R.bastoreZ (X : Stand p l e R s m args below meth c T locs cells slots) (hx : p.tables.exec = Jvm.exec) (hZ : Z.Warmed39 s.vm) (eT : T.heap = h) (F : Arh Z h a k .boolean z hs vs dv) (hb : ¬ j < 0 ∧ j < z) {x : Int32} (hn : nar .boolean x = x) (hd : decode c.code pc = .ok (.bastore, 1)) (hp : pc + 1 = pc')
    (K : ∀ T' h', Stand p l e R s m args below meth c T' (locs ++ [⟨a, j.toNatClampNeg⟩]) cells slots → T'.heap = h' → Wr h h' a j.toNatClampNeg (.int x) → Arh Z h' a k .boolean z ((j, .int x) :: hs) vs dv → Rn p e below (T'.setTop (mkF m pc' L S)) G) : Rn p e below (T.setTop (mkF m pc L (.int x :: .int j :: .ref a :: S))) G := by
  subst hp
  obtain ⟨cl, Ar, qA, SA, NA, HA, GA⟩ := F
  have hin := inb_of SA hb
  obtain ⟨T', h', X', e', W', st⟩ := stZ X hx hZ eT Ar (j := j) hin (g := mkF m pc L (.int x :: .int j :: .ref a :: S)) rfl rfl hd
  rw [hn] at W'
  exact Rn.st st (K T' h' X' e' W' (Arh.push Ar qA SA NA HA GA (by have q := fits_nar_bool x; rw [hn] at q; exact q) W' hin))
end Arr
theorem R.ldc2D (X : Stand p l e R s m args below meth c T locs cells slots) (hx : p.tables.exec = Jvm.exec) (hZ : Z.Warmed39 s.vm) {b : UInt64} (hown : s.vm.findClass own = some m.cls) (w : (Jvm.Cond.constantDouble own index b).before a0 Z = true) (hd : decode c.code pc = .ok (.ldc2_w index, 3)) (hp : pc + 3 = pc') (r : Rn p e below (T.setTop (mkF m pc' L (.double b :: S))) G) : Rn p e below (T.setTop (mkF m pc L S)) G := by
  subst hp; exact Rn.st (fun t q => X.ldc2DoubleC hx hown (mvT hZ w) (g := mkF m pc L S) rfl hd _ q) r
theorem R.ldc2J (X : Stand p l e R s m args below meth c T locs cells slots) (hx : p.tables.exec = Jvm.exec) (hZ : Z.Warmed39 s.vm) {b : Int64} (hown : s.vm.findClass own = some m.cls) (w : (Jvm.Cond.constantLong own index b).before a0 Z = true) (hd : decode c.code pc = .ok (.ldc2_w index, 3)) (hp : pc + 3 = pc') (r : Rn p e below (T.setTop (mkF m pc' L (.long b :: S))) G) : Rn p e below (T.setTop (mkF m pc L S)) G := by
  subst hp; exact Rn.st (fun t q => X.ldc2Long hx hown (mvT hZ w) (g := mkF m pc L S) rfl hd _ q) r
theorem R.ldcI (X : Stand p l e R s m args below meth c T locs cells slots) (hx : p.tables.exec = Jvm.exec) (hZ : Z.Warmed39 s.vm) {b : Int32} (hown : s.vm.findClass own = some m.cls) (w : (Jvm.Cond.constant own index b).before a0 Z = true) (hd : decode c.code pc = .ok (.ldc index, 2)) (hp : pc + 2 = pc') (r : Rn p e below (T.setTop (mkF m pc' L (.int b :: S))) G) : Rn p e below (T.setTop (mkF m pc L S)) G := by
  subst hp; exact Rn.st (fun t q => X.ldcInt hx hown (mvT hZ w) (g := mkF m pc L S) rfl hd _ q) r
theorem R.castY (X : Stand p l e R s m args below meth c T locs cells slots) (hx : p.tables.exec = Jvm.exec) (hZ : Z.Warmed39 s.vm) {C : String} (hown : s.vm.findClass own = some m.cls) (w : (Jvm.Cond.classLink own index C).before a0 Z = true) (eT : T.heap = h) (F : Ins Z h a C true) (hd : decode c.code pc = .ok (.checkcast index, 3)) (hp : pc + 3 = pc')
    (K : ∀ T', Stand p l e R s m args below meth c T' locs cells slots → T'.heap = h → Rn p e below (T'.setTop (mkF m pc' L (.ref a :: S))) G) : Rn p e below (T.setTop (mkF m pc L (.ref a :: S))) G := by
  subst hp
  obtain ⟨T', X', e', st⟩ := castY X hx hZ hown w eT F (g := mkF m pc L (.ref a :: S)) rfl rfl hd
  exact Rn.st st (K T' X' e')
theorem R.instY (X : Stand p l e R s m args below meth c T locs cells slots) (hx : p.tables.exec = Jvm.exec) (hZ : Z.Warmed39 s.vm) {C : String} (hown : s.vm.findClass own = some m.cls) (w : (Jvm.Cond.classLink own index C).before a0 Z = true) (eT : T.heap = h) (F : Ins Z h a C true) (hd : decode c.code pc = .ok (.instanceof index, 3)) (hp : pc + 3 = pc')
    (K : ∀ T', Stand p l e R s m args below meth c T' locs cells slots → T'.heap = h → Rn p e below (T'.setTop (mkF m pc' L (.int 1 :: S))) G) : Rn p e below (T.setTop (mkF m pc L (.ref a :: S))) G := by
  subst hp
  obtain ⟨T', X', e', st⟩ := instY X hx hZ hown w eT F (g := mkF m pc L (.ref a :: S)) rfl rfl hd
  exact Rn.st st (K T' X' e')
theorem R.instNo (X : Stand p l e R s m args below meth c T locs cells slots) (hx : p.tables.exec = Jvm.exec) (hZ : Z.Warmed39 s.vm) {C C' : String} (hown : s.vm.findClass own = some m.cls) (w : (Jvm.Cond.classLink own index C').before a0 Z = true) (eT : T.heap = h) (E : Exa Z h a C) (F : ∃ c t, Z.vm.findClass C = some c ∧ Z.vm.findClass C' = some t ∧ Z.vm.assignable c t = false) (hd : decode c.code pc = .ok (.instanceof index, 3)) (hp : pc + 3 = pc')
    (K : ∀ T', Stand p l e R s m args below meth c T' locs cells slots → T'.heap = h → Rn p e below (T'.setTop (mkF m pc' L (.int 0 :: S))) G) : Rn p e below (T.setTop (mkF m pc L (.ref a :: S))) G := by
  subst hp
  obtain ⟨T', X', e', st⟩ := instNo X hx hZ hown w eT E F (g := mkF m pc L (.ref a :: S)) rfl rfl hd
  exact Rn.st st (K T' X' e')
theorem R.initO (X : Stand p l e R s m args below meth c T locs cells slots) (hx : p.tables.exec = Jvm.exec) (hZ : Z.Warmed39 s.vm) (hown : s.vm.findClass own = some m.cls) (w1 : (Jvm.Cond.methodLink own index Lib.objectInit).before a0 Z = true) (w2 : (Jvm.Cond.instanceMethod Lib.objectInit).before a0 Z = true) (w3 : (Jvm.Cond.code Lib.objectInit ⟨#[0xb1]⟩ 1 none).before a0 Z = true) (eT : T.heap = h) (hsize : L.size = c.maxLocals)
    (hd : decode c.code pc = .ok (.invokespecial index, 3)) (hp : pc + 3 = pc') (hf : 1 ≤ R.frames) {W : Nat} (hW : (S.map fun v => v.category).sum ≤ W) (hl : W + 12 ≤ R.locals)
    (K : ∀ T', Stand p l e R s m args below meth c T' locs cells slots → T'.heap = h → Rn p e below (T'.setTop (mkF m pc' L S)) G) : Rn p e below (T.setTop (mkF m pc L (.ref a :: S))) G := by
  subst hp
  obtain ⟨T', X', e', st⟩ := initO X hx hZ hown w1 w2 w3 eT (g := mkF m pc L (.ref a :: S)) rfl hsize rfl hd hf (W := W) (by show 2 * 0 + _ ≤ W; rw [Nat.mul_zero, Nat.zero_add]; exact hW) hl
  exact Rn.st st (K T' X' e')
section Calls
variable {y : MethodName} {bytes : ByteArray} {maxL : Nat} {ret : Option FieldType} {rm : Room} {as' : List Value} {Q : Option Value → Heap → List Loc → Prop} {S0 : List Value} {W : Nat}
theorem R.callS (X : Stand p l e R s m args below meth c T locs cells slots) (hx : p.tables.exec = Jvm.exec) (hZ : Z.Warmed39 s.vm) (hown : s.vm.findClass own = some m.cls) (w1 : (Jvm.Cond.methodLink own index y).before a0 Z = true) (w2 : (Jvm.Cond.static y).before a0 Z = true) (w3 : (Jvm.Cond.initialized y.cls).before a0 Z = true) (w4 : (Jvm.Cond.code y bytes maxL ret).before a0 Z = true) (hy : y.cls ≠ "java/lang/invoke/MethodHandle" ∧ y.cls ≠ "java/lang/invoke/VarHandle") (eT : T.heap = h)
    (hM : MetFree l y (head1 [Jvm.Cond.code y bytes maxL ret] rm) (fun a U => a = as'.toArray ∧ Z.Warmed39 U.vm ∧ U.heap = h) (fun _ _ _ _ _ => True) (fun _ U o U' => ∃ v L, o = .returned v ∧ Q v U'.heap L ∧ FrameEnd U o U' L rm.cells rm.slots))
    (hf : rm.frames + 1 ≤ R.frames) (hW : (S.map fun v => v.category).sum ≤ W) (hl : W + (maxL + 11) + rm.locals ≤ R.locals) (hsize : L.size = c.maxLocals) (hlen : ∀ sig, parseMethodDescriptor y.desc = some sig → as'.length = sig.parameters.length) (hst : S0 = as'.reverse ++ S) (hd : decode c.code pc = .ok (.invokestatic index, 3)) (hp : pc + 3 = pc') (hc : cells + rm.cells ≤ R.cells) (hs : slots + rm.slots ≤ R.slots)
    (K : ∀ v T' L1, Stand p l e R s m args below meth c T' (locs ++ L1) (cells + rm.cells) (slots + rm.slots) → Q v T'.heap L1 → Rn p e below (T'.setTop (mkF m pc' L (v.toList ++ S))) G) : Rn p e below (T.setTop (mkF m pc L S0)) G := by
  subst hp
  obtain ⟨v, vm1, ⟨T', L2, k', n'⟩, -, X', ⟨Lc, hQ, l1, y1, z1⟩, st⟩ := Jvm.LawKit.callS X hx (y := y) hown (mvT hZ w1) (mvT hZ w2) (mvT hZ w3) (mvT hZ w4) hy (backOf (W := W) hM hZ w4 w3 hf hl) (g := mkF m pc L S0) rfl hsize (argsL := as') (rest := S) hlen hst (by show 2 * 0 + _ ≤ W; rw [Nat.mul_zero, Nat.zero_add]; exact hW) hd (fun _ _ => ⟨rfl, eT, hc, hs⟩)
  dsimp only [Pt.U, Pt.locs, Pt.cells, Pt.slots] at X' l1 y1 z1 st hQ
  subst l1 y1 z1
  exact Rn.st st (K v T' Lc X' hQ)
theorem R.special (X : Stand p l e R s m args below meth c T locs cells slots) (hx : p.tables.exec = Jvm.exec) (hZ : Z.Warmed39 s.vm) (hy1 : y.name = "<init>") (hown : s.vm.findClass own = some m.cls) (w1 : (Jvm.Cond.methodLink own index y).before a0 Z = true) (w2 : (Jvm.Cond.instanceMethod y).before a0 Z = true) (w3 : (Jvm.Cond.initialized y.cls).before a0 Z = true) (w4 : (Jvm.Cond.code y bytes maxL none).before a0 Z = true) (hy : y.cls ≠ "java/lang/invoke/MethodHandle" ∧ y.cls ≠ "java/lang/invoke/VarHandle") (eT : T.heap = h)
    (hM : MetFree l y (head1 [Jvm.Cond.code y bytes maxL none] rm) (fun u U => u = (.ref a :: as').toArray ∧ Z.Warmed39 U.vm ∧ U.heap = h) (fun _ _ _ _ _ => True) (fun _ U o U' => ∃ v L, o = .returned v ∧ Q v U'.heap L ∧ FrameEnd U o U' L rm.cells rm.slots))
    (hf : rm.frames + 1 ≤ R.frames) (hW : (S.map fun v => v.category).sum ≤ W) (hl : W + (maxL + 11) + rm.locals ≤ R.locals) (hsize : L.size = c.maxLocals) (hlen : ∀ sig, parseMethodDescriptor y.desc = some sig → as'.length = sig.parameters.length) (hst : S0 = as'.reverse ++ .ref a :: S) (hd : decode c.code pc = .ok (.invokespecial index, 3)) (hp : pc + 3 = pc') (hc : cells + rm.cells ≤ R.cells) (hs : slots + rm.slots ≤ R.slots)
    (K : ∀ v T' L1, Stand p l e R s m args below meth c T' (locs ++ L1) (cells + rm.cells) (slots + rm.slots) → Q v T'.heap L1 → Rn p e below (T'.setTop (mkF m pc' L (v.toList ++ S))) G) : Rn p e below (T.setTop (mkF m pc L S0)) G := by
  subst hp
  obtain ⟨v, vm1, ⟨T', L2, k', n'⟩, -, X', ⟨Lc, hQ, l1, y1, z1⟩, st⟩ := X.specialBack hx (y := y) hy1 hown (mvT hZ w1) (mvT hZ w2) (mvT hZ w4) hy (backOf (W := W) hM hZ w4 w3 hf hl) (g := mkF m pc L S0) rfl hsize (Steps.refl _) (a := a) (argsL := as') (rest := S) hlen hst (by show 2 * 0 + _ ≤ W; rw [Nat.mul_zero, Nat.zero_add]; exact hW) hd (fun _ _ => ⟨rfl, eT, hc, hs⟩)
  dsimp only [Pt.U, Pt.locs, Pt.cells, Pt.slots] at X' l1 y1 z1 st hQ
  subst l1 y1 z1
  exact Rn.st (fun t q => st.trans q) (K v T' Lc X' hQ)
theorem R.virtual (X : Stand p l e R s m args below meth c T locs cells slots) (hx : p.tables.exec = Jvm.exec) (hZ : Z.Warmed39 s.vm) {C : String} {z : MethodName} (hown : s.vm.findClass own = some m.cls) (w1 : (Jvm.Cond.methodLink own index y).before a0 Z = true) (w2 : (Jvm.Cond.declares y).before a0 Z = true) (hnf : NotFace s y) (w5 : (Jvm.Cond.selects C y z).before a0 Z = true) (w6 : (Jvm.Cond.instanceMethod z).before a0 Z = true) (w3 : (Jvm.Cond.initialized z.cls).before a0 Z = true) (w4 : (Jvm.Cond.code z bytes maxL ret).before a0 Z = true) (hy : y.cls ≠ "java/lang/invoke/MethodHandle" ∧ y.cls ≠ "java/lang/invoke/VarHandle") (eT : T.heap = h) (E : Exa Z h a C)
    (hM : MetFree l z (head1 [Jvm.Cond.code z bytes maxL ret] rm) (fun u U => u = (.ref a :: as').toArray ∧ Z.Warmed39 U.vm ∧ U.heap = h) (fun _ _ _ _ _ => True) (fun _ U o U' => ∃ v L, o = .returned v ∧ Q v U'.heap L ∧ FrameEnd U o U' L rm.cells rm.slots))
    (hf : rm.frames + 1 ≤ R.frames) (hW : (S.map fun v => v.category).sum ≤ W) (hl : W + (maxL + 11) + rm.locals ≤ R.locals) (hsize : L.size = c.maxLocals) (hlen : ∀ sig, parseMethodDescriptor y.desc = some sig → as'.length = sig.parameters.length) (hst : S0 = as'.reverse ++ .ref a :: S) (hd : decode c.code pc = .ok (.invokevirtual index, 3)) (hp : pc + 3 = pc') (hc : cells + rm.cells ≤ R.cells) (hs : slots + rm.slots ≤ R.slots)
    (K : ∀ v T' L1, Stand p l e R s m args below meth c T' (locs ++ L1) (cells + rm.cells) (slots + rm.slots) → Q v T'.heap L1 → Rn p e below (T'.setTop (mkF m pc' L (v.toList ++ S))) G) : Rn p e below (T.setTop (mkF m pc L S0)) G := by
  subst hp
  obtain ⟨cq, kq, qa, qb, qc⟩ := isOf hZ eT E
  obtain ⟨v, vm1, ⟨T', L2, k', n'⟩, -, X', ⟨Lc, hQ, l1, y1, z1⟩, st⟩ := X.virtualBack hx (y := y) (z := z) hown (mvT hZ w1) (mvT hZ w2) hnf (mvT hZ w5) (mvT hZ w6) hy (backOf (W := W) hM hZ w4 w3 hf hl) qa qc (g := mkF m pc L S0) rfl hsize (Steps.refl _) (argsL := as') (rest := S) hlen hst (by show 2 * 0 + _ ≤ W; rw [Nat.mul_zero, Nat.zero_add]; exact hW) hd (fun _ _ => ⟨rfl, eT, hc, hs⟩)
  dsimp only [Pt.U, Pt.locs, Pt.cells, Pt.slots] at X' l1 y1 z1 st hQ
  subst l1 y1 z1
  exact Rn.st (fun t q => st.trans q) (K v T' Lc X' hQ)
end Calls
end RBig
theorem own_zero : Dy (0 : UInt64) 0 0 := Dy.lit false 0 (-1074) (by decide +kernel) (by decide +kernel)
theorem own_zero' : Dy FP.dconst0 0 0 := Dy.lit false 0 (-1074) (by decide +kernel) (by decide +kernel)
theorem own_n {a r : Int32} (h : ((1 : Int32) + (a &&& (3 : Int32))) = r) : 1 ≤ r.toInt ∧ r.toInt ≤ 4 := by
  have b := c_and a (3 : Int32) (by decide)
  have e3 : (3 : Int32).toInt = 3 := by decide
  have e1 : (1 : Int32).toInt = 1 := by decide
  rw [← h, own_addI] <;> rw [e1] <;> omega
theorem own_nz {n : Int32} (h : 1 ≤ n.toInt) : n ≠ (0 : Int32) := fun e => by rw [e] at h; exact absurd h (by decide)
theorem own_ix {a m n r : Int32} (hm : 0 ≤ m.toInt) (hn : 1 ≤ n.toInt) (h : (a &&& m) % n = r) : 0 ≤ r.toInt ∧ r.toInt < n.toInt := own_masked hm (by omega) rfl h
theorem own_ix2 {a n r : Int32} (hn : 1 ≤ n.toInt) (h : ((a.toUInt32 >>> ((2 : Int32) &&& 31).toUInt32).toInt32) % n = r) : 0 ≤ r.toInt ∧ r.toInt < n.toInt := by
  have q := c_iushr a 2 2 (by decide) (by decide)
  have l1 := Int.emod_nonneg a.toInt (show (4294967296 : Int) ≠ 0 by decide)
  have t := (c_irem ((a.toUInt32 >>> ((2 : Int32) &&& 31).toUInt32).toInt32) n n.toInt rfl).1 (by rw [q]; exact Int.ediv_nonneg l1 (by decide))
  rw [h] at t
  rw [t]
  exact ⟨Int.emod_nonneg _ (by omega), Int.emod_lt_of_pos _ (by omega)⟩
theorem own_sh {a r : Int32} (h : a.toInt16.toInt32 = r) : -32768 ≤ r.toInt ∧ r.toInt < 32768 := by rw [← h]; exact ⟨(c_i2s a).2.1, (c_i2s a).2.2⟩
theorem own_cap {n : Int32} (h : 1 ≤ n.toInt ∧ n.toInt ≤ 4) : n.toNatClampNeg ≤ 4 := by show n.toInt.toNat ≤ 4; omega
theorem own_pos {n : Int32} (h : 1 ≤ n.toInt) : ¬ n < 0 := by
  rw [Int32.lt_iff_toInt_lt]
  have : (0 : Int32).toInt = 0 := by decide
  omega
theorem own_z32 : (0 : Int32).toInt = 0 := by decide
theorem own_exp3 {a b c r : Int32} (ha : -32768 ≤ a.toInt ∧ a.toInt < 32768) (hb : -32768 ≤ b.toInt ∧ b.toInt < 32768) (hc : -32768 ≤ c.toInt ∧ c.toInt < 32768) (h : ((a + b) + c) = r) : r.toInt = a.toInt + b.toInt + c.toInt := by
  have e : (a + b).toInt = a.toInt + b.toInt := own_addI (by omega)
  rw [← h, own_addI] <;> rw [e]; omega
theorem d1_0 : decode prog_23_method_1_code 0 = .ok (.aload_n 0, 1) := by decide +kernel
theorem d1_1 : decode prog_23_method_1_code 1 = .ok (.invokespecial 1, 3) := by decide +kernel
theorem d1_4 : decode prog_23_method_1_code 4 = .ok (.aload_n 0, 1) := by decide +kernel
theorem d1_5 : decode prog_23_method_1_code 5 = .ok (.iload_n 1, 1) := by decide +kernel
theorem d1_6 : decode prog_23_method_1_code 6 = .ok (.newarray .double, 2) := by decide +kernel
theorem d1_8 : decode prog_23_method_1_code 8 = .ok (.putfield 7, 3) := by decide +kernel
theorem d1_11 : decode prog_23_method_1_code 11 = .ok (.aload_n 0, 1) := by decide +kernel
theorem d1_12 : decode prog_23_method_1_code 12 = .ok (.iload_n 1, 1) := by decide +kernel
theorem d1_13 : decode prog_23_method_1_code 13 = .ok (.newarray .boolean, 2) := by decide +kernel
theorem d1_15 : decode prog_23_method_1_code 15 = .ok (.putfield 13, 3) := by decide +kernel
theorem d1_18 : decode prog_23_method_1_code 18 = .ok (.aload_n 0, 1) := by decide +kernel
theorem d1_19 : decode prog_23_method_1_code 19 = .ok (.iload_n 1, 1) := by decide +kernel
theorem d1_20 : decode prog_23_method_1_code 20 = .ok (.newarray .int, 2) := by decide +kernel
theorem d1_22 : decode prog_23_method_1_code 22 = .ok (.putfield 17, 3) := by decide +kernel
theorem d1_25 : decode prog_23_method_1_code 25 = .ok (.return_, 1) := by decide +kernel
theorem pn_0 : plainName "com/example/maat/maat/search/Accumulator" = true := by first | (simp [plainName, overriddenIn]; done) | decide +kernel
theorem ef_1 (m : MethodId) (x0 : Addr) (x1 : Int32) : entryFrame m #[(.ref x0), (.int x1)] 2 = mkF m 0 #[.val (.ref x0), .val (.int x1)] [] := by first | (simp [entryFrame, mkF, argsToLocals, Value.category]; done) | rfl
def Q1 (Z : State) (a0 : Addr) (p1 : Int32) (h0 : Heap) (n0 : Nat) (vQ : Option Value) (hQ_ : Heap) (LQ : List Loc) : Prop := ∃ sc : Addr, ∃ rt : Addr, ∃ dc : Addr, ∃ ks : ClassId, ∃ kr : ClassId, ∃ kd : ClassId, vQ = none ∧ Fr n0 LQ ∧ Keep h0 hQ_ [a0] ∧ (h0.size ≤ sc) ∧ (h0.size ≤ rt) ∧ (h0.size ≤ dc) ∧ (sc ≠ rt) ∧ (sc ≠ dc) ∧ (rt ≠ dc) ∧ (Exa Z hQ_ a0 "com/example/maat/maat/search/Accumulator") ∧ (Fld Z hQ_ a0 "com/example/maat/maat/search/Accumulator" "scores" "[D" (.ref sc)) ∧ (Fld Z hQ_ a0 "com/example/maat/maat/search/Accumulator" "retrieved" "[Z" (.ref rt)) ∧ (Fld Z hQ_ a0 "com/example/maat/maat/search/Accumulator" "documents" "[I" (.ref dc)) ∧ (Fld Z hQ_ a0 "com/example/maat/maat/search/Accumulator" "size" "I" (.int (0 : Int32))) ∧ (Arh Z hQ_ sc ks .double p1 [] [] (.double (0 : UInt64))) ∧ (Arh Z hQ_ rt kr .boolean p1 [] [] (.int (0 : Int32))) ∧ (Arh Z hQ_ dc kd .int p1 [] [] (.int (0 : Int32)))
def Fn1 (Z : State) (a0 : Addr) (p1 : Int32) (h0 : Heap) (n0 : Nat) (sQ : State) (oQ : Outcome) (UQ : State) : Prop := ∃ vQ LQ, oQ = .returned vQ ∧ Q1 Z a0 p1 h0 n0 vQ UQ.heap LQ ∧ FrameEnd sQ oQ UQ LQ ({ frames := 1, cells := 3, slots := 12, locals := 12 } : Room).cells ({ frames := 1, cells := 3, slots := 12, locals := 12 } : Room).slots
set_option maxRecDepth 65536 in
set_option maxHeartbeats 40000000 in
theorem rm1 (l : Launch) (Z : State) (aZ : Array Value) (hw : ∀ d ∈ tables_1, d.before aZ Z = true) (ws : List Jvm.Cond) (a0 : Addr) (p1 : Int32) (h0 : Heap) (n0 : Nat) (Z0 : n0 ≤ h0.size) (E_a0 : Exa Z h0 a0 "com/example/maat/maat/search/Accumulator") (F_scores_a0 : Fld Z h0 a0 "com/example/maat/maat/search/Accumulator" "scores" "[D" .null) (F_retrieved_a0 : Fld Z h0 a0 "com/example/maat/maat/search/Accumulator" "retrieved" "[Z" .null) (F_documents_a0 : Fld Z h0 a0 "com/example/maat/maat/search/Accumulator" "documents" "[I" .null) (F_size_a0 : Fld Z h0 a0 "com/example/maat/maat/search/Accumulator" "size" "I" (.int (0 : Int32))) (g_a0 : n0 ≤ a0) (hn : ¬ p1 < 0) (hcap : p1.toNatClampNeg ≤ 4) :
    MetFree l (⟨"com/example/maat/maat/search/Accumulator", "<init>", "(I)V"⟩ : MethodName) (head1 (Jvm.Cond.code (⟨"com/example/maat/maat/search/Accumulator", "<init>", "(I)V"⟩ : MethodName) prog_23_method_1_code 2 none :: ws) ({ frames := 1, cells := 3, slots := 12, locals := 12 } : Room)) (fun aQ UQ => aQ = #[(.ref a0), (.int p1)] ∧ Z.Warmed39 UQ.vm ∧ UQ.heap = h0) (fun _ _ _ _ _ => True) (fun _ UQ oQ UR => ∃ vQ LQ, oQ = .returned vQ ∧ Q1 Z a0 p1 h0 n0 vQ UR.heap LQ ∧ FrameEnd UQ oQ UR LQ ({ frames := 1, cells := 3, slots := 12, locals := 12 } : Room).cells ({ frames := 1, cells := 3, slots := 12, locals := 12 } : Room).slots) := by
  refine MetFree.of_bodySF (plainFor_of_name pn_0) hisR ?_
  intro p e s m args below meth c s₁ Bd hml0 hP hK
  obtain ⟨rfl, hZ, hh⟩ := hP
  have hx := Bd.exec
  have hby := Bd.bytes
  have hml : c.maxLocals = 2 := hml0
  have hown : s.vm.findClass "com/example/maat/maat/search/Accumulator" = some m.cls := findClass_of_methodNamed Bd.named
  have hnm := (name_of_methodNamed Bd.named Bd.method).1
  have X0 : Stand p l e ({ frames := 1, cells := 3, slots := 12, locals := 12 } : Room) s m #[(.ref a0), (.int p1)] below meth c s₁ [] 0 0 := Stand.of_body Bd
  have e0 : s₁.heap = h0 := by rw [← hh, Bd.state]; rfl
  have N0 := Fr.nil n0
  have K0 : Keep h0 h0 [a0] := Keep.refl _ _
  have w_2 := hw _ (List.mem_of_getElem? (i := 2) rfl)
  have w_7 := hw _ (List.mem_of_getElem? (i := 7) rfl)
  have w_8 := hw _ (List.mem_of_getElem? (i := 8) rfl)
  have w_9 := hw _ (List.mem_of_getElem? (i := 9) rfl)
  have w_10 := hw _ (List.mem_of_getElem? (i := 10) rfl)
  have w_11 := hw _ (List.mem_of_getElem? (i := 11) rfl)
  have w_12 := hw _ (List.mem_of_getElem? (i := 12) rfl)
  have w_13 := hw _ (List.mem_of_getElem? (i := 13) rfl)
  have w_14 := hw _ (List.mem_of_getElem? (i := 14) rfl)
  have w_15 := hw _ (List.mem_of_getElem? (i := 15) rfl)
  have w_16 := hw _ (List.mem_of_getElem? (i := 16) rfl)
  have w_17 := hw _ (List.mem_of_getElem? (i := 17) rfl)
  have w_18 := hw _ (List.mem_of_getElem? (i := 18) rfl)
  have w_25 := hw _ (List.mem_of_getElem? (i := 25) rfl)
  have first_ : Rn p e below (s₁.setTop (mkF m 0 #[.val (.ref a0), .val (.int p1)] [])) (Fn1 Z a0 p1 h0 n0 s) := by
    generalize hG : (Fn1 Z a0 p1 h0 n0 s) = G
    refine R.aloadN X0 hx (hb hby d1_0) rfl rfl (pc' := 1) rfl ?_
    refine R.initO X0 hx hZ hown w_7 w_8 w_9 e0 (by rw [hml]; rfl) (hb hby d1_1) (pc' := 4) rfl (by decide) (W := 0) (Nat.le_of_eq rfl) (by decide) ?_; intro T1 X1 e1
    refine R.aloadN X1 hx (hb hby d1_4) rfl rfl (pc' := 5) rfl ?_
    refine R.iloadN X1 hx (hb hby d1_5) rfl (pc' := 6) rfl ?_
    refine R.newP X1 hx hZ (ty := .double) rfl w_10 e1 (hn) (cap := 4) hcap (by decide) (ad := "[D") (by decide) (hb hby d1_6) (pc' := 8) rfl (by decide) (by decide) ?_; intro T2 h2 b2 k2 g2 X2 e2 E2 EE2 A2
    have g_b2 : n0 ≤ b2 := Nat.le_trans Z0 (Nat.le_of_eq g2.symm)
    have sz_b2 : h0.size ≤ b2 := Nat.le_trans K0.1 (Nat.le_of_eq g2.symm)
    have ne_a0_b2 : a0 ≠ b2 := Nat.ne_of_lt (Nat.lt_of_lt_of_le E_a0.lt (Nat.le_of_eq g2.symm))
    have K2 : Keep h0 h2 [a0] := K0.ext E2
    have Z2 : n0 ≤ h2.size := Nat.le_trans Z0 E2.1
    have E_a0 := E_a0.ext E2
    have F_scores_a0 := F_scores_a0.ext E2
    have F_retrieved_a0 := F_retrieved_a0.ext E2
    have F_documents_a0 := F_documents_a0.ext E2
    have F_size_a0 := F_size_a0.ext E2
    have V_b2 : Arh Z h2 b2 k2 .double p1 [] [] (.double (0 : UInt64)) := A2
    refine R.putF X2 hx hZ hown (host := "") (Or.inl w_11) Via.refl e2 F_scores_a0 E_a0 (Or.inr ⟨w_12, rfl, hnm⟩) w_2 (ty := (.array .double)) (by decide) rfl rfl (hb hby d1_8) (pc' := 11) rfl ?_; intro T3 h3 X3 e3 W3
    have E_a0 := E_a0.wr W3
    have F_retrieved_a0 := F_retrieved_a0.other W3 (Or.inr (slot_ne (Or.inr w_15) (Or.inr w_12) (by decide) (t := (.array .boolean)) (t' := (.array .double)) (by decide) (by decide)))
    have F_documents_a0 := F_documents_a0.other W3 (Or.inr (slot_ne (Or.inr w_18) (Or.inr w_12) (by decide) (t := (.array .int)) (t' := (.array .double)) (by decide) (by decide)))
    have F_size_a0 := F_size_a0.other W3 (Or.inr (slot_ne (Or.inl w_25) (Or.inr w_12) (by decide) (t := .int) (t' := (.array .double)) (by decide) (by decide)))
    have V_b2 := V_b2.other W3 (Ne.symm ne_a0_b2)
    have F_scores_a0 : Fld Z h3 a0 "com/example/maat/maat/search/Accumulator" "scores" "[D" (.ref b2) := F_scores_a0.same W3
    have N3 := Fr.snoc X3 N0 g_a0
    have K3 : Keep h0 h3 [a0] := K2.wr W3 (Or.inl (List.mem_of_getElem? (i := 0) rfl))
    have Z3 : n0 ≤ h3.size := Nat.le_trans Z2 (Keep.of_wr W3).1
    refine R.aloadN X3 hx (hb hby d1_11) rfl rfl (pc' := 12) rfl ?_
    refine R.iloadN X3 hx (hb hby d1_12) rfl (pc' := 13) rfl ?_
    refine R.newP X3 hx hZ (ty := .boolean) rfl w_13 e3 (hn) (cap := 4) hcap (by decide) (ad := "[Z") (by decide) (hb hby d1_13) (pc' := 15) rfl (by decide) (by decide) ?_; intro T4 h4 b4 k4 g4 X4 e4 E4 EE4 A4
    have g_b4 : n0 ≤ b4 := Nat.le_trans Z3 (Nat.le_of_eq g4.symm)
    have sz_b4 : h0.size ≤ b4 := Nat.le_trans K3.1 (Nat.le_of_eq g4.symm)
    have ne_a0_b4 : a0 ≠ b4 := Nat.ne_of_lt (Nat.lt_of_lt_of_le E_a0.lt (Nat.le_of_eq g4.symm))
    have ne_b2_b4 : b2 ≠ b4 := Nat.ne_of_lt (Nat.lt_of_lt_of_le V_b2.lt (Nat.le_of_eq g4.symm))
    have K4 : Keep h0 h4 [a0] := K3.ext E4
    have Z4 : n0 ≤ h4.size := Nat.le_trans Z3 E4.1
    have E_a0 := E_a0.ext E4
    have F_retrieved_a0 := F_retrieved_a0.ext E4
    have F_documents_a0 := F_documents_a0.ext E4
    have F_size_a0 := F_size_a0.ext E4
    have V_b2 := V_b2.ext E4
    have F_scores_a0 := F_scores_a0.ext E4
    have V_b4 : Arh Z h4 b4 k4 .boolean p1 [] [] (.int (0 : Int32)) := A4
    refine R.putF X4 hx hZ hown (host := "") (Or.inl w_14) Via.refl e4 F_retrieved_a0 E_a0 (Or.inr ⟨w_15, rfl, hnm⟩) w_2 (ty := (.array .boolean)) (by decide) rfl rfl (hb hby d1_15) (pc' := 18) rfl ?_; intro T5 h5 X5 e5 W5
    have E_a0 := E_a0.wr W5
    have F_documents_a0 := F_documents_a0.other W5 (Or.inr (slot_ne (Or.inr w_18) (Or.inr w_15) (by decide) (t := (.array .int)) (t' := (.array .boolean)) (by decide) (by decide)))
    have F_size_a0 := F_size_a0.other W5 (Or.inr (slot_ne (Or.inl w_25) (Or.inr w_15) (by decide) (t := .int) (t' := (.array .boolean)) (by decide) (by decide)))
    have V_b2 := V_b2.other W5 (Ne.symm ne_a0_b2)
    have F_scores_a0 := F_scores_a0.other W5 (Or.inr (slot_ne (Or.inr w_12) (Or.inr w_15) (by decide) (t := (.array .double)) (t' := (.array .boolean)) (by decide) (by decide)))
    have V_b4 := V_b4.other W5 (Ne.symm ne_a0_b4)
    have F_retrieved_a0 : Fld Z h5 a0 "com/example/maat/maat/search/Accumulator" "retrieved" "[Z" (.ref b4) := F_retrieved_a0.same W5
    have N5 := Fr.snoc X5 N3 g_a0
    have K5 : Keep h0 h5 [a0] := K4.wr W5 (Or.inl (List.mem_of_getElem? (i := 0) rfl))
    have Z5 : n0 ≤ h5.size := Nat.le_trans Z4 (Keep.of_wr W5).1
    refine R.aloadN X5 hx (hb hby d1_18) rfl rfl (pc' := 19) rfl ?_
    refine R.iloadN X5 hx (hb hby d1_19) rfl (pc' := 20) rfl ?_
    refine R.newP X5 hx hZ (ty := .int) rfl w_16 e5 (hn) (cap := 4) hcap (by decide) (ad := "[I") (by decide) (hb hby d1_20) (pc' := 22) rfl (by decide) (by decide) ?_; intro T6 h6 b6 k6 g6 X6 e6 E6 EE6 A6
    have g_b6 : n0 ≤ b6 := Nat.le_trans Z5 (Nat.le_of_eq g6.symm)
    have sz_b6 : h0.size ≤ b6 := Nat.le_trans K5.1 (Nat.le_of_eq g6.symm)
    have ne_a0_b6 : a0 ≠ b6 := Nat.ne_of_lt (Nat.lt_of_lt_of_le E_a0.lt (Nat.le_of_eq g6.symm))
    have ne_b2_b6 : b2 ≠ b6 := Nat.ne_of_lt (Nat.lt_of_lt_of_le V_b2.lt (Nat.le_of_eq g6.symm))
    have ne_b4_b6 : b4 ≠ b6 := Nat.ne_of_lt (Nat.lt_of_lt_of_le V_b4.lt (Nat.le_of_eq g6.symm))
    have K6 : Keep h0 h6 [a0] := K5.ext E6
    have Z6 : n0 ≤ h6.size := Nat.le_trans Z5 E6.1
    have E_a0 := E_a0.ext E6
    have F_documents_a0 := F_documents_a0.ext E6
    have F_size_a0 := F_size_a0.ext E6
    have V_b2 := V_b2.ext E6
    have F_scores_a0 := F_scores_a0.ext E6
    have V_b4 := V_b4.ext E6
    have F_retrieved_a0 := F_retrieved_a0.ext E6
    have V_b6 : Arh Z h6 b6 k6 .int p1 [] [] (.int (0 : Int32)) := A6
    refine R.putF X6 hx hZ hown (host := "") (Or.inl w_17) Via.refl e6 F_documents_a0 E_a0 (Or.inr ⟨w_18, rfl, hnm⟩) w_2 (ty := (.array .int)) (by decide) rfl rfl (hb hby d1_22) (pc' := 25) rfl ?_; intro T7 h7 X7 e7 W7
    have E_a0 := E_a0.wr W7
    have F_size_a0 := F_size_a0.other W7 (Or.inr (slot_ne (Or.inl w_25) (Or.inr w_18) (by decide) (t := .int) (t' := (.array .int)) (by decide) (by decide)))
    have V_b2 := V_b2.other W7 (Ne.symm ne_a0_b2)
    have F_scores_a0 := F_scores_a0.other W7 (Or.inr (slot_ne (Or.inr w_12) (Or.inr w_18) (by decide) (t := (.array .double)) (t' := (.array .int)) (by decide) (by decide)))
    have V_b4 := V_b4.other W7 (Ne.symm ne_a0_b4)
    have F_retrieved_a0 := F_retrieved_a0.other W7 (Or.inr (slot_ne (Or.inr w_15) (Or.inr w_18) (by decide) (t := (.array .boolean)) (t' := (.array .int)) (by decide) (by decide)))
    have V_b6 := V_b6.other W7 (Ne.symm ne_a0_b6)
    have F_documents_a0 : Fld Z h7 a0 "com/example/maat/maat/search/Accumulator" "documents" "[I" (.ref b6) := F_documents_a0.same W7
    have N7 := Fr.snoc X7 N5 g_a0
    have K7 : Keep h0 h7 [a0] := K6.wr W7 (Or.inl (List.mem_of_getElem? (i := 0) rfl))
    have Z7 : n0 ≤ h7.size := Nat.le_trans Z6 (Keep.of_wr W7).1
    rw [← hG]
    exact Rn.ret X7 (BodyLoose.notSynchronized Bd) (v := none) (fun _ => rfl) (Q := Q1 Z a0 p1 h0 n0) e7 (fun fs hr => X7.returnOut hx Bd.returns (hb hby d1_25) hr) ⟨b2, b4, b6, k2, k4, k6, rfl, N7, K7, (sz_b2), (sz_b4), (sz_b6), ne_b2_b4, ne_b2_b6, ne_b4_b6, E_a0, F_scores_a0, F_retrieved_a0, F_documents_a0, F_size_a0, V_b2, V_b4, V_b6⟩ (by decide) (by decide)
  exact (Rn.st (fun t k => castTop (ef_1 m a0 p1) k) first_ : Rn p e below (s₁.setTop (entryFrame m #[(.ref a0), (.int p1)] 2)) (Fn1 Z a0 p1 h0 n0 s))
theorem d3_0 : decode prog_23_method_2_code 0 = .ok (.aload_n 0, 1) := by decide +kernel
theorem d3_1 : decode prog_23_method_2_code 1 = .ok (.getfield 13, 3) := by decide +kernel
theorem d3_4 : decode prog_23_method_2_code 4 = .ok (.iload_n 1, 1) := by decide +kernel
theorem d3_5 : decode prog_23_method_2_code 5 = .ok (.baload, 1) := by decide +kernel
theorem d3_6 : decode prog_23_method_2_code 6 = .ok (.ifCond .ne 27, 3) := by decide +kernel
theorem d3_33 : decode prog_23_method_2_code 33 = .ok (.aload_n 0, 1) := by decide +kernel
theorem d3_34 : decode prog_23_method_2_code 34 = .ok (.getfield 7, 3) := by decide +kernel
theorem d3_37 : decode prog_23_method_2_code 37 = .ok (.iload_n 1, 1) := by decide +kernel
theorem d3_38 : decode prog_23_method_2_code 38 = .ok (.dup2, 1) := by decide +kernel
theorem d3_39 : decode prog_23_method_2_code 39 = .ok (.daload, 1) := by decide +kernel
theorem d3_40 : decode prog_23_method_2_code 40 = .ok (.dload_n 2, 1) := by decide +kernel
theorem d3_41 : decode prog_23_method_2_code 41 = .ok (.dadd, 1) := by decide +kernel
theorem d3_42 : decode prog_23_method_2_code 42 = .ok (.dastore, 1) := by decide +kernel
theorem d3_43 : decode prog_23_method_2_code 43 = .ok (.return_, 1) := by decide +kernel
theorem ef_old (m : MethodId) (x0 : Addr) (x1 : Int32) (x2 : UInt64) : entryFrame m #[(.ref x0), (.int x1), (.double x2)] 4 = mkF m 0 #[.val (.ref x0), .val (.int x1), .val (.double x2), .second] [] := by first | (simp [entryFrame, mkF, argsToLocals, Value.category]; done) | rfl
def Qold (Z : State) (a0 : Addr) (p1 : Int32) (d2 : UInt64) (sc : Addr) (ks : ClassId) (hS : List (Int32 × Value)) (rt : Addr) (kr : ClassId) (hR : List (Int32 × Value)) (n : Int32) (x : UInt64) (h0 : Heap) (n0 : Nat) (vQ : Option Value) (hQ_ : Heap) (LQ : List Loc) : Prop := vQ = none ∧ Fr n0 LQ ∧ Keep h0 hQ_ [sc] ∧ (Arh Z hQ_ sc ks .double n ((p1, (.double (FP.dadd x d2))) :: hS) [] (.double (0 : UInt64)))
def Fnold (Z : State) (a0 : Addr) (p1 : Int32) (d2 : UInt64) (sc : Addr) (ks : ClassId) (hS : List (Int32 × Value)) (rt : Addr) (kr : ClassId) (hR : List (Int32 × Value)) (n : Int32) (x : UInt64) (h0 : Heap) (n0 : Nat) (sQ : State) (oQ : Outcome) (UQ : State) : Prop := ∃ vQ LQ, oQ = .returned vQ ∧ Qold Z a0 p1 d2 sc ks hS rt kr hR n x h0 n0 vQ UQ.heap LQ ∧ FrameEnd sQ oQ UQ LQ ({ frames := 0, cells := 0, slots := 0, locals := 0 } : Room).cells ({ frames := 0, cells := 0, slots := 0, locals := 0 } : Room).slots
set_option maxRecDepth 65536 in
set_option maxHeartbeats 40000000 in
theorem rmold (l : Launch) (Z : State) (aZ : Array Value) (hw : ∀ d ∈ tables_1, d.before aZ Z = true) (ws : List Jvm.Cond) (a0 : Addr) (p1 : Int32) (d2 : UInt64) (sc : Addr) (ks : ClassId) (hS : List (Int32 × Value)) (rt : Addr) (kr : ClassId) (hR : List (Int32 × Value)) (n : Int32) (x : UInt64) (h0 : Heap) (n0 : Nat) (Z0 : n0 ≤ h0.size) (F_scores_a0 : Fld Z h0 a0 "com/example/maat/maat/search/Accumulator" "scores" "[D" (.ref sc)) (F_retrieved_a0 : Fld Z h0 a0 "com/example/maat/maat/search/Accumulator" "retrieved" "[Z" (.ref rt)) (V_sc : Arh Z h0 sc ks .double n hS [] (.double (0 : UInt64))) (V_rt : Arh Z h0 rt kr .boolean n hR [] (.int (0 : Int32))) (g_sc : n0 ≤ sc) (ne_a0_sc : a0 ≠ sc) (ne_sc_rt : sc ≠ rt) (rdR : getH hR [] (.int (0 : Int32)) p1.toNatClampNeg = (.int (1 : Int32))) (rdS : getH hS [] (.double (0 : UInt64)) p1.toNatClampNeg = (.double x)) (nn : NoNaN64 (FP.dadd x d2)) (hb_ : ¬ p1 < 0 ∧ p1 < n) :
    MetFree l (⟨"com/example/maat/maat/search/Accumulator", "add", "(ID)V"⟩ : MethodName) (head1 (Jvm.Cond.code (⟨"com/example/maat/maat/search/Accumulator", "add", "(ID)V"⟩ : MethodName) prog_23_method_2_code 4 none :: ws) ({ frames := 0, cells := 0, slots := 0, locals := 0 } : Room)) (fun aQ UQ => aQ = #[(.ref a0), (.int p1), (.double d2)] ∧ Z.Warmed39 UQ.vm ∧ UQ.heap = h0) (fun _ _ _ _ _ => True) (fun _ UQ oQ UR => ∃ vQ LQ, oQ = .returned vQ ∧ Qold Z a0 p1 d2 sc ks hS rt kr hR n x h0 n0 vQ UR.heap LQ ∧ FrameEnd UQ oQ UR LQ ({ frames := 0, cells := 0, slots := 0, locals := 0 } : Room).cells ({ frames := 0, cells := 0, slots := 0, locals := 0 } : Room).slots) := by
  refine MetFree.of_bodySF (plainFor_of_name pn_0) hisR ?_
  intro p e s m args below meth c s₁ Bd hml0 hP hK
  obtain ⟨rfl, hZ, hh⟩ := hP
  have hx := Bd.exec
  have hby := Bd.bytes
  have hml : c.maxLocals = 4 := hml0
  have hown : s.vm.findClass "com/example/maat/maat/search/Accumulator" = some m.cls := findClass_of_methodNamed Bd.named
  have hnm := (name_of_methodNamed Bd.named Bd.method).1
  have X0 : Stand p l e ({ frames := 0, cells := 0, slots := 0, locals := 0 } : Room) s m #[(.ref a0), (.int p1), (.double d2)] below meth c s₁ [] 0 0 := Stand.of_body Bd
  have e0 : s₁.heap = h0 := by rw [← hh, Bd.state]; rfl
  have N0 := Fr.nil n0
  have K0 : Keep h0 h0 [sc] := Keep.refl _ _
  have w_11 := hw _ (List.mem_of_getElem? (i := 11) rfl)
  have w_14 := hw _ (List.mem_of_getElem? (i := 14) rfl)
  have first_ : Rn p e below (s₁.setTop (mkF m 0 #[.val (.ref a0), .val (.int p1), .val (.double d2), .second] [])) (Fnold Z a0 p1 d2 sc ks hS rt kr hR n x h0 n0 s) := by
    generalize hG : (Fnold Z a0 p1 d2 sc ks hS rt kr hR n x h0 n0 s) = G
    refine R.aloadN X0 hx (hb hby d3_0) rfl rfl (pc' := 1) rfl ?_
    refine R.getF X0 hx hZ hown (host := "") (Or.inl w_14) Via.refl e0 F_retrieved_a0 (hb hby d3_1) (pc' := 4) rfl ?_; intro T1 X1 e1
    refine R.iloadN X1 hx (hb hby d3_4) rfl (pc' := 5) rfl ?_
    refine R.baloadZ X1 hx hZ e1 V_rt (hb_ : ¬ p1 < 0 ∧ p1 < n) (v := (.int (1 : Int32))) (rdR) (hb hby d3_5) (pc' := 6) rfl ?_
    refine R.ifYes X1 hx (hb hby d3_6) (feq (by decide : ¬ ((1 : Int32) = (0 : Int32)))).2 (by decide) (pc' := 33) (by decide) ?_
    refine R.aloadN X1 hx (hb hby d3_33) rfl rfl (pc' := 34) rfl ?_
    refine R.getF X1 hx hZ hown (host := "") (Or.inl w_11) Via.refl e1 F_scores_a0 (hb hby d3_34) (pc' := 37) rfl ?_; intro T2 X2 e2
    refine R.iloadN X2 hx (hb hby d3_37) rfl (pc' := 38) rfl ?_
    refine R.dup2 X2 hx (hb hby d3_38) rfl rfl (pc' := 39) rfl ?_
    refine R.daload X2 hx hZ e2 V_sc (hb_ : ¬ p1 < 0 ∧ p1 < n) (v := (.double x)) (rdS) (hb hby d3_39) (pc' := 40) rfl ?_
    refine R.dloadN X2 hx (hb hby d3_40) rfl (pc' := 41) rfl ?_
    refine R.dadd X2 hx (hb hby d3_41) (nn : NoNaN64 (FP.dadd x d2)) (pc' := 42) rfl ?_
    refine R.dastore X2 hx hZ e2 V_sc (hb_ : ¬ p1 < 0 ∧ p1 < n) (hb hby d3_42) (pc' := 43) rfl ?_; intro T3 h3 X3 e3 W3 V3
    have F_scores_a0 := F_scores_a0.other W3 (Or.inl ne_a0_sc)
    have F_retrieved_a0 := F_retrieved_a0.other W3 (Or.inl ne_a0_sc)
    have V_rt := V_rt.other W3 (Ne.symm ne_sc_rt)
    have V_sc : Arh Z h3 sc ks .double n ((p1, (.double (FP.dadd x d2))) :: hS) [] (.double (0 : UInt64)) := V3
    have N3 := Fr.snoc X3 N0 g_sc
    have K3 : Keep h0 h3 [sc] := K0.wr W3 (Or.inl (List.mem_of_getElem? (i := 0) rfl))
    have Z3 : n0 ≤ h3.size := Nat.le_trans Z0 (Keep.of_wr W3).1
    rw [← hG]
    exact Rn.ret X3 (BodyLoose.notSynchronized Bd) (v := none) (fun _ => rfl) (Q := Qold Z a0 p1 d2 sc ks hS rt kr hR n x h0 n0) e3 (fun fs hr => X3.returnOut hx Bd.returns (hb hby d3_43) hr) ⟨rfl, N3, K3, V_sc⟩ (by decide) (by decide)
  exact (Rn.st (fun t k => castTop (ef_old m a0 p1 d2) k) first_ : Rn p e below (s₁.setTop (entryFrame m #[(.ref a0), (.int p1), (.double d2)] 4)) (Fnold Z a0 p1 d2 sc ks hS rt kr hR n x h0 n0 s))
theorem d3_9 : decode prog_23_method_2_code 9 = .ok (.aload_n 0, 1) := by decide +kernel
theorem d3_10 : decode prog_23_method_2_code 10 = .ok (.getfield 13, 3) := by decide +kernel
theorem d3_13 : decode prog_23_method_2_code 13 = .ok (.iload_n 1, 1) := by decide +kernel
theorem d3_14 : decode prog_23_method_2_code 14 = .ok (.iconst 1, 1) := by decide +kernel
theorem d3_15 : decode prog_23_method_2_code 15 = .ok (.bastore, 1) := by decide +kernel
theorem d3_16 : decode prog_23_method_2_code 16 = .ok (.aload_n 0, 1) := by decide +kernel
theorem d3_17 : decode prog_23_method_2_code 17 = .ok (.getfield 17, 3) := by decide +kernel
theorem d3_20 : decode prog_23_method_2_code 20 = .ok (.aload_n 0, 1) := by decide +kernel
theorem d3_21 : decode prog_23_method_2_code 21 = .ok (.dup, 1) := by decide +kernel
theorem d3_22 : decode prog_23_method_2_code 22 = .ok (.getfield 21, 3) := by decide +kernel
theorem d3_25 : decode prog_23_method_2_code 25 = .ok (.dup_x1, 1) := by decide +kernel
theorem d3_26 : decode prog_23_method_2_code 26 = .ok (.iconst 1, 1) := by decide +kernel
theorem d3_27 : decode prog_23_method_2_code 27 = .ok (.iadd, 1) := by decide +kernel
theorem d3_28 : decode prog_23_method_2_code 28 = .ok (.putfield 21, 3) := by decide +kernel
theorem d3_31 : decode prog_23_method_2_code 31 = .ok (.iload_n 1, 1) := by decide +kernel
theorem d3_32 : decode prog_23_method_2_code 32 = .ok (.iastore, 1) := by decide +kernel
theorem ef_new (m : MethodId) (x0 : Addr) (x1 : Int32) (x2 : UInt64) : entryFrame m #[(.ref x0), (.int x1), (.double x2)] 4 = mkF m 0 #[.val (.ref x0), .val (.int x1), .val (.double x2), .second] [] := by first | (simp [entryFrame, mkF, argsToLocals, Value.category]; done) | rfl
def Qnew (Z : State) (a0 : Addr) (p1 : Int32) (d2 : UInt64) (sc : Addr) (ks : ClassId) (hS : List (Int32 × Value)) (rt : Addr) (kr : ClassId) (hR : List (Int32 × Value)) (dc : Addr) (kd : ClassId) (hD : List (Int32 × Value)) (n : Int32) (x : UInt64) (z : Int32) (h0 : Heap) (n0 : Nat) (vQ : Option Value) (hQ_ : Heap) (LQ : List Loc) : Prop := vQ = none ∧ Fr n0 LQ ∧ Keep h0 hQ_ [a0, sc, rt, dc] ∧ (Exa Z hQ_ a0 "com/example/maat/maat/search/Accumulator") ∧ (Fld Z hQ_ a0 "com/example/maat/maat/search/Accumulator" "scores" "[D" (.ref sc)) ∧ (Fld Z hQ_ a0 "com/example/maat/maat/search/Accumulator" "retrieved" "[Z" (.ref rt)) ∧ (Fld Z hQ_ a0 "com/example/maat/maat/search/Accumulator" "documents" "[I" (.ref dc)) ∧ (Fld Z hQ_ a0 "com/example/maat/maat/search/Accumulator" "size" "I" (.int (z + (1 : Int32)))) ∧ (Arh Z hQ_ sc ks .double n ((p1, (.double (FP.dadd x d2))) :: hS) [] (.double (0 : UInt64))) ∧ (Arh Z hQ_ rt kr .boolean n ((p1, (.int (1 : Int32))) :: hR) [] (.int (0 : Int32))) ∧ (Arh Z hQ_ dc kd .int n ((z, (.int p1)) :: hD) [] (.int (0 : Int32)))
def Fnnew (Z : State) (a0 : Addr) (p1 : Int32) (d2 : UInt64) (sc : Addr) (ks : ClassId) (hS : List (Int32 × Value)) (rt : Addr) (kr : ClassId) (hR : List (Int32 × Value)) (dc : Addr) (kd : ClassId) (hD : List (Int32 × Value)) (n : Int32) (x : UInt64) (z : Int32) (h0 : Heap) (n0 : Nat) (sQ : State) (oQ : Outcome) (UQ : State) : Prop := ∃ vQ LQ, oQ = .returned vQ ∧ Qnew Z a0 p1 d2 sc ks hS rt kr hR dc kd hD n x z h0 n0 vQ UQ.heap LQ ∧ FrameEnd sQ oQ UQ LQ ({ frames := 0, cells := 0, slots := 0, locals := 0 } : Room).cells ({ frames := 0, cells := 0, slots := 0, locals := 0 } : Room).slots
set_option maxRecDepth 65536 in
set_option maxHeartbeats 40000000 in
theorem rmnew (l : Launch) (Z : State) (aZ : Array Value) (hw : ∀ d ∈ tables_1, d.before aZ Z = true) (ws : List Jvm.Cond) (a0 : Addr) (p1 : Int32) (d2 : UInt64) (sc : Addr) (ks : ClassId) (hS : List (Int32 × Value)) (rt : Addr) (kr : ClassId) (hR : List (Int32 × Value)) (dc : Addr) (kd : ClassId) (hD : List (Int32 × Value)) (n : Int32) (x : UInt64) (z : Int32) (h0 : Heap) (n0 : Nat) (Z0 : n0 ≤ h0.size) (E_a0 : Exa Z h0 a0 "com/example/maat/maat/search/Accumulator") (F_scores_a0 : Fld Z h0 a0 "com/example/maat/maat/search/Accumulator" "scores" "[D" (.ref sc)) (F_retrieved_a0 : Fld Z h0 a0 "com/example/maat/maat/search/Accumulator" "retrieved" "[Z" (.ref rt)) (F_documents_a0 : Fld Z h0 a0 "com/example/maat/maat/search/Accumulator" "documents" "[I" (.ref dc)) (F_size_a0 : Fld Z h0 a0 "com/example/maat/maat/search/Accumulator" "size" "I" (.int z)) (g_a0 : n0 ≤ a0) (V_sc : Arh Z h0 sc ks .double n hS [] (.double (0 : UInt64))) (V_rt : Arh Z h0 rt kr .boolean n hR [] (.int (0 : Int32))) (V_dc : Arh Z h0 dc kd .int n hD [] (.int (0 : Int32))) (g_sc : n0 ≤ sc) (g_rt : n0 ≤ rt) (g_dc : n0 ≤ dc) (ne_a0_sc : a0 ≠ sc) (ne_a0_rt : a0 ≠ rt) (ne_a0_dc : a0 ≠ dc) (ne_sc_rt : sc ≠ rt) (ne_sc_dc : sc ≠ dc) (ne_rt_dc : rt ≠ dc) (rdR : getH hR [] (.int (0 : Int32)) p1.toNatClampNeg = (.int (0 : Int32))) (rdS : getH hS [] (.double (0 : UInt64)) p1.toNatClampNeg = (.double x)) (nn : NoNaN64 (FP.dadd x d2)) (hb_ : ¬ p1 < 0 ∧ p1 < n) (hz_ : ¬ z < 0 ∧ z < n) :
    MetFree l (⟨"com/example/maat/maat/search/Accumulator", "add", "(ID)V"⟩ : MethodName) (head1 (Jvm.Cond.code (⟨"com/example/maat/maat/search/Accumulator", "add", "(ID)V"⟩ : MethodName) prog_23_method_2_code 4 none :: ws) ({ frames := 0, cells := 0, slots := 0, locals := 0 } : Room)) (fun aQ UQ => aQ = #[(.ref a0), (.int p1), (.double d2)] ∧ Z.Warmed39 UQ.vm ∧ UQ.heap = h0) (fun _ _ _ _ _ => True) (fun _ UQ oQ UR => ∃ vQ LQ, oQ = .returned vQ ∧ Qnew Z a0 p1 d2 sc ks hS rt kr hR dc kd hD n x z h0 n0 vQ UR.heap LQ ∧ FrameEnd UQ oQ UR LQ ({ frames := 0, cells := 0, slots := 0, locals := 0 } : Room).cells ({ frames := 0, cells := 0, slots := 0, locals := 0 } : Room).slots) := by
  refine MetFree.of_bodySF (plainFor_of_name pn_0) hisR ?_
  intro p e s m args below meth c s₁ Bd hml0 hP hK
  obtain ⟨rfl, hZ, hh⟩ := hP
  have hx := Bd.exec
  have hby := Bd.bytes
  have hml : c.maxLocals = 4 := hml0
  have hown : s.vm.findClass "com/example/maat/maat/search/Accumulator" = some m.cls := findClass_of_methodNamed Bd.named
  have hnm := (name_of_methodNamed Bd.named Bd.method).1
  have X0 : Stand p l e ({ frames := 0, cells := 0, slots := 0, locals := 0 } : Room) s m #[(.ref a0), (.int p1), (.double d2)] below meth c s₁ [] 0 0 := Stand.of_body Bd
  have e0 : s₁.heap = h0 := by rw [← hh, Bd.state]; rfl
  have N0 := Fr.nil n0
  have K0 : Keep h0 h0 [a0, sc, rt, dc] := Keep.refl _ _
  have w_2 := hw _ (List.mem_of_getElem? (i := 2) rfl)
  have w_11 := hw _ (List.mem_of_getElem? (i := 11) rfl)
  have w_12 := hw _ (List.mem_of_getElem? (i := 12) rfl)
  have w_14 := hw _ (List.mem_of_getElem? (i := 14) rfl)
  have w_15 := hw _ (List.mem_of_getElem? (i := 15) rfl)
  have w_17 := hw _ (List.mem_of_getElem? (i := 17) rfl)
  have w_18 := hw _ (List.mem_of_getElem? (i := 18) rfl)
  have w_24 := hw _ (List.mem_of_getElem? (i := 24) rfl)
  have w_25 := hw _ (List.mem_of_getElem? (i := 25) rfl)
  have first_ : Rn p e below (s₁.setTop (mkF m 0 #[.val (.ref a0), .val (.int p1), .val (.double d2), .second] [])) (Fnnew Z a0 p1 d2 sc ks hS rt kr hR dc kd hD n x z h0 n0 s) := by
    generalize hG : (Fnnew Z a0 p1 d2 sc ks hS rt kr hR dc kd hD n x z h0 n0 s) = G
    refine R.aloadN X0 hx (hb hby d3_0) rfl rfl (pc' := 1) rfl ?_
    refine R.getF X0 hx hZ hown (host := "") (Or.inl w_14) Via.refl e0 F_retrieved_a0 (hb hby d3_1) (pc' := 4) rfl ?_; intro T1 X1 e1
    refine R.iloadN X1 hx (hb hby d3_4) rfl (pc' := 5) rfl ?_
    refine R.baloadZ X1 hx hZ e1 V_rt (hb_ : ¬ p1 < 0 ∧ p1 < n) (v := (.int (0 : Int32))) (rdR) (hb hby d3_5) (pc' := 6) rfl ?_
    refine R.ifNo X1 hx (hb hby d3_6) (teq (by decide : (0 : Int32) = (0 : Int32))).2 (pc' := 9) rfl ?_
    refine R.aloadN X1 hx (hb hby d3_9) rfl rfl (pc' := 10) rfl ?_
    refine R.getF X1 hx hZ hown (host := "") (Or.inl w_14) Via.refl e1 F_retrieved_a0 (hb hby d3_10) (pc' := 13) rfl ?_; intro T2 X2 e2
    refine R.iloadN X2 hx (hb hby d3_13) rfl (pc' := 14) rfl ?_
    refine R.iconst X2 hx (hb hby d3_14) (v := (1 : Int32)) (by decide) (pc' := 15) rfl ?_
    refine R.bastoreZ X2 hx hZ e2 V_rt (hb_ : ¬ p1 < 0 ∧ p1 < n) (by decide) (hb hby d3_15) (pc' := 16) rfl ?_; intro T3 h3 X3 e3 W3 V3
    have E_a0 := E_a0.wr W3
    have F_scores_a0 := F_scores_a0.other W3 (Or.inl ne_a0_rt)
    have F_retrieved_a0 := F_retrieved_a0.other W3 (Or.inl ne_a0_rt)
    have F_documents_a0 := F_documents_a0.other W3 (Or.inl ne_a0_rt)
    have F_size_a0 := F_size_a0.other W3 (Or.inl ne_a0_rt)
    have V_sc := V_sc.other W3 ne_sc_rt
    have V_dc := V_dc.other W3 (Ne.symm ne_rt_dc)
    have V_rt : Arh Z h3 rt kr .boolean n ((p1, (.int (1 : Int32))) :: hR) [] (.int (0 : Int32)) := V3
    have N3 := Fr.snoc X3 N0 g_rt
    have K3 : Keep h0 h3 [a0, sc, rt, dc] := K0.wr W3 (Or.inl (List.mem_of_getElem? (i := 2) rfl))
    have Z3 : n0 ≤ h3.size := Nat.le_trans Z0 (Keep.of_wr W3).1
    refine R.aloadN X3 hx (hb hby d3_16) rfl rfl (pc' := 17) rfl ?_
    refine R.getF X3 hx hZ hown (host := "") (Or.inl w_17) Via.refl e3 F_documents_a0 (hb hby d3_17) (pc' := 20) rfl ?_; intro T4 X4 e4
    refine R.aloadN X4 hx (hb hby d3_20) rfl rfl (pc' := 21) rfl ?_
    refine R.dup X4 hx (hb hby d3_21) rfl (pc' := 22) rfl ?_
    refine R.getF X4 hx hZ hown (host := "") (Or.inl w_24) Via.refl e4 F_size_a0 (hb hby d3_22) (pc' := 25) rfl ?_; intro T5 X5 e5
    refine R.dupX1 X5 hx (hb hby d3_25) rfl rfl (pc' := 26) rfl ?_
    refine R.iconst X5 hx (hb hby d3_26) (v := (1 : Int32)) (by decide) (pc' := 27) rfl ?_
    refine R.iadd X5 hx (hb hby d3_27) rfl (pc' := 28) rfl ?_
    refine R.putF X5 hx hZ hown (host := "") (Or.inl w_24) Via.refl e5 F_size_a0 E_a0 (Or.inl w_25) w_2 (ty := .int) (by decide) rfl rfl (hb hby d3_28) (pc' := 31) rfl ?_; intro T6 h6 X6 e6 W6
    have E_a0 := E_a0.wr W6
    have F_scores_a0 := F_scores_a0.other W6 (Or.inr (slot_ne (Or.inr w_12) (Or.inl w_25) (by decide) (t := (.array .double)) (t' := .int) (by decide) (by decide)))
    have F_retrieved_a0 := F_retrieved_a0.other W6 (Or.inr (slot_ne (Or.inr w_15) (Or.inl w_25) (by decide) (t := (.array .boolean)) (t' := .int) (by decide) (by decide)))
    have F_documents_a0 := F_documents_a0.other W6 (Or.inr (slot_ne (Or.inr w_18) (Or.inl w_25) (by decide) (t := (.array .int)) (t' := .int) (by decide) (by decide)))
    have V_sc := V_sc.other W6 (Ne.symm ne_a0_sc)
    have V_dc := V_dc.other W6 (Ne.symm ne_a0_dc)
    have V_rt := V_rt.other W6 (Ne.symm ne_a0_rt)
    have F_size_a0 : Fld Z h6 a0 "com/example/maat/maat/search/Accumulator" "size" "I" (.int (z + (1 : Int32))) := F_size_a0.same W6
    have N6 := Fr.snoc X6 N3 g_a0
    have K6 : Keep h0 h6 [a0, sc, rt, dc] := K3.wr W6 (Or.inl (List.mem_of_getElem? (i := 0) rfl))
    have Z6 : n0 ≤ h6.size := Nat.le_trans Z3 (Keep.of_wr W6).1
    refine R.iloadN X6 hx (hb hby d3_31) rfl (pc' := 32) rfl ?_
    refine R.iastore X6 hx hZ e6 V_dc (hz_ : ¬ z < 0 ∧ z < n) (hb hby d3_32) (pc' := 33) rfl ?_; intro T7 h7 X7 e7 W7 V7
    have E_a0 := E_a0.wr W7
    have F_scores_a0 := F_scores_a0.other W7 (Or.inl ne_a0_dc)
    have F_retrieved_a0 := F_retrieved_a0.other W7 (Or.inl ne_a0_dc)
    have F_documents_a0 := F_documents_a0.other W7 (Or.inl ne_a0_dc)
    have V_sc := V_sc.other W7 ne_sc_dc
    have V_rt := V_rt.other W7 ne_rt_dc
    have F_size_a0 := F_size_a0.other W7 (Or.inl ne_a0_dc)
    have V_dc : Arh Z h7 dc kd .int n ((z, (.int p1)) :: hD) [] (.int (0 : Int32)) := V7
    have N7 := Fr.snoc X7 N6 g_dc
    have K7 : Keep h0 h7 [a0, sc, rt, dc] := K6.wr W7 (Or.inl (List.mem_of_getElem? (i := 3) rfl))
    have Z7 : n0 ≤ h7.size := Nat.le_trans Z6 (Keep.of_wr W7).1
    refine R.aloadN X7 hx (hb hby d3_33) rfl rfl (pc' := 34) rfl ?_
    refine R.getF X7 hx hZ hown (host := "") (Or.inl w_11) Via.refl e7 F_scores_a0 (hb hby d3_34) (pc' := 37) rfl ?_; intro T8 X8 e8
    refine R.iloadN X8 hx (hb hby d3_37) rfl (pc' := 38) rfl ?_
    refine R.dup2 X8 hx (hb hby d3_38) rfl rfl (pc' := 39) rfl ?_
    refine R.daload X8 hx hZ e8 V_sc (hb_ : ¬ p1 < 0 ∧ p1 < n) (v := (.double x)) (rdS) (hb hby d3_39) (pc' := 40) rfl ?_
    refine R.dloadN X8 hx (hb hby d3_40) rfl (pc' := 41) rfl ?_
    refine R.dadd X8 hx (hb hby d3_41) (nn : NoNaN64 (FP.dadd x d2)) (pc' := 42) rfl ?_
    refine R.dastore X8 hx hZ e8 V_sc (hb_ : ¬ p1 < 0 ∧ p1 < n) (hb hby d3_42) (pc' := 43) rfl ?_; intro T9 h9 X9 e9 W9 V9
    have E_a0 := E_a0.wr W9
    have F_scores_a0 := F_scores_a0.other W9 (Or.inl ne_a0_sc)
    have F_retrieved_a0 := F_retrieved_a0.other W9 (Or.inl ne_a0_sc)
    have F_documents_a0 := F_documents_a0.other W9 (Or.inl ne_a0_sc)
    have V_rt := V_rt.other W9 (Ne.symm ne_sc_rt)
    have F_size_a0 := F_size_a0.other W9 (Or.inl ne_a0_sc)
    have V_dc := V_dc.other W9 (Ne.symm ne_sc_dc)
    have V_sc : Arh Z h9 sc ks .double n ((p1, (.double (FP.dadd x d2))) :: hS) [] (.double (0 : UInt64)) := V9
    have N9 := Fr.snoc X9 N7 g_sc
    have K9 : Keep h0 h9 [a0, sc, rt, dc] := K7.wr W9 (Or.inl (List.mem_of_getElem? (i := 1) rfl))
    have Z9 : n0 ≤ h9.size := Nat.le_trans Z7 (Keep.of_wr W9).1
    rw [← hG]
    exact Rn.ret X9 (BodyLoose.notSynchronized Bd) (v := none) (fun _ => rfl) (Q := Qnew Z a0 p1 d2 sc ks hS rt kr hR dc kd hD n x z h0 n0) e9 (fun fs hr => X9.returnOut hx Bd.returns (hb hby d3_43) hr) ⟨rfl, N9, K9, E_a0, F_scores_a0, F_retrieved_a0, F_documents_a0, F_size_a0, V_sc, V_rt, V_dc⟩ (by decide) (by decide)
  exact (Rn.st (fun t k => castTop (ef_new m a0 p1 d2) k) first_ : Rn p e below (s₁.setTop (entryFrame m #[(.ref a0), (.int p1), (.double d2)] 4)) (Fnnew Z a0 p1 d2 sc ks hS rt kr hR dc kd hD n x z h0 n0 s))
theorem d4_0 : decode prog_23_method_3_code 0 = .ok (.aload_n 0, 1) := by decide +kernel
theorem d4_1 : decode prog_23_method_3_code 1 = .ok (.getfield 21, 3) := by decide +kernel
theorem d4_4 : decode prog_23_method_3_code 4 = .ok (.ireturn, 1) := by decide +kernel
theorem ef_4 (m : MethodId) (x0 : Addr) : entryFrame m #[(.ref x0)] 1 = mkF m 0 #[.val (.ref x0)] [] := by first | (simp [entryFrame, mkF, argsToLocals, Value.category]; done) | rfl
def Q4 (Z : State) (a0 : Addr) (z : Int32) (h0 : Heap) (n0 : Nat) (vQ : Option Value) (hQ_ : Heap) (LQ : List Loc) : Prop := vQ = some (.int z) ∧ Fr n0 LQ ∧ hQ_ = h0
def Fn4 (Z : State) (a0 : Addr) (z : Int32) (h0 : Heap) (n0 : Nat) (sQ : State) (oQ : Outcome) (UQ : State) : Prop := ∃ vQ LQ, oQ = .returned vQ ∧ Q4 Z a0 z h0 n0 vQ UQ.heap LQ ∧ FrameEnd sQ oQ UQ LQ ({ frames := 0, cells := 0, slots := 0, locals := 0 } : Room).cells ({ frames := 0, cells := 0, slots := 0, locals := 0 } : Room).slots
set_option maxRecDepth 65536 in
set_option maxHeartbeats 40000000 in
theorem rm4 (l : Launch) (Z : State) (aZ : Array Value) (hw : ∀ d ∈ tables_1, d.before aZ Z = true) (ws : List Jvm.Cond) (a0 : Addr) (z : Int32) (h0 : Heap) (n0 : Nat) (Z0 : n0 ≤ h0.size) (F_size_a0 : Fld Z h0 a0 "com/example/maat/maat/search/Accumulator" "size" "I" (.int z)) :
    MetFree l (⟨"com/example/maat/maat/search/Accumulator", "size", "()I"⟩ : MethodName) (head1 (Jvm.Cond.code (⟨"com/example/maat/maat/search/Accumulator", "size", "()I"⟩ : MethodName) prog_23_method_3_code 1 (some .int) :: ws) ({ frames := 0, cells := 0, slots := 0, locals := 0 } : Room)) (fun aQ UQ => aQ = #[(.ref a0)] ∧ Z.Warmed39 UQ.vm ∧ UQ.heap = h0) (fun _ _ _ _ _ => True) (fun _ UQ oQ UR => ∃ vQ LQ, oQ = .returned vQ ∧ Q4 Z a0 z h0 n0 vQ UR.heap LQ ∧ FrameEnd UQ oQ UR LQ ({ frames := 0, cells := 0, slots := 0, locals := 0 } : Room).cells ({ frames := 0, cells := 0, slots := 0, locals := 0 } : Room).slots) := by
  refine MetFree.of_bodySF (plainFor_of_name pn_0) hisR ?_
  intro p e s m args below meth c s₁ Bd hml0 hP hK
  obtain ⟨rfl, hZ, hh⟩ := hP
  have hx := Bd.exec
  have hby := Bd.bytes
  have hml : c.maxLocals = 1 := hml0
  have hown : s.vm.findClass "com/example/maat/maat/search/Accumulator" = some m.cls := findClass_of_methodNamed Bd.named
  have hnm := (name_of_methodNamed Bd.named Bd.method).1
  have X0 : Stand p l e ({ frames := 0, cells := 0, slots := 0, locals := 0 } : Room) s m #[(.ref a0)] below meth c s₁ [] 0 0 := Stand.of_body Bd
  have e0 : s₁.heap = h0 := by rw [← hh, Bd.state]; rfl
  have N0 := Fr.nil n0
  have K0 : Keep h0 h0 [] := Keep.refl _ _
  have w_24 := hw _ (List.mem_of_getElem? (i := 24) rfl)
  have first_ : Rn p e below (s₁.setTop (mkF m 0 #[.val (.ref a0)] [])) (Fn4 Z a0 z h0 n0 s) := by
    generalize hG : (Fn4 Z a0 z h0 n0 s) = G
    refine R.aloadN X0 hx (hb hby d4_0) rfl rfl (pc' := 1) rfl ?_
    refine R.getF X0 hx hZ hown (host := "") (Or.inl w_24) Via.refl e0 F_size_a0 (hb hby d4_1) (pc' := 4) rfl ?_; intro T1 X1 e1
    rw [← hG]
    exact Rn.ret X1 (BodyLoose.notSynchronized Bd) (v := some (.int z)) (fun h => by rw [Bd.returns] at h; cases h) (Q := Q4 Z a0 z h0 n0) e1 (fun fs hr => retOut X1 hx (t := .int) Bd.returns rfl (Or.inl ⟨rfl, Or.inl rfl, _, rfl⟩) (hb hby d4_4) hr) ⟨rfl, N0, rfl⟩ (by decide) (by decide)
  exact (Rn.st (fun t k => castTop (ef_4 m a0) k) first_ : Rn p e below (s₁.setTop (entryFrame m #[(.ref a0)] 1)) (Fn4 Z a0 z h0 n0 s))
theorem d5_0 : decode prog_23_method_4_code 0 = .ok (.aload_n 0, 1) := by decide +kernel
theorem d5_1 : decode prog_23_method_4_code 1 = .ok (.getfield 17, 3) := by decide +kernel
theorem d5_4 : decode prog_23_method_4_code 4 = .ok (.iload_n 1, 1) := by decide +kernel
theorem d5_5 : decode prog_23_method_4_code 5 = .ok (.iaload, 1) := by decide +kernel
theorem d5_6 : decode prog_23_method_4_code 6 = .ok (.ireturn, 1) := by decide +kernel
theorem ef_5 (m : MethodId) (x0 : Addr) (x1 : Int32) : entryFrame m #[(.ref x0), (.int x1)] 2 = mkF m 0 #[.val (.ref x0), .val (.int x1)] [] := by first | (simp [entryFrame, mkF, argsToLocals, Value.category]; done) | rfl
def Q5 (Z : State) (a0 : Addr) (p1 : Int32) (dc : Addr) (kd : ClassId) (hD : List (Int32 × Value)) (n : Int32) (x : Int32) (h0 : Heap) (n0 : Nat) (vQ : Option Value) (hQ_ : Heap) (LQ : List Loc) : Prop := vQ = some (.int x) ∧ Fr n0 LQ ∧ hQ_ = h0
def Fn5 (Z : State) (a0 : Addr) (p1 : Int32) (dc : Addr) (kd : ClassId) (hD : List (Int32 × Value)) (n : Int32) (x : Int32) (h0 : Heap) (n0 : Nat) (sQ : State) (oQ : Outcome) (UQ : State) : Prop := ∃ vQ LQ, oQ = .returned vQ ∧ Q5 Z a0 p1 dc kd hD n x h0 n0 vQ UQ.heap LQ ∧ FrameEnd sQ oQ UQ LQ ({ frames := 0, cells := 0, slots := 0, locals := 0 } : Room).cells ({ frames := 0, cells := 0, slots := 0, locals := 0 } : Room).slots
set_option maxRecDepth 65536 in
set_option maxHeartbeats 40000000 in
theorem rm5 (l : Launch) (Z : State) (aZ : Array Value) (hw : ∀ d ∈ tables_1, d.before aZ Z = true) (ws : List Jvm.Cond) (a0 : Addr) (p1 : Int32) (dc : Addr) (kd : ClassId) (hD : List (Int32 × Value)) (n : Int32) (x : Int32) (h0 : Heap) (n0 : Nat) (Z0 : n0 ≤ h0.size) (F_documents_a0 : Fld Z h0 a0 "com/example/maat/maat/search/Accumulator" "documents" "[I" (.ref dc)) (V_dc : Arh Z h0 dc kd .int n hD [] (.int (0 : Int32))) (rd : getH hD [] (.int (0 : Int32)) p1.toNatClampNeg = (.int x)) (hb_ : ¬ p1 < 0 ∧ p1 < n) :
    MetFree l (⟨"com/example/maat/maat/search/Accumulator", "document", "(I)I"⟩ : MethodName) (head1 (Jvm.Cond.code (⟨"com/example/maat/maat/search/Accumulator", "document", "(I)I"⟩ : MethodName) prog_23_method_4_code 2 (some .int) :: ws) ({ frames := 0, cells := 0, slots := 0, locals := 0 } : Room)) (fun aQ UQ => aQ = #[(.ref a0), (.int p1)] ∧ Z.Warmed39 UQ.vm ∧ UQ.heap = h0) (fun _ _ _ _ _ => True) (fun _ UQ oQ UR => ∃ vQ LQ, oQ = .returned vQ ∧ Q5 Z a0 p1 dc kd hD n x h0 n0 vQ UR.heap LQ ∧ FrameEnd UQ oQ UR LQ ({ frames := 0, cells := 0, slots := 0, locals := 0 } : Room).cells ({ frames := 0, cells := 0, slots := 0, locals := 0 } : Room).slots) := by
  refine MetFree.of_bodySF (plainFor_of_name pn_0) hisR ?_
  intro p e s m args below meth c s₁ Bd hml0 hP hK
  obtain ⟨rfl, hZ, hh⟩ := hP
  have hx := Bd.exec
  have hby := Bd.bytes
  have hml : c.maxLocals = 2 := hml0
  have hown : s.vm.findClass "com/example/maat/maat/search/Accumulator" = some m.cls := findClass_of_methodNamed Bd.named
  have hnm := (name_of_methodNamed Bd.named Bd.method).1
  have X0 : Stand p l e ({ frames := 0, cells := 0, slots := 0, locals := 0 } : Room) s m #[(.ref a0), (.int p1)] below meth c s₁ [] 0 0 := Stand.of_body Bd
  have e0 : s₁.heap = h0 := by rw [← hh, Bd.state]; rfl
  have N0 := Fr.nil n0
  have K0 : Keep h0 h0 [] := Keep.refl _ _
  have w_17 := hw _ (List.mem_of_getElem? (i := 17) rfl)
  have first_ : Rn p e below (s₁.setTop (mkF m 0 #[.val (.ref a0), .val (.int p1)] [])) (Fn5 Z a0 p1 dc kd hD n x h0 n0 s) := by
    generalize hG : (Fn5 Z a0 p1 dc kd hD n x h0 n0 s) = G
    refine R.aloadN X0 hx (hb hby d5_0) rfl rfl (pc' := 1) rfl ?_
    refine R.getF X0 hx hZ hown (host := "") (Or.inl w_17) Via.refl e0 F_documents_a0 (hb hby d5_1) (pc' := 4) rfl ?_; intro T1 X1 e1
    refine R.iloadN X1 hx (hb hby d5_4) rfl (pc' := 5) rfl ?_
    refine R.iaload X1 hx hZ e1 V_dc (hb_ : ¬ p1 < 0 ∧ p1 < n) (v := (.int x)) (rd) (hb hby d5_5) (pc' := 6) rfl ?_
    rw [← hG]
    exact Rn.ret X1 (BodyLoose.notSynchronized Bd) (v := some (.int x)) (fun h => by rw [Bd.returns] at h; cases h) (Q := Q5 Z a0 p1 dc kd hD n x h0 n0) e1 (fun fs hr => retOut X1 hx (t := .int) Bd.returns rfl (Or.inl ⟨rfl, Or.inl rfl, _, rfl⟩) (hb hby d5_6) hr) ⟨rfl, N0, rfl⟩ (by decide) (by decide)
  exact (Rn.st (fun t k => castTop (ef_5 m a0 p1) k) first_ : Rn p e below (s₁.setTop (entryFrame m #[(.ref a0), (.int p1)] 2)) (Fn5 Z a0 p1 dc kd hD n x h0 n0 s))
theorem d6_0 : decode prog_23_method_5_code 0 = .ok (.aload_n 0, 1) := by decide +kernel
theorem d6_1 : decode prog_23_method_5_code 1 = .ok (.getfield 7, 3) := by decide +kernel
theorem d6_4 : decode prog_23_method_5_code 4 = .ok (.iload_n 1, 1) := by decide +kernel
theorem d6_5 : decode prog_23_method_5_code 5 = .ok (.daload, 1) := by decide +kernel
theorem d6_6 : decode prog_23_method_5_code 6 = .ok (.dreturn, 1) := by decide +kernel
theorem ef_6 (m : MethodId) (x0 : Addr) (x1 : Int32) : entryFrame m #[(.ref x0), (.int x1)] 2 = mkF m 0 #[.val (.ref x0), .val (.int x1)] [] := by first | (simp [entryFrame, mkF, argsToLocals, Value.category]; done) | rfl
def Q6 (Z : State) (a0 : Addr) (p1 : Int32) (sc : Addr) (ks : ClassId) (hS : List (Int32 × Value)) (n : Int32) (x : UInt64) (h0 : Heap) (n0 : Nat) (vQ : Option Value) (hQ_ : Heap) (LQ : List Loc) : Prop := vQ = some (.double x) ∧ Fr n0 LQ ∧ hQ_ = h0
def Fn6 (Z : State) (a0 : Addr) (p1 : Int32) (sc : Addr) (ks : ClassId) (hS : List (Int32 × Value)) (n : Int32) (x : UInt64) (h0 : Heap) (n0 : Nat) (sQ : State) (oQ : Outcome) (UQ : State) : Prop := ∃ vQ LQ, oQ = .returned vQ ∧ Q6 Z a0 p1 sc ks hS n x h0 n0 vQ UQ.heap LQ ∧ FrameEnd sQ oQ UQ LQ ({ frames := 0, cells := 0, slots := 0, locals := 0 } : Room).cells ({ frames := 0, cells := 0, slots := 0, locals := 0 } : Room).slots
set_option maxRecDepth 65536 in
set_option maxHeartbeats 40000000 in
theorem rm6 (l : Launch) (Z : State) (aZ : Array Value) (hw : ∀ d ∈ tables_1, d.before aZ Z = true) (ws : List Jvm.Cond) (a0 : Addr) (p1 : Int32) (sc : Addr) (ks : ClassId) (hS : List (Int32 × Value)) (n : Int32) (x : UInt64) (h0 : Heap) (n0 : Nat) (Z0 : n0 ≤ h0.size) (F_scores_a0 : Fld Z h0 a0 "com/example/maat/maat/search/Accumulator" "scores" "[D" (.ref sc)) (V_sc : Arh Z h0 sc ks .double n hS [] (.double (0 : UInt64))) (rd : getH hS [] (.double (0 : UInt64)) p1.toNatClampNeg = (.double x)) (hb_ : ¬ p1 < 0 ∧ p1 < n) :
    MetFree l (⟨"com/example/maat/maat/search/Accumulator", "score", "(I)D"⟩ : MethodName) (head1 (Jvm.Cond.code (⟨"com/example/maat/maat/search/Accumulator", "score", "(I)D"⟩ : MethodName) prog_23_method_5_code 2 (some .double) :: ws) ({ frames := 0, cells := 0, slots := 0, locals := 0 } : Room)) (fun aQ UQ => aQ = #[(.ref a0), (.int p1)] ∧ Z.Warmed39 UQ.vm ∧ UQ.heap = h0) (fun _ _ _ _ _ => True) (fun _ UQ oQ UR => ∃ vQ LQ, oQ = .returned vQ ∧ Q6 Z a0 p1 sc ks hS n x h0 n0 vQ UR.heap LQ ∧ FrameEnd UQ oQ UR LQ ({ frames := 0, cells := 0, slots := 0, locals := 0 } : Room).cells ({ frames := 0, cells := 0, slots := 0, locals := 0 } : Room).slots) := by
  refine MetFree.of_bodySF (plainFor_of_name pn_0) hisR ?_
  intro p e s m args below meth c s₁ Bd hml0 hP hK
  obtain ⟨rfl, hZ, hh⟩ := hP
  have hx := Bd.exec
  have hby := Bd.bytes
  have hml : c.maxLocals = 2 := hml0
  have hown : s.vm.findClass "com/example/maat/maat/search/Accumulator" = some m.cls := findClass_of_methodNamed Bd.named
  have hnm := (name_of_methodNamed Bd.named Bd.method).1
  have X0 : Stand p l e ({ frames := 0, cells := 0, slots := 0, locals := 0 } : Room) s m #[(.ref a0), (.int p1)] below meth c s₁ [] 0 0 := Stand.of_body Bd
  have e0 : s₁.heap = h0 := by rw [← hh, Bd.state]; rfl
  have N0 := Fr.nil n0
  have K0 : Keep h0 h0 [] := Keep.refl _ _
  have w_11 := hw _ (List.mem_of_getElem? (i := 11) rfl)
  have first_ : Rn p e below (s₁.setTop (mkF m 0 #[.val (.ref a0), .val (.int p1)] [])) (Fn6 Z a0 p1 sc ks hS n x h0 n0 s) := by
    generalize hG : (Fn6 Z a0 p1 sc ks hS n x h0 n0 s) = G
    refine R.aloadN X0 hx (hb hby d6_0) rfl rfl (pc' := 1) rfl ?_
    refine R.getF X0 hx hZ hown (host := "") (Or.inl w_11) Via.refl e0 F_scores_a0 (hb hby d6_1) (pc' := 4) rfl ?_; intro T1 X1 e1
    refine R.iloadN X1 hx (hb hby d6_4) rfl (pc' := 5) rfl ?_
    refine R.daload X1 hx hZ e1 V_sc (hb_ : ¬ p1 < 0 ∧ p1 < n) (v := (.double x)) (rd) (hb hby d6_5) (pc' := 6) rfl ?_
    rw [← hG]
    exact Rn.ret X1 (BodyLoose.notSynchronized Bd) (v := some (.double x)) (fun h => by rw [Bd.returns] at h; cases h) (Q := Q6 Z a0 p1 sc ks hS n x h0 n0) e1 (fun fs hr => retOut X1 hx (t := .double) Bd.returns rfl (Or.inr (Or.inr (Or.inl ⟨rfl, rfl, _, rfl⟩))) (hb hby d6_6) hr) ⟨rfl, N0, rfl⟩ (by decide) (by decide)
  exact (Rn.st (fun t k => castTop (ef_6 m a0 p1) k) first_ : Rn p e below (s₁.setTop (entryFrame m #[(.ref a0), (.int p1)] 2)) (Fn6 Z a0 p1 sc ks hS n x h0 n0 s))
theorem pd_0 : parseMethodDescriptor "(I)V" = some ⟨[.int], none⟩ := by decide +kernel
abbrev mY0 : MethodName := (⟨"com/example/maat/maat/search/Accumulator", "<init>", "(I)V"⟩ : MethodName)
theorem pd_1 : parseMethodDescriptor "(ID)V" = some ⟨[.int, .double], none⟩ := by decide +kernel
abbrev mY1 : MethodName := (⟨"com/example/maat/maat/search/Accumulator", "add", "(ID)V"⟩ : MethodName)
theorem pd_2 : parseMethodDescriptor "()I" = some ⟨[], some .int⟩ := by decide +kernel
abbrev mY2 : MethodName := (⟨"com/example/maat/maat/search/Accumulator", "size", "()I"⟩ : MethodName)
theorem pd_3 : parseMethodDescriptor "(I)I" = some ⟨[.int], some .int⟩ := by decide +kernel
abbrev mY3 : MethodName := (⟨"com/example/maat/maat/search/Accumulator", "document", "(I)I"⟩ : MethodName)
theorem pd_4 : parseMethodDescriptor "(I)D" = some ⟨[.int], some .double⟩ := by decide +kernel
abbrev mY4 : MethodName := (⟨"com/example/maat/maat/search/Accumulator", "score", "(I)D"⟩ : MethodName)
theorem pn_1 : plainName "com/example/maat/maat/search/AccumulatorAddPinLaw" = true := by first | (simp [plainName, overriddenIn]; done) | decide +kernel
theorem ef_0 (m : MethodId) (x0 : Int32) (x1 : Int32) (x2 : Int32) (x3 : Int32) (x4 : Int32) (x5 : Int32) : entryFrame m #[(.int x0), (.int x1), (.int x2), (.int x3), (.int x4), (.int x5)] maxLocals = mkF m 0 #[.val (.int x0), .val (.int x1), .val (.int x2), .val (.int x3), .val (.int x4), .val (.int x5), .unset, .unset, .unset, .unset, .unset, .unset, .unset, .unset, .unset, .unset, .unset, .unset, .unset] [] := by first | (simp [entryFrame, mkF, argsToLocals, Value.category, maxLocals]; done) | rfl
def Q0 (Z : State) (p0 : Int32) (p1 : Int32) (p2 : Int32) (p3 : Int32) (p4 : Int32) (p5 : Int32) (h0 : Heap) (n0 : Nat) (vQ : Option Value) (hQ_ : Heap) (LQ : List Loc) : Prop := vQ = some (.int 1) ∧ Fr n0 LQ
def Fn0 (Z : State) (p0 : Int32) (p1 : Int32) (p2 : Int32) (p3 : Int32) (p4 : Int32) (p5 : Int32) (h0 : Heap) (n0 : Nat) (sQ : State) (oQ : Outcome) (UQ : State) : Prop := ∃ vQ LQ, oQ = .returned vQ ∧ Q0 Z p0 p1 p2 p3 p4 p5 h0 n0 vQ UQ.heap LQ ∧ FrameEnd sQ oQ UQ LQ room_1.cells room_1.slots
set_option maxRecDepth 65536 in
set_option maxHeartbeats 40000000 in
theorem rm0 (l : Launch) (Z : State) (aZ : Array Value) (hw : ∀ d ∈ tables_1, d.before aZ Z = true) (ws : List Jvm.Cond) (p0 : Int32) (p1 : Int32) (p2 : Int32) (p3 : Int32) (p4 : Int32) (p5 : Int32) (h0 : Heap) (n0 : Nat) (Z0 : n0 ≤ h0.size) :
    MetFree l x (head1 (Jvm.Cond.code x code maxLocals ret :: ws) room_1) (fun aQ UQ => aQ = #[(.int p0), (.int p1), (.int p2), (.int p3), (.int p4), (.int p5)] ∧ Z.Warmed39 UQ.vm ∧ UQ.heap = h0) (fun _ _ _ _ _ => True) (fun _ UQ oQ UR => ∃ vQ LQ, oQ = .returned vQ ∧ Q0 Z p0 p1 p2 p3 p4 p5 h0 n0 vQ UR.heap LQ ∧ FrameEnd UQ oQ UR LQ room_1.cells room_1.slots) := by
  refine MetFree.of_bodySF (plainFor_of_name pn_1) hisR ?_
  intro p e s m args below meth c s₁ Bd hml0 hP hK
  obtain ⟨rfl, hZ, hh⟩ := hP
  have hx := Bd.exec
  have hby := Bd.bytes
  have hml : c.maxLocals = 19 := hml0
  have hown : s.vm.findClass "com/example/maat/maat/search/AccumulatorAddPinLaw" = some m.cls := findClass_of_methodNamed Bd.named
  have hnm := (name_of_methodNamed Bd.named Bd.method).1
  have X0 : Stand p l e room_1 s m #[(.int p0), (.int p1), (.int p2), (.int p3), (.int p4), (.int p5)] below meth c s₁ [] 0 0 := Stand.of_body Bd
  have e0 : s₁.heap = h0 := by rw [← hh, Bd.state]; rfl
  have N0 := Fr.nil n0
  have K0 : Keep h0 h0 [] := Keep.refl _ _
  have w_0 := hw _ (List.mem_of_getElem? (i := 0) rfl)
  have w_1 := hw _ (List.mem_of_getElem? (i := 1) rfl)
  have w_2 := hw _ (List.mem_of_getElem? (i := 2) rfl)
  have w_3 := hw _ (List.mem_of_getElem? (i := 3) rfl)
  have w_4 := hw _ (List.mem_of_getElem? (i := 4) rfl)
  have w_5 := hw _ (List.mem_of_getElem? (i := 5) rfl)
  have w_6 := hw _ (List.mem_of_getElem? (i := 6) rfl)
  have w_12 := hw _ (List.mem_of_getElem? (i := 12) rfl)
  have w_15 := hw _ (List.mem_of_getElem? (i := 15) rfl)
  have w_18 := hw _ (List.mem_of_getElem? (i := 18) rfl)
  have w_19 := hw _ (List.mem_of_getElem? (i := 19) rfl)
  have w_20 := hw _ (List.mem_of_getElem? (i := 20) rfl)
  have w_21 := hw _ (List.mem_of_getElem? (i := 21) rfl)
  have w_22 := hw _ (List.mem_of_getElem? (i := 22) rfl)
  have w_23 := hw _ (List.mem_of_getElem? (i := 23) rfl)
  have w_25 := hw _ (List.mem_of_getElem? (i := 25) rfl)
  have w_26 := hw _ (List.mem_of_getElem? (i := 26) rfl)
  have w_27 := hw _ (List.mem_of_getElem? (i := 27) rfl)
  have w_28 := hw _ (List.mem_of_getElem? (i := 28) rfl)
  have w_29 := hw _ (List.mem_of_getElem? (i := 29) rfl)
  have w_30 := hw _ (List.mem_of_getElem? (i := 30) rfl)
  have w_31 := hw _ (List.mem_of_getElem? (i := 31) rfl)
  have w_32 := hw _ (List.mem_of_getElem? (i := 32) rfl)
  have w_33 := hw _ (List.mem_of_getElem? (i := 33) rfl)
  have w_34 := hw _ (List.mem_of_getElem? (i := 34) rfl)
  have w_35 := hw _ (List.mem_of_getElem? (i := 35) rfl)
  have w_36 := hw _ (List.mem_of_getElem? (i := 36) rfl)
  have w_37 := hw _ (List.mem_of_getElem? (i := 37) rfl)
  have w_38 := hw _ (List.mem_of_getElem? (i := 38) rfl)
  have w_39 := hw _ (List.mem_of_getElem? (i := 39) rfl)
  have w_40 := hw _ (List.mem_of_getElem? (i := 40) rfl)
  have first_ : Rn p e below (s₁.setTop (mkF m 0 #[.val (.int p0), .val (.int p1), .val (.int p2), .val (.int p3), .val (.int p4), .val (.int p5), .unset, .unset, .unset, .unset, .unset, .unset, .unset, .unset, .unset, .unset, .unset, .unset, .unset] [])) (Fn0 Z p0 p1 p2 p3 p4 p5 h0 n0 s) := by
    generalize hG : (Fn0 Z p0 p1 p2 p3 p4 p5 h0 n0 s) = G
    refine R.iconst X0 hx (hb hby at_0) (v := (1 : Int32)) (by decide) (pc' := 1) rfl ?_
    refine R.iloadN X0 hx (hb hby at_1) rfl (pc' := 2) rfl ?_
    refine R.iconst X0 hx (hb hby at_2) (v := (3 : Int32)) (by decide) (pc' := 3) rfl ?_
    refine R.iand X0 hx (hb hby at_3) rfl (pc' := 4) rfl ?_
    refine R.iadd X0 hx (hb hby at_4) rfl (pc' := 5) rfl ?_
    show Rn p e below (s₁.setTop (mkF m 5 #[.val (.int p0), .val (.int p1), .val (.int p2), .val (.int p3), .val (.int p4), .val (.int p5), .unset, .unset, .unset, .unset, .unset, .unset, .unset, .unset, .unset, .unset, .unset, .unset, .unset] [(.int ((1 : Int32) + (p0 &&& (3 : Int32))))])) G
    generalize hi1 : ((1 : Int32) + (p0 &&& (3 : Int32))) = i1
    refine R.istore X0 hx (hb hby at_5) (L' := #[.val (.int p0), .val (.int p1), .val (.int p2), .val (.int p3), .val (.int p4), .val (.int p5), .val (.int i1), .unset, .unset, .unset, .unset, .unset, .unset, .unset, .unset, .unset, .unset, .unset, .unset]) rfl (pc' := 7) rfl ?_
    have hn := own_n hi1
    refine R.iloadN X0 hx (hb hby at_7) rfl (pc' := 8) rfl ?_
    refine R.ldcI X0 hx hZ hown w_0 (hb hby at_8) (pc' := 10) rfl ?_
    refine R.iand X0 hx (hb hby at_10) rfl (pc' := 11) rfl ?_
    refine R.iload X0 hx (hb hby at_11) rfl (pc' := 13) rfl ?_
    refine R.irem X0 hx (hb hby at_13) (own_nz hn.1 : i1 ≠ (0 : Int32)) (pc' := 14) rfl ?_
    show Rn p e below (s₁.setTop (mkF m 14 #[.val (.int p0), .val (.int p1), .val (.int p2), .val (.int p3), .val (.int p4), .val (.int p5), .val (.int i1), .unset, .unset, .unset, .unset, .unset, .unset, .unset, .unset, .unset, .unset, .unset, .unset] [(.int ((p1 &&& (2147483647 : Int32)) % i1))])) G
    generalize hi2 : ((p1 &&& (2147483647 : Int32)) % i1) = i2
    refine R.istore X0 hx (hb hby at_14) (L' := #[.val (.int p0), .val (.int p1), .val (.int p2), .val (.int p3), .val (.int p4), .val (.int p5), .val (.int i1), .val (.int i2), .unset, .unset, .unset, .unset, .unset, .unset, .unset, .unset, .unset, .unset, .unset]) rfl (pc' := 16) rfl ?_
    refine R.iloadN X0 hx (hb hby at_16) rfl (pc' := 17) rfl ?_
    refine R.ldcI X0 hx hZ hown w_0 (hb hby at_17) (pc' := 19) rfl ?_
    refine R.iand X0 hx (hb hby at_19) rfl (pc' := 20) rfl ?_
    refine R.iload X0 hx (hb hby at_20) rfl (pc' := 22) rfl ?_
    refine R.irem X0 hx (hb hby at_22) (own_nz hn.1 : i1 ≠ (0 : Int32)) (pc' := 23) rfl ?_
    show Rn p e below (s₁.setTop (mkF m 23 #[.val (.int p0), .val (.int p1), .val (.int p2), .val (.int p3), .val (.int p4), .val (.int p5), .val (.int i1), .val (.int i2), .unset, .unset, .unset, .unset, .unset, .unset, .unset, .unset, .unset, .unset, .unset] [(.int ((p2 &&& (2147483647 : Int32)) % i1))])) G
    generalize hi3 : ((p2 &&& (2147483647 : Int32)) % i1) = i3
    refine R.istore X0 hx (hb hby at_23) (L' := #[.val (.int p0), .val (.int p1), .val (.int p2), .val (.int p3), .val (.int p4), .val (.int p5), .val (.int i1), .val (.int i2), .val (.int i3), .unset, .unset, .unset, .unset, .unset, .unset, .unset, .unset, .unset, .unset]) rfl (pc' := 25) rfl ?_
    refine R.iloadN X0 hx (hb hby at_25) rfl (pc' := 26) rfl ?_
    refine R.ldcI X0 hx hZ hown w_0 (hb hby at_26) (pc' := 28) rfl ?_
    refine R.iand X0 hx (hb hby at_28) rfl (pc' := 29) rfl ?_
    refine R.iload X0 hx (hb hby at_29) rfl (pc' := 31) rfl ?_
    refine R.irem X0 hx (hb hby at_31) (own_nz hn.1 : i1 ≠ (0 : Int32)) (pc' := 32) rfl ?_
    show Rn p e below (s₁.setTop (mkF m 32 #[.val (.int p0), .val (.int p1), .val (.int p2), .val (.int p3), .val (.int p4), .val (.int p5), .val (.int i1), .val (.int i2), .val (.int i3), .unset, .unset, .unset, .unset, .unset, .unset, .unset, .unset, .unset, .unset] [(.int ((p3 &&& (2147483647 : Int32)) % i1))])) G
    generalize hi4 : ((p3 &&& (2147483647 : Int32)) % i1) = i4
    refine R.istore X0 hx (hb hby at_32) (L' := #[.val (.int p0), .val (.int p1), .val (.int p2), .val (.int p3), .val (.int p4), .val (.int p5), .val (.int i1), .val (.int i2), .val (.int i3), .val (.int i4), .unset, .unset, .unset, .unset, .unset, .unset, .unset, .unset, .unset]) rfl (pc' := 34) rfl ?_
    refine R.iloadN X0 hx (hb hby at_34) rfl (pc' := 35) rfl ?_
    refine R.iconst X0 hx (hb hby at_35) (v := (2 : Int32)) (by decide) (pc' := 36) rfl ?_
    refine R.iushr X0 hx (hb hby at_36) (pc' := 37) rfl ?_
    refine R.iload X0 hx (hb hby at_37) rfl (pc' := 39) rfl ?_
    refine R.irem X0 hx (hb hby at_39) (own_nz hn.1 : i1 ≠ (0 : Int32)) (pc' := 40) rfl ?_
    show Rn p e below (s₁.setTop (mkF m 40 #[.val (.int p0), .val (.int p1), .val (.int p2), .val (.int p3), .val (.int p4), .val (.int p5), .val (.int i1), .val (.int i2), .val (.int i3), .val (.int i4), .unset, .unset, .unset, .unset, .unset, .unset, .unset, .unset, .unset] [(.int (((p0.toUInt32 >>> ((2 : Int32) &&& 31).toUInt32).toInt32) % i1))])) G
    generalize hi5 : (((p0.toUInt32 >>> ((2 : Int32) &&& 31).toUInt32).toInt32) % i1) = i5
    refine R.istore X0 hx (hb hby at_40) (L' := #[.val (.int p0), .val (.int p1), .val (.int p2), .val (.int p3), .val (.int p4), .val (.int p5), .val (.int i1), .val (.int i2), .val (.int i3), .val (.int i4), .val (.int i5), .unset, .unset, .unset, .unset, .unset, .unset, .unset, .unset]) rfl (pc' := 42) rfl ?_
    refine R.iload X0 hx (hb hby at_42) rfl (pc' := 44) rfl ?_
    refine R.i2s X0 hx (hb hby at_44) (pc' := 45) rfl ?_
    show Rn p e below (s₁.setTop (mkF m 45 #[.val (.int p0), .val (.int p1), .val (.int p2), .val (.int p3), .val (.int p4), .val (.int p5), .val (.int i1), .val (.int i2), .val (.int i3), .val (.int i4), .val (.int i5), .unset, .unset, .unset, .unset, .unset, .unset, .unset, .unset] [(.int (p4.toInt16.toInt32))])) G
    generalize hi6 : (p4.toInt16.toInt32) = i6
    refine R.istore X0 hx (hb hby at_45) (L' := #[.val (.int p0), .val (.int p1), .val (.int p2), .val (.int p3), .val (.int p4), .val (.int p5), .val (.int i1), .val (.int i2), .val (.int i3), .val (.int i4), .val (.int i5), .val (.int i6), .unset, .unset, .unset, .unset, .unset, .unset, .unset]) rfl (pc' := 47) rfl ?_
    refine R.iload X0 hx (hb hby at_47) rfl (pc' := 49) rfl ?_
    refine R.bipush X0 hx (hb hby at_49) (v := (16 : Int32)) (by decide) (pc' := 51) rfl ?_
    refine R.ishr X0 hx (hb hby at_51) (pc' := 52) rfl ?_
    refine R.i2s X0 hx (hb hby at_52) (pc' := 53) rfl ?_
    show Rn p e below (s₁.setTop (mkF m 53 #[.val (.int p0), .val (.int p1), .val (.int p2), .val (.int p3), .val (.int p4), .val (.int p5), .val (.int i1), .val (.int i2), .val (.int i3), .val (.int i4), .val (.int i5), .val (.int i6), .unset, .unset, .unset, .unset, .unset, .unset, .unset] [(.int ((p4 >>> ((16 : Int32) &&& 31)).toInt16.toInt32))])) G
    generalize hi7 : ((p4 >>> ((16 : Int32) &&& 31)).toInt16.toInt32) = i7
    refine R.istore X0 hx (hb hby at_53) (L' := #[.val (.int p0), .val (.int p1), .val (.int p2), .val (.int p3), .val (.int p4), .val (.int p5), .val (.int i1), .val (.int i2), .val (.int i3), .val (.int i4), .val (.int i5), .val (.int i6), .val (.int i7), .unset, .unset, .unset, .unset, .unset, .unset]) rfl (pc' := 55) rfl ?_
    refine R.iload X0 hx (hb hby at_55) rfl (pc' := 57) rfl ?_
    refine R.i2s X0 hx (hb hby at_57) (pc' := 58) rfl ?_
    show Rn p e below (s₁.setTop (mkF m 58 #[.val (.int p0), .val (.int p1), .val (.int p2), .val (.int p3), .val (.int p4), .val (.int p5), .val (.int i1), .val (.int i2), .val (.int i3), .val (.int i4), .val (.int i5), .val (.int i6), .val (.int i7), .unset, .unset, .unset, .unset, .unset, .unset] [(.int (p5.toInt16.toInt32))])) G
    generalize hi8 : (p5.toInt16.toInt32) = i8
    refine R.istore X0 hx (hb hby at_58) (L' := #[.val (.int p0), .val (.int p1), .val (.int p2), .val (.int p3), .val (.int p4), .val (.int p5), .val (.int i1), .val (.int i2), .val (.int i3), .val (.int i4), .val (.int i5), .val (.int i6), .val (.int i7), .val (.int i8), .unset, .unset, .unset, .unset, .unset]) rfl (pc' := 60) rfl ?_
    have r_7 := own_ix (by decide) hn.1 hi2
    have r_8 := own_ix (by decide) hn.1 hi3
    have r_9 := own_ix (by decide) hn.1 hi4
    have r_10 := own_ix2 hn.1 hi5
    have v_11 := own_sh hi6
    have v_12 := own_sh hi7
    have v_13 := own_sh hi8
    refine R.newO X0 hx hZ hown w_1 w_2 w_3 e0 (hb hby at_60) (pc' := 63) rfl (by decide) (by decide) ?_; intro T9 h9 b9 g9 X9 e9 E9 A9 D9
    have g_b9 : n0 ≤ b9 := Nat.le_trans Z0 (Nat.le_of_eq g9.symm)
    have sz_b9 : h0.size ≤ b9 := Nat.le_trans K0.1 (Nat.le_of_eq g9.symm)
    have K9 : Keep h0 h9 [] := K0.ext E9
    have Z9 : n0 ≤ h9.size := Nat.le_trans Z0 E9.1
    have E_b9 := A9
    have F_scores_b9 : Fld Z h9 b9 "com/example/maat/maat/search/Accumulator" "scores" "[D" .null := D9 (Or.inr w_12) (ty := (.array .double)) (by decide)
    have F_retrieved_b9 : Fld Z h9 b9 "com/example/maat/maat/search/Accumulator" "retrieved" "[Z" .null := D9 (Or.inr w_15) (ty := (.array .boolean)) (by decide)
    have F_documents_b9 : Fld Z h9 b9 "com/example/maat/maat/search/Accumulator" "documents" "[I" .null := D9 (Or.inr w_18) (ty := (.array .int)) (by decide)
    have F_size_b9 : Fld Z h9 b9 "com/example/maat/maat/search/Accumulator" "size" "I" (.int (0 : Int32)) := D9 (Or.inl w_25) (ty := .int) (by decide)
    refine R.dup X9 hx (hb hby at_63) rfl (pc' := 64) rfl ?_
    refine R.iload X9 hx (hb hby at_64) rfl (pc' := 66) rfl ?_
    refine R.special X9 hx hZ (y := mY0) rfl hown w_4 w_5 w_3 w_6 (by decide) e9 (rm1 l Z aZ hw [] b9 i1 h9 n0 Z9 E_b9 F_scores_b9 F_retrieved_b9 F_documents_b9 F_size_b9 g_b9 (own_pos hn.1) (own_cap hn)) (by decide) (W := 1) (Nat.le_of_eq rfl) (by decide) (by rw [hml]; rfl) (lenOf pd_0 rfl) rfl (hb hby at_66) (pc' := 69) rfl (by decide) (by decide) ?_; intro v10 T10 L10 X10 hQ10
    obtain ⟨sc_10, rt_10, dc_10, ks_10, kr_10, kd_10, rfl, N10q, Kc10, P10_0, P10_1, P10_2, P10_3, P10_4, P10_5, P10_6, P10_7, P10_8, P10_9, P10_10, P10_11, P10_12, P10_13⟩ := hQ10
    have N10 := Fr.app N0 N10q
    generalize e10 : T10.heap = h10 at Kc10 P10_0 P10_1 P10_2 P10_3 P10_4 P10_5 P10_6 P10_7 P10_8 P10_9 P10_10 P10_11 P10_12 P10_13
    have K10 : Keep h0 h10 [] := K9.trans Kc10 ((allS (Or.inr sz_b9) all0))
    have Z10 : n0 ≤ h10.size := Nat.le_trans Z9 Kc10.1
    have ne_b9_sc_10 : b9 ≠ sc_10 := Nat.ne_of_lt (Nat.lt_of_lt_of_le E_b9.lt P10_0)
    have g_sc_10 : n0 ≤ sc_10 := Nat.le_trans Z9 P10_0
    have sz_sc_10 : h0.size ≤ sc_10 := Nat.le_trans K9.1 P10_0
    have ne_b9_rt_10 : b9 ≠ rt_10 := Nat.ne_of_lt (Nat.lt_of_lt_of_le E_b9.lt P10_1)
    have g_rt_10 : n0 ≤ rt_10 := Nat.le_trans Z9 P10_1
    have sz_rt_10 : h0.size ≤ rt_10 := Nat.le_trans K9.1 P10_1
    have ne_b9_dc_10 : b9 ≠ dc_10 := Nat.ne_of_lt (Nat.lt_of_lt_of_le E_b9.lt P10_2)
    have g_dc_10 : n0 ≤ dc_10 := Nat.le_trans Z9 P10_2
    have sz_dc_10 : h0.size ≤ dc_10 := Nat.le_trans K9.1 P10_2
    have f_sc_10 := P10_0
    have f_rt_10 := P10_1
    have f_dc_10 := P10_2
    have ne_sc_10_rt_10 : sc_10 ≠ rt_10 := P10_3
    have ne_sc_10_dc_10 : sc_10 ≠ dc_10 := P10_4
    have ne_rt_10_dc_10 : rt_10 ≠ dc_10 := P10_5
    have E_b9 : Exa Z h10 b9 "com/example/maat/maat/search/Accumulator" := P10_6
    have F_scores_b9 : Fld Z h10 b9 "com/example/maat/maat/search/Accumulator" "scores" "[D" (.ref sc_10) := P10_7
    have F_retrieved_b9 : Fld Z h10 b9 "com/example/maat/maat/search/Accumulator" "retrieved" "[Z" (.ref rt_10) := P10_8
    have F_documents_b9 : Fld Z h10 b9 "com/example/maat/maat/search/Accumulator" "documents" "[I" (.ref dc_10) := P10_9
    have F_size_b9 : Fld Z h10 b9 "com/example/maat/maat/search/Accumulator" "size" "I" (.int (0 : Int32)) := P10_10
    have V_sc_10 : Arh Z h10 sc_10 ks_10 .double i1 [] [] (.double (0 : UInt64)) := P10_11
    have V_sc_10 : Arh Z h10 sc_10 ks_10 .double i1 [] [] (.double (0 : UInt64)) := V_sc_10
    have V_rt_10 : Arh Z h10 rt_10 kr_10 .boolean i1 [] [] (.int (0 : Int32)) := P10_12
    have V_rt_10 : Arh Z h10 rt_10 kr_10 .boolean i1 [] [] (.int (0 : Int32)) := V_rt_10
    have V_dc_10 : Arh Z h10 dc_10 kd_10 .int i1 [] [] (.int (0 : Int32)) := P10_13
    have V_dc_10 : Arh Z h10 dc_10 kd_10 .int i1 [] [] (.int (0 : Int32)) := V_dc_10
    refine R.astore X10 hx (hb hby at_69) rfl (L' := #[.val (.int p0), .val (.int p1), .val (.int p2), .val (.int p3), .val (.int p4), .val (.int p5), .val (.int i1), .val (.int i2), .val (.int i3), .val (.int i4), .val (.int i5), .val (.int i6), .val (.int i7), .val (.int i8), .val (.ref b9), .unset, .unset, .unset, .unset]) rfl (pc' := 71) rfl ?_
    refine R.aload X10 hx (hb hby at_71) rfl rfl (pc' := 73) rfl ?_
    refine R.iload X10 hx (hb hby at_73) rfl (pc' := 75) rfl ?_
    refine R.iload X10 hx (hb hby at_75) rfl (pc' := 77) rfl ?_
    refine R.i2d X10 hx (hb hby at_77) (pc' := 78) rfl ?_
    refine R.virtual X10 hx hZ (y := mY1) (z := mY1) hown w_19 w_20 (notFace_of_selects (args := #[]) (mvT hZ w_22)) w_22 w_21 w_3 w_23 (by decide) e10 E_b9 (rmnew l Z aZ hw [] b9 i2 (FP.i2d i6) sc_10 ks_10 [] rt_10 kr_10 [] dc_10 kd_10 [] i1 (0 : UInt64) (0 : Int32) h10 n0 Z10 E_b9 F_scores_b9 F_retrieved_b9 F_documents_b9 F_size_b9 g_b9 V_sc_10 V_rt_10 V_dc_10 g_sc_10 g_rt_10 g_dc_10 ne_b9_sc_10 ne_b9_rt_10 ne_b9_dc_10 ne_sc_10_rt_10 ne_sc_10_dc_10 ne_rt_10_dc_10 (own_getH_nil _ _) (own_getH_nil _ _) ((Dy.add own_zero (Dy.i2d i6) (by omega) (by decide)).nn) ((own_bd (show 0 ≤ i2.toInt ∧ i2.toInt < i1.toInt by omega) : ¬ i2 < 0 ∧ i2 < i1)) ((own_bd (show (0 : Int) ≤ 0 ∧ (0 : Int) < i1.toInt by omega) : ¬ (0 : Int32) < 0 ∧ (0 : Int32) < i1))) (by decide) (W := 0) (Nat.le_of_eq rfl) (by decide) (by rw [hml]; rfl) (lenOf pd_1 rfl) rfl (hb hby at_78) (pc' := 81) rfl (by decide) (by decide) ?_; intro v11 T11 L11 X11 hQ11
    obtain ⟨rfl, N11q, Kc11, P11_0, P11_1, P11_2, P11_3, P11_4, P11_5, P11_6, P11_7⟩ := hQ11
    have N11 := Fr.app N10 N11q
    generalize e11 : T11.heap = h11 at Kc11 P11_0 P11_1 P11_2 P11_3 P11_4 P11_5 P11_6 P11_7
    have K11 : Keep h0 h11 [] := K10.trans Kc11 ((allS (Or.inr sz_b9) (allS (Or.inr sz_sc_10) (allS (Or.inr sz_rt_10) (allS (Or.inr sz_dc_10) all0)))))
    have Z11 : n0 ≤ h11.size := Nat.le_trans Z10 Kc11.1
    have E_b9 : Exa Z h11 b9 "com/example/maat/maat/search/Accumulator" := P11_0
    have F_scores_b9 : Fld Z h11 b9 "com/example/maat/maat/search/Accumulator" "scores" "[D" (.ref sc_10) := P11_1
    have F_retrieved_b9 : Fld Z h11 b9 "com/example/maat/maat/search/Accumulator" "retrieved" "[Z" (.ref rt_10) := P11_2
    have F_documents_b9 : Fld Z h11 b9 "com/example/maat/maat/search/Accumulator" "documents" "[I" (.ref dc_10) := P11_3
    have F_size_b9 : Fld Z h11 b9 "com/example/maat/maat/search/Accumulator" "size" "I" (.int (1 : Int32)) := P11_4
    have V_sc_10 : Arh Z h11 sc_10 ks_10 .double i1 ((i2, (.double (FP.dadd (0 : UInt64) (FP.i2d i6)))) :: []) [] (.double (0 : UInt64)) := P11_5
    have V_sc_10 : Arh Z h11 sc_10 ks_10 .double i1 [(i2, (.double (FP.dadd (0 : UInt64) (FP.i2d i6))))] [] (.double (0 : UInt64)) := V_sc_10
    have V_rt_10 : Arh Z h11 rt_10 kr_10 .boolean i1 ((i2, (.int (1 : Int32))) :: []) [] (.int (0 : Int32)) := P11_6
    have V_rt_10 : Arh Z h11 rt_10 kr_10 .boolean i1 [(i2, (.int (1 : Int32)))] [] (.int (0 : Int32)) := V_rt_10
    have V_dc_10 : Arh Z h11 dc_10 kd_10 .int i1 (((0 : Int32), (.int i2)) :: []) [] (.int (0 : Int32)) := P11_7
    have V_dc_10 : Arh Z h11 dc_10 kd_10 .int i1 [((0 : Int32), (.int i2))] [] (.int (0 : Int32)) := V_dc_10
    by_cases hq_i3_i2 : i3 = i2
    · have e_i3_i2 : i3.toInt = i2.toInt := congrArg Int32.toInt hq_i3_i2
      refine R.aload X11 hx (hb hby at_81) rfl rfl (pc' := 83) rfl ?_
      refine R.iload X11 hx (hb hby at_83) rfl (pc' := 85) rfl ?_
      refine R.iload X11 hx (hb hby at_85) rfl (pc' := 87) rfl ?_
      refine R.i2d X11 hx (hb hby at_87) (pc' := 88) rfl ?_
      refine R.virtual X11 hx hZ (y := mY1) (z := mY1) hown w_19 w_20 (notFace_of_selects (args := #[]) (mvT hZ w_22)) w_22 w_21 w_3 w_23 (by decide) e11 E_b9 (rmold l Z aZ hw [] b9 i3 (FP.i2d i7) sc_10 ks_10 [(i2, (.double (FP.dadd (0 : UInt64) (FP.i2d i6))))] rt_10 kr_10 [(i2, (.int (1 : Int32)))] i1 (FP.dadd (0 : UInt64) (FP.i2d i6)) h11 n0 Z11 F_scores_b9 F_retrieved_b9 V_sc_10 V_rt_10 g_sc_10 ne_b9_sc_10 ne_sc_10_rt_10 (getH_hit ((own_bd (show 0 ≤ i3.toInt ∧ i3.toInt < i1.toInt by omega) : ¬ i3 < 0 ∧ i3 < i1)).1 (own_eqI (by omega))) (getH_hit ((own_bd (show 0 ≤ i3.toInt ∧ i3.toInt < i1.toInt by omega) : ¬ i3 < 0 ∧ i3 < i1)).1 (own_eqI (by omega))) ((Dy.add (Dy.add own_zero (Dy.i2d i6) (by omega) (by decide)) (Dy.i2d i7) (by omega) (by decide)).nn) ((own_bd (show 0 ≤ i3.toInt ∧ i3.toInt < i1.toInt by omega) : ¬ i3 < 0 ∧ i3 < i1))) (by decide) (W := 0) (Nat.le_of_eq rfl) (by decide) (by rw [hml]; rfl) (lenOf pd_1 rfl) rfl (hb hby at_88) (pc' := 91) rfl (by decide) (by decide) ?_; intro v12 T12 L12 X12 hQ12
      obtain ⟨rfl, N12q, Kc12, P12_0⟩ := hQ12
      have N12 := Fr.app N11 N12q
      generalize e12 : T12.heap = h12 at Kc12 P12_0
      have K12 : Keep h0 h12 [] := K11.trans Kc12 ((allS (Or.inr sz_sc_10) all0))
      have Z12 : n0 ≤ h12.size := Nat.le_trans Z11 Kc12.1
      have E_b9 := E_b9.keep Kc12
      have F_scores_b9 := F_scores_b9.keep Kc12 (ninS ne_b9_sc_10 nin0)
      have F_retrieved_b9 := F_retrieved_b9.keep Kc12 (ninS ne_b9_sc_10 nin0)
      have F_documents_b9 := F_documents_b9.keep Kc12 (ninS ne_b9_sc_10 nin0)
      have F_size_b9 := F_size_b9.keep Kc12 (ninS ne_b9_sc_10 nin0)
      have V_rt_10 := V_rt_10.keep Kc12 (ninS (Ne.symm ne_sc_10_rt_10) nin0)
      have V_dc_10 := V_dc_10.keep Kc12 (ninS (Ne.symm ne_sc_10_dc_10) nin0)
      have V_sc_10 : Arh Z h12 sc_10 ks_10 .double i1 ((i3, (.double (FP.dadd (FP.dadd (0 : UInt64) (FP.i2d i6)) (FP.i2d i7)))) :: [(i2, (.double (FP.dadd (0 : UInt64) (FP.i2d i6))))]) [] (.double (0 : UInt64)) := P12_0
      have V_sc_10 : Arh Z h12 sc_10 ks_10 .double i1 [(i3, (.double (FP.dadd (FP.dadd (0 : UInt64) (FP.i2d i6)) (FP.i2d i7)))), (i2, (.double (FP.dadd (0 : UInt64) (FP.i2d i6))))] [] (.double (0 : UInt64)) := V_sc_10
      by_cases hq_i4_i2 : i4 = i2
      · have e_i4_i2 : i4.toInt = i2.toInt := congrArg Int32.toInt hq_i4_i2
        refine R.aload X12 hx (hb hby at_91) rfl rfl (pc' := 93) rfl ?_
        refine R.iload X12 hx (hb hby at_93) rfl (pc' := 95) rfl ?_
        refine R.iload X12 hx (hb hby at_95) rfl (pc' := 97) rfl ?_
        refine R.i2d X12 hx (hb hby at_97) (pc' := 98) rfl ?_
        refine R.virtual X12 hx hZ (y := mY1) (z := mY1) hown w_19 w_20 (notFace_of_selects (args := #[]) (mvT hZ w_22)) w_22 w_21 w_3 w_23 (by decide) e12 E_b9 (rmold l Z aZ hw [] b9 i4 (FP.i2d i8) sc_10 ks_10 [(i3, (.double (FP.dadd (FP.dadd (0 : UInt64) (FP.i2d i6)) (FP.i2d i7)))), (i2, (.double (FP.dadd (0 : UInt64) (FP.i2d i6))))] rt_10 kr_10 [(i2, (.int (1 : Int32)))] i1 (FP.dadd (FP.dadd (0 : UInt64) (FP.i2d i6)) (FP.i2d i7)) h12 n0 Z12 F_scores_b9 F_retrieved_b9 V_sc_10 V_rt_10 g_sc_10 ne_b9_sc_10 ne_sc_10_rt_10 (getH_hit ((own_bd (show 0 ≤ i4.toInt ∧ i4.toInt < i1.toInt by omega) : ¬ i4 < 0 ∧ i4 < i1)).1 (own_eqI (by omega))) (getH_hit ((own_bd (show 0 ≤ i4.toInt ∧ i4.toInt < i1.toInt by omega) : ¬ i4 < 0 ∧ i4 < i1)).1 (own_eqI (by omega))) ((Dy.add (Dy.add (Dy.add own_zero (Dy.i2d i6) (by omega) (by decide)) (Dy.i2d i7) (by omega) (by decide)) (Dy.i2d i8) (by omega) (by decide)).nn) ((own_bd (show 0 ≤ i4.toInt ∧ i4.toInt < i1.toInt by omega) : ¬ i4 < 0 ∧ i4 < i1))) (by decide) (W := 0) (Nat.le_of_eq rfl) (by decide) (by rw [hml]; rfl) (lenOf pd_1 rfl) rfl (hb hby at_98) (pc' := 101) rfl (by decide) (by decide) ?_; intro v13 T13 L13 X13 hQ13
        obtain ⟨rfl, N13q, Kc13, P13_0⟩ := hQ13
        have N13 := Fr.app N12 N13q
        generalize e13 : T13.heap = h13 at Kc13 P13_0
        have K13 : Keep h0 h13 [] := K12.trans Kc13 ((allS (Or.inr sz_sc_10) all0))
        have Z13 : n0 ≤ h13.size := Nat.le_trans Z12 Kc13.1
        have E_b9 := E_b9.keep Kc13
        have F_scores_b9 := F_scores_b9.keep Kc13 (ninS ne_b9_sc_10 nin0)
        have F_retrieved_b9 := F_retrieved_b9.keep Kc13 (ninS ne_b9_sc_10 nin0)
        have F_documents_b9 := F_documents_b9.keep Kc13 (ninS ne_b9_sc_10 nin0)
        have F_size_b9 := F_size_b9.keep Kc13 (ninS ne_b9_sc_10 nin0)
        have V_rt_10 := V_rt_10.keep Kc13 (ninS (Ne.symm ne_sc_10_rt_10) nin0)
        have V_dc_10 := V_dc_10.keep Kc13 (ninS (Ne.symm ne_sc_10_dc_10) nin0)
        have V_sc_10 : Arh Z h13 sc_10 ks_10 .double i1 ((i4, (.double (FP.dadd (FP.dadd (FP.dadd (0 : UInt64) (FP.i2d i6)) (FP.i2d i7)) (FP.i2d i8)))) :: [(i3, (.double (FP.dadd (FP.dadd (0 : UInt64) (FP.i2d i6)) (FP.i2d i7)))), (i2, (.double (FP.dadd (0 : UInt64) (FP.i2d i6))))]) [] (.double (0 : UInt64)) := P13_0
        have V_sc_10 : Arh Z h13 sc_10 ks_10 .double i1 [(i4, (.double (FP.dadd (FP.dadd (FP.dadd (0 : UInt64) (FP.i2d i6)) (FP.i2d i7)) (FP.i2d i8)))), (i3, (.double (FP.dadd (FP.dadd (0 : UInt64) (FP.i2d i6)) (FP.i2d i7)))), (i2, (.double (FP.dadd (0 : UInt64) (FP.i2d i6))))] [] (.double (0 : UInt64)) := V_sc_10
        refine R.iload X13 hx (hb hby at_101) rfl (pc' := 103) rfl ?_
        refine R.iload X13 hx (hb hby at_103) rfl (pc' := 105) rfl ?_
        refine R.icmpYes X13 hx (hb hby at_105) (teq (own_eqI (by omega) : i3 = i2)).1 (by decide) (pc' := 112) (by decide) ?_
        refine R.iconst X13 hx (hb hby at_112) (v := (0 : Int32)) (by decide) (pc' := 113) rfl ?_
        refine R.istore X13 hx (hb hby at_113) (L' := #[.val (.int p0), .val (.int p1), .val (.int p2), .val (.int p3), .val (.int p4), .val (.int p5), .val (.int i1), .val (.int i2), .val (.int i3), .val (.int i4), .val (.int i5), .val (.int i6), .val (.int i7), .val (.int i8), .val (.ref b9), .val (.int (0 : Int32)), .unset, .unset, .unset]) rfl (pc' := 115) rfl ?_
        refine R.iload X13 hx (hb hby at_115) rfl (pc' := 117) rfl ?_
        refine R.iload X13 hx (hb hby at_117) rfl (pc' := 119) rfl ?_
        refine R.icmpYes X13 hx (hb hby at_119) (teq (own_eqI (by omega) : i4 = i2)).1 (by decide) (pc' := 133) (by decide) ?_
        refine R.iconst X13 hx (hb hby at_133) (v := (0 : Int32)) (by decide) (pc' := 134) rfl ?_
        refine R.istore X13 hx (hb hby at_134) (L' := #[.val (.int p0), .val (.int p1), .val (.int p2), .val (.int p3), .val (.int p4), .val (.int p5), .val (.int i1), .val (.int i2), .val (.int i3), .val (.int i4), .val (.int i5), .val (.int i6), .val (.int i7), .val (.int i8), .val (.ref b9), .val (.int (0 : Int32)), .val (.int (0 : Int32)), .unset, .unset]) rfl (pc' := 136) rfl ?_
        refine R.iconst X13 hx (hb hby at_136) (v := (1 : Int32)) (by decide) (pc' := 137) rfl ?_
        refine R.iload X13 hx (hb hby at_137) rfl (pc' := 139) rfl ?_
        refine R.ifYes X13 hx (hb hby at_139) (teq (by decide : (0 : Int32) = (0 : Int32))).1 (by decide) (pc' := 146) (by decide) ?_
        refine R.iconst X13 hx (hb hby at_146) (v := (0 : Int32)) (by decide) (pc' := 147) rfl ?_
        refine R.iadd X13 hx (hb hby at_147) (v := (1 : Int32)) (by decide) (pc' := 148) rfl ?_
        refine R.iload X13 hx (hb hby at_148) rfl (pc' := 150) rfl ?_
        refine R.ifYes X13 hx (hb hby at_150) (teq (by decide : (0 : Int32) = (0 : Int32))).1 (by decide) (pc' := 157) (by decide) ?_
        refine R.iconst X13 hx (hb hby at_157) (v := (0 : Int32)) (by decide) (pc' := 158) rfl ?_
        refine R.iadd X13 hx (hb hby at_158) (v := (1 : Int32)) (by decide) (pc' := 159) rfl ?_
        refine R.istore X13 hx (hb hby at_159) (L' := #[.val (.int p0), .val (.int p1), .val (.int p2), .val (.int p3), .val (.int p4), .val (.int p5), .val (.int i1), .val (.int i2), .val (.int i3), .val (.int i4), .val (.int i5), .val (.int i6), .val (.int i7), .val (.int i8), .val (.ref b9), .val (.int (0 : Int32)), .val (.int (0 : Int32)), .val (.int (1 : Int32)), .unset]) rfl (pc' := 161) rfl ?_
        refine R.aload X13 hx (hb hby at_161) rfl rfl (pc' := 163) rfl ?_
        refine R.virtual X13 hx hZ (y := mY2) (z := mY2) hown w_26 w_27 (notFace_of_selects (args := #[]) (mvT hZ w_29)) w_29 w_28 w_3 w_30 (by decide) e13 E_b9 (rm4 l Z aZ hw [] b9 (1 : Int32) h13 n0 Z13 F_size_b9) (by decide) (W := 0) (Nat.le_of_eq rfl) (by decide) (by rw [hml]; rfl) (lenOf pd_2 rfl) rfl (hb hby at_163) (pc' := 166) rfl (by decide) (by decide) ?_; intro v14 T14 L14 X14 hQ14
        obtain ⟨rfl, N14q, e14⟩ := hQ14
        have N14 := Fr.app N13 N14q
        refine R.iload X14 hx (hb hby at_166) rfl (pc' := 168) rfl ?_
        refine R.icmpYes X14 hx (hb hby at_168) (teq (by decide : (1 : Int32) = (1 : Int32))).1 (by decide) (pc' := 173) (by decide) ?_
        refine R.aload X14 hx (hb hby at_173) rfl rfl (pc' := 175) rfl ?_
        refine R.iconst X14 hx (hb hby at_175) (v := (0 : Int32)) (by decide) (pc' := 176) rfl ?_
        refine R.virtual X14 hx hZ (y := mY3) (z := mY3) hown w_31 w_32 (notFace_of_selects (args := #[]) (mvT hZ w_34)) w_34 w_33 w_3 w_35 (by decide) e14 E_b9 (rm5 l Z aZ hw [] b9 (0 : Int32) dc_10 kd_10 [((0 : Int32), (.int i2))] i1 i2 h13 n0 Z13 F_documents_b9 V_dc_10 (getH_hit ((own_bd (show (0 : Int) ≤ 0 ∧ (0 : Int) < i1.toInt by omega) : ¬ (0 : Int32) < 0 ∧ (0 : Int32) < i1)).1 (rfl)) ((own_bd (show (0 : Int) ≤ 0 ∧ (0 : Int) < i1.toInt by omega) : ¬ (0 : Int32) < 0 ∧ (0 : Int32) < i1))) (by decide) (W := 0) (Nat.le_of_eq rfl) (by decide) (by rw [hml]; rfl) (lenOf pd_3 rfl) rfl (hb hby at_176) (pc' := 179) rfl (by decide) (by decide) ?_; intro v15 T15 L15 X15 hQ15
        obtain ⟨rfl, N15q, e15⟩ := hQ15
        have N15 := Fr.app N14 N15q
        refine R.iload X15 hx (hb hby at_179) rfl (pc' := 181) rfl ?_
        refine R.icmpYes X15 hx (hb hby at_181) (teq (rfl : i2 = i2)).1 (by decide) (pc' := 186) (by decide) ?_
        refine R.iload X15 hx (hb hby at_186) rfl (pc' := 188) rfl ?_
        refine R.ifYes X15 hx (hb hby at_188) (teq (by decide : (0 : Int32) = (0 : Int32))).1 (by decide) (pc' := 204) (by decide) ?_
        refine R.iload X15 hx (hb hby at_204) rfl (pc' := 206) rfl ?_
        refine R.ifYes X15 hx (hb hby at_206) (teq (by decide : (0 : Int32) = (0 : Int32))).1 (by decide) (pc' := 225) (by decide) ?_
        by_cases hq_i5_i2 : i5 = i2
        · have e_i5_i2 : i5.toInt = i2.toInt := congrArg Int32.toInt hq_i5_i2
          refine R.iload X15 hx (hb hby at_225) rfl (pc' := 227) rfl ?_
          refine R.iload X15 hx (hb hby at_227) rfl (pc' := 229) rfl ?_
          refine R.icmpNo X15 hx (hb hby at_229) (teq (own_eqI (by omega) : i5 = i2)).2 (pc' := 232) rfl ?_
          refine R.iload X15 hx (hb hby at_232) rfl (pc' := 234) rfl ?_
          refine R.goto X15 hx (hb hby at_234) (by decide) (pc' := 238) (by decide) ?_
          refine R.iload X15 hx (hb hby at_238) rfl (pc' := 240) rfl ?_
          refine R.iload X15 hx (hb hby at_240) rfl (pc' := 242) rfl ?_
          refine R.icmpNo X15 hx (hb hby at_242) (teq (own_eqI (by omega) : i5 = i3)).2 (pc' := 245) rfl ?_
          refine R.iload X15 hx (hb hby at_245) rfl (pc' := 247) rfl ?_
          refine R.goto X15 hx (hb hby at_247) (by decide) (pc' := 251) (by decide) ?_
          refine R.iadd X15 hx (hb hby at_251) rfl (pc' := 252) rfl ?_
          refine R.iload X15 hx (hb hby at_252) rfl (pc' := 254) rfl ?_
          refine R.iload X15 hx (hb hby at_254) rfl (pc' := 256) rfl ?_
          refine R.icmpNo X15 hx (hb hby at_256) (teq (own_eqI (by omega) : i5 = i4)).2 (pc' := 259) rfl ?_
          refine R.iload X15 hx (hb hby at_259) rfl (pc' := 261) rfl ?_
          refine R.goto X15 hx (hb hby at_261) (by decide) (pc' := 265) (by decide) ?_
          refine R.iadd X15 hx (hb hby at_265) rfl (pc' := 266) rfl ?_
          show Rn p e below (T15.setTop (mkF m 266 #[.val (.int p0), .val (.int p1), .val (.int p2), .val (.int p3), .val (.int p4), .val (.int p5), .val (.int i1), .val (.int i2), .val (.int i3), .val (.int i4), .val (.int i5), .val (.int i6), .val (.int i7), .val (.int i8), .val (.ref b9), .val (.int (0 : Int32)), .val (.int (0 : Int32)), .val (.int (1 : Int32)), .unset] [(.int ((i6 + i7) + i8))])) G
          generalize hi16 : ((i6 + i7) + i8) = i16
          refine R.istore X15 hx (hb hby at_266) (L' := #[.val (.int p0), .val (.int p1), .val (.int p2), .val (.int p3), .val (.int p4), .val (.int p5), .val (.int i1), .val (.int i2), .val (.int i3), .val (.int i4), .val (.int i5), .val (.int i6), .val (.int i7), .val (.int i8), .val (.ref b9), .val (.int (0 : Int32)), .val (.int (0 : Int32)), .val (.int (1 : Int32)), .val (.int i16)]) rfl (pc' := 268) rfl ?_
          refine R.aload X15 hx (hb hby at_268) rfl rfl (pc' := 270) rfl ?_
          refine R.iload X15 hx (hb hby at_270) rfl (pc' := 272) rfl ?_
          refine R.virtual X15 hx hZ (y := mY4) (z := mY4) hown w_36 w_37 (notFace_of_selects (args := #[]) (mvT hZ w_39)) w_39 w_38 w_3 w_40 (by decide) e15 E_b9 (rm6 l Z aZ hw [] b9 i5 sc_10 ks_10 [(i4, (.double (FP.dadd (FP.dadd (FP.dadd (0 : UInt64) (FP.i2d i6)) (FP.i2d i7)) (FP.i2d i8)))), (i3, (.double (FP.dadd (FP.dadd (0 : UInt64) (FP.i2d i6)) (FP.i2d i7)))), (i2, (.double (FP.dadd (0 : UInt64) (FP.i2d i6))))] i1 (FP.dadd (FP.dadd (FP.dadd (0 : UInt64) (FP.i2d i6)) (FP.i2d i7)) (FP.i2d i8)) h13 n0 Z13 F_scores_b9 V_sc_10 (getH_hit ((own_bd (show 0 ≤ i5.toInt ∧ i5.toInt < i1.toInt by omega) : ¬ i5 < 0 ∧ i5 < i1)).1 (own_eqI (by omega))) ((own_bd (show 0 ≤ i5.toInt ∧ i5.toInt < i1.toInt by omega) : ¬ i5 < 0 ∧ i5 < i1))) (by decide) (W := 0) (Nat.le_of_eq rfl) (by decide) (by rw [hml]; rfl) (lenOf pd_4 rfl) rfl (hb hby at_272) (pc' := 275) rfl (by decide) (by decide) ?_; intro v17 T17 L17 X17 hQ17
          obtain ⟨rfl, N17q, e17⟩ := hQ17
          have N17 := Fr.app N15 N17q
          refine R.iload X17 hx (hb hby at_275) rfl (pc' := 277) rfl ?_
          refine R.i2d X17 hx (hb hby at_277) (pc' := 278) rfl ?_
          have ei : i16.toInt = (((0 + i6.toInt) + i7.toInt) + i8.toInt) := (own_exp3 (a := i6) (b := i7) (c := i8) (show -32768 ≤ i6.toInt ∧ i6.toInt < 32768 by first | omega | decide) (show -32768 ≤ i7.toInt ∧ i7.toInt < 32768 by first | omega | decide) (show -32768 ≤ i8.toInt ∧ i8.toInt < 32768 by first | omega | decide) hi16).trans (by first | (simp only [own_z32]; done) | (simp only [own_z32]; omega) | omega)
          refine R.dcmp X17 hx (hb hby at_278) (((Dy.add (Dy.add (Dy.add own_zero (Dy.i2d i6) (by omega) (by decide)) (Dy.i2d i7) (by omega) (by decide)) (Dy.i2d i8) (by omega) (by decide))).cmp ((Dy.i2d i16).cast ei rfl) _ : cmpValue (FP.dcmp (FP.dadd (FP.dadd (FP.dadd (0 : UInt64) (FP.i2d i6)) (FP.i2d i7)) (FP.i2d i8)) (FP.i2d i16)) .l = (own_ci (((0 + i6.toInt) + i7.toInt) + i8.toInt) (((0 + i6.toInt) + i7.toInt) + i8.toInt))) (pc' := 279) rfl ?_
          refine R.ifNo X17 hx (hb hby at_279) (teq (own_ci_eq.mpr rfl : (own_ci (((0 + i6.toInt) + i7.toInt) + i8.toInt) (((0 + i6.toInt) + i7.toInt) + i8.toInt)) = (0 : Int32))).2 (pc' := 282) rfl ?_
          refine R.iconst X17 hx (hb hby at_282) (v := (1 : Int32)) (by decide) (pc' := 283) rfl ?_
          refine R.goto X17 hx (hb hby at_283) (by decide) (pc' := 287) (by decide) ?_
          rw [← hG]
          exact Rn.ret X17 (BodyLoose.notSynchronized Bd) (v := some (.int (1 : Int32))) (fun h => by rw [Bd.returns] at h; cases h) (Q := Q0 Z p0 p1 p2 p3 p4 p5 h0 n0) e17 (fun fs hr => retN X17 hx (t := .boolean) Bd.returns (by simp) (hb hby at_287) hr) ⟨rfl, N17⟩ (by decide) (by decide)
        · have e_i5_i2 : ¬ i5.toInt = i2.toInt := fun q => hq_i5_i2 (Int32.toInt_inj.mp q)
          refine R.iload X15 hx (hb hby at_225) rfl (pc' := 227) rfl ?_
          refine R.iload X15 hx (hb hby at_227) rfl (pc' := 229) rfl ?_
          refine R.icmpYes X15 hx (hb hby at_229) (feq (own_neI (by omega) : ¬ (i5 = i2))).2 (by decide) (pc' := 237) (by decide) ?_
          refine R.iconst X15 hx (hb hby at_237) (v := (0 : Int32)) (by decide) (pc' := 238) rfl ?_
          refine R.iload X15 hx (hb hby at_238) rfl (pc' := 240) rfl ?_
          refine R.iload X15 hx (hb hby at_240) rfl (pc' := 242) rfl ?_
          refine R.icmpYes X15 hx (hb hby at_242) (feq (own_neI (by omega) : ¬ (i5 = i3))).2 (by decide) (pc' := 250) (by decide) ?_
          refine R.iconst X15 hx (hb hby at_250) (v := (0 : Int32)) (by decide) (pc' := 251) rfl ?_
          refine R.iadd X15 hx (hb hby at_251) rfl (pc' := 252) rfl ?_
          refine R.iload X15 hx (hb hby at_252) rfl (pc' := 254) rfl ?_
          refine R.iload X15 hx (hb hby at_254) rfl (pc' := 256) rfl ?_
          refine R.icmpYes X15 hx (hb hby at_256) (feq (own_neI (by omega) : ¬ (i5 = i4))).2 (by decide) (pc' := 264) (by decide) ?_
          refine R.iconst X15 hx (hb hby at_264) (v := (0 : Int32)) (by decide) (pc' := 265) rfl ?_
          refine R.iadd X15 hx (hb hby at_265) rfl (pc' := 266) rfl ?_
          show Rn p e below (T15.setTop (mkF m 266 #[.val (.int p0), .val (.int p1), .val (.int p2), .val (.int p3), .val (.int p4), .val (.int p5), .val (.int i1), .val (.int i2), .val (.int i3), .val (.int i4), .val (.int i5), .val (.int i6), .val (.int i7), .val (.int i8), .val (.ref b9), .val (.int (0 : Int32)), .val (.int (0 : Int32)), .val (.int (1 : Int32)), .unset] [(.int (((0 : Int32) + (0 : Int32)) + (0 : Int32)))])) G
          generalize hi18 : (((0 : Int32) + (0 : Int32)) + (0 : Int32)) = i18
          refine R.istore X15 hx (hb hby at_266) (L' := #[.val (.int p0), .val (.int p1), .val (.int p2), .val (.int p3), .val (.int p4), .val (.int p5), .val (.int i1), .val (.int i2), .val (.int i3), .val (.int i4), .val (.int i5), .val (.int i6), .val (.int i7), .val (.int i8), .val (.ref b9), .val (.int (0 : Int32)), .val (.int (0 : Int32)), .val (.int (1 : Int32)), .val (.int i18)]) rfl (pc' := 268) rfl ?_
          refine R.aload X15 hx (hb hby at_268) rfl rfl (pc' := 270) rfl ?_
          refine R.iload X15 hx (hb hby at_270) rfl (pc' := 272) rfl ?_
          refine R.virtual X15 hx hZ (y := mY4) (z := mY4) hown w_36 w_37 (notFace_of_selects (args := #[]) (mvT hZ w_39)) w_39 w_38 w_3 w_40 (by decide) e15 E_b9 (rm6 l Z aZ hw [] b9 i5 sc_10 ks_10 [(i4, (.double (FP.dadd (FP.dadd (FP.dadd (0 : UInt64) (FP.i2d i6)) (FP.i2d i7)) (FP.i2d i8)))), (i3, (.double (FP.dadd (FP.dadd (0 : UInt64) (FP.i2d i6)) (FP.i2d i7)))), (i2, (.double (FP.dadd (0 : UInt64) (FP.i2d i6))))] i1 (0 : UInt64) h13 n0 Z13 F_scores_b9 V_sc_10 (getH_miss ((own_bd (show 0 ≤ i5.toInt ∧ i5.toInt < i1.toInt by omega) : ¬ i5 < 0 ∧ i5 < i1)).1 (own_neI (by omega)) (getH_miss ((own_bd (show 0 ≤ i5.toInt ∧ i5.toInt < i1.toInt by omega) : ¬ i5 < 0 ∧ i5 < i1)).1 (own_neI (by omega)) (getH_miss ((own_bd (show 0 ≤ i5.toInt ∧ i5.toInt < i1.toInt by omega) : ¬ i5 < 0 ∧ i5 < i1)).1 (own_neI (by omega)) (own_getH_nil _ _)))) ((own_bd (show 0 ≤ i5.toInt ∧ i5.toInt < i1.toInt by omega) : ¬ i5 < 0 ∧ i5 < i1))) (by decide) (W := 0) (Nat.le_of_eq rfl) (by decide) (by rw [hml]; rfl) (lenOf pd_4 rfl) rfl (hb hby at_272) (pc' := 275) rfl (by decide) (by decide) ?_; intro v19 T19 L19 X19 hQ19
          obtain ⟨rfl, N19q, e19⟩ := hQ19
          have N19 := Fr.app N15 N19q
          refine R.iload X19 hx (hb hby at_275) rfl (pc' := 277) rfl ?_
          refine R.i2d X19 hx (hb hby at_277) (pc' := 278) rfl ?_
          have ei : i18.toInt = 0 := (own_exp3 (a := (0 : Int32)) (b := (0 : Int32)) (c := (0 : Int32)) (show -32768 ≤ (0 : Int32).toInt ∧ (0 : Int32).toInt < 32768 by first | omega | decide) (show -32768 ≤ (0 : Int32).toInt ∧ (0 : Int32).toInt < 32768 by first | omega | decide) (show -32768 ≤ (0 : Int32).toInt ∧ (0 : Int32).toInt < 32768 by first | omega | decide) hi18).trans (by first | (simp only [own_z32]; done) | (simp only [own_z32]; omega) | omega)
          refine R.dcmp X19 hx (hb hby at_278) ((own_zero).cmp ((Dy.i2d i18).cast ei rfl) _ : cmpValue (FP.dcmp (0 : UInt64) (FP.i2d i18)) .l = (own_ci 0 0)) (pc' := 279) rfl ?_
          refine R.ifNo X19 hx (hb hby at_279) (teq (own_ci_eq.mpr rfl : (own_ci 0 0) = (0 : Int32))).2 (pc' := 282) rfl ?_
          refine R.iconst X19 hx (hb hby at_282) (v := (1 : Int32)) (by decide) (pc' := 283) rfl ?_
          refine R.goto X19 hx (hb hby at_283) (by decide) (pc' := 287) (by decide) ?_
          rw [← hG]
          exact Rn.ret X19 (BodyLoose.notSynchronized Bd) (v := some (.int (1 : Int32))) (fun h => by rw [Bd.returns] at h; cases h) (Q := Q0 Z p0 p1 p2 p3 p4 p5 h0 n0) e19 (fun fs hr => retN X19 hx (t := .boolean) Bd.returns (by simp) (hb hby at_287) hr) ⟨rfl, N19⟩ (by decide) (by decide)
      · have e_i4_i2 : ¬ i4.toInt = i2.toInt := fun q => hq_i4_i2 (Int32.toInt_inj.mp q)
        refine R.aload X12 hx (hb hby at_91) rfl rfl (pc' := 93) rfl ?_
        refine R.iload X12 hx (hb hby at_93) rfl (pc' := 95) rfl ?_
        refine R.iload X12 hx (hb hby at_95) rfl (pc' := 97) rfl ?_
        refine R.i2d X12 hx (hb hby at_97) (pc' := 98) rfl ?_
        refine R.virtual X12 hx hZ (y := mY1) (z := mY1) hown w_19 w_20 (notFace_of_selects (args := #[]) (mvT hZ w_22)) w_22 w_21 w_3 w_23 (by decide) e12 E_b9 (rmnew l Z aZ hw [] b9 i4 (FP.i2d i8) sc_10 ks_10 [(i3, (.double (FP.dadd (FP.dadd (0 : UInt64) (FP.i2d i6)) (FP.i2d i7)))), (i2, (.double (FP.dadd (0 : UInt64) (FP.i2d i6))))] rt_10 kr_10 [(i2, (.int (1 : Int32)))] dc_10 kd_10 [((0 : Int32), (.int i2))] i1 (0 : UInt64) (1 : Int32) h12 n0 Z12 E_b9 F_scores_b9 F_retrieved_b9 F_documents_b9 F_size_b9 g_b9 V_sc_10 V_rt_10 V_dc_10 g_sc_10 g_rt_10 g_dc_10 ne_b9_sc_10 ne_b9_rt_10 ne_b9_dc_10 ne_sc_10_rt_10 ne_sc_10_dc_10 ne_rt_10_dc_10 (getH_miss ((own_bd (show 0 ≤ i4.toInt ∧ i4.toInt < i1.toInt by omega) : ¬ i4 < 0 ∧ i4 < i1)).1 (own_neI (by omega)) (own_getH_nil _ _)) (getH_miss ((own_bd (show 0 ≤ i4.toInt ∧ i4.toInt < i1.toInt by omega) : ¬ i4 < 0 ∧ i4 < i1)).1 (own_neI (by omega)) (getH_miss ((own_bd (show 0 ≤ i4.toInt ∧ i4.toInt < i1.toInt by omega) : ¬ i4 < 0 ∧ i4 < i1)).1 (own_neI (by omega)) (own_getH_nil _ _))) ((Dy.add own_zero (Dy.i2d i8) (by omega) (by decide)).nn) ((own_bd (show 0 ≤ i4.toInt ∧ i4.toInt < i1.toInt by omega) : ¬ i4 < 0 ∧ i4 < i1)) ((own_bd (show (0 : Int) ≤ 1 ∧ (1 : Int) < i1.toInt by omega) : ¬ (1 : Int32) < 0 ∧ (1 : Int32) < i1))) (by decide) (W := 0) (Nat.le_of_eq rfl) (by decide) (by rw [hml]; rfl) (lenOf pd_1 rfl) rfl (hb hby at_98) (pc' := 101) rfl (by decide) (by decide) ?_; intro v20 T20 L20 X20 hQ20
        obtain ⟨rfl, N20q, Kc20, P20_0, P20_1, P20_2, P20_3, P20_4, P20_5, P20_6, P20_7⟩ := hQ20
        have N20 := Fr.app N12 N20q
        generalize e20 : T20.heap = h20 at Kc20 P20_0 P20_1 P20_2 P20_3 P20_4 P20_5 P20_6 P20_7
        have K20 : Keep h0 h20 [] := K12.trans Kc20 ((allS (Or.inr sz_b9) (allS (Or.inr sz_sc_10) (allS (Or.inr sz_rt_10) (allS (Or.inr sz_dc_10) all0)))))
        have Z20 : n0 ≤ h20.size := Nat.le_trans Z12 Kc20.1
        have E_b9 : Exa Z h20 b9 "com/example/maat/maat/search/Accumulator" := P20_0
        have F_scores_b9 : Fld Z h20 b9 "com/example/maat/maat/search/Accumulator" "scores" "[D" (.ref sc_10) := P20_1
        have F_retrieved_b9 : Fld Z h20 b9 "com/example/maat/maat/search/Accumulator" "retrieved" "[Z" (.ref rt_10) := P20_2
        have F_documents_b9 : Fld Z h20 b9 "com/example/maat/maat/search/Accumulator" "documents" "[I" (.ref dc_10) := P20_3
        have F_size_b9 : Fld Z h20 b9 "com/example/maat/maat/search/Accumulator" "size" "I" (.int (2 : Int32)) := P20_4
        have V_sc_10 : Arh Z h20 sc_10 ks_10 .double i1 ((i4, (.double (FP.dadd (0 : UInt64) (FP.i2d i8)))) :: [(i3, (.double (FP.dadd (FP.dadd (0 : UInt64) (FP.i2d i6)) (FP.i2d i7)))), (i2, (.double (FP.dadd (0 : UInt64) (FP.i2d i6))))]) [] (.double (0 : UInt64)) := P20_5
        have V_sc_10 : Arh Z h20 sc_10 ks_10 .double i1 [(i4, (.double (FP.dadd (0 : UInt64) (FP.i2d i8)))), (i3, (.double (FP.dadd (FP.dadd (0 : UInt64) (FP.i2d i6)) (FP.i2d i7)))), (i2, (.double (FP.dadd (0 : UInt64) (FP.i2d i6))))] [] (.double (0 : UInt64)) := V_sc_10
        have V_rt_10 : Arh Z h20 rt_10 kr_10 .boolean i1 ((i4, (.int (1 : Int32))) :: [(i2, (.int (1 : Int32)))]) [] (.int (0 : Int32)) := P20_6
        have V_rt_10 : Arh Z h20 rt_10 kr_10 .boolean i1 [(i4, (.int (1 : Int32))), (i2, (.int (1 : Int32)))] [] (.int (0 : Int32)) := V_rt_10
        have V_dc_10 : Arh Z h20 dc_10 kd_10 .int i1 (((1 : Int32), (.int i4)) :: [((0 : Int32), (.int i2))]) [] (.int (0 : Int32)) := P20_7
        have V_dc_10 : Arh Z h20 dc_10 kd_10 .int i1 [((1 : Int32), (.int i4)), ((0 : Int32), (.int i2))] [] (.int (0 : Int32)) := V_dc_10
        refine R.iload X20 hx (hb hby at_101) rfl (pc' := 103) rfl ?_
        refine R.iload X20 hx (hb hby at_103) rfl (pc' := 105) rfl ?_
        refine R.icmpYes X20 hx (hb hby at_105) (teq (own_eqI (by omega) : i3 = i2)).1 (by decide) (pc' := 112) (by decide) ?_
        refine R.iconst X20 hx (hb hby at_112) (v := (0 : Int32)) (by decide) (pc' := 113) rfl ?_
        refine R.istore X20 hx (hb hby at_113) (L' := #[.val (.int p0), .val (.int p1), .val (.int p2), .val (.int p3), .val (.int p4), .val (.int p5), .val (.int i1), .val (.int i2), .val (.int i3), .val (.int i4), .val (.int i5), .val (.int i6), .val (.int i7), .val (.int i8), .val (.ref b9), .val (.int (0 : Int32)), .unset, .unset, .unset]) rfl (pc' := 115) rfl ?_
        refine R.iload X20 hx (hb hby at_115) rfl (pc' := 117) rfl ?_
        refine R.iload X20 hx (hb hby at_117) rfl (pc' := 119) rfl ?_
        refine R.icmpNo X20 hx (hb hby at_119) (feq (own_neI (by omega) : ¬ (i4 = i2))).1 (pc' := 122) rfl ?_
        refine R.iload X20 hx (hb hby at_122) rfl (pc' := 124) rfl ?_
        refine R.iload X20 hx (hb hby at_124) rfl (pc' := 126) rfl ?_
        refine R.icmpNo X20 hx (hb hby at_126) (feq (own_neI (by omega) : ¬ (i4 = i3))).1 (pc' := 129) rfl ?_
        refine R.iconst X20 hx (hb hby at_129) (v := (1 : Int32)) (by decide) (pc' := 130) rfl ?_
        refine R.goto X20 hx (hb hby at_130) (by decide) (pc' := 134) (by decide) ?_
        refine R.istore X20 hx (hb hby at_134) (L' := #[.val (.int p0), .val (.int p1), .val (.int p2), .val (.int p3), .val (.int p4), .val (.int p5), .val (.int i1), .val (.int i2), .val (.int i3), .val (.int i4), .val (.int i5), .val (.int i6), .val (.int i7), .val (.int i8), .val (.ref b9), .val (.int (0 : Int32)), .val (.int (1 : Int32)), .unset, .unset]) rfl (pc' := 136) rfl ?_
        refine R.iconst X20 hx (hb hby at_136) (v := (1 : Int32)) (by decide) (pc' := 137) rfl ?_
        refine R.iload X20 hx (hb hby at_137) rfl (pc' := 139) rfl ?_
        refine R.ifYes X20 hx (hb hby at_139) (teq (by decide : (0 : Int32) = (0 : Int32))).1 (by decide) (pc' := 146) (by decide) ?_
        refine R.iconst X20 hx (hb hby at_146) (v := (0 : Int32)) (by decide) (pc' := 147) rfl ?_
        refine R.iadd X20 hx (hb hby at_147) (v := (1 : Int32)) (by decide) (pc' := 148) rfl ?_
        refine R.iload X20 hx (hb hby at_148) rfl (pc' := 150) rfl ?_
        refine R.ifNo X20 hx (hb hby at_150) (feq (by decide : ¬ ((1 : Int32) = (0 : Int32)))).1 (pc' := 153) rfl ?_
        refine R.iconst X20 hx (hb hby at_153) (v := (1 : Int32)) (by decide) (pc' := 154) rfl ?_
        refine R.goto X20 hx (hb hby at_154) (by decide) (pc' := 158) (by decide) ?_
        refine R.iadd X20 hx (hb hby at_158) (v := (2 : Int32)) (by decide) (pc' := 159) rfl ?_
        refine R.istore X20 hx (hb hby at_159) (L' := #[.val (.int p0), .val (.int p1), .val (.int p2), .val (.int p3), .val (.int p4), .val (.int p5), .val (.int i1), .val (.int i2), .val (.int i3), .val (.int i4), .val (.int i5), .val (.int i6), .val (.int i7), .val (.int i8), .val (.ref b9), .val (.int (0 : Int32)), .val (.int (1 : Int32)), .val (.int (2 : Int32)), .unset]) rfl (pc' := 161) rfl ?_
        refine R.aload X20 hx (hb hby at_161) rfl rfl (pc' := 163) rfl ?_
        refine R.virtual X20 hx hZ (y := mY2) (z := mY2) hown w_26 w_27 (notFace_of_selects (args := #[]) (mvT hZ w_29)) w_29 w_28 w_3 w_30 (by decide) e20 E_b9 (rm4 l Z aZ hw [] b9 (2 : Int32) h20 n0 Z20 F_size_b9) (by decide) (W := 0) (Nat.le_of_eq rfl) (by decide) (by rw [hml]; rfl) (lenOf pd_2 rfl) rfl (hb hby at_163) (pc' := 166) rfl (by decide) (by decide) ?_; intro v21 T21 L21 X21 hQ21
        obtain ⟨rfl, N21q, e21⟩ := hQ21
        have N21 := Fr.app N20 N21q
        refine R.iload X21 hx (hb hby at_166) rfl (pc' := 168) rfl ?_
        refine R.icmpYes X21 hx (hb hby at_168) (teq (by decide : (2 : Int32) = (2 : Int32))).1 (by decide) (pc' := 173) (by decide) ?_
        refine R.aload X21 hx (hb hby at_173) rfl rfl (pc' := 175) rfl ?_
        refine R.iconst X21 hx (hb hby at_175) (v := (0 : Int32)) (by decide) (pc' := 176) rfl ?_
        refine R.virtual X21 hx hZ (y := mY3) (z := mY3) hown w_31 w_32 (notFace_of_selects (args := #[]) (mvT hZ w_34)) w_34 w_33 w_3 w_35 (by decide) e21 E_b9 (rm5 l Z aZ hw [] b9 (0 : Int32) dc_10 kd_10 [((1 : Int32), (.int i4)), ((0 : Int32), (.int i2))] i1 i2 h20 n0 Z20 F_documents_b9 V_dc_10 (getH_miss ((own_bd (show (0 : Int) ≤ 0 ∧ (0 : Int) < i1.toInt by omega) : ¬ (0 : Int32) < 0 ∧ (0 : Int32) < i1)).1 (by decide) (getH_hit ((own_bd (show (0 : Int) ≤ 0 ∧ (0 : Int) < i1.toInt by omega) : ¬ (0 : Int32) < 0 ∧ (0 : Int32) < i1)).1 (rfl))) ((own_bd (show (0 : Int) ≤ 0 ∧ (0 : Int) < i1.toInt by omega) : ¬ (0 : Int32) < 0 ∧ (0 : Int32) < i1))) (by decide) (W := 0) (Nat.le_of_eq rfl) (by decide) (by rw [hml]; rfl) (lenOf pd_3 rfl) rfl (hb hby at_176) (pc' := 179) rfl (by decide) (by decide) ?_; intro v22 T22 L22 X22 hQ22
        obtain ⟨rfl, N22q, e22⟩ := hQ22
        have N22 := Fr.app N21 N22q
        refine R.iload X22 hx (hb hby at_179) rfl (pc' := 181) rfl ?_
        refine R.icmpYes X22 hx (hb hby at_181) (teq (rfl : i2 = i2)).1 (by decide) (pc' := 186) (by decide) ?_
        refine R.iload X22 hx (hb hby at_186) rfl (pc' := 188) rfl ?_
        refine R.ifYes X22 hx (hb hby at_188) (teq (by decide : (0 : Int32) = (0 : Int32))).1 (by decide) (pc' := 204) (by decide) ?_
        refine R.iload X22 hx (hb hby at_204) rfl (pc' := 206) rfl ?_
        refine R.ifNo X22 hx (hb hby at_206) (feq (by decide : ¬ ((1 : Int32) = (0 : Int32)))).1 (pc' := 209) rfl ?_
        refine R.aload X22 hx (hb hby at_209) rfl rfl (pc' := 211) rfl ?_
        refine R.iload X22 hx (hb hby at_211) rfl (pc' := 213) rfl ?_
        refine R.iconst X22 hx (hb hby at_213) (v := (1 : Int32)) (by decide) (pc' := 214) rfl ?_
        refine R.isub X22 hx (hb hby at_214) (v := (1 : Int32)) (by decide) (pc' := 215) rfl ?_
        refine R.virtual X22 hx hZ (y := mY3) (z := mY3) hown w_31 w_32 (notFace_of_selects (args := #[]) (mvT hZ w_34)) w_34 w_33 w_3 w_35 (by decide) e22 E_b9 (rm5 l Z aZ hw [] b9 (1 : Int32) dc_10 kd_10 [((1 : Int32), (.int i4)), ((0 : Int32), (.int i2))] i1 i4 h20 n0 Z20 F_documents_b9 V_dc_10 (getH_hit ((own_bd (show (0 : Int) ≤ 1 ∧ (1 : Int) < i1.toInt by omega) : ¬ (1 : Int32) < 0 ∧ (1 : Int32) < i1)).1 (rfl)) ((own_bd (show (0 : Int) ≤ 1 ∧ (1 : Int) < i1.toInt by omega) : ¬ (1 : Int32) < 0 ∧ (1 : Int32) < i1))) (by decide) (W := 0) (Nat.le_of_eq rfl) (by decide) (by rw [hml]; rfl) (lenOf pd_3 rfl) rfl (hb hby at_215) (pc' := 218) rfl (by decide) (by decide) ?_; intro v23 T23 L23 X23 hQ23
        obtain ⟨rfl, N23q, e23⟩ := hQ23
        have N23 := Fr.app N22 N23q
        refine R.iload X23 hx (hb hby at_218) rfl (pc' := 220) rfl ?_
        refine R.icmpYes X23 hx (hb hby at_220) (teq (rfl : i4 = i4)).1 (by decide) (pc' := 225) (by decide) ?_
        by_cases hq_i5_i2 : i5 = i2
        · have e_i5_i2 : i5.toInt = i2.toInt := congrArg Int32.toInt hq_i5_i2
          refine R.iload X23 hx (hb hby at_225) rfl (pc' := 227) rfl ?_
          refine R.iload X23 hx (hb hby at_227) rfl (pc' := 229) rfl ?_
          refine R.icmpNo X23 hx (hb hby at_229) (teq (own_eqI (by omega) : i5 = i2)).2 (pc' := 232) rfl ?_
          refine R.iload X23 hx (hb hby at_232) rfl (pc' := 234) rfl ?_
          refine R.goto X23 hx (hb hby at_234) (by decide) (pc' := 238) (by decide) ?_
          refine R.iload X23 hx (hb hby at_238) rfl (pc' := 240) rfl ?_
          refine R.iload X23 hx (hb hby at_240) rfl (pc' := 242) rfl ?_
          refine R.icmpNo X23 hx (hb hby at_242) (teq (own_eqI (by omega) : i5 = i3)).2 (pc' := 245) rfl ?_
          refine R.iload X23 hx (hb hby at_245) rfl (pc' := 247) rfl ?_
          refine R.goto X23 hx (hb hby at_247) (by decide) (pc' := 251) (by decide) ?_
          refine R.iadd X23 hx (hb hby at_251) rfl (pc' := 252) rfl ?_
          refine R.iload X23 hx (hb hby at_252) rfl (pc' := 254) rfl ?_
          refine R.iload X23 hx (hb hby at_254) rfl (pc' := 256) rfl ?_
          refine R.icmpYes X23 hx (hb hby at_256) (feq (own_neI (by omega) : ¬ (i5 = i4))).2 (by decide) (pc' := 264) (by decide) ?_
          refine R.iconst X23 hx (hb hby at_264) (v := (0 : Int32)) (by decide) (pc' := 265) rfl ?_
          refine R.iadd X23 hx (hb hby at_265) rfl (pc' := 266) rfl ?_
          show Rn p e below (T23.setTop (mkF m 266 #[.val (.int p0), .val (.int p1), .val (.int p2), .val (.int p3), .val (.int p4), .val (.int p5), .val (.int i1), .val (.int i2), .val (.int i3), .val (.int i4), .val (.int i5), .val (.int i6), .val (.int i7), .val (.int i8), .val (.ref b9), .val (.int (0 : Int32)), .val (.int (1 : Int32)), .val (.int (2 : Int32)), .unset] [(.int ((i6 + i7) + (0 : Int32)))])) G
          generalize hi24 : ((i6 + i7) + (0 : Int32)) = i24
          refine R.istore X23 hx (hb hby at_266) (L' := #[.val (.int p0), .val (.int p1), .val (.int p2), .val (.int p3), .val (.int p4), .val (.int p5), .val (.int i1), .val (.int i2), .val (.int i3), .val (.int i4), .val (.int i5), .val (.int i6), .val (.int i7), .val (.int i8), .val (.ref b9), .val (.int (0 : Int32)), .val (.int (1 : Int32)), .val (.int (2 : Int32)), .val (.int i24)]) rfl (pc' := 268) rfl ?_
          refine R.aload X23 hx (hb hby at_268) rfl rfl (pc' := 270) rfl ?_
          refine R.iload X23 hx (hb hby at_270) rfl (pc' := 272) rfl ?_
          refine R.virtual X23 hx hZ (y := mY4) (z := mY4) hown w_36 w_37 (notFace_of_selects (args := #[]) (mvT hZ w_39)) w_39 w_38 w_3 w_40 (by decide) e23 E_b9 (rm6 l Z aZ hw [] b9 i5 sc_10 ks_10 [(i4, (.double (FP.dadd (0 : UInt64) (FP.i2d i8)))), (i3, (.double (FP.dadd (FP.dadd (0 : UInt64) (FP.i2d i6)) (FP.i2d i7)))), (i2, (.double (FP.dadd (0 : UInt64) (FP.i2d i6))))] i1 (FP.dadd (FP.dadd (0 : UInt64) (FP.i2d i6)) (FP.i2d i7)) h20 n0 Z20 F_scores_b9 V_sc_10 (getH_miss ((own_bd (show 0 ≤ i5.toInt ∧ i5.toInt < i1.toInt by omega) : ¬ i5 < 0 ∧ i5 < i1)).1 (own_neI (by omega)) (getH_hit ((own_bd (show 0 ≤ i5.toInt ∧ i5.toInt < i1.toInt by omega) : ¬ i5 < 0 ∧ i5 < i1)).1 (own_eqI (by omega)))) ((own_bd (show 0 ≤ i5.toInt ∧ i5.toInt < i1.toInt by omega) : ¬ i5 < 0 ∧ i5 < i1))) (by decide) (W := 0) (Nat.le_of_eq rfl) (by decide) (by rw [hml]; rfl) (lenOf pd_4 rfl) rfl (hb hby at_272) (pc' := 275) rfl (by decide) (by decide) ?_; intro v25 T25 L25 X25 hQ25
          obtain ⟨rfl, N25q, e25⟩ := hQ25
          have N25 := Fr.app N23 N25q
          refine R.iload X25 hx (hb hby at_275) rfl (pc' := 277) rfl ?_
          refine R.i2d X25 hx (hb hby at_277) (pc' := 278) rfl ?_
          have ei : i24.toInt = ((0 + i6.toInt) + i7.toInt) := (own_exp3 (a := i6) (b := i7) (c := (0 : Int32)) (show -32768 ≤ i6.toInt ∧ i6.toInt < 32768 by first | omega | decide) (show -32768 ≤ i7.toInt ∧ i7.toInt < 32768 by first | omega | decide) (show -32768 ≤ (0 : Int32).toInt ∧ (0 : Int32).toInt < 32768 by first | omega | decide) hi24).trans (by first | (simp only [own_z32]; done) | (simp only [own_z32]; omega) | omega)
          refine R.dcmp X25 hx (hb hby at_278) (((Dy.add (Dy.add own_zero (Dy.i2d i6) (by omega) (by decide)) (Dy.i2d i7) (by omega) (by decide))).cmp ((Dy.i2d i24).cast ei rfl) _ : cmpValue (FP.dcmp (FP.dadd (FP.dadd (0 : UInt64) (FP.i2d i6)) (FP.i2d i7)) (FP.i2d i24)) .l = (own_ci ((0 + i6.toInt) + i7.toInt) ((0 + i6.toInt) + i7.toInt))) (pc' := 279) rfl ?_
          refine R.ifNo X25 hx (hb hby at_279) (teq (own_ci_eq.mpr rfl : (own_ci ((0 + i6.toInt) + i7.toInt) ((0 + i6.toInt) + i7.toInt)) = (0 : Int32))).2 (pc' := 282) rfl ?_
          refine R.iconst X25 hx (hb hby at_282) (v := (1 : Int32)) (by decide) (pc' := 283) rfl ?_
          refine R.goto X25 hx (hb hby at_283) (by decide) (pc' := 287) (by decide) ?_
          rw [← hG]
          exact Rn.ret X25 (BodyLoose.notSynchronized Bd) (v := some (.int (1 : Int32))) (fun h => by rw [Bd.returns] at h; cases h) (Q := Q0 Z p0 p1 p2 p3 p4 p5 h0 n0) e25 (fun fs hr => retN X25 hx (t := .boolean) Bd.returns (by simp) (hb hby at_287) hr) ⟨rfl, N25⟩ (by decide) (by decide)
        · have e_i5_i2 : ¬ i5.toInt = i2.toInt := fun q => hq_i5_i2 (Int32.toInt_inj.mp q)
          by_cases hq_i5_i4 : i5 = i4
          · have e_i5_i4 : i5.toInt = i4.toInt := congrArg Int32.toInt hq_i5_i4
            refine R.iload X23 hx (hb hby at_225) rfl (pc' := 227) rfl ?_
            refine R.iload X23 hx (hb hby at_227) rfl (pc' := 229) rfl ?_
            refine R.icmpYes X23 hx (hb hby at_229) (feq (own_neI (by omega) : ¬ (i5 = i2))).2 (by decide) (pc' := 237) (by decide) ?_
            refine R.iconst X23 hx (hb hby at_237) (v := (0 : Int32)) (by decide) (pc' := 238) rfl ?_
            refine R.iload X23 hx (hb hby at_238) rfl (pc' := 240) rfl ?_
            refine R.iload X23 hx (hb hby at_240) rfl (pc' := 242) rfl ?_
            refine R.icmpYes X23 hx (hb hby at_242) (feq (own_neI (by omega) : ¬ (i5 = i3))).2 (by decide) (pc' := 250) (by decide) ?_
            refine R.iconst X23 hx (hb hby at_250) (v := (0 : Int32)) (by decide) (pc' := 251) rfl ?_
            refine R.iadd X23 hx (hb hby at_251) rfl (pc' := 252) rfl ?_
            refine R.iload X23 hx (hb hby at_252) rfl (pc' := 254) rfl ?_
            refine R.iload X23 hx (hb hby at_254) rfl (pc' := 256) rfl ?_
            refine R.icmpNo X23 hx (hb hby at_256) (teq (own_eqI (by omega) : i5 = i4)).2 (pc' := 259) rfl ?_
            refine R.iload X23 hx (hb hby at_259) rfl (pc' := 261) rfl ?_
            refine R.goto X23 hx (hb hby at_261) (by decide) (pc' := 265) (by decide) ?_
            refine R.iadd X23 hx (hb hby at_265) rfl (pc' := 266) rfl ?_
            show Rn p e below (T23.setTop (mkF m 266 #[.val (.int p0), .val (.int p1), .val (.int p2), .val (.int p3), .val (.int p4), .val (.int p5), .val (.int i1), .val (.int i2), .val (.int i3), .val (.int i4), .val (.int i5), .val (.int i6), .val (.int i7), .val (.int i8), .val (.ref b9), .val (.int (0 : Int32)), .val (.int (1 : Int32)), .val (.int (2 : Int32)), .unset] [(.int (((0 : Int32) + (0 : Int32)) + i8))])) G
            generalize hi26 : (((0 : Int32) + (0 : Int32)) + i8) = i26
            refine R.istore X23 hx (hb hby at_266) (L' := #[.val (.int p0), .val (.int p1), .val (.int p2), .val (.int p3), .val (.int p4), .val (.int p5), .val (.int i1), .val (.int i2), .val (.int i3), .val (.int i4), .val (.int i5), .val (.int i6), .val (.int i7), .val (.int i8), .val (.ref b9), .val (.int (0 : Int32)), .val (.int (1 : Int32)), .val (.int (2 : Int32)), .val (.int i26)]) rfl (pc' := 268) rfl ?_
            refine R.aload X23 hx (hb hby at_268) rfl rfl (pc' := 270) rfl ?_
            refine R.iload X23 hx (hb hby at_270) rfl (pc' := 272) rfl ?_
            refine R.virtual X23 hx hZ (y := mY4) (z := mY4) hown w_36 w_37 (notFace_of_selects (args := #[]) (mvT hZ w_39)) w_39 w_38 w_3 w_40 (by decide) e23 E_b9 (rm6 l Z aZ hw [] b9 i5 sc_10 ks_10 [(i4, (.double (FP.dadd (0 : UInt64) (FP.i2d i8)))), (i3, (.double (FP.dadd (FP.dadd (0 : UInt64) (FP.i2d i6)) (FP.i2d i7)))), (i2, (.double (FP.dadd (0 : UInt64) (FP.i2d i6))))] i1 (FP.dadd (0 : UInt64) (FP.i2d i8)) h20 n0 Z20 F_scores_b9 V_sc_10 (getH_hit ((own_bd (show 0 ≤ i5.toInt ∧ i5.toInt < i1.toInt by omega) : ¬ i5 < 0 ∧ i5 < i1)).1 (own_eqI (by omega))) ((own_bd (show 0 ≤ i5.toInt ∧ i5.toInt < i1.toInt by omega) : ¬ i5 < 0 ∧ i5 < i1))) (by decide) (W := 0) (Nat.le_of_eq rfl) (by decide) (by rw [hml]; rfl) (lenOf pd_4 rfl) rfl (hb hby at_272) (pc' := 275) rfl (by decide) (by decide) ?_; intro v27 T27 L27 X27 hQ27
            obtain ⟨rfl, N27q, e27⟩ := hQ27
            have N27 := Fr.app N23 N27q
            refine R.iload X27 hx (hb hby at_275) rfl (pc' := 277) rfl ?_
            refine R.i2d X27 hx (hb hby at_277) (pc' := 278) rfl ?_
            have ei : i26.toInt = (0 + i8.toInt) := (own_exp3 (a := (0 : Int32)) (b := (0 : Int32)) (c := i8) (show -32768 ≤ (0 : Int32).toInt ∧ (0 : Int32).toInt < 32768 by first | omega | decide) (show -32768 ≤ (0 : Int32).toInt ∧ (0 : Int32).toInt < 32768 by first | omega | decide) (show -32768 ≤ i8.toInt ∧ i8.toInt < 32768 by first | omega | decide) hi26).trans (by first | (simp only [own_z32]; done) | (simp only [own_z32]; omega) | omega)
            refine R.dcmp X27 hx (hb hby at_278) (((Dy.add own_zero (Dy.i2d i8) (by omega) (by decide))).cmp ((Dy.i2d i26).cast ei rfl) _ : cmpValue (FP.dcmp (FP.dadd (0 : UInt64) (FP.i2d i8)) (FP.i2d i26)) .l = (own_ci (0 + i8.toInt) (0 + i8.toInt))) (pc' := 279) rfl ?_
            refine R.ifNo X27 hx (hb hby at_279) (teq (own_ci_eq.mpr rfl : (own_ci (0 + i8.toInt) (0 + i8.toInt)) = (0 : Int32))).2 (pc' := 282) rfl ?_
            refine R.iconst X27 hx (hb hby at_282) (v := (1 : Int32)) (by decide) (pc' := 283) rfl ?_
            refine R.goto X27 hx (hb hby at_283) (by decide) (pc' := 287) (by decide) ?_
            rw [← hG]
            exact Rn.ret X27 (BodyLoose.notSynchronized Bd) (v := some (.int (1 : Int32))) (fun h => by rw [Bd.returns] at h; cases h) (Q := Q0 Z p0 p1 p2 p3 p4 p5 h0 n0) e27 (fun fs hr => retN X27 hx (t := .boolean) Bd.returns (by simp) (hb hby at_287) hr) ⟨rfl, N27⟩ (by decide) (by decide)
          · have e_i5_i4 : ¬ i5.toInt = i4.toInt := fun q => hq_i5_i4 (Int32.toInt_inj.mp q)
            refine R.iload X23 hx (hb hby at_225) rfl (pc' := 227) rfl ?_
            refine R.iload X23 hx (hb hby at_227) rfl (pc' := 229) rfl ?_
            refine R.icmpYes X23 hx (hb hby at_229) (feq (own_neI (by omega) : ¬ (i5 = i2))).2 (by decide) (pc' := 237) (by decide) ?_
            refine R.iconst X23 hx (hb hby at_237) (v := (0 : Int32)) (by decide) (pc' := 238) rfl ?_
            refine R.iload X23 hx (hb hby at_238) rfl (pc' := 240) rfl ?_
            refine R.iload X23 hx (hb hby at_240) rfl (pc' := 242) rfl ?_
            refine R.icmpYes X23 hx (hb hby at_242) (feq (own_neI (by omega) : ¬ (i5 = i3))).2 (by decide) (pc' := 250) (by decide) ?_
            refine R.iconst X23 hx (hb hby at_250) (v := (0 : Int32)) (by decide) (pc' := 251) rfl ?_
            refine R.iadd X23 hx (hb hby at_251) rfl (pc' := 252) rfl ?_
            refine R.iload X23 hx (hb hby at_252) rfl (pc' := 254) rfl ?_
            refine R.iload X23 hx (hb hby at_254) rfl (pc' := 256) rfl ?_
            refine R.icmpYes X23 hx (hb hby at_256) (feq (own_neI (by omega) : ¬ (i5 = i4))).2 (by decide) (pc' := 264) (by decide) ?_
            refine R.iconst X23 hx (hb hby at_264) (v := (0 : Int32)) (by decide) (pc' := 265) rfl ?_
            refine R.iadd X23 hx (hb hby at_265) rfl (pc' := 266) rfl ?_
            show Rn p e below (T23.setTop (mkF m 266 #[.val (.int p0), .val (.int p1), .val (.int p2), .val (.int p3), .val (.int p4), .val (.int p5), .val (.int i1), .val (.int i2), .val (.int i3), .val (.int i4), .val (.int i5), .val (.int i6), .val (.int i7), .val (.int i8), .val (.ref b9), .val (.int (0 : Int32)), .val (.int (1 : Int32)), .val (.int (2 : Int32)), .unset] [(.int (((0 : Int32) + (0 : Int32)) + (0 : Int32)))])) G
            generalize hi28 : (((0 : Int32) + (0 : Int32)) + (0 : Int32)) = i28
            refine R.istore X23 hx (hb hby at_266) (L' := #[.val (.int p0), .val (.int p1), .val (.int p2), .val (.int p3), .val (.int p4), .val (.int p5), .val (.int i1), .val (.int i2), .val (.int i3), .val (.int i4), .val (.int i5), .val (.int i6), .val (.int i7), .val (.int i8), .val (.ref b9), .val (.int (0 : Int32)), .val (.int (1 : Int32)), .val (.int (2 : Int32)), .val (.int i28)]) rfl (pc' := 268) rfl ?_
            refine R.aload X23 hx (hb hby at_268) rfl rfl (pc' := 270) rfl ?_
            refine R.iload X23 hx (hb hby at_270) rfl (pc' := 272) rfl ?_
            refine R.virtual X23 hx hZ (y := mY4) (z := mY4) hown w_36 w_37 (notFace_of_selects (args := #[]) (mvT hZ w_39)) w_39 w_38 w_3 w_40 (by decide) e23 E_b9 (rm6 l Z aZ hw [] b9 i5 sc_10 ks_10 [(i4, (.double (FP.dadd (0 : UInt64) (FP.i2d i8)))), (i3, (.double (FP.dadd (FP.dadd (0 : UInt64) (FP.i2d i6)) (FP.i2d i7)))), (i2, (.double (FP.dadd (0 : UInt64) (FP.i2d i6))))] i1 (0 : UInt64) h20 n0 Z20 F_scores_b9 V_sc_10 (getH_miss ((own_bd (show 0 ≤ i5.toInt ∧ i5.toInt < i1.toInt by omega) : ¬ i5 < 0 ∧ i5 < i1)).1 (own_neI (by omega)) (getH_miss ((own_bd (show 0 ≤ i5.toInt ∧ i5.toInt < i1.toInt by omega) : ¬ i5 < 0 ∧ i5 < i1)).1 (own_neI (by omega)) (getH_miss ((own_bd (show 0 ≤ i5.toInt ∧ i5.toInt < i1.toInt by omega) : ¬ i5 < 0 ∧ i5 < i1)).1 (own_neI (by omega)) (own_getH_nil _ _)))) ((own_bd (show 0 ≤ i5.toInt ∧ i5.toInt < i1.toInt by omega) : ¬ i5 < 0 ∧ i5 < i1))) (by decide) (W := 0) (Nat.le_of_eq rfl) (by decide) (by rw [hml]; rfl) (lenOf pd_4 rfl) rfl (hb hby at_272) (pc' := 275) rfl (by decide) (by decide) ?_; intro v29 T29 L29 X29 hQ29
            obtain ⟨rfl, N29q, e29⟩ := hQ29
            have N29 := Fr.app N23 N29q
            refine R.iload X29 hx (hb hby at_275) rfl (pc' := 277) rfl ?_
            refine R.i2d X29 hx (hb hby at_277) (pc' := 278) rfl ?_
            have ei : i28.toInt = 0 := (own_exp3 (a := (0 : Int32)) (b := (0 : Int32)) (c := (0 : Int32)) (show -32768 ≤ (0 : Int32).toInt ∧ (0 : Int32).toInt < 32768 by first | omega | decide) (show -32768 ≤ (0 : Int32).toInt ∧ (0 : Int32).toInt < 32768 by first | omega | decide) (show -32768 ≤ (0 : Int32).toInt ∧ (0 : Int32).toInt < 32768 by first | omega | decide) hi28).trans (by first | (simp only [own_z32]; done) | (simp only [own_z32]; omega) | omega)
            refine R.dcmp X29 hx (hb hby at_278) ((own_zero).cmp ((Dy.i2d i28).cast ei rfl) _ : cmpValue (FP.dcmp (0 : UInt64) (FP.i2d i28)) .l = (own_ci 0 0)) (pc' := 279) rfl ?_
            refine R.ifNo X29 hx (hb hby at_279) (teq (own_ci_eq.mpr rfl : (own_ci 0 0) = (0 : Int32))).2 (pc' := 282) rfl ?_
            refine R.iconst X29 hx (hb hby at_282) (v := (1 : Int32)) (by decide) (pc' := 283) rfl ?_
            refine R.goto X29 hx (hb hby at_283) (by decide) (pc' := 287) (by decide) ?_
            rw [← hG]
            exact Rn.ret X29 (BodyLoose.notSynchronized Bd) (v := some (.int (1 : Int32))) (fun h => by rw [Bd.returns] at h; cases h) (Q := Q0 Z p0 p1 p2 p3 p4 p5 h0 n0) e29 (fun fs hr => retN X29 hx (t := .boolean) Bd.returns (by simp) (hb hby at_287) hr) ⟨rfl, N29⟩ (by decide) (by decide)
    · have e_i3_i2 : ¬ i3.toInt = i2.toInt := fun q => hq_i3_i2 (Int32.toInt_inj.mp q)
      refine R.aload X11 hx (hb hby at_81) rfl rfl (pc' := 83) rfl ?_
      refine R.iload X11 hx (hb hby at_83) rfl (pc' := 85) rfl ?_
      refine R.iload X11 hx (hb hby at_85) rfl (pc' := 87) rfl ?_
      refine R.i2d X11 hx (hb hby at_87) (pc' := 88) rfl ?_
      refine R.virtual X11 hx hZ (y := mY1) (z := mY1) hown w_19 w_20 (notFace_of_selects (args := #[]) (mvT hZ w_22)) w_22 w_21 w_3 w_23 (by decide) e11 E_b9 (rmnew l Z aZ hw [] b9 i3 (FP.i2d i7) sc_10 ks_10 [(i2, (.double (FP.dadd (0 : UInt64) (FP.i2d i6))))] rt_10 kr_10 [(i2, (.int (1 : Int32)))] dc_10 kd_10 [((0 : Int32), (.int i2))] i1 (0 : UInt64) (1 : Int32) h11 n0 Z11 E_b9 F_scores_b9 F_retrieved_b9 F_documents_b9 F_size_b9 g_b9 V_sc_10 V_rt_10 V_dc_10 g_sc_10 g_rt_10 g_dc_10 ne_b9_sc_10 ne_b9_rt_10 ne_b9_dc_10 ne_sc_10_rt_10 ne_sc_10_dc_10 ne_rt_10_dc_10 (getH_miss ((own_bd (show 0 ≤ i3.toInt ∧ i3.toInt < i1.toInt by omega) : ¬ i3 < 0 ∧ i3 < i1)).1 (own_neI (by omega)) (own_getH_nil _ _)) (getH_miss ((own_bd (show 0 ≤ i3.toInt ∧ i3.toInt < i1.toInt by omega) : ¬ i3 < 0 ∧ i3 < i1)).1 (own_neI (by omega)) (own_getH_nil _ _)) ((Dy.add own_zero (Dy.i2d i7) (by omega) (by decide)).nn) ((own_bd (show 0 ≤ i3.toInt ∧ i3.toInt < i1.toInt by omega) : ¬ i3 < 0 ∧ i3 < i1)) ((own_bd (show (0 : Int) ≤ 1 ∧ (1 : Int) < i1.toInt by omega) : ¬ (1 : Int32) < 0 ∧ (1 : Int32) < i1))) (by decide) (W := 0) (Nat.le_of_eq rfl) (by decide) (by rw [hml]; rfl) (lenOf pd_1 rfl) rfl (hb hby at_88) (pc' := 91) rfl (by decide) (by decide) ?_; intro v30 T30 L30 X30 hQ30
      obtain ⟨rfl, N30q, Kc30, P30_0, P30_1, P30_2, P30_3, P30_4, P30_5, P30_6, P30_7⟩ := hQ30
      have N30 := Fr.app N11 N30q
      generalize e30 : T30.heap = h30 at Kc30 P30_0 P30_1 P30_2 P30_3 P30_4 P30_5 P30_6 P30_7
      have K30 : Keep h0 h30 [] := K11.trans Kc30 ((allS (Or.inr sz_b9) (allS (Or.inr sz_sc_10) (allS (Or.inr sz_rt_10) (allS (Or.inr sz_dc_10) all0)))))
      have Z30 : n0 ≤ h30.size := Nat.le_trans Z11 Kc30.1
      have E_b9 : Exa Z h30 b9 "com/example/maat/maat/search/Accumulator" := P30_0
      have F_scores_b9 : Fld Z h30 b9 "com/example/maat/maat/search/Accumulator" "scores" "[D" (.ref sc_10) := P30_1
      have F_retrieved_b9 : Fld Z h30 b9 "com/example/maat/maat/search/Accumulator" "retrieved" "[Z" (.ref rt_10) := P30_2
      have F_documents_b9 : Fld Z h30 b9 "com/example/maat/maat/search/Accumulator" "documents" "[I" (.ref dc_10) := P30_3
      have F_size_b9 : Fld Z h30 b9 "com/example/maat/maat/search/Accumulator" "size" "I" (.int (2 : Int32)) := P30_4
      have V_sc_10 : Arh Z h30 sc_10 ks_10 .double i1 ((i3, (.double (FP.dadd (0 : UInt64) (FP.i2d i7)))) :: [(i2, (.double (FP.dadd (0 : UInt64) (FP.i2d i6))))]) [] (.double (0 : UInt64)) := P30_5
      have V_sc_10 : Arh Z h30 sc_10 ks_10 .double i1 [(i3, (.double (FP.dadd (0 : UInt64) (FP.i2d i7)))), (i2, (.double (FP.dadd (0 : UInt64) (FP.i2d i6))))] [] (.double (0 : UInt64)) := V_sc_10
      have V_rt_10 : Arh Z h30 rt_10 kr_10 .boolean i1 ((i3, (.int (1 : Int32))) :: [(i2, (.int (1 : Int32)))]) [] (.int (0 : Int32)) := P30_6
      have V_rt_10 : Arh Z h30 rt_10 kr_10 .boolean i1 [(i3, (.int (1 : Int32))), (i2, (.int (1 : Int32)))] [] (.int (0 : Int32)) := V_rt_10
      have V_dc_10 : Arh Z h30 dc_10 kd_10 .int i1 (((1 : Int32), (.int i3)) :: [((0 : Int32), (.int i2))]) [] (.int (0 : Int32)) := P30_7
      have V_dc_10 : Arh Z h30 dc_10 kd_10 .int i1 [((1 : Int32), (.int i3)), ((0 : Int32), (.int i2))] [] (.int (0 : Int32)) := V_dc_10
      by_cases hq_i4_i2 : i4 = i2
      · have e_i4_i2 : i4.toInt = i2.toInt := congrArg Int32.toInt hq_i4_i2
        refine R.aload X30 hx (hb hby at_91) rfl rfl (pc' := 93) rfl ?_
        refine R.iload X30 hx (hb hby at_93) rfl (pc' := 95) rfl ?_
        refine R.iload X30 hx (hb hby at_95) rfl (pc' := 97) rfl ?_
        refine R.i2d X30 hx (hb hby at_97) (pc' := 98) rfl ?_
        refine R.virtual X30 hx hZ (y := mY1) (z := mY1) hown w_19 w_20 (notFace_of_selects (args := #[]) (mvT hZ w_22)) w_22 w_21 w_3 w_23 (by decide) e30 E_b9 (rmold l Z aZ hw [] b9 i4 (FP.i2d i8) sc_10 ks_10 [(i3, (.double (FP.dadd (0 : UInt64) (FP.i2d i7)))), (i2, (.double (FP.dadd (0 : UInt64) (FP.i2d i6))))] rt_10 kr_10 [(i3, (.int (1 : Int32))), (i2, (.int (1 : Int32)))] i1 (FP.dadd (0 : UInt64) (FP.i2d i6)) h30 n0 Z30 F_scores_b9 F_retrieved_b9 V_sc_10 V_rt_10 g_sc_10 ne_b9_sc_10 ne_sc_10_rt_10 (getH_miss ((own_bd (show 0 ≤ i4.toInt ∧ i4.toInt < i1.toInt by omega) : ¬ i4 < 0 ∧ i4 < i1)).1 (own_neI (by omega)) (getH_hit ((own_bd (show 0 ≤ i4.toInt ∧ i4.toInt < i1.toInt by omega) : ¬ i4 < 0 ∧ i4 < i1)).1 (own_eqI (by omega)))) (getH_miss ((own_bd (show 0 ≤ i4.toInt ∧ i4.toInt < i1.toInt by omega) : ¬ i4 < 0 ∧ i4 < i1)).1 (own_neI (by omega)) (getH_hit ((own_bd (show 0 ≤ i4.toInt ∧ i4.toInt < i1.toInt by omega) : ¬ i4 < 0 ∧ i4 < i1)).1 (own_eqI (by omega)))) ((Dy.add (Dy.add own_zero (Dy.i2d i6) (by omega) (by decide)) (Dy.i2d i8) (by omega) (by decide)).nn) ((own_bd (show 0 ≤ i4.toInt ∧ i4.toInt < i1.toInt by omega) : ¬ i4 < 0 ∧ i4 < i1))) (by decide) (W := 0) (Nat.le_of_eq rfl) (by decide) (by rw [hml]; rfl) (lenOf pd_1 rfl) rfl (hb hby at_98) (pc' := 101) rfl (by decide) (by decide) ?_; intro v31 T31 L31 X31 hQ31
        obtain ⟨rfl, N31q, Kc31, P31_0⟩ := hQ31
        have N31 := Fr.app N30 N31q
        generalize e31 : T31.heap = h31 at Kc31 P31_0
        have K31 : Keep h0 h31 [] := K30.trans Kc31 ((allS (Or.inr sz_sc_10) all0))
        have Z31 : n0 ≤ h31.size := Nat.le_trans Z30 Kc31.1
        have E_b9 := E_b9.keep Kc31
        have F_scores_b9 := F_scores_b9.keep Kc31 (ninS ne_b9_sc_10 nin0)
        have F_retrieved_b9 := F_retrieved_b9.keep Kc31 (ninS ne_b9_sc_10 nin0)
        have F_documents_b9 := F_documents_b9.keep Kc31 (ninS ne_b9_sc_10 nin0)
        have F_size_b9 := F_size_b9.keep Kc31 (ninS ne_b9_sc_10 nin0)
        have V_rt_10 := V_rt_10.keep Kc31 (ninS (Ne.symm ne_sc_10_rt_10) nin0)
        have V_dc_10 := V_dc_10.keep Kc31 (ninS (Ne.symm ne_sc_10_dc_10) nin0)
        have V_sc_10 : Arh Z h31 sc_10 ks_10 .double i1 ((i4, (.double (FP.dadd (FP.dadd (0 : UInt64) (FP.i2d i6)) (FP.i2d i8)))) :: [(i3, (.double (FP.dadd (0 : UInt64) (FP.i2d i7)))), (i2, (.double (FP.dadd (0 : UInt64) (FP.i2d i6))))]) [] (.double (0 : UInt64)) := P31_0
        have V_sc_10 : Arh Z h31 sc_10 ks_10 .double i1 [(i4, (.double (FP.dadd (FP.dadd (0 : UInt64) (FP.i2d i6)) (FP.i2d i8)))), (i3, (.double (FP.dadd (0 : UInt64) (FP.i2d i7)))), (i2, (.double (FP.dadd (0 : UInt64) (FP.i2d i6))))] [] (.double (0 : UInt64)) := V_sc_10
        refine R.iload X31 hx (hb hby at_101) rfl (pc' := 103) rfl ?_
        refine R.iload X31 hx (hb hby at_103) rfl (pc' := 105) rfl ?_
        refine R.icmpNo X31 hx (hb hby at_105) (feq (own_neI (by omega) : ¬ (i3 = i2))).1 (pc' := 108) rfl ?_
        refine R.iconst X31 hx (hb hby at_108) (v := (1 : Int32)) (by decide) (pc' := 109) rfl ?_
        refine R.goto X31 hx (hb hby at_109) (by decide) (pc' := 113) (by decide) ?_
        refine R.istore X31 hx (hb hby at_113) (L' := #[.val (.int p0), .val (.int p1), .val (.int p2), .val (.int p3), .val (.int p4), .val (.int p5), .val (.int i1), .val (.int i2), .val (.int i3), .val (.int i4), .val (.int i5), .val (.int i6), .val (.int i7), .val (.int i8), .val (.ref b9), .val (.int (1 : Int32)), .unset, .unset, .unset]) rfl (pc' := 115) rfl ?_
        refine R.iload X31 hx (hb hby at_115) rfl (pc' := 117) rfl ?_
        refine R.iload X31 hx (hb hby at_117) rfl (pc' := 119) rfl ?_
        refine R.icmpYes X31 hx (hb hby at_119) (teq (own_eqI (by omega) : i4 = i2)).1 (by decide) (pc' := 133) (by decide) ?_
        refine R.iconst X31 hx (hb hby at_133) (v := (0 : Int32)) (by decide) (pc' := 134) rfl ?_
        refine R.istore X31 hx (hb hby at_134) (L' := #[.val (.int p0), .val (.int p1), .val (.int p2), .val (.int p3), .val (.int p4), .val (.int p5), .val (.int i1), .val (.int i2), .val (.int i3), .val (.int i4), .val (.int i5), .val (.int i6), .val (.int i7), .val (.int i8), .val (.ref b9), .val (.int (1 : Int32)), .val (.int (0 : Int32)), .unset, .unset]) rfl (pc' := 136) rfl ?_
        refine R.iconst X31 hx (hb hby at_136) (v := (1 : Int32)) (by decide) (pc' := 137) rfl ?_
        refine R.iload X31 hx (hb hby at_137) rfl (pc' := 139) rfl ?_
        refine R.ifNo X31 hx (hb hby at_139) (feq (by decide : ¬ ((1 : Int32) = (0 : Int32)))).1 (pc' := 142) rfl ?_
        refine R.iconst X31 hx (hb hby at_142) (v := (1 : Int32)) (by decide) (pc' := 143) rfl ?_
        refine R.goto X31 hx (hb hby at_143) (by decide) (pc' := 147) (by decide) ?_
        refine R.iadd X31 hx (hb hby at_147) (v := (2 : Int32)) (by decide) (pc' := 148) rfl ?_
        refine R.iload X31 hx (hb hby at_148) rfl (pc' := 150) rfl ?_
        refine R.ifYes X31 hx (hb hby at_150) (teq (by decide : (0 : Int32) = (0 : Int32))).1 (by decide) (pc' := 157) (by decide) ?_
        refine R.iconst X31 hx (hb hby at_157) (v := (0 : Int32)) (by decide) (pc' := 158) rfl ?_
        refine R.iadd X31 hx (hb hby at_158) (v := (2 : Int32)) (by decide) (pc' := 159) rfl ?_
        refine R.istore X31 hx (hb hby at_159) (L' := #[.val (.int p0), .val (.int p1), .val (.int p2), .val (.int p3), .val (.int p4), .val (.int p5), .val (.int i1), .val (.int i2), .val (.int i3), .val (.int i4), .val (.int i5), .val (.int i6), .val (.int i7), .val (.int i8), .val (.ref b9), .val (.int (1 : Int32)), .val (.int (0 : Int32)), .val (.int (2 : Int32)), .unset]) rfl (pc' := 161) rfl ?_
        refine R.aload X31 hx (hb hby at_161) rfl rfl (pc' := 163) rfl ?_
        refine R.virtual X31 hx hZ (y := mY2) (z := mY2) hown w_26 w_27 (notFace_of_selects (args := #[]) (mvT hZ w_29)) w_29 w_28 w_3 w_30 (by decide) e31 E_b9 (rm4 l Z aZ hw [] b9 (2 : Int32) h31 n0 Z31 F_size_b9) (by decide) (W := 0) (Nat.le_of_eq rfl) (by decide) (by rw [hml]; rfl) (lenOf pd_2 rfl) rfl (hb hby at_163) (pc' := 166) rfl (by decide) (by decide) ?_; intro v32 T32 L32 X32 hQ32
        obtain ⟨rfl, N32q, e32⟩ := hQ32
        have N32 := Fr.app N31 N32q
        refine R.iload X32 hx (hb hby at_166) rfl (pc' := 168) rfl ?_
        refine R.icmpYes X32 hx (hb hby at_168) (teq (by decide : (2 : Int32) = (2 : Int32))).1 (by decide) (pc' := 173) (by decide) ?_
        refine R.aload X32 hx (hb hby at_173) rfl rfl (pc' := 175) rfl ?_
        refine R.iconst X32 hx (hb hby at_175) (v := (0 : Int32)) (by decide) (pc' := 176) rfl ?_
        refine R.virtual X32 hx hZ (y := mY3) (z := mY3) hown w_31 w_32 (notFace_of_selects (args := #[]) (mvT hZ w_34)) w_34 w_33 w_3 w_35 (by decide) e32 E_b9 (rm5 l Z aZ hw [] b9 (0 : Int32) dc_10 kd_10 [((1 : Int32), (.int i3)), ((0 : Int32), (.int i2))] i1 i2 h31 n0 Z31 F_documents_b9 V_dc_10 (getH_miss ((own_bd (show (0 : Int) ≤ 0 ∧ (0 : Int) < i1.toInt by omega) : ¬ (0 : Int32) < 0 ∧ (0 : Int32) < i1)).1 (by decide) (getH_hit ((own_bd (show (0 : Int) ≤ 0 ∧ (0 : Int) < i1.toInt by omega) : ¬ (0 : Int32) < 0 ∧ (0 : Int32) < i1)).1 (rfl))) ((own_bd (show (0 : Int) ≤ 0 ∧ (0 : Int) < i1.toInt by omega) : ¬ (0 : Int32) < 0 ∧ (0 : Int32) < i1))) (by decide) (W := 0) (Nat.le_of_eq rfl) (by decide) (by rw [hml]; rfl) (lenOf pd_3 rfl) rfl (hb hby at_176) (pc' := 179) rfl (by decide) (by decide) ?_; intro v33 T33 L33 X33 hQ33
        obtain ⟨rfl, N33q, e33⟩ := hQ33
        have N33 := Fr.app N32 N33q
        refine R.iload X33 hx (hb hby at_179) rfl (pc' := 181) rfl ?_
        refine R.icmpYes X33 hx (hb hby at_181) (teq (rfl : i2 = i2)).1 (by decide) (pc' := 186) (by decide) ?_
        refine R.iload X33 hx (hb hby at_186) rfl (pc' := 188) rfl ?_
        refine R.ifNo X33 hx (hb hby at_188) (feq (by decide : ¬ ((1 : Int32) = (0 : Int32)))).1 (pc' := 191) rfl ?_
        refine R.aload X33 hx (hb hby at_191) rfl rfl (pc' := 193) rfl ?_
        refine R.iconst X33 hx (hb hby at_193) (v := (1 : Int32)) (by decide) (pc' := 194) rfl ?_
        refine R.virtual X33 hx hZ (y := mY3) (z := mY3) hown w_31 w_32 (notFace_of_selects (args := #[]) (mvT hZ w_34)) w_34 w_33 w_3 w_35 (by decide) e33 E_b9 (rm5 l Z aZ hw [] b9 (1 : Int32) dc_10 kd_10 [((1 : Int32), (.int i3)), ((0 : Int32), (.int i2))] i1 i3 h31 n0 Z31 F_documents_b9 V_dc_10 (getH_hit ((own_bd (show (0 : Int) ≤ 1 ∧ (1 : Int) < i1.toInt by omega) : ¬ (1 : Int32) < 0 ∧ (1 : Int32) < i1)).1 (rfl)) ((own_bd (show (0 : Int) ≤ 1 ∧ (1 : Int) < i1.toInt by omega) : ¬ (1 : Int32) < 0 ∧ (1 : Int32) < i1))) (by decide) (W := 0) (Nat.le_of_eq rfl) (by decide) (by rw [hml]; rfl) (lenOf pd_3 rfl) rfl (hb hby at_194) (pc' := 197) rfl (by decide) (by decide) ?_; intro v34 T34 L34 X34 hQ34
        obtain ⟨rfl, N34q, e34⟩ := hQ34
        have N34 := Fr.app N33 N34q
        refine R.iload X34 hx (hb hby at_197) rfl (pc' := 199) rfl ?_
        refine R.icmpYes X34 hx (hb hby at_199) (teq (rfl : i3 = i3)).1 (by decide) (pc' := 204) (by decide) ?_
        refine R.iload X34 hx (hb hby at_204) rfl (pc' := 206) rfl ?_
        refine R.ifYes X34 hx (hb hby at_206) (teq (by decide : (0 : Int32) = (0 : Int32))).1 (by decide) (pc' := 225) (by decide) ?_
        by_cases hq_i5_i2 : i5 = i2
        · have e_i5_i2 : i5.toInt = i2.toInt := congrArg Int32.toInt hq_i5_i2
          refine R.iload X34 hx (hb hby at_225) rfl (pc' := 227) rfl ?_
          refine R.iload X34 hx (hb hby at_227) rfl (pc' := 229) rfl ?_
          refine R.icmpNo X34 hx (hb hby at_229) (teq (own_eqI (by omega) : i5 = i2)).2 (pc' := 232) rfl ?_
          refine R.iload X34 hx (hb hby at_232) rfl (pc' := 234) rfl ?_
          refine R.goto X34 hx (hb hby at_234) (by decide) (pc' := 238) (by decide) ?_
          refine R.iload X34 hx (hb hby at_238) rfl (pc' := 240) rfl ?_
          refine R.iload X34 hx (hb hby at_240) rfl (pc' := 242) rfl ?_
          refine R.icmpYes X34 hx (hb hby at_242) (feq (own_neI (by omega) : ¬ (i5 = i3))).2 (by decide) (pc' := 250) (by decide) ?_
          refine R.iconst X34 hx (hb hby at_250) (v := (0 : Int32)) (by decide) (pc' := 251) rfl ?_
          refine R.iadd X34 hx (hb hby at_251) rfl (pc' := 252) rfl ?_
          refine R.iload X34 hx (hb hby at_252) rfl (pc' := 254) rfl ?_
          refine R.iload X34 hx (hb hby at_254) rfl (pc' := 256) rfl ?_
          refine R.icmpNo X34 hx (hb hby at_256) (teq (own_eqI (by omega) : i5 = i4)).2 (pc' := 259) rfl ?_
          refine R.iload X34 hx (hb hby at_259) rfl (pc' := 261) rfl ?_
          refine R.goto X34 hx (hb hby at_261) (by decide) (pc' := 265) (by decide) ?_
          refine R.iadd X34 hx (hb hby at_265) rfl (pc' := 266) rfl ?_
          show Rn p e below (T34.setTop (mkF m 266 #[.val (.int p0), .val (.int p1), .val (.int p2), .val (.int p3), .val (.int p4), .val (.int p5), .val (.int i1), .val (.int i2), .val (.int i3), .val (.int i4), .val (.int i5), .val (.int i6), .val (.int i7), .val (.int i8), .val (.ref b9), .val (.int (1 : Int32)), .val (.int (0 : Int32)), .val (.int (2 : Int32)), .unset] [(.int ((i6 + (0 : Int32)) + i8))])) G
          generalize hi35 : ((i6 + (0 : Int32)) + i8) = i35
          refine R.istore X34 hx (hb hby at_266) (L' := #[.val (.int p0), .val (.int p1), .val (.int p2), .val (.int p3), .val (.int p4), .val (.int p5), .val (.int i1), .val (.int i2), .val (.int i3), .val (.int i4), .val (.int i5), .val (.int i6), .val (.int i7), .val (.int i8), .val (.ref b9), .val (.int (1 : Int32)), .val (.int (0 : Int32)), .val (.int (2 : Int32)), .val (.int i35)]) rfl (pc' := 268) rfl ?_
          refine R.aload X34 hx (hb hby at_268) rfl rfl (pc' := 270) rfl ?_
          refine R.iload X34 hx (hb hby at_270) rfl (pc' := 272) rfl ?_
          refine R.virtual X34 hx hZ (y := mY4) (z := mY4) hown w_36 w_37 (notFace_of_selects (args := #[]) (mvT hZ w_39)) w_39 w_38 w_3 w_40 (by decide) e34 E_b9 (rm6 l Z aZ hw [] b9 i5 sc_10 ks_10 [(i4, (.double (FP.dadd (FP.dadd (0 : UInt64) (FP.i2d i6)) (FP.i2d i8)))), (i3, (.double (FP.dadd (0 : UInt64) (FP.i2d i7)))), (i2, (.double (FP.dadd (0 : UInt64) (FP.i2d i6))))] i1 (FP.dadd (FP.dadd (0 : UInt64) (FP.i2d i6)) (FP.i2d i8)) h31 n0 Z31 F_scores_b9 V_sc_10 (getH_hit ((own_bd (show 0 ≤ i5.toInt ∧ i5.toInt < i1.toInt by omega) : ¬ i5 < 0 ∧ i5 < i1)).1 (own_eqI (by omega))) ((own_bd (show 0 ≤ i5.toInt ∧ i5.toInt < i1.toInt by omega) : ¬ i5 < 0 ∧ i5 < i1))) (by decide) (W := 0) (Nat.le_of_eq rfl) (by decide) (by rw [hml]; rfl) (lenOf pd_4 rfl) rfl (hb hby at_272) (pc' := 275) rfl (by decide) (by decide) ?_; intro v36 T36 L36 X36 hQ36
          obtain ⟨rfl, N36q, e36⟩ := hQ36
          have N36 := Fr.app N34 N36q
          refine R.iload X36 hx (hb hby at_275) rfl (pc' := 277) rfl ?_
          refine R.i2d X36 hx (hb hby at_277) (pc' := 278) rfl ?_
          have ei : i35.toInt = ((0 + i6.toInt) + i8.toInt) := (own_exp3 (a := i6) (b := (0 : Int32)) (c := i8) (show -32768 ≤ i6.toInt ∧ i6.toInt < 32768 by first | omega | decide) (show -32768 ≤ (0 : Int32).toInt ∧ (0 : Int32).toInt < 32768 by first | omega | decide) (show -32768 ≤ i8.toInt ∧ i8.toInt < 32768 by first | omega | decide) hi35).trans (by first | (simp only [own_z32]; done) | (simp only [own_z32]; omega) | omega)
          refine R.dcmp X36 hx (hb hby at_278) (((Dy.add (Dy.add own_zero (Dy.i2d i6) (by omega) (by decide)) (Dy.i2d i8) (by omega) (by decide))).cmp ((Dy.i2d i35).cast ei rfl) _ : cmpValue (FP.dcmp (FP.dadd (FP.dadd (0 : UInt64) (FP.i2d i6)) (FP.i2d i8)) (FP.i2d i35)) .l = (own_ci ((0 + i6.toInt) + i8.toInt) ((0 + i6.toInt) + i8.toInt))) (pc' := 279) rfl ?_
          refine R.ifNo X36 hx (hb hby at_279) (teq (own_ci_eq.mpr rfl : (own_ci ((0 + i6.toInt) + i8.toInt) ((0 + i6.toInt) + i8.toInt)) = (0 : Int32))).2 (pc' := 282) rfl ?_
          refine R.iconst X36 hx (hb hby at_282) (v := (1 : Int32)) (by decide) (pc' := 283) rfl ?_
          refine R.goto X36 hx (hb hby at_283) (by decide) (pc' := 287) (by decide) ?_
          rw [← hG]
          exact Rn.ret X36 (BodyLoose.notSynchronized Bd) (v := some (.int (1 : Int32))) (fun h => by rw [Bd.returns] at h; cases h) (Q := Q0 Z p0 p1 p2 p3 p4 p5 h0 n0) e36 (fun fs hr => retN X36 hx (t := .boolean) Bd.returns (by simp) (hb hby at_287) hr) ⟨rfl, N36⟩ (by decide) (by decide)
        · have e_i5_i2 : ¬ i5.toInt = i2.toInt := fun q => hq_i5_i2 (Int32.toInt_inj.mp q)
          by_cases hq_i5_i3 : i5 = i3
          · have e_i5_i3 : i5.toInt = i3.toInt := congrArg Int32.toInt hq_i5_i3
            refine R.iload X34 hx (hb hby at_225) rfl (pc' := 227) rfl ?_
            refine R.iload X34 hx (hb hby at_227) rfl (pc' := 229) rfl ?_
            refine R.icmpYes X34 hx (hb hby at_229) (feq (own_neI (by omega) : ¬ (i5 = i2))).2 (by decide) (pc' := 237) (by decide) ?_
            refine R.iconst X34 hx (hb hby at_237) (v := (0 : Int32)) (by decide) (pc' := 238) rfl ?_
            refine R.iload X34 hx (hb hby at_238) rfl (pc' := 240) rfl ?_
            refine R.iload X34 hx (hb hby at_240) rfl (pc' := 242) rfl ?_
            refine R.icmpNo X34 hx (hb hby at_242) (teq (own_eqI (by omega) : i5 = i3)).2 (pc' := 245) rfl ?_
            refine R.iload X34 hx (hb hby at_245) rfl (pc' := 247) rfl ?_
            refine R.goto X34 hx (hb hby at_247) (by decide) (pc' := 251) (by decide) ?_
            refine R.iadd X34 hx (hb hby at_251) rfl (pc' := 252) rfl ?_
            refine R.iload X34 hx (hb hby at_252) rfl (pc' := 254) rfl ?_
            refine R.iload X34 hx (hb hby at_254) rfl (pc' := 256) rfl ?_
            refine R.icmpYes X34 hx (hb hby at_256) (feq (own_neI (by omega) : ¬ (i5 = i4))).2 (by decide) (pc' := 264) (by decide) ?_
            refine R.iconst X34 hx (hb hby at_264) (v := (0 : Int32)) (by decide) (pc' := 265) rfl ?_
            refine R.iadd X34 hx (hb hby at_265) rfl (pc' := 266) rfl ?_
            show Rn p e below (T34.setTop (mkF m 266 #[.val (.int p0), .val (.int p1), .val (.int p2), .val (.int p3), .val (.int p4), .val (.int p5), .val (.int i1), .val (.int i2), .val (.int i3), .val (.int i4), .val (.int i5), .val (.int i6), .val (.int i7), .val (.int i8), .val (.ref b9), .val (.int (1 : Int32)), .val (.int (0 : Int32)), .val (.int (2 : Int32)), .unset] [(.int (((0 : Int32) + i7) + (0 : Int32)))])) G
            generalize hi37 : (((0 : Int32) + i7) + (0 : Int32)) = i37
            refine R.istore X34 hx (hb hby at_266) (L' := #[.val (.int p0), .val (.int p1), .val (.int p2), .val (.int p3), .val (.int p4), .val (.int p5), .val (.int i1), .val (.int i2), .val (.int i3), .val (.int i4), .val (.int i5), .val (.int i6), .val (.int i7), .val (.int i8), .val (.ref b9), .val (.int (1 : Int32)), .val (.int (0 : Int32)), .val (.int (2 : Int32)), .val (.int i37)]) rfl (pc' := 268) rfl ?_
            refine R.aload X34 hx (hb hby at_268) rfl rfl (pc' := 270) rfl ?_
            refine R.iload X34 hx (hb hby at_270) rfl (pc' := 272) rfl ?_
            refine R.virtual X34 hx hZ (y := mY4) (z := mY4) hown w_36 w_37 (notFace_of_selects (args := #[]) (mvT hZ w_39)) w_39 w_38 w_3 w_40 (by decide) e34 E_b9 (rm6 l Z aZ hw [] b9 i5 sc_10 ks_10 [(i4, (.double (FP.dadd (FP.dadd (0 : UInt64) (FP.i2d i6)) (FP.i2d i8)))), (i3, (.double (FP.dadd (0 : UInt64) (FP.i2d i7)))), (i2, (.double (FP.dadd (0 : UInt64) (FP.i2d i6))))] i1 (FP.dadd (0 : UInt64) (FP.i2d i7)) h31 n0 Z31 F_scores_b9 V_sc_10 (getH_miss ((own_bd (show 0 ≤ i5.toInt ∧ i5.toInt < i1.toInt by omega) : ¬ i5 < 0 ∧ i5 < i1)).1 (own_neI (by omega)) (getH_hit ((own_bd (show 0 ≤ i5.toInt ∧ i5.toInt < i1.toInt by omega) : ¬ i5 < 0 ∧ i5 < i1)).1 (own_eqI (by omega)))) ((own_bd (show 0 ≤ i5.toInt ∧ i5.toInt < i1.toInt by omega) : ¬ i5 < 0 ∧ i5 < i1))) (by decide) (W := 0) (Nat.le_of_eq rfl) (by decide) (by rw [hml]; rfl) (lenOf pd_4 rfl) rfl (hb hby at_272) (pc' := 275) rfl (by decide) (by decide) ?_; intro v38 T38 L38 X38 hQ38
            obtain ⟨rfl, N38q, e38⟩ := hQ38
            have N38 := Fr.app N34 N38q
            refine R.iload X38 hx (hb hby at_275) rfl (pc' := 277) rfl ?_
            refine R.i2d X38 hx (hb hby at_277) (pc' := 278) rfl ?_
            have ei : i37.toInt = (0 + i7.toInt) := (own_exp3 (a := (0 : Int32)) (b := i7) (c := (0 : Int32)) (show -32768 ≤ (0 : Int32).toInt ∧ (0 : Int32).toInt < 32768 by first | omega | decide) (show -32768 ≤ i7.toInt ∧ i7.toInt < 32768 by first | omega | decide) (show -32768 ≤ (0 : Int32).toInt ∧ (0 : Int32).toInt < 32768 by first | omega | decide) hi37).trans (by first | (simp only [own_z32]; done) | (simp only [own_z32]; omega) | omega)
            refine R.dcmp X38 hx (hb hby at_278) (((Dy.add own_zero (Dy.i2d i7) (by omega) (by decide))).cmp ((Dy.i2d i37).cast ei rfl) _ : cmpValue (FP.dcmp (FP.dadd (0 : UInt64) (FP.i2d i7)) (FP.i2d i37)) .l = (own_ci (0 + i7.toInt) (0 + i7.toInt))) (pc' := 279) rfl ?_
            refine R.ifNo X38 hx (hb hby at_279) (teq (own_ci_eq.mpr rfl : (own_ci (0 + i7.toInt) (0 + i7.toInt)) = (0 : Int32))).2 (pc' := 282) rfl ?_
            refine R.iconst X38 hx (hb hby at_282) (v := (1 : Int32)) (by decide) (pc' := 283) rfl ?_
            refine R.goto X38 hx (hb hby at_283) (by decide) (pc' := 287) (by decide) ?_
            rw [← hG]
            exact Rn.ret X38 (BodyLoose.notSynchronized Bd) (v := some (.int (1 : Int32))) (fun h => by rw [Bd.returns] at h; cases h) (Q := Q0 Z p0 p1 p2 p3 p4 p5 h0 n0) e38 (fun fs hr => retN X38 hx (t := .boolean) Bd.returns (by simp) (hb hby at_287) hr) ⟨rfl, N38⟩ (by decide) (by decide)
          · have e_i5_i3 : ¬ i5.toInt = i3.toInt := fun q => hq_i5_i3 (Int32.toInt_inj.mp q)
            refine R.iload X34 hx (hb hby at_225) rfl (pc' := 227) rfl ?_
            refine R.iload X34 hx (hb hby at_227) rfl (pc' := 229) rfl ?_
            refine R.icmpYes X34 hx (hb hby at_229) (feq (own_neI (by omega) : ¬ (i5 = i2))).2 (by decide) (pc' := 237) (by decide) ?_
            refine R.iconst X34 hx (hb hby at_237) (v := (0 : Int32)) (by decide) (pc' := 238) rfl ?_
            refine R.iload X34 hx (hb hby at_238) rfl (pc' := 240) rfl ?_
            refine R.iload X34 hx (hb hby at_240) rfl (pc' := 242) rfl ?_
            refine R.icmpYes X34 hx (hb hby at_242) (feq (own_neI (by omega) : ¬ (i5 = i3))).2 (by decide) (pc' := 250) (by decide) ?_
            refine R.iconst X34 hx (hb hby at_250) (v := (0 : Int32)) (by decide) (pc' := 251) rfl ?_
            refine R.iadd X34 hx (hb hby at_251) rfl (pc' := 252) rfl ?_
            refine R.iload X34 hx (hb hby at_252) rfl (pc' := 254) rfl ?_
            refine R.iload X34 hx (hb hby at_254) rfl (pc' := 256) rfl ?_
            refine R.icmpYes X34 hx (hb hby at_256) (feq (own_neI (by omega) : ¬ (i5 = i4))).2 (by decide) (pc' := 264) (by decide) ?_
            refine R.iconst X34 hx (hb hby at_264) (v := (0 : Int32)) (by decide) (pc' := 265) rfl ?_
            refine R.iadd X34 hx (hb hby at_265) rfl (pc' := 266) rfl ?_
            show Rn p e below (T34.setTop (mkF m 266 #[.val (.int p0), .val (.int p1), .val (.int p2), .val (.int p3), .val (.int p4), .val (.int p5), .val (.int i1), .val (.int i2), .val (.int i3), .val (.int i4), .val (.int i5), .val (.int i6), .val (.int i7), .val (.int i8), .val (.ref b9), .val (.int (1 : Int32)), .val (.int (0 : Int32)), .val (.int (2 : Int32)), .unset] [(.int (((0 : Int32) + (0 : Int32)) + (0 : Int32)))])) G
            generalize hi39 : (((0 : Int32) + (0 : Int32)) + (0 : Int32)) = i39
            refine R.istore X34 hx (hb hby at_266) (L' := #[.val (.int p0), .val (.int p1), .val (.int p2), .val (.int p3), .val (.int p4), .val (.int p5), .val (.int i1), .val (.int i2), .val (.int i3), .val (.int i4), .val (.int i5), .val (.int i6), .val (.int i7), .val (.int i8), .val (.ref b9), .val (.int (1 : Int32)), .val (.int (0 : Int32)), .val (.int (2 : Int32)), .val (.int i39)]) rfl (pc' := 268) rfl ?_
            refine R.aload X34 hx (hb hby at_268) rfl rfl (pc' := 270) rfl ?_
            refine R.iload X34 hx (hb hby at_270) rfl (pc' := 272) rfl ?_
            refine R.virtual X34 hx hZ (y := mY4) (z := mY4) hown w_36 w_37 (notFace_of_selects (args := #[]) (mvT hZ w_39)) w_39 w_38 w_3 w_40 (by decide) e34 E_b9 (rm6 l Z aZ hw [] b9 i5 sc_10 ks_10 [(i4, (.double (FP.dadd (FP.dadd (0 : UInt64) (FP.i2d i6)) (FP.i2d i8)))), (i3, (.double (FP.dadd (0 : UInt64) (FP.i2d i7)))), (i2, (.double (FP.dadd (0 : UInt64) (FP.i2d i6))))] i1 (0 : UInt64) h31 n0 Z31 F_scores_b9 V_sc_10 (getH_miss ((own_bd (show 0 ≤ i5.toInt ∧ i5.toInt < i1.toInt by omega) : ¬ i5 < 0 ∧ i5 < i1)).1 (own_neI (by omega)) (getH_miss ((own_bd (show 0 ≤ i5.toInt ∧ i5.toInt < i1.toInt by omega) : ¬ i5 < 0 ∧ i5 < i1)).1 (own_neI (by omega)) (getH_miss ((own_bd (show 0 ≤ i5.toInt ∧ i5.toInt < i1.toInt by omega) : ¬ i5 < 0 ∧ i5 < i1)).1 (own_neI (by omega)) (own_getH_nil _ _)))) ((own_bd (show 0 ≤ i5.toInt ∧ i5.toInt < i1.toInt by omega) : ¬ i5 < 0 ∧ i5 < i1))) (by decide) (W := 0) (Nat.le_of_eq rfl) (by decide) (by rw [hml]; rfl) (lenOf pd_4 rfl) rfl (hb hby at_272) (pc' := 275) rfl (by decide) (by decide) ?_; intro v40 T40 L40 X40 hQ40
            obtain ⟨rfl, N40q, e40⟩ := hQ40
            have N40 := Fr.app N34 N40q
            refine R.iload X40 hx (hb hby at_275) rfl (pc' := 277) rfl ?_
            refine R.i2d X40 hx (hb hby at_277) (pc' := 278) rfl ?_
            have ei : i39.toInt = 0 := (own_exp3 (a := (0 : Int32)) (b := (0 : Int32)) (c := (0 : Int32)) (show -32768 ≤ (0 : Int32).toInt ∧ (0 : Int32).toInt < 32768 by first | omega | decide) (show -32768 ≤ (0 : Int32).toInt ∧ (0 : Int32).toInt < 32768 by first | omega | decide) (show -32768 ≤ (0 : Int32).toInt ∧ (0 : Int32).toInt < 32768 by first | omega | decide) hi39).trans (by first | (simp only [own_z32]; done) | (simp only [own_z32]; omega) | omega)
            refine R.dcmp X40 hx (hb hby at_278) ((own_zero).cmp ((Dy.i2d i39).cast ei rfl) _ : cmpValue (FP.dcmp (0 : UInt64) (FP.i2d i39)) .l = (own_ci 0 0)) (pc' := 279) rfl ?_
            refine R.ifNo X40 hx (hb hby at_279) (teq (own_ci_eq.mpr rfl : (own_ci 0 0) = (0 : Int32))).2 (pc' := 282) rfl ?_
            refine R.iconst X40 hx (hb hby at_282) (v := (1 : Int32)) (by decide) (pc' := 283) rfl ?_
            refine R.goto X40 hx (hb hby at_283) (by decide) (pc' := 287) (by decide) ?_
            rw [← hG]
            exact Rn.ret X40 (BodyLoose.notSynchronized Bd) (v := some (.int (1 : Int32))) (fun h => by rw [Bd.returns] at h; cases h) (Q := Q0 Z p0 p1 p2 p3 p4 p5 h0 n0) e40 (fun fs hr => retN X40 hx (t := .boolean) Bd.returns (by simp) (hb hby at_287) hr) ⟨rfl, N40⟩ (by decide) (by decide)
      · have e_i4_i2 : ¬ i4.toInt = i2.toInt := fun q => hq_i4_i2 (Int32.toInt_inj.mp q)
        by_cases hq_i4_i3 : i4 = i3
        · have e_i4_i3 : i4.toInt = i3.toInt := congrArg Int32.toInt hq_i4_i3
          refine R.aload X30 hx (hb hby at_91) rfl rfl (pc' := 93) rfl ?_
          refine R.iload X30 hx (hb hby at_93) rfl (pc' := 95) rfl ?_
          refine R.iload X30 hx (hb hby at_95) rfl (pc' := 97) rfl ?_
          refine R.i2d X30 hx (hb hby at_97) (pc' := 98) rfl ?_
          refine R.virtual X30 hx hZ (y := mY1) (z := mY1) hown w_19 w_20 (notFace_of_selects (args := #[]) (mvT hZ w_22)) w_22 w_21 w_3 w_23 (by decide) e30 E_b9 (rmold l Z aZ hw [] b9 i4 (FP.i2d i8) sc_10 ks_10 [(i3, (.double (FP.dadd (0 : UInt64) (FP.i2d i7)))), (i2, (.double (FP.dadd (0 : UInt64) (FP.i2d i6))))] rt_10 kr_10 [(i3, (.int (1 : Int32))), (i2, (.int (1 : Int32)))] i1 (FP.dadd (0 : UInt64) (FP.i2d i7)) h30 n0 Z30 F_scores_b9 F_retrieved_b9 V_sc_10 V_rt_10 g_sc_10 ne_b9_sc_10 ne_sc_10_rt_10 (getH_hit ((own_bd (show 0 ≤ i4.toInt ∧ i4.toInt < i1.toInt by omega) : ¬ i4 < 0 ∧ i4 < i1)).1 (own_eqI (by omega))) (getH_hit ((own_bd (show 0 ≤ i4.toInt ∧ i4.toInt < i1.toInt by omega) : ¬ i4 < 0 ∧ i4 < i1)).1 (own_eqI (by omega))) ((Dy.add (Dy.add own_zero (Dy.i2d i7) (by omega) (by decide)) (Dy.i2d i8) (by omega) (by decide)).nn) ((own_bd (show 0 ≤ i4.toInt ∧ i4.toInt < i1.toInt by omega) : ¬ i4 < 0 ∧ i4 < i1))) (by decide) (W := 0) (Nat.le_of_eq rfl) (by decide) (by rw [hml]; rfl) (lenOf pd_1 rfl) rfl (hb hby at_98) (pc' := 101) rfl (by decide) (by decide) ?_; intro v41 T41 L41 X41 hQ41
          obtain ⟨rfl, N41q, Kc41, P41_0⟩ := hQ41
          have N41 := Fr.app N30 N41q
          generalize e41 : T41.heap = h41 at Kc41 P41_0
          have K41 : Keep h0 h41 [] := K30.trans Kc41 ((allS (Or.inr sz_sc_10) all0))
          have Z41 : n0 ≤ h41.size := Nat.le_trans Z30 Kc41.1
          have E_b9 := E_b9.keep Kc41
          have F_scores_b9 := F_scores_b9.keep Kc41 (ninS ne_b9_sc_10 nin0)
          have F_retrieved_b9 := F_retrieved_b9.keep Kc41 (ninS ne_b9_sc_10 nin0)
          have F_documents_b9 := F_documents_b9.keep Kc41 (ninS ne_b9_sc_10 nin0)
          have F_size_b9 := F_size_b9.keep Kc41 (ninS ne_b9_sc_10 nin0)
          have V_rt_10 := V_rt_10.keep Kc41 (ninS (Ne.symm ne_sc_10_rt_10) nin0)
          have V_dc_10 := V_dc_10.keep Kc41 (ninS (Ne.symm ne_sc_10_dc_10) nin0)
          have V_sc_10 : Arh Z h41 sc_10 ks_10 .double i1 ((i4, (.double (FP.dadd (FP.dadd (0 : UInt64) (FP.i2d i7)) (FP.i2d i8)))) :: [(i3, (.double (FP.dadd (0 : UInt64) (FP.i2d i7)))), (i2, (.double (FP.dadd (0 : UInt64) (FP.i2d i6))))]) [] (.double (0 : UInt64)) := P41_0
          have V_sc_10 : Arh Z h41 sc_10 ks_10 .double i1 [(i4, (.double (FP.dadd (FP.dadd (0 : UInt64) (FP.i2d i7)) (FP.i2d i8)))), (i3, (.double (FP.dadd (0 : UInt64) (FP.i2d i7)))), (i2, (.double (FP.dadd (0 : UInt64) (FP.i2d i6))))] [] (.double (0 : UInt64)) := V_sc_10
          refine R.iload X41 hx (hb hby at_101) rfl (pc' := 103) rfl ?_
          refine R.iload X41 hx (hb hby at_103) rfl (pc' := 105) rfl ?_
          refine R.icmpNo X41 hx (hb hby at_105) (feq (own_neI (by omega) : ¬ (i3 = i2))).1 (pc' := 108) rfl ?_
          refine R.iconst X41 hx (hb hby at_108) (v := (1 : Int32)) (by decide) (pc' := 109) rfl ?_
          refine R.goto X41 hx (hb hby at_109) (by decide) (pc' := 113) (by decide) ?_
          refine R.istore X41 hx (hb hby at_113) (L' := #[.val (.int p0), .val (.int p1), .val (.int p2), .val (.int p3), .val (.int p4), .val (.int p5), .val (.int i1), .val (.int i2), .val (.int i3), .val (.int i4), .val (.int i5), .val (.int i6), .val (.int i7), .val (.int i8), .val (.ref b9), .val (.int (1 : Int32)), .unset, .unset, .unset]) rfl (pc' := 115) rfl ?_
          refine R.iload X41 hx (hb hby at_115) rfl (pc' := 117) rfl ?_
          refine R.iload X41 hx (hb hby at_117) rfl (pc' := 119) rfl ?_
          refine R.icmpNo X41 hx (hb hby at_119) (feq (own_neI (by omega) : ¬ (i4 = i2))).1 (pc' := 122) rfl ?_
          refine R.iload X41 hx (hb hby at_122) rfl (pc' := 124) rfl ?_
          refine R.iload X41 hx (hb hby at_124) rfl (pc' := 126) rfl ?_
          refine R.icmpYes X41 hx (hb hby at_126) (teq (own_eqI (by omega) : i4 = i3)).1 (by decide) (pc' := 133) (by decide) ?_
          refine R.iconst X41 hx (hb hby at_133) (v := (0 : Int32)) (by decide) (pc' := 134) rfl ?_
          refine R.istore X41 hx (hb hby at_134) (L' := #[.val (.int p0), .val (.int p1), .val (.int p2), .val (.int p3), .val (.int p4), .val (.int p5), .val (.int i1), .val (.int i2), .val (.int i3), .val (.int i4), .val (.int i5), .val (.int i6), .val (.int i7), .val (.int i8), .val (.ref b9), .val (.int (1 : Int32)), .val (.int (0 : Int32)), .unset, .unset]) rfl (pc' := 136) rfl ?_
          refine R.iconst X41 hx (hb hby at_136) (v := (1 : Int32)) (by decide) (pc' := 137) rfl ?_
          refine R.iload X41 hx (hb hby at_137) rfl (pc' := 139) rfl ?_
          refine R.ifNo X41 hx (hb hby at_139) (feq (by decide : ¬ ((1 : Int32) = (0 : Int32)))).1 (pc' := 142) rfl ?_
          refine R.iconst X41 hx (hb hby at_142) (v := (1 : Int32)) (by decide) (pc' := 143) rfl ?_
          refine R.goto X41 hx (hb hby at_143) (by decide) (pc' := 147) (by decide) ?_
          refine R.iadd X41 hx (hb hby at_147) (v := (2 : Int32)) (by decide) (pc' := 148) rfl ?_
          refine R.iload X41 hx (hb hby at_148) rfl (pc' := 150) rfl ?_
          refine R.ifYes X41 hx (hb hby at_150) (teq (by decide : (0 : Int32) = (0 : Int32))).1 (by decide) (pc' := 157) (by decide) ?_
          refine R.iconst X41 hx (hb hby at_157) (v := (0 : Int32)) (by decide) (pc' := 158) rfl ?_
          refine R.iadd X41 hx (hb hby at_158) (v := (2 : Int32)) (by decide) (pc' := 159) rfl ?_
          refine R.istore X41 hx (hb hby at_159) (L' := #[.val (.int p0), .val (.int p1), .val (.int p2), .val (.int p3), .val (.int p4), .val (.int p5), .val (.int i1), .val (.int i2), .val (.int i3), .val (.int i4), .val (.int i5), .val (.int i6), .val (.int i7), .val (.int i8), .val (.ref b9), .val (.int (1 : Int32)), .val (.int (0 : Int32)), .val (.int (2 : Int32)), .unset]) rfl (pc' := 161) rfl ?_
          refine R.aload X41 hx (hb hby at_161) rfl rfl (pc' := 163) rfl ?_
          refine R.virtual X41 hx hZ (y := mY2) (z := mY2) hown w_26 w_27 (notFace_of_selects (args := #[]) (mvT hZ w_29)) w_29 w_28 w_3 w_30 (by decide) e41 E_b9 (rm4 l Z aZ hw [] b9 (2 : Int32) h41 n0 Z41 F_size_b9) (by decide) (W := 0) (Nat.le_of_eq rfl) (by decide) (by rw [hml]; rfl) (lenOf pd_2 rfl) rfl (hb hby at_163) (pc' := 166) rfl (by decide) (by decide) ?_; intro v42 T42 L42 X42 hQ42
          obtain ⟨rfl, N42q, e42⟩ := hQ42
          have N42 := Fr.app N41 N42q
          refine R.iload X42 hx (hb hby at_166) rfl (pc' := 168) rfl ?_
          refine R.icmpYes X42 hx (hb hby at_168) (teq (by decide : (2 : Int32) = (2 : Int32))).1 (by decide) (pc' := 173) (by decide) ?_
          refine R.aload X42 hx (hb hby at_173) rfl rfl (pc' := 175) rfl ?_
          refine R.iconst X42 hx (hb hby at_175) (v := (0 : Int32)) (by decide) (pc' := 176) rfl ?_
          refine R.virtual X42 hx hZ (y := mY3) (z := mY3) hown w_31 w_32 (notFace_of_selects (args := #[]) (mvT hZ w_34)) w_34 w_33 w_3 w_35 (by decide) e42 E_b9 (rm5 l Z aZ hw [] b9 (0 : Int32) dc_10 kd_10 [((1 : Int32), (.int i3)), ((0 : Int32), (.int i2))] i1 i2 h41 n0 Z41 F_documents_b9 V_dc_10 (getH_miss ((own_bd (show (0 : Int) ≤ 0 ∧ (0 : Int) < i1.toInt by omega) : ¬ (0 : Int32) < 0 ∧ (0 : Int32) < i1)).1 (by decide) (getH_hit ((own_bd (show (0 : Int) ≤ 0 ∧ (0 : Int) < i1.toInt by omega) : ¬ (0 : Int32) < 0 ∧ (0 : Int32) < i1)).1 (rfl))) ((own_bd (show (0 : Int) ≤ 0 ∧ (0 : Int) < i1.toInt by omega) : ¬ (0 : Int32) < 0 ∧ (0 : Int32) < i1))) (by decide) (W := 0) (Nat.le_of_eq rfl) (by decide) (by rw [hml]; rfl) (lenOf pd_3 rfl) rfl (hb hby at_176) (pc' := 179) rfl (by decide) (by decide) ?_; intro v43 T43 L43 X43 hQ43
          obtain ⟨rfl, N43q, e43⟩ := hQ43
          have N43 := Fr.app N42 N43q
          refine R.iload X43 hx (hb hby at_179) rfl (pc' := 181) rfl ?_
          refine R.icmpYes X43 hx (hb hby at_181) (teq (rfl : i2 = i2)).1 (by decide) (pc' := 186) (by decide) ?_
          refine R.iload X43 hx (hb hby at_186) rfl (pc' := 188) rfl ?_
          refine R.ifNo X43 hx (hb hby at_188) (feq (by decide : ¬ ((1 : Int32) = (0 : Int32)))).1 (pc' := 191) rfl ?_
          refine R.aload X43 hx (hb hby at_191) rfl rfl (pc' := 193) rfl ?_
          refine R.iconst X43 hx (hb hby at_193) (v := (1 : Int32)) (by decide) (pc' := 194) rfl ?_
          refine R.virtual X43 hx hZ (y := mY3) (z := mY3) hown w_31 w_32 (notFace_of_selects (args := #[]) (mvT hZ w_34)) w_34 w_33 w_3 w_35 (by decide) e43 E_b9 (rm5 l Z aZ hw [] b9 (1 : Int32) dc_10 kd_10 [((1 : Int32), (.int i3)), ((0 : Int32), (.int i2))] i1 i3 h41 n0 Z41 F_documents_b9 V_dc_10 (getH_hit ((own_bd (show (0 : Int) ≤ 1 ∧ (1 : Int) < i1.toInt by omega) : ¬ (1 : Int32) < 0 ∧ (1 : Int32) < i1)).1 (rfl)) ((own_bd (show (0 : Int) ≤ 1 ∧ (1 : Int) < i1.toInt by omega) : ¬ (1 : Int32) < 0 ∧ (1 : Int32) < i1))) (by decide) (W := 0) (Nat.le_of_eq rfl) (by decide) (by rw [hml]; rfl) (lenOf pd_3 rfl) rfl (hb hby at_194) (pc' := 197) rfl (by decide) (by decide) ?_; intro v44 T44 L44 X44 hQ44
          obtain ⟨rfl, N44q, e44⟩ := hQ44
          have N44 := Fr.app N43 N44q
          refine R.iload X44 hx (hb hby at_197) rfl (pc' := 199) rfl ?_
          refine R.icmpYes X44 hx (hb hby at_199) (teq (rfl : i3 = i3)).1 (by decide) (pc' := 204) (by decide) ?_
          refine R.iload X44 hx (hb hby at_204) rfl (pc' := 206) rfl ?_
          refine R.ifYes X44 hx (hb hby at_206) (teq (by decide : (0 : Int32) = (0 : Int32))).1 (by decide) (pc' := 225) (by decide) ?_
          by_cases hq_i5_i2 : i5 = i2
          · have e_i5_i2 : i5.toInt = i2.toInt := congrArg Int32.toInt hq_i5_i2
            refine R.iload X44 hx (hb hby at_225) rfl (pc' := 227) rfl ?_
            refine R.iload X44 hx (hb hby at_227) rfl (pc' := 229) rfl ?_
            refine R.icmpNo X44 hx (hb hby at_229) (teq (own_eqI (by omega) : i5 = i2)).2 (pc' := 232) rfl ?_
            refine R.iload X44 hx (hb hby at_232) rfl (pc' := 234) rfl ?_
            refine R.goto X44 hx (hb hby at_234) (by decide) (pc' := 238) (by decide) ?_
            refine R.iload X44 hx (hb hby at_238) rfl (pc' := 240) rfl ?_
            refine R.iload X44 hx (hb hby at_240) rfl (pc' := 242) rfl ?_
            refine R.icmpYes X44 hx (hb hby at_242) (feq (own_neI (by omega) : ¬ (i5 = i3))).2 (by decide) (pc' := 250) (by decide) ?_
            refine R.iconst X44 hx (hb hby at_250) (v := (0 : Int32)) (by decide) (pc' := 251) rfl ?_
            refine R.iadd X44 hx (hb hby at_251) rfl (pc' := 252) rfl ?_
            refine R.iload X44 hx (hb hby at_252) rfl (pc' := 254) rfl ?_
            refine R.iload X44 hx (hb hby at_254) rfl (pc' := 256) rfl ?_
            refine R.icmpYes X44 hx (hb hby at_256) (feq (own_neI (by omega) : ¬ (i5 = i4))).2 (by decide) (pc' := 264) (by decide) ?_
            refine R.iconst X44 hx (hb hby at_264) (v := (0 : Int32)) (by decide) (pc' := 265) rfl ?_
            refine R.iadd X44 hx (hb hby at_265) rfl (pc' := 266) rfl ?_
            show Rn p e below (T44.setTop (mkF m 266 #[.val (.int p0), .val (.int p1), .val (.int p2), .val (.int p3), .val (.int p4), .val (.int p5), .val (.int i1), .val (.int i2), .val (.int i3), .val (.int i4), .val (.int i5), .val (.int i6), .val (.int i7), .val (.int i8), .val (.ref b9), .val (.int (1 : Int32)), .val (.int (0 : Int32)), .val (.int (2 : Int32)), .unset] [(.int ((i6 + (0 : Int32)) + (0 : Int32)))])) G
            generalize hi45 : ((i6 + (0 : Int32)) + (0 : Int32)) = i45
            refine R.istore X44 hx (hb hby at_266) (L' := #[.val (.int p0), .val (.int p1), .val (.int p2), .val (.int p3), .val (.int p4), .val (.int p5), .val (.int i1), .val (.int i2), .val (.int i3), .val (.int i4), .val (.int i5), .val (.int i6), .val (.int i7), .val (.int i8), .val (.ref b9), .val (.int (1 : Int32)), .val (.int (0 : Int32)), .val (.int (2 : Int32)), .val (.int i45)]) rfl (pc' := 268) rfl ?_
            refine R.aload X44 hx (hb hby at_268) rfl rfl (pc' := 270) rfl ?_
            refine R.iload X44 hx (hb hby at_270) rfl (pc' := 272) rfl ?_
            refine R.virtual X44 hx hZ (y := mY4) (z := mY4) hown w_36 w_37 (notFace_of_selects (args := #[]) (mvT hZ w_39)) w_39 w_38 w_3 w_40 (by decide) e44 E_b9 (rm6 l Z aZ hw [] b9 i5 sc_10 ks_10 [(i4, (.double (FP.dadd (FP.dadd (0 : UInt64) (FP.i2d i7)) (FP.i2d i8)))), (i3, (.double (FP.dadd (0 : UInt64) (FP.i2d i7)))), (i2, (.double (FP.dadd (0 : UInt64) (FP.i2d i6))))] i1 (FP.dadd (0 : UInt64) (FP.i2d i6)) h41 n0 Z41 F_scores_b9 V_sc_10 (getH_miss ((own_bd (show 0 ≤ i5.toInt ∧ i5.toInt < i1.toInt by omega) : ¬ i5 < 0 ∧ i5 < i1)).1 (own_neI (by omega)) (getH_miss ((own_bd (show 0 ≤ i5.toInt ∧ i5.toInt < i1.toInt by omega) : ¬ i5 < 0 ∧ i5 < i1)).1 (own_neI (by omega)) (getH_hit ((own_bd (show 0 ≤ i5.toInt ∧ i5.toInt < i1.toInt by omega) : ¬ i5 < 0 ∧ i5 < i1)).1 (own_eqI (by omega))))) ((own_bd (show 0 ≤ i5.toInt ∧ i5.toInt < i1.toInt by omega) : ¬ i5 < 0 ∧ i5 < i1))) (by decide) (W := 0) (Nat.le_of_eq rfl) (by decide) (by rw [hml]; rfl) (lenOf pd_4 rfl) rfl (hb hby at_272) (pc' := 275) rfl (by decide) (by decide) ?_; intro v46 T46 L46 X46 hQ46
            obtain ⟨rfl, N46q, e46⟩ := hQ46
            have N46 := Fr.app N44 N46q
            refine R.iload X46 hx (hb hby at_275) rfl (pc' := 277) rfl ?_
            refine R.i2d X46 hx (hb hby at_277) (pc' := 278) rfl ?_
            have ei : i45.toInt = (0 + i6.toInt) := (own_exp3 (a := i6) (b := (0 : Int32)) (c := (0 : Int32)) (show -32768 ≤ i6.toInt ∧ i6.toInt < 32768 by first | omega | decide) (show -32768 ≤ (0 : Int32).toInt ∧ (0 : Int32).toInt < 32768 by first | omega | decide) (show -32768 ≤ (0 : Int32).toInt ∧ (0 : Int32).toInt < 32768 by first | omega | decide) hi45).trans (by first | (simp only [own_z32]; done) | (simp only [own_z32]; omega) | omega)
            refine R.dcmp X46 hx (hb hby at_278) (((Dy.add own_zero (Dy.i2d i6) (by omega) (by decide))).cmp ((Dy.i2d i45).cast ei rfl) _ : cmpValue (FP.dcmp (FP.dadd (0 : UInt64) (FP.i2d i6)) (FP.i2d i45)) .l = (own_ci (0 + i6.toInt) (0 + i6.toInt))) (pc' := 279) rfl ?_
            refine R.ifNo X46 hx (hb hby at_279) (teq (own_ci_eq.mpr rfl : (own_ci (0 + i6.toInt) (0 + i6.toInt)) = (0 : Int32))).2 (pc' := 282) rfl ?_
            refine R.iconst X46 hx (hb hby at_282) (v := (1 : Int32)) (by decide) (pc' := 283) rfl ?_
            refine R.goto X46 hx (hb hby at_283) (by decide) (pc' := 287) (by decide) ?_
            rw [← hG]
            exact Rn.ret X46 (BodyLoose.notSynchronized Bd) (v := some (.int (1 : Int32))) (fun h => by rw [Bd.returns] at h; cases h) (Q := Q0 Z p0 p1 p2 p3 p4 p5 h0 n0) e46 (fun fs hr => retN X46 hx (t := .boolean) Bd.returns (by simp) (hb hby at_287) hr) ⟨rfl, N46⟩ (by decide) (by decide)
          · have e_i5_i2 : ¬ i5.toInt = i2.toInt := fun q => hq_i5_i2 (Int32.toInt_inj.mp q)
            by_cases hq_i5_i3 : i5 = i3
            · have e_i5_i3 : i5.toInt = i3.toInt := congrArg Int32.toInt hq_i5_i3
              refine R.iload X44 hx (hb hby at_225) rfl (pc' := 227) rfl ?_
              refine R.iload X44 hx (hb hby at_227) rfl (pc' := 229) rfl ?_
              refine R.icmpYes X44 hx (hb hby at_229) (feq (own_neI (by omega) : ¬ (i5 = i2))).2 (by decide) (pc' := 237) (by decide) ?_
              refine R.iconst X44 hx (hb hby at_237) (v := (0 : Int32)) (by decide) (pc' := 238) rfl ?_
              refine R.iload X44 hx (hb hby at_238) rfl (pc' := 240) rfl ?_
              refine R.iload X44 hx (hb hby at_240) rfl (pc' := 242) rfl ?_
              refine R.icmpNo X44 hx (hb hby at_242) (teq (own_eqI (by omega) : i5 = i3)).2 (pc' := 245) rfl ?_
              refine R.iload X44 hx (hb hby at_245) rfl (pc' := 247) rfl ?_
              refine R.goto X44 hx (hb hby at_247) (by decide) (pc' := 251) (by decide) ?_
              refine R.iadd X44 hx (hb hby at_251) rfl (pc' := 252) rfl ?_
              refine R.iload X44 hx (hb hby at_252) rfl (pc' := 254) rfl ?_
              refine R.iload X44 hx (hb hby at_254) rfl (pc' := 256) rfl ?_
              refine R.icmpNo X44 hx (hb hby at_256) (teq (own_eqI (by omega) : i5 = i4)).2 (pc' := 259) rfl ?_
              refine R.iload X44 hx (hb hby at_259) rfl (pc' := 261) rfl ?_
              refine R.goto X44 hx (hb hby at_261) (by decide) (pc' := 265) (by decide) ?_
              refine R.iadd X44 hx (hb hby at_265) rfl (pc' := 266) rfl ?_
              show Rn p e below (T44.setTop (mkF m 266 #[.val (.int p0), .val (.int p1), .val (.int p2), .val (.int p3), .val (.int p4), .val (.int p5), .val (.int i1), .val (.int i2), .val (.int i3), .val (.int i4), .val (.int i5), .val (.int i6), .val (.int i7), .val (.int i8), .val (.ref b9), .val (.int (1 : Int32)), .val (.int (0 : Int32)), .val (.int (2 : Int32)), .unset] [(.int (((0 : Int32) + i7) + i8))])) G
              generalize hi47 : (((0 : Int32) + i7) + i8) = i47
              refine R.istore X44 hx (hb hby at_266) (L' := #[.val (.int p0), .val (.int p1), .val (.int p2), .val (.int p3), .val (.int p4), .val (.int p5), .val (.int i1), .val (.int i2), .val (.int i3), .val (.int i4), .val (.int i5), .val (.int i6), .val (.int i7), .val (.int i8), .val (.ref b9), .val (.int (1 : Int32)), .val (.int (0 : Int32)), .val (.int (2 : Int32)), .val (.int i47)]) rfl (pc' := 268) rfl ?_
              refine R.aload X44 hx (hb hby at_268) rfl rfl (pc' := 270) rfl ?_
              refine R.iload X44 hx (hb hby at_270) rfl (pc' := 272) rfl ?_
              refine R.virtual X44 hx hZ (y := mY4) (z := mY4) hown w_36 w_37 (notFace_of_selects (args := #[]) (mvT hZ w_39)) w_39 w_38 w_3 w_40 (by decide) e44 E_b9 (rm6 l Z aZ hw [] b9 i5 sc_10 ks_10 [(i4, (.double (FP.dadd (FP.dadd (0 : UInt64) (FP.i2d i7)) (FP.i2d i8)))), (i3, (.double (FP.dadd (0 : UInt64) (FP.i2d i7)))), (i2, (.double (FP.dadd (0 : UInt64) (FP.i2d i6))))] i1 (FP.dadd (FP.dadd (0 : UInt64) (FP.i2d i7)) (FP.i2d i8)) h41 n0 Z41 F_scores_b9 V_sc_10 (getH_hit ((own_bd (show 0 ≤ i5.toInt ∧ i5.toInt < i1.toInt by omega) : ¬ i5 < 0 ∧ i5 < i1)).1 (own_eqI (by omega))) ((own_bd (show 0 ≤ i5.toInt ∧ i5.toInt < i1.toInt by omega) : ¬ i5 < 0 ∧ i5 < i1))) (by decide) (W := 0) (Nat.le_of_eq rfl) (by decide) (by rw [hml]; rfl) (lenOf pd_4 rfl) rfl (hb hby at_272) (pc' := 275) rfl (by decide) (by decide) ?_; intro v48 T48 L48 X48 hQ48
              obtain ⟨rfl, N48q, e48⟩ := hQ48
              have N48 := Fr.app N44 N48q
              refine R.iload X48 hx (hb hby at_275) rfl (pc' := 277) rfl ?_
              refine R.i2d X48 hx (hb hby at_277) (pc' := 278) rfl ?_
              have ei : i47.toInt = ((0 + i7.toInt) + i8.toInt) := (own_exp3 (a := (0 : Int32)) (b := i7) (c := i8) (show -32768 ≤ (0 : Int32).toInt ∧ (0 : Int32).toInt < 32768 by first | omega | decide) (show -32768 ≤ i7.toInt ∧ i7.toInt < 32768 by first | omega | decide) (show -32768 ≤ i8.toInt ∧ i8.toInt < 32768 by first | omega | decide) hi47).trans (by first | (simp only [own_z32]; done) | (simp only [own_z32]; omega) | omega)
              refine R.dcmp X48 hx (hb hby at_278) (((Dy.add (Dy.add own_zero (Dy.i2d i7) (by omega) (by decide)) (Dy.i2d i8) (by omega) (by decide))).cmp ((Dy.i2d i47).cast ei rfl) _ : cmpValue (FP.dcmp (FP.dadd (FP.dadd (0 : UInt64) (FP.i2d i7)) (FP.i2d i8)) (FP.i2d i47)) .l = (own_ci ((0 + i7.toInt) + i8.toInt) ((0 + i7.toInt) + i8.toInt))) (pc' := 279) rfl ?_
              refine R.ifNo X48 hx (hb hby at_279) (teq (own_ci_eq.mpr rfl : (own_ci ((0 + i7.toInt) + i8.toInt) ((0 + i7.toInt) + i8.toInt)) = (0 : Int32))).2 (pc' := 282) rfl ?_
              refine R.iconst X48 hx (hb hby at_282) (v := (1 : Int32)) (by decide) (pc' := 283) rfl ?_
              refine R.goto X48 hx (hb hby at_283) (by decide) (pc' := 287) (by decide) ?_
              rw [← hG]
              exact Rn.ret X48 (BodyLoose.notSynchronized Bd) (v := some (.int (1 : Int32))) (fun h => by rw [Bd.returns] at h; cases h) (Q := Q0 Z p0 p1 p2 p3 p4 p5 h0 n0) e48 (fun fs hr => retN X48 hx (t := .boolean) Bd.returns (by simp) (hb hby at_287) hr) ⟨rfl, N48⟩ (by decide) (by decide)
            · have e_i5_i3 : ¬ i5.toInt = i3.toInt := fun q => hq_i5_i3 (Int32.toInt_inj.mp q)
              refine R.iload X44 hx (hb hby at_225) rfl (pc' := 227) rfl ?_
              refine R.iload X44 hx (hb hby at_227) rfl (pc' := 229) rfl ?_
              refine R.icmpYes X44 hx (hb hby at_229) (feq (own_neI (by omega) : ¬ (i5 = i2))).2 (by decide) (pc' := 237) (by decide) ?_
              refine R.iconst X44 hx (hb hby at_237) (v := (0 : Int32)) (by decide) (pc' := 238) rfl ?_
              refine R.iload X44 hx (hb hby at_238) rfl (pc' := 240) rfl ?_
              refine R.iload X44 hx (hb hby at_240) rfl (pc' := 242) rfl ?_
              refine R.icmpYes X44 hx (hb hby at_242) (feq (own_neI (by omega) : ¬ (i5 = i3))).2 (by decide) (pc' := 250) (by decide) ?_
              refine R.iconst X44 hx (hb hby at_250) (v := (0 : Int32)) (by decide) (pc' := 251) rfl ?_
              refine R.iadd X44 hx (hb hby at_251) rfl (pc' := 252) rfl ?_
              refine R.iload X44 hx (hb hby at_252) rfl (pc' := 254) rfl ?_
              refine R.iload X44 hx (hb hby at_254) rfl (pc' := 256) rfl ?_
              refine R.icmpYes X44 hx (hb hby at_256) (feq (own_neI (by omega) : ¬ (i5 = i4))).2 (by decide) (pc' := 264) (by decide) ?_
              refine R.iconst X44 hx (hb hby at_264) (v := (0 : Int32)) (by decide) (pc' := 265) rfl ?_
              refine R.iadd X44 hx (hb hby at_265) rfl (pc' := 266) rfl ?_
              show Rn p e below (T44.setTop (mkF m 266 #[.val (.int p0), .val (.int p1), .val (.int p2), .val (.int p3), .val (.int p4), .val (.int p5), .val (.int i1), .val (.int i2), .val (.int i3), .val (.int i4), .val (.int i5), .val (.int i6), .val (.int i7), .val (.int i8), .val (.ref b9), .val (.int (1 : Int32)), .val (.int (0 : Int32)), .val (.int (2 : Int32)), .unset] [(.int (((0 : Int32) + (0 : Int32)) + (0 : Int32)))])) G
              generalize hi49 : (((0 : Int32) + (0 : Int32)) + (0 : Int32)) = i49
              refine R.istore X44 hx (hb hby at_266) (L' := #[.val (.int p0), .val (.int p1), .val (.int p2), .val (.int p3), .val (.int p4), .val (.int p5), .val (.int i1), .val (.int i2), .val (.int i3), .val (.int i4), .val (.int i5), .val (.int i6), .val (.int i7), .val (.int i8), .val (.ref b9), .val (.int (1 : Int32)), .val (.int (0 : Int32)), .val (.int (2 : Int32)), .val (.int i49)]) rfl (pc' := 268) rfl ?_
              refine R.aload X44 hx (hb hby at_268) rfl rfl (pc' := 270) rfl ?_
              refine R.iload X44 hx (hb hby at_270) rfl (pc' := 272) rfl ?_
              refine R.virtual X44 hx hZ (y := mY4) (z := mY4) hown w_36 w_37 (notFace_of_selects (args := #[]) (mvT hZ w_39)) w_39 w_38 w_3 w_40 (by decide) e44 E_b9 (rm6 l Z aZ hw [] b9 i5 sc_10 ks_10 [(i4, (.double (FP.dadd (FP.dadd (0 : UInt64) (FP.i2d i7)) (FP.i2d i8)))), (i3, (.double (FP.dadd (0 : UInt64) (FP.i2d i7)))), (i2, (.double (FP.dadd (0 : UInt64) (FP.i2d i6))))] i1 (0 : UInt64) h41 n0 Z41 F_scores_b9 V_sc_10 (getH_miss ((own_bd (show 0 ≤ i5.toInt ∧ i5.toInt < i1.toInt by omega) : ¬ i5 < 0 ∧ i5 < i1)).1 (own_neI (by omega)) (getH_miss ((own_bd (show 0 ≤ i5.toInt ∧ i5.toInt < i1.toInt by omega) : ¬ i5 < 0 ∧ i5 < i1)).1 (own_neI (by omega)) (getH_miss ((own_bd (show 0 ≤ i5.toInt ∧ i5.toInt < i1.toInt by omega) : ¬ i5 < 0 ∧ i5 < i1)).1 (own_neI (by omega)) (own_getH_nil _ _)))) ((own_bd (show 0 ≤ i5.toInt ∧ i5.toInt < i1.toInt by omega) : ¬ i5 < 0 ∧ i5 < i1))) (by decide) (W := 0) (Nat.le_of_eq rfl) (by decide) (by rw [hml]; rfl) (lenOf pd_4 rfl) rfl (hb hby at_272) (pc' := 275) rfl (by decide) (by decide) ?_; intro v50 T50 L50 X50 hQ50
              obtain ⟨rfl, N50q, e50⟩ := hQ50
              have N50 := Fr.app N44 N50q
              refine R.iload X50 hx (hb hby at_275) rfl (pc' := 277) rfl ?_
              refine R.i2d X50 hx (hb hby at_277) (pc' := 278) rfl ?_
              have ei : i49.toInt = 0 := (own_exp3 (a := (0 : Int32)) (b := (0 : Int32)) (c := (0 : Int32)) (show -32768 ≤ (0 : Int32).toInt ∧ (0 : Int32).toInt < 32768 by first | omega | decide) (show -32768 ≤ (0 : Int32).toInt ∧ (0 : Int32).toInt < 32768 by first | omega | decide) (show -32768 ≤ (0 : Int32).toInt ∧ (0 : Int32).toInt < 32768 by first | omega | decide) hi49).trans (by first | (simp only [own_z32]; done) | (simp only [own_z32]; omega) | omega)
              refine R.dcmp X50 hx (hb hby at_278) ((own_zero).cmp ((Dy.i2d i49).cast ei rfl) _ : cmpValue (FP.dcmp (0 : UInt64) (FP.i2d i49)) .l = (own_ci 0 0)) (pc' := 279) rfl ?_
              refine R.ifNo X50 hx (hb hby at_279) (teq (own_ci_eq.mpr rfl : (own_ci 0 0) = (0 : Int32))).2 (pc' := 282) rfl ?_
              refine R.iconst X50 hx (hb hby at_282) (v := (1 : Int32)) (by decide) (pc' := 283) rfl ?_
              refine R.goto X50 hx (hb hby at_283) (by decide) (pc' := 287) (by decide) ?_
              rw [← hG]
              exact Rn.ret X50 (BodyLoose.notSynchronized Bd) (v := some (.int (1 : Int32))) (fun h => by rw [Bd.returns] at h; cases h) (Q := Q0 Z p0 p1 p2 p3 p4 p5 h0 n0) e50 (fun fs hr => retN X50 hx (t := .boolean) Bd.returns (by simp) (hb hby at_287) hr) ⟨rfl, N50⟩ (by decide) (by decide)
        · have e_i4_i3 : ¬ i4.toInt = i3.toInt := fun q => hq_i4_i3 (Int32.toInt_inj.mp q)
          refine R.aload X30 hx (hb hby at_91) rfl rfl (pc' := 93) rfl ?_
          refine R.iload X30 hx (hb hby at_93) rfl (pc' := 95) rfl ?_
          refine R.iload X30 hx (hb hby at_95) rfl (pc' := 97) rfl ?_
          refine R.i2d X30 hx (hb hby at_97) (pc' := 98) rfl ?_
          refine R.virtual X30 hx hZ (y := mY1) (z := mY1) hown w_19 w_20 (notFace_of_selects (args := #[]) (mvT hZ w_22)) w_22 w_21 w_3 w_23 (by decide) e30 E_b9 (rmnew l Z aZ hw [] b9 i4 (FP.i2d i8) sc_10 ks_10 [(i3, (.double (FP.dadd (0 : UInt64) (FP.i2d i7)))), (i2, (.double (FP.dadd (0 : UInt64) (FP.i2d i6))))] rt_10 kr_10 [(i3, (.int (1 : Int32))), (i2, (.int (1 : Int32)))] dc_10 kd_10 [((1 : Int32), (.int i3)), ((0 : Int32), (.int i2))] i1 (0 : UInt64) (2 : Int32) h30 n0 Z30 E_b9 F_scores_b9 F_retrieved_b9 F_documents_b9 F_size_b9 g_b9 V_sc_10 V_rt_10 V_dc_10 g_sc_10 g_rt_10 g_dc_10 ne_b9_sc_10 ne_b9_rt_10 ne_b9_dc_10 ne_sc_10_rt_10 ne_sc_10_dc_10 ne_rt_10_dc_10 (getH_miss ((own_bd (show 0 ≤ i4.toInt ∧ i4.toInt < i1.toInt by omega) : ¬ i4 < 0 ∧ i4 < i1)).1 (own_neI (by omega)) (getH_miss ((own_bd (show 0 ≤ i4.toInt ∧ i4.toInt < i1.toInt by omega) : ¬ i4 < 0 ∧ i4 < i1)).1 (own_neI (by omega)) (own_getH_nil _ _))) (getH_miss ((own_bd (show 0 ≤ i4.toInt ∧ i4.toInt < i1.toInt by omega) : ¬ i4 < 0 ∧ i4 < i1)).1 (own_neI (by omega)) (getH_miss ((own_bd (show 0 ≤ i4.toInt ∧ i4.toInt < i1.toInt by omega) : ¬ i4 < 0 ∧ i4 < i1)).1 (own_neI (by omega)) (own_getH_nil _ _))) ((Dy.add own_zero (Dy.i2d i8) (by omega) (by decide)).nn) ((own_bd (show 0 ≤ i4.toInt ∧ i4.toInt < i1.toInt by omega) : ¬ i4 < 0 ∧ i4 < i1)) ((own_bd (show (0 : Int) ≤ 2 ∧ (2 : Int) < i1.toInt by omega) : ¬ (2 : Int32) < 0 ∧ (2 : Int32) < i1))) (by decide) (W := 0) (Nat.le_of_eq rfl) (by decide) (by rw [hml]; rfl) (lenOf pd_1 rfl) rfl (hb hby at_98) (pc' := 101) rfl (by decide) (by decide) ?_; intro v51 T51 L51 X51 hQ51
          obtain ⟨rfl, N51q, Kc51, P51_0, P51_1, P51_2, P51_3, P51_4, P51_5, P51_6, P51_7⟩ := hQ51
          have N51 := Fr.app N30 N51q
          generalize e51 : T51.heap = h51 at Kc51 P51_0 P51_1 P51_2 P51_3 P51_4 P51_5 P51_6 P51_7
          have K51 : Keep h0 h51 [] := K30.trans Kc51 ((allS (Or.inr sz_b9) (allS (Or.inr sz_sc_10) (allS (Or.inr sz_rt_10) (allS (Or.inr sz_dc_10) all0)))))
          have Z51 : n0 ≤ h51.size := Nat.le_trans Z30 Kc51.1
          have E_b9 : Exa Z h51 b9 "com/example/maat/maat/search/Accumulator" := P51_0
          have F_scores_b9 : Fld Z h51 b9 "com/example/maat/maat/search/Accumulator" "scores" "[D" (.ref sc_10) := P51_1
          have F_retrieved_b9 : Fld Z h51 b9 "com/example/maat/maat/search/Accumulator" "retrieved" "[Z" (.ref rt_10) := P51_2
          have F_documents_b9 : Fld Z h51 b9 "com/example/maat/maat/search/Accumulator" "documents" "[I" (.ref dc_10) := P51_3
          have F_size_b9 : Fld Z h51 b9 "com/example/maat/maat/search/Accumulator" "size" "I" (.int (3 : Int32)) := P51_4
          have V_sc_10 : Arh Z h51 sc_10 ks_10 .double i1 ((i4, (.double (FP.dadd (0 : UInt64) (FP.i2d i8)))) :: [(i3, (.double (FP.dadd (0 : UInt64) (FP.i2d i7)))), (i2, (.double (FP.dadd (0 : UInt64) (FP.i2d i6))))]) [] (.double (0 : UInt64)) := P51_5
          have V_sc_10 : Arh Z h51 sc_10 ks_10 .double i1 [(i4, (.double (FP.dadd (0 : UInt64) (FP.i2d i8)))), (i3, (.double (FP.dadd (0 : UInt64) (FP.i2d i7)))), (i2, (.double (FP.dadd (0 : UInt64) (FP.i2d i6))))] [] (.double (0 : UInt64)) := V_sc_10
          have V_rt_10 : Arh Z h51 rt_10 kr_10 .boolean i1 ((i4, (.int (1 : Int32))) :: [(i3, (.int (1 : Int32))), (i2, (.int (1 : Int32)))]) [] (.int (0 : Int32)) := P51_6
          have V_rt_10 : Arh Z h51 rt_10 kr_10 .boolean i1 [(i4, (.int (1 : Int32))), (i3, (.int (1 : Int32))), (i2, (.int (1 : Int32)))] [] (.int (0 : Int32)) := V_rt_10
          have V_dc_10 : Arh Z h51 dc_10 kd_10 .int i1 (((2 : Int32), (.int i4)) :: [((1 : Int32), (.int i3)), ((0 : Int32), (.int i2))]) [] (.int (0 : Int32)) := P51_7
          have V_dc_10 : Arh Z h51 dc_10 kd_10 .int i1 [((2 : Int32), (.int i4)), ((1 : Int32), (.int i3)), ((0 : Int32), (.int i2))] [] (.int (0 : Int32)) := V_dc_10
          refine R.iload X51 hx (hb hby at_101) rfl (pc' := 103) rfl ?_
          refine R.iload X51 hx (hb hby at_103) rfl (pc' := 105) rfl ?_
          refine R.icmpNo X51 hx (hb hby at_105) (feq (own_neI (by omega) : ¬ (i3 = i2))).1 (pc' := 108) rfl ?_
          refine R.iconst X51 hx (hb hby at_108) (v := (1 : Int32)) (by decide) (pc' := 109) rfl ?_
          refine R.goto X51 hx (hb hby at_109) (by decide) (pc' := 113) (by decide) ?_
          refine R.istore X51 hx (hb hby at_113) (L' := #[.val (.int p0), .val (.int p1), .val (.int p2), .val (.int p3), .val (.int p4), .val (.int p5), .val (.int i1), .val (.int i2), .val (.int i3), .val (.int i4), .val (.int i5), .val (.int i6), .val (.int i7), .val (.int i8), .val (.ref b9), .val (.int (1 : Int32)), .unset, .unset, .unset]) rfl (pc' := 115) rfl ?_
          refine R.iload X51 hx (hb hby at_115) rfl (pc' := 117) rfl ?_
          refine R.iload X51 hx (hb hby at_117) rfl (pc' := 119) rfl ?_
          refine R.icmpNo X51 hx (hb hby at_119) (feq (own_neI (by omega) : ¬ (i4 = i2))).1 (pc' := 122) rfl ?_
          refine R.iload X51 hx (hb hby at_122) rfl (pc' := 124) rfl ?_
          refine R.iload X51 hx (hb hby at_124) rfl (pc' := 126) rfl ?_
          refine R.icmpNo X51 hx (hb hby at_126) (feq (own_neI (by omega) : ¬ (i4 = i3))).1 (pc' := 129) rfl ?_
          refine R.iconst X51 hx (hb hby at_129) (v := (1 : Int32)) (by decide) (pc' := 130) rfl ?_
          refine R.goto X51 hx (hb hby at_130) (by decide) (pc' := 134) (by decide) ?_
          refine R.istore X51 hx (hb hby at_134) (L' := #[.val (.int p0), .val (.int p1), .val (.int p2), .val (.int p3), .val (.int p4), .val (.int p5), .val (.int i1), .val (.int i2), .val (.int i3), .val (.int i4), .val (.int i5), .val (.int i6), .val (.int i7), .val (.int i8), .val (.ref b9), .val (.int (1 : Int32)), .val (.int (1 : Int32)), .unset, .unset]) rfl (pc' := 136) rfl ?_
          refine R.iconst X51 hx (hb hby at_136) (v := (1 : Int32)) (by decide) (pc' := 137) rfl ?_
          refine R.iload X51 hx (hb hby at_137) rfl (pc' := 139) rfl ?_
          refine R.ifNo X51 hx (hb hby at_139) (feq (by decide : ¬ ((1 : Int32) = (0 : Int32)))).1 (pc' := 142) rfl ?_
          refine R.iconst X51 hx (hb hby at_142) (v := (1 : Int32)) (by decide) (pc' := 143) rfl ?_
          refine R.goto X51 hx (hb hby at_143) (by decide) (pc' := 147) (by decide) ?_
          refine R.iadd X51 hx (hb hby at_147) (v := (2 : Int32)) (by decide) (pc' := 148) rfl ?_
          refine R.iload X51 hx (hb hby at_148) rfl (pc' := 150) rfl ?_
          refine R.ifNo X51 hx (hb hby at_150) (feq (by decide : ¬ ((1 : Int32) = (0 : Int32)))).1 (pc' := 153) rfl ?_
          refine R.iconst X51 hx (hb hby at_153) (v := (1 : Int32)) (by decide) (pc' := 154) rfl ?_
          refine R.goto X51 hx (hb hby at_154) (by decide) (pc' := 158) (by decide) ?_
          refine R.iadd X51 hx (hb hby at_158) (v := (3 : Int32)) (by decide) (pc' := 159) rfl ?_
          refine R.istore X51 hx (hb hby at_159) (L' := #[.val (.int p0), .val (.int p1), .val (.int p2), .val (.int p3), .val (.int p4), .val (.int p5), .val (.int i1), .val (.int i2), .val (.int i3), .val (.int i4), .val (.int i5), .val (.int i6), .val (.int i7), .val (.int i8), .val (.ref b9), .val (.int (1 : Int32)), .val (.int (1 : Int32)), .val (.int (3 : Int32)), .unset]) rfl (pc' := 161) rfl ?_
          refine R.aload X51 hx (hb hby at_161) rfl rfl (pc' := 163) rfl ?_
          refine R.virtual X51 hx hZ (y := mY2) (z := mY2) hown w_26 w_27 (notFace_of_selects (args := #[]) (mvT hZ w_29)) w_29 w_28 w_3 w_30 (by decide) e51 E_b9 (rm4 l Z aZ hw [] b9 (3 : Int32) h51 n0 Z51 F_size_b9) (by decide) (W := 0) (Nat.le_of_eq rfl) (by decide) (by rw [hml]; rfl) (lenOf pd_2 rfl) rfl (hb hby at_163) (pc' := 166) rfl (by decide) (by decide) ?_; intro v52 T52 L52 X52 hQ52
          obtain ⟨rfl, N52q, e52⟩ := hQ52
          have N52 := Fr.app N51 N52q
          refine R.iload X52 hx (hb hby at_166) rfl (pc' := 168) rfl ?_
          refine R.icmpYes X52 hx (hb hby at_168) (teq (by decide : (3 : Int32) = (3 : Int32))).1 (by decide) (pc' := 173) (by decide) ?_
          refine R.aload X52 hx (hb hby at_173) rfl rfl (pc' := 175) rfl ?_
          refine R.iconst X52 hx (hb hby at_175) (v := (0 : Int32)) (by decide) (pc' := 176) rfl ?_
          refine R.virtual X52 hx hZ (y := mY3) (z := mY3) hown w_31 w_32 (notFace_of_selects (args := #[]) (mvT hZ w_34)) w_34 w_33 w_3 w_35 (by decide) e52 E_b9 (rm5 l Z aZ hw [] b9 (0 : Int32) dc_10 kd_10 [((2 : Int32), (.int i4)), ((1 : Int32), (.int i3)), ((0 : Int32), (.int i2))] i1 i2 h51 n0 Z51 F_documents_b9 V_dc_10 (getH_miss ((own_bd (show (0 : Int) ≤ 0 ∧ (0 : Int) < i1.toInt by omega) : ¬ (0 : Int32) < 0 ∧ (0 : Int32) < i1)).1 (by decide) (getH_miss ((own_bd (show (0 : Int) ≤ 0 ∧ (0 : Int) < i1.toInt by omega) : ¬ (0 : Int32) < 0 ∧ (0 : Int32) < i1)).1 (by decide) (getH_hit ((own_bd (show (0 : Int) ≤ 0 ∧ (0 : Int) < i1.toInt by omega) : ¬ (0 : Int32) < 0 ∧ (0 : Int32) < i1)).1 (rfl)))) ((own_bd (show (0 : Int) ≤ 0 ∧ (0 : Int) < i1.toInt by omega) : ¬ (0 : Int32) < 0 ∧ (0 : Int32) < i1))) (by decide) (W := 0) (Nat.le_of_eq rfl) (by decide) (by rw [hml]; rfl) (lenOf pd_3 rfl) rfl (hb hby at_176) (pc' := 179) rfl (by decide) (by decide) ?_; intro v53 T53 L53 X53 hQ53
          obtain ⟨rfl, N53q, e53⟩ := hQ53
          have N53 := Fr.app N52 N53q
          refine R.iload X53 hx (hb hby at_179) rfl (pc' := 181) rfl ?_
          refine R.icmpYes X53 hx (hb hby at_181) (teq (rfl : i2 = i2)).1 (by decide) (pc' := 186) (by decide) ?_
          refine R.iload X53 hx (hb hby at_186) rfl (pc' := 188) rfl ?_
          refine R.ifNo X53 hx (hb hby at_188) (feq (by decide : ¬ ((1 : Int32) = (0 : Int32)))).1 (pc' := 191) rfl ?_
          refine R.aload X53 hx (hb hby at_191) rfl rfl (pc' := 193) rfl ?_
          refine R.iconst X53 hx (hb hby at_193) (v := (1 : Int32)) (by decide) (pc' := 194) rfl ?_
          refine R.virtual X53 hx hZ (y := mY3) (z := mY3) hown w_31 w_32 (notFace_of_selects (args := #[]) (mvT hZ w_34)) w_34 w_33 w_3 w_35 (by decide) e53 E_b9 (rm5 l Z aZ hw [] b9 (1 : Int32) dc_10 kd_10 [((2 : Int32), (.int i4)), ((1 : Int32), (.int i3)), ((0 : Int32), (.int i2))] i1 i3 h51 n0 Z51 F_documents_b9 V_dc_10 (getH_miss ((own_bd (show (0 : Int) ≤ 1 ∧ (1 : Int) < i1.toInt by omega) : ¬ (1 : Int32) < 0 ∧ (1 : Int32) < i1)).1 (by decide) (getH_hit ((own_bd (show (0 : Int) ≤ 1 ∧ (1 : Int) < i1.toInt by omega) : ¬ (1 : Int32) < 0 ∧ (1 : Int32) < i1)).1 (rfl))) ((own_bd (show (0 : Int) ≤ 1 ∧ (1 : Int) < i1.toInt by omega) : ¬ (1 : Int32) < 0 ∧ (1 : Int32) < i1))) (by decide) (W := 0) (Nat.le_of_eq rfl) (by decide) (by rw [hml]; rfl) (lenOf pd_3 rfl) rfl (hb hby at_194) (pc' := 197) rfl (by decide) (by decide) ?_; intro v54 T54 L54 X54 hQ54
          obtain ⟨rfl, N54q, e54⟩ := hQ54
          have N54 := Fr.app N53 N54q
          refine R.iload X54 hx (hb hby at_197) rfl (pc' := 199) rfl ?_
          refine R.icmpYes X54 hx (hb hby at_199) (teq (rfl : i3 = i3)).1 (by decide) (pc' := 204) (by decide) ?_
          refine R.iload X54 hx (hb hby at_204) rfl (pc' := 206) rfl ?_
          refine R.ifNo X54 hx (hb hby at_206) (feq (by decide : ¬ ((1 : Int32) = (0 : Int32)))).1 (pc' := 209) rfl ?_
          refine R.aload X54 hx (hb hby at_209) rfl rfl (pc' := 211) rfl ?_
          refine R.iload X54 hx (hb hby at_211) rfl (pc' := 213) rfl ?_
          refine R.iconst X54 hx (hb hby at_213) (v := (1 : Int32)) (by decide) (pc' := 214) rfl ?_
          refine R.isub X54 hx (hb hby at_214) (v := (2 : Int32)) (by decide) (pc' := 215) rfl ?_
          refine R.virtual X54 hx hZ (y := mY3) (z := mY3) hown w_31 w_32 (notFace_of_selects (args := #[]) (mvT hZ w_34)) w_34 w_33 w_3 w_35 (by decide) e54 E_b9 (rm5 l Z aZ hw [] b9 (2 : Int32) dc_10 kd_10 [((2 : Int32), (.int i4)), ((1 : Int32), (.int i3)), ((0 : Int32), (.int i2))] i1 i4 h51 n0 Z51 F_documents_b9 V_dc_10 (getH_hit ((own_bd (show (0 : Int) ≤ 2 ∧ (2 : Int) < i1.toInt by omega) : ¬ (2 : Int32) < 0 ∧ (2 : Int32) < i1)).1 (rfl)) ((own_bd (show (0 : Int) ≤ 2 ∧ (2 : Int) < i1.toInt by omega) : ¬ (2 : Int32) < 0 ∧ (2 : Int32) < i1))) (by decide) (W := 0) (Nat.le_of_eq rfl) (by decide) (by rw [hml]; rfl) (lenOf pd_3 rfl) rfl (hb hby at_215) (pc' := 218) rfl (by decide) (by decide) ?_; intro v55 T55 L55 X55 hQ55
          obtain ⟨rfl, N55q, e55⟩ := hQ55
          have N55 := Fr.app N54 N55q
          refine R.iload X55 hx (hb hby at_218) rfl (pc' := 220) rfl ?_
          refine R.icmpYes X55 hx (hb hby at_220) (teq (rfl : i4 = i4)).1 (by decide) (pc' := 225) (by decide) ?_
          by_cases hq_i5_i2 : i5 = i2
          · have e_i5_i2 : i5.toInt = i2.toInt := congrArg Int32.toInt hq_i5_i2
            refine R.iload X55 hx (hb hby at_225) rfl (pc' := 227) rfl ?_
            refine R.iload X55 hx (hb hby at_227) rfl (pc' := 229) rfl ?_
            refine R.icmpNo X55 hx (hb hby at_229) (teq (own_eqI (by omega) : i5 = i2)).2 (pc' := 232) rfl ?_
            refine R.iload X55 hx (hb hby at_232) rfl (pc' := 234) rfl ?_
            refine R.goto X55 hx (hb hby at_234) (by decide) (pc' := 238) (by decide) ?_
            refine R.iload X55 hx (hb hby at_238) rfl (pc' := 240) rfl ?_
            refine R.iload X55 hx (hb hby at_240) rfl (pc' := 242) rfl ?_
            refine R.icmpYes X55 hx (hb hby at_242) (feq (own_neI (by omega) : ¬ (i5 = i3))).2 (by decide) (pc' := 250) (by decide) ?_
            refine R.iconst X55 hx (hb hby at_250) (v := (0 : Int32)) (by decide) (pc' := 251) rfl ?_
            refine R.iadd X55 hx (hb hby at_251) rfl (pc' := 252) rfl ?_
            refine R.iload X55 hx (hb hby at_252) rfl (pc' := 254) rfl ?_
            refine R.iload X55 hx (hb hby at_254) rfl (pc' := 256) rfl ?_
            refine R.icmpYes X55 hx (hb hby at_256) (feq (own_neI (by omega) : ¬ (i5 = i4))).2 (by decide) (pc' := 264) (by decide) ?_
            refine R.iconst X55 hx (hb hby at_264) (v := (0 : Int32)) (by decide) (pc' := 265) rfl ?_
            refine R.iadd X55 hx (hb hby at_265) rfl (pc' := 266) rfl ?_
            show Rn p e below (T55.setTop (mkF m 266 #[.val (.int p0), .val (.int p1), .val (.int p2), .val (.int p3), .val (.int p4), .val (.int p5), .val (.int i1), .val (.int i2), .val (.int i3), .val (.int i4), .val (.int i5), .val (.int i6), .val (.int i7), .val (.int i8), .val (.ref b9), .val (.int (1 : Int32)), .val (.int (1 : Int32)), .val (.int (3 : Int32)), .unset] [(.int ((i6 + (0 : Int32)) + (0 : Int32)))])) G
            generalize hi56 : ((i6 + (0 : Int32)) + (0 : Int32)) = i56
            refine R.istore X55 hx (hb hby at_266) (L' := #[.val (.int p0), .val (.int p1), .val (.int p2), .val (.int p3), .val (.int p4), .val (.int p5), .val (.int i1), .val (.int i2), .val (.int i3), .val (.int i4), .val (.int i5), .val (.int i6), .val (.int i7), .val (.int i8), .val (.ref b9), .val (.int (1 : Int32)), .val (.int (1 : Int32)), .val (.int (3 : Int32)), .val (.int i56)]) rfl (pc' := 268) rfl ?_
            refine R.aload X55 hx (hb hby at_268) rfl rfl (pc' := 270) rfl ?_
            refine R.iload X55 hx (hb hby at_270) rfl (pc' := 272) rfl ?_
            refine R.virtual X55 hx hZ (y := mY4) (z := mY4) hown w_36 w_37 (notFace_of_selects (args := #[]) (mvT hZ w_39)) w_39 w_38 w_3 w_40 (by decide) e55 E_b9 (rm6 l Z aZ hw [] b9 i5 sc_10 ks_10 [(i4, (.double (FP.dadd (0 : UInt64) (FP.i2d i8)))), (i3, (.double (FP.dadd (0 : UInt64) (FP.i2d i7)))), (i2, (.double (FP.dadd (0 : UInt64) (FP.i2d i6))))] i1 (FP.dadd (0 : UInt64) (FP.i2d i6)) h51 n0 Z51 F_scores_b9 V_sc_10 (getH_miss ((own_bd (show 0 ≤ i5.toInt ∧ i5.toInt < i1.toInt by omega) : ¬ i5 < 0 ∧ i5 < i1)).1 (own_neI (by omega)) (getH_miss ((own_bd (show 0 ≤ i5.toInt ∧ i5.toInt < i1.toInt by omega) : ¬ i5 < 0 ∧ i5 < i1)).1 (own_neI (by omega)) (getH_hit ((own_bd (show 0 ≤ i5.toInt ∧ i5.toInt < i1.toInt by omega) : ¬ i5 < 0 ∧ i5 < i1)).1 (own_eqI (by omega))))) ((own_bd (show 0 ≤ i5.toInt ∧ i5.toInt < i1.toInt by omega) : ¬ i5 < 0 ∧ i5 < i1))) (by decide) (W := 0) (Nat.le_of_eq rfl) (by decide) (by rw [hml]; rfl) (lenOf pd_4 rfl) rfl (hb hby at_272) (pc' := 275) rfl (by decide) (by decide) ?_; intro v57 T57 L57 X57 hQ57
            obtain ⟨rfl, N57q, e57⟩ := hQ57
            have N57 := Fr.app N55 N57q
            refine R.iload X57 hx (hb hby at_275) rfl (pc' := 277) rfl ?_
            refine R.i2d X57 hx (hb hby at_277) (pc' := 278) rfl ?_
            have ei : i56.toInt = (0 + i6.toInt) := (own_exp3 (a := i6) (b := (0 : Int32)) (c := (0 : Int32)) (show -32768 ≤ i6.toInt ∧ i6.toInt < 32768 by first | omega | decide) (show -32768 ≤ (0 : Int32).toInt ∧ (0 : Int32).toInt < 32768 by first | omega | decide) (show -32768 ≤ (0 : Int32).toInt ∧ (0 : Int32).toInt < 32768 by first | omega | decide) hi56).trans (by first | (simp only [own_z32]; done) | (simp only [own_z32]; omega) | omega)
            refine R.dcmp X57 hx (hb hby at_278) (((Dy.add own_zero (Dy.i2d i6) (by omega) (by decide))).cmp ((Dy.i2d i56).cast ei rfl) _ : cmpValue (FP.dcmp (FP.dadd (0 : UInt64) (FP.i2d i6)) (FP.i2d i56)) .l = (own_ci (0 + i6.toInt) (0 + i6.toInt))) (pc' := 279) rfl ?_
            refine R.ifNo X57 hx (hb hby at_279) (teq (own_ci_eq.mpr rfl : (own_ci (0 + i6.toInt) (0 + i6.toInt)) = (0 : Int32))).2 (pc' := 282) rfl ?_
            refine R.iconst X57 hx (hb hby at_282) (v := (1 : Int32)) (by decide) (pc' := 283) rfl ?_
            refine R.goto X57 hx (hb hby at_283) (by decide) (pc' := 287) (by decide) ?_
            rw [← hG]
            exact Rn.ret X57 (BodyLoose.notSynchronized Bd) (v := some (.int (1 : Int32))) (fun h => by rw [Bd.returns] at h; cases h) (Q := Q0 Z p0 p1 p2 p3 p4 p5 h0 n0) e57 (fun fs hr => retN X57 hx (t := .boolean) Bd.returns (by simp) (hb hby at_287) hr) ⟨rfl, N57⟩ (by decide) (by decide)
          · have e_i5_i2 : ¬ i5.toInt = i2.toInt := fun q => hq_i5_i2 (Int32.toInt_inj.mp q)
            by_cases hq_i5_i3 : i5 = i3
            · have e_i5_i3 : i5.toInt = i3.toInt := congrArg Int32.toInt hq_i5_i3
              refine R.iload X55 hx (hb hby at_225) rfl (pc' := 227) rfl ?_
              refine R.iload X55 hx (hb hby at_227) rfl (pc' := 229) rfl ?_
              refine R.icmpYes X55 hx (hb hby at_229) (feq (own_neI (by omega) : ¬ (i5 = i2))).2 (by decide) (pc' := 237) (by decide) ?_
              refine R.iconst X55 hx (hb hby at_237) (v := (0 : Int32)) (by decide) (pc' := 238) rfl ?_
              refine R.iload X55 hx (hb hby at_238) rfl (pc' := 240) rfl ?_
              refine R.iload X55 hx (hb hby at_240) rfl (pc' := 242) rfl ?_
              refine R.icmpNo X55 hx (hb hby at_242) (teq (own_eqI (by omega) : i5 = i3)).2 (pc' := 245) rfl ?_
              refine R.iload X55 hx (hb hby at_245) rfl (pc' := 247) rfl ?_
              refine R.goto X55 hx (hb hby at_247) (by decide) (pc' := 251) (by decide) ?_
              refine R.iadd X55 hx (hb hby at_251) rfl (pc' := 252) rfl ?_
              refine R.iload X55 hx (hb hby at_252) rfl (pc' := 254) rfl ?_
              refine R.iload X55 hx (hb hby at_254) rfl (pc' := 256) rfl ?_
              refine R.icmpYes X55 hx (hb hby at_256) (feq (own_neI (by omega) : ¬ (i5 = i4))).2 (by decide) (pc' := 264) (by decide) ?_
              refine R.iconst X55 hx (hb hby at_264) (v := (0 : Int32)) (by decide) (pc' := 265) rfl ?_
              refine R.iadd X55 hx (hb hby at_265) rfl (pc' := 266) rfl ?_
              show Rn p e below (T55.setTop (mkF m 266 #[.val (.int p0), .val (.int p1), .val (.int p2), .val (.int p3), .val (.int p4), .val (.int p5), .val (.int i1), .val (.int i2), .val (.int i3), .val (.int i4), .val (.int i5), .val (.int i6), .val (.int i7), .val (.int i8), .val (.ref b9), .val (.int (1 : Int32)), .val (.int (1 : Int32)), .val (.int (3 : Int32)), .unset] [(.int (((0 : Int32) + i7) + (0 : Int32)))])) G
              generalize hi58 : (((0 : Int32) + i7) + (0 : Int32)) = i58
              refine R.istore X55 hx (hb hby at_266) (L' := #[.val (.int p0), .val (.int p1), .val (.int p2), .val (.int p3), .val (.int p4), .val (.int p5), .val (.int i1), .val (.int i2), .val (.int i3), .val (.int i4), .val (.int i5), .val (.int i6), .val (.int i7), .val (.int i8), .val (.ref b9), .val (.int (1 : Int32)), .val (.int (1 : Int32)), .val (.int (3 : Int32)), .val (.int i58)]) rfl (pc' := 268) rfl ?_
              refine R.aload X55 hx (hb hby at_268) rfl rfl (pc' := 270) rfl ?_
              refine R.iload X55 hx (hb hby at_270) rfl (pc' := 272) rfl ?_
              refine R.virtual X55 hx hZ (y := mY4) (z := mY4) hown w_36 w_37 (notFace_of_selects (args := #[]) (mvT hZ w_39)) w_39 w_38 w_3 w_40 (by decide) e55 E_b9 (rm6 l Z aZ hw [] b9 i5 sc_10 ks_10 [(i4, (.double (FP.dadd (0 : UInt64) (FP.i2d i8)))), (i3, (.double (FP.dadd (0 : UInt64) (FP.i2d i7)))), (i2, (.double (FP.dadd (0 : UInt64) (FP.i2d i6))))] i1 (FP.dadd (0 : UInt64) (FP.i2d i7)) h51 n0 Z51 F_scores_b9 V_sc_10 (getH_miss ((own_bd (show 0 ≤ i5.toInt ∧ i5.toInt < i1.toInt by omega) : ¬ i5 < 0 ∧ i5 < i1)).1 (own_neI (by omega)) (getH_hit ((own_bd (show 0 ≤ i5.toInt ∧ i5.toInt < i1.toInt by omega) : ¬ i5 < 0 ∧ i5 < i1)).1 (own_eqI (by omega)))) ((own_bd (show 0 ≤ i5.toInt ∧ i5.toInt < i1.toInt by omega) : ¬ i5 < 0 ∧ i5 < i1))) (by decide) (W := 0) (Nat.le_of_eq rfl) (by decide) (by rw [hml]; rfl) (lenOf pd_4 rfl) rfl (hb hby at_272) (pc' := 275) rfl (by decide) (by decide) ?_; intro v59 T59 L59 X59 hQ59
              obtain ⟨rfl, N59q, e59⟩ := hQ59
              have N59 := Fr.app N55 N59q
              refine R.iload X59 hx (hb hby at_275) rfl (pc' := 277) rfl ?_
              refine R.i2d X59 hx (hb hby at_277) (pc' := 278) rfl ?_
              have ei : i58.toInt = (0 + i7.toInt) := (own_exp3 (a := (0 : Int32)) (b := i7) (c := (0 : Int32)) (show -32768 ≤ (0 : Int32).toInt ∧ (0 : Int32).toInt < 32768 by first | omega | decide) (show -32768 ≤ i7.toInt ∧ i7.toInt < 32768 by first | omega | decide) (show -32768 ≤ (0 : Int32).toInt ∧ (0 : Int32).toInt < 32768 by first | omega | decide) hi58).trans (by first | (simp only [own_z32]; done) | (simp only [own_z32]; omega) | omega)
              refine R.dcmp X59 hx (hb hby at_278) (((Dy.add own_zero (Dy.i2d i7) (by omega) (by decide))).cmp ((Dy.i2d i58).cast ei rfl) _ : cmpValue (FP.dcmp (FP.dadd (0 : UInt64) (FP.i2d i7)) (FP.i2d i58)) .l = (own_ci (0 + i7.toInt) (0 + i7.toInt))) (pc' := 279) rfl ?_
              refine R.ifNo X59 hx (hb hby at_279) (teq (own_ci_eq.mpr rfl : (own_ci (0 + i7.toInt) (0 + i7.toInt)) = (0 : Int32))).2 (pc' := 282) rfl ?_
              refine R.iconst X59 hx (hb hby at_282) (v := (1 : Int32)) (by decide) (pc' := 283) rfl ?_
              refine R.goto X59 hx (hb hby at_283) (by decide) (pc' := 287) (by decide) ?_
              rw [← hG]
              exact Rn.ret X59 (BodyLoose.notSynchronized Bd) (v := some (.int (1 : Int32))) (fun h => by rw [Bd.returns] at h; cases h) (Q := Q0 Z p0 p1 p2 p3 p4 p5 h0 n0) e59 (fun fs hr => retN X59 hx (t := .boolean) Bd.returns (by simp) (hb hby at_287) hr) ⟨rfl, N59⟩ (by decide) (by decide)
            · have e_i5_i3 : ¬ i5.toInt = i3.toInt := fun q => hq_i5_i3 (Int32.toInt_inj.mp q)
              by_cases hq_i5_i4 : i5 = i4
              · have e_i5_i4 : i5.toInt = i4.toInt := congrArg Int32.toInt hq_i5_i4
                refine R.iload X55 hx (hb hby at_225) rfl (pc' := 227) rfl ?_
                refine R.iload X55 hx (hb hby at_227) rfl (pc' := 229) rfl ?_
                refine R.icmpYes X55 hx (hb hby at_229) (feq (own_neI (by omega) : ¬ (i5 = i2))).2 (by decide) (pc' := 237) (by decide) ?_
                refine R.iconst X55 hx (hb hby at_237) (v := (0 : Int32)) (by decide) (pc' := 238) rfl ?_
                refine R.iload X55 hx (hb hby at_238) rfl (pc' := 240) rfl ?_
                refine R.iload X55 hx (hb hby at_240) rfl (pc' := 242) rfl ?_
                refine R.icmpYes X55 hx (hb hby at_242) (feq (own_neI (by omega) : ¬ (i5 = i3))).2 (by decide) (pc' := 250) (by decide) ?_
                refine R.iconst X55 hx (hb hby at_250) (v := (0 : Int32)) (by decide) (pc' := 251) rfl ?_
                refine R.iadd X55 hx (hb hby at_251) rfl (pc' := 252) rfl ?_
                refine R.iload X55 hx (hb hby at_252) rfl (pc' := 254) rfl ?_
                refine R.iload X55 hx (hb hby at_254) rfl (pc' := 256) rfl ?_
                refine R.icmpNo X55 hx (hb hby at_256) (teq (own_eqI (by omega) : i5 = i4)).2 (pc' := 259) rfl ?_
                refine R.iload X55 hx (hb hby at_259) rfl (pc' := 261) rfl ?_
                refine R.goto X55 hx (hb hby at_261) (by decide) (pc' := 265) (by decide) ?_
                refine R.iadd X55 hx (hb hby at_265) rfl (pc' := 266) rfl ?_
                show Rn p e below (T55.setTop (mkF m 266 #[.val (.int p0), .val (.int p1), .val (.int p2), .val (.int p3), .val (.int p4), .val (.int p5), .val (.int i1), .val (.int i2), .val (.int i3), .val (.int i4), .val (.int i5), .val (.int i6), .val (.int i7), .val (.int i8), .val (.ref b9), .val (.int (1 : Int32)), .val (.int (1 : Int32)), .val (.int (3 : Int32)), .unset] [(.int (((0 : Int32) + (0 : Int32)) + i8))])) G
                generalize hi60 : (((0 : Int32) + (0 : Int32)) + i8) = i60
                refine R.istore X55 hx (hb hby at_266) (L' := #[.val (.int p0), .val (.int p1), .val (.int p2), .val (.int p3), .val (.int p4), .val (.int p5), .val (.int i1), .val (.int i2), .val (.int i3), .val (.int i4), .val (.int i5), .val (.int i6), .val (.int i7), .val (.int i8), .val (.ref b9), .val (.int (1 : Int32)), .val (.int (1 : Int32)), .val (.int (3 : Int32)), .val (.int i60)]) rfl (pc' := 268) rfl ?_
                refine R.aload X55 hx (hb hby at_268) rfl rfl (pc' := 270) rfl ?_
                refine R.iload X55 hx (hb hby at_270) rfl (pc' := 272) rfl ?_
                refine R.virtual X55 hx hZ (y := mY4) (z := mY4) hown w_36 w_37 (notFace_of_selects (args := #[]) (mvT hZ w_39)) w_39 w_38 w_3 w_40 (by decide) e55 E_b9 (rm6 l Z aZ hw [] b9 i5 sc_10 ks_10 [(i4, (.double (FP.dadd (0 : UInt64) (FP.i2d i8)))), (i3, (.double (FP.dadd (0 : UInt64) (FP.i2d i7)))), (i2, (.double (FP.dadd (0 : UInt64) (FP.i2d i6))))] i1 (FP.dadd (0 : UInt64) (FP.i2d i8)) h51 n0 Z51 F_scores_b9 V_sc_10 (getH_hit ((own_bd (show 0 ≤ i5.toInt ∧ i5.toInt < i1.toInt by omega) : ¬ i5 < 0 ∧ i5 < i1)).1 (own_eqI (by omega))) ((own_bd (show 0 ≤ i5.toInt ∧ i5.toInt < i1.toInt by omega) : ¬ i5 < 0 ∧ i5 < i1))) (by decide) (W := 0) (Nat.le_of_eq rfl) (by decide) (by rw [hml]; rfl) (lenOf pd_4 rfl) rfl (hb hby at_272) (pc' := 275) rfl (by decide) (by decide) ?_; intro v61 T61 L61 X61 hQ61
                obtain ⟨rfl, N61q, e61⟩ := hQ61
                have N61 := Fr.app N55 N61q
                refine R.iload X61 hx (hb hby at_275) rfl (pc' := 277) rfl ?_
                refine R.i2d X61 hx (hb hby at_277) (pc' := 278) rfl ?_
                have ei : i60.toInt = (0 + i8.toInt) := (own_exp3 (a := (0 : Int32)) (b := (0 : Int32)) (c := i8) (show -32768 ≤ (0 : Int32).toInt ∧ (0 : Int32).toInt < 32768 by first | omega | decide) (show -32768 ≤ (0 : Int32).toInt ∧ (0 : Int32).toInt < 32768 by first | omega | decide) (show -32768 ≤ i8.toInt ∧ i8.toInt < 32768 by first | omega | decide) hi60).trans (by first | (simp only [own_z32]; done) | (simp only [own_z32]; omega) | omega)
                refine R.dcmp X61 hx (hb hby at_278) (((Dy.add own_zero (Dy.i2d i8) (by omega) (by decide))).cmp ((Dy.i2d i60).cast ei rfl) _ : cmpValue (FP.dcmp (FP.dadd (0 : UInt64) (FP.i2d i8)) (FP.i2d i60)) .l = (own_ci (0 + i8.toInt) (0 + i8.toInt))) (pc' := 279) rfl ?_
                refine R.ifNo X61 hx (hb hby at_279) (teq (own_ci_eq.mpr rfl : (own_ci (0 + i8.toInt) (0 + i8.toInt)) = (0 : Int32))).2 (pc' := 282) rfl ?_
                refine R.iconst X61 hx (hb hby at_282) (v := (1 : Int32)) (by decide) (pc' := 283) rfl ?_
                refine R.goto X61 hx (hb hby at_283) (by decide) (pc' := 287) (by decide) ?_
                rw [← hG]
                exact Rn.ret X61 (BodyLoose.notSynchronized Bd) (v := some (.int (1 : Int32))) (fun h => by rw [Bd.returns] at h; cases h) (Q := Q0 Z p0 p1 p2 p3 p4 p5 h0 n0) e61 (fun fs hr => retN X61 hx (t := .boolean) Bd.returns (by simp) (hb hby at_287) hr) ⟨rfl, N61⟩ (by decide) (by decide)
              · have e_i5_i4 : ¬ i5.toInt = i4.toInt := fun q => hq_i5_i4 (Int32.toInt_inj.mp q)
                refine R.iload X55 hx (hb hby at_225) rfl (pc' := 227) rfl ?_
                refine R.iload X55 hx (hb hby at_227) rfl (pc' := 229) rfl ?_
                refine R.icmpYes X55 hx (hb hby at_229) (feq (own_neI (by omega) : ¬ (i5 = i2))).2 (by decide) (pc' := 237) (by decide) ?_
                refine R.iconst X55 hx (hb hby at_237) (v := (0 : Int32)) (by decide) (pc' := 238) rfl ?_
                refine R.iload X55 hx (hb hby at_238) rfl (pc' := 240) rfl ?_
                refine R.iload X55 hx (hb hby at_240) rfl (pc' := 242) rfl ?_
                refine R.icmpYes X55 hx (hb hby at_242) (feq (own_neI (by omega) : ¬ (i5 = i3))).2 (by decide) (pc' := 250) (by decide) ?_
                refine R.iconst X55 hx (hb hby at_250) (v := (0 : Int32)) (by decide) (pc' := 251) rfl ?_
                refine R.iadd X55 hx (hb hby at_251) rfl (pc' := 252) rfl ?_
                refine R.iload X55 hx (hb hby at_252) rfl (pc' := 254) rfl ?_
                refine R.iload X55 hx (hb hby at_254) rfl (pc' := 256) rfl ?_
                refine R.icmpYes X55 hx (hb hby at_256) (feq (own_neI (by omega) : ¬ (i5 = i4))).2 (by decide) (pc' := 264) (by decide) ?_
                refine R.iconst X55 hx (hb hby at_264) (v := (0 : Int32)) (by decide) (pc' := 265) rfl ?_
                refine R.iadd X55 hx (hb hby at_265) rfl (pc' := 266) rfl ?_
                show Rn p e below (T55.setTop (mkF m 266 #[.val (.int p0), .val (.int p1), .val (.int p2), .val (.int p3), .val (.int p4), .val (.int p5), .val (.int i1), .val (.int i2), .val (.int i3), .val (.int i4), .val (.int i5), .val (.int i6), .val (.int i7), .val (.int i8), .val (.ref b9), .val (.int (1 : Int32)), .val (.int (1 : Int32)), .val (.int (3 : Int32)), .unset] [(.int (((0 : Int32) + (0 : Int32)) + (0 : Int32)))])) G
                generalize hi62 : (((0 : Int32) + (0 : Int32)) + (0 : Int32)) = i62
                refine R.istore X55 hx (hb hby at_266) (L' := #[.val (.int p0), .val (.int p1), .val (.int p2), .val (.int p3), .val (.int p4), .val (.int p5), .val (.int i1), .val (.int i2), .val (.int i3), .val (.int i4), .val (.int i5), .val (.int i6), .val (.int i7), .val (.int i8), .val (.ref b9), .val (.int (1 : Int32)), .val (.int (1 : Int32)), .val (.int (3 : Int32)), .val (.int i62)]) rfl (pc' := 268) rfl ?_
                refine R.aload X55 hx (hb hby at_268) rfl rfl (pc' := 270) rfl ?_
                refine R.iload X55 hx (hb hby at_270) rfl (pc' := 272) rfl ?_
                refine R.virtual X55 hx hZ (y := mY4) (z := mY4) hown w_36 w_37 (notFace_of_selects (args := #[]) (mvT hZ w_39)) w_39 w_38 w_3 w_40 (by decide) e55 E_b9 (rm6 l Z aZ hw [] b9 i5 sc_10 ks_10 [(i4, (.double (FP.dadd (0 : UInt64) (FP.i2d i8)))), (i3, (.double (FP.dadd (0 : UInt64) (FP.i2d i7)))), (i2, (.double (FP.dadd (0 : UInt64) (FP.i2d i6))))] i1 (0 : UInt64) h51 n0 Z51 F_scores_b9 V_sc_10 (getH_miss ((own_bd (show 0 ≤ i5.toInt ∧ i5.toInt < i1.toInt by omega) : ¬ i5 < 0 ∧ i5 < i1)).1 (own_neI (by omega)) (getH_miss ((own_bd (show 0 ≤ i5.toInt ∧ i5.toInt < i1.toInt by omega) : ¬ i5 < 0 ∧ i5 < i1)).1 (own_neI (by omega)) (getH_miss ((own_bd (show 0 ≤ i5.toInt ∧ i5.toInt < i1.toInt by omega) : ¬ i5 < 0 ∧ i5 < i1)).1 (own_neI (by omega)) (own_getH_nil _ _)))) ((own_bd (show 0 ≤ i5.toInt ∧ i5.toInt < i1.toInt by omega) : ¬ i5 < 0 ∧ i5 < i1))) (by decide) (W := 0) (Nat.le_of_eq rfl) (by decide) (by rw [hml]; rfl) (lenOf pd_4 rfl) rfl (hb hby at_272) (pc' := 275) rfl (by decide) (by decide) ?_; intro v63 T63 L63 X63 hQ63
                obtain ⟨rfl, N63q, e63⟩ := hQ63
                have N63 := Fr.app N55 N63q
                refine R.iload X63 hx (hb hby at_275) rfl (pc' := 277) rfl ?_
                refine R.i2d X63 hx (hb hby at_277) (pc' := 278) rfl ?_
                have ei : i62.toInt = 0 := (own_exp3 (a := (0 : Int32)) (b := (0 : Int32)) (c := (0 : Int32)) (show -32768 ≤ (0 : Int32).toInt ∧ (0 : Int32).toInt < 32768 by first | omega | decide) (show -32768 ≤ (0 : Int32).toInt ∧ (0 : Int32).toInt < 32768 by first | omega | decide) (show -32768 ≤ (0 : Int32).toInt ∧ (0 : Int32).toInt < 32768 by first | omega | decide) hi62).trans (by first | (simp only [own_z32]; done) | (simp only [own_z32]; omega) | omega)
                refine R.dcmp X63 hx (hb hby at_278) ((own_zero).cmp ((Dy.i2d i62).cast ei rfl) _ : cmpValue (FP.dcmp (0 : UInt64) (FP.i2d i62)) .l = (own_ci 0 0)) (pc' := 279) rfl ?_
                refine R.ifNo X63 hx (hb hby at_279) (teq (own_ci_eq.mpr rfl : (own_ci 0 0) = (0 : Int32))).2 (pc' := 282) rfl ?_
                refine R.iconst X63 hx (hb hby at_282) (v := (1 : Int32)) (by decide) (pc' := 283) rfl ?_
                refine R.goto X63 hx (hb hby at_283) (by decide) (pc' := 287) (by decide) ?_
                rw [← hG]
                exact Rn.ret X63 (BodyLoose.notSynchronized Bd) (v := some (.int (1 : Int32))) (fun h => by rw [Bd.returns] at h; cases h) (Q := Q0 Z p0 p1 p2 p3 p4 p5 h0 n0) e63 (fun fs hr => retN X63 hx (t := .boolean) Bd.returns (by simp) (hb hby at_287) hr) ⟨rfl, N63⟩ (by decide) (by decide)
  exact (Rn.st (fun t k => castTop (ef_0 m p0 p1 p2 p3 p4 p5) k) first_ : Rn p e below (s₁.setTop (entryFrame m #[(.int p0), (.int p1), (.int p2), (.int p3), (.int p4), (.int p5)] maxLocals)) (Fn0 Z p0 p1 p2 p3 p4 p5 h0 n0 s))
set_option maxRecDepth 65536 in
set_option maxHeartbeats 40000000 in
theorem comes_1 {Post : Tables → Env → Array Value → State → Outcome → State → Prop} (hpost : ∀ tb e args s v u, (limb_1_1.after args s (.returned v) u = true ∧ limb_1_2.after args s (.returned v) u = true ∧ True) → FrameEnd s (.returned v) u (Jvm.fieldLocs frame_1_writes args s ++ Jvm.arrayLocs frame_1_arrays args s ++ Jvm.staticLocs frame_1_statics s) 16 128 → Post tb e args s (.returned v) u) :
    ArmFor flags0 classFile x code maxLocals ret World_1 tables_1 room_1 Calls_1 rest_1 Pre_1 Post := by
  intro l hfl _ _ p e ha hc hk s m args below hf hA hF happ hP
  obtain ⟨hcalls, hrest, hpre⟩ := hP
  obtain ⟨-, -, -, hnamed, -, -, -, hat⟩ := (Spec.applies_iff hf).mp happ
  obtain ⟨hg, hn⟩ := and_e (Cond.before_iff.mp (show (Jvm.Cond.and given_1 narrow_1).before args s = true from hpre))
  obtain ⟨g1, g2⟩ := and_e hg
  obtain ⟨g3, g4⟩ := and_e g2
  obtain ⟨g5, g6⟩ := and_e g4
  obtain ⟨g7, g8⟩ := and_e g6
  obtain ⟨g9, g10⟩ := and_e g8
  obtain ⟨g11, g12⟩ := and_e g10
  obtain ⟨w0, w1, w2, w3, w4, w5, rfl⟩ : ∃ w0 w1 w2 w3 w4 w5 : Value, args = #[w0, w1, w2, w3, w4, w5] := by
    have hs : args.size = 6 := by simpa [Cond.value, given_1] using g1
    obtain ⟨L⟩ := args
    match L, hs with
    | [w0, w1, w2, w3, w4, w5], _ => exact ⟨w0, w1, w2, w3, w4, w5, rfl⟩
  have hw := fun d (hd : d ∈ tables_1) => atoms_spec (ws := Jvm.Cond.code x code maxLocals ret :: tables_1) hat d (List.mem_cons_of_mem _ hd)
  obtain ⟨i0, ei0⟩ := is_v g3
  obtain rfl : w0 = (.int i0) := Option.some.inj ei0
  obtain ⟨i1, ei1⟩ := is_v g5
  obtain rfl : w1 = (.int i1) := Option.some.inj ei1
  obtain ⟨i2, ei2⟩ := is_v g7
  obtain rfl : w2 = (.int i2) := Option.some.inj ei2
  obtain ⟨i3, ei3⟩ := is_v g9
  obtain rfl : w3 = (.int i3) := Option.some.inj ei3
  obtain ⟨i4, ei4⟩ := is_v g11
  obtain rfl : w4 = (.int i4) := Option.some.inj ei4
  obtain ⟨i5, ei5⟩ := is_v g12
  obtain rfl : w5 = (.int i5) := Option.some.inj ei5
  obtain ⟨n, o, h1, h2, h3, _, L, rfl, ⟨rfl, N⟩, hq⟩ := rm0 l s _ hw tables_1 i0 i1 i2 i3 i4 i5 s.heap s.heap.size (Nat.le_refl _) p e ha hc hk s m _ below hf ((Spec.applies_iff_loose hf).mp happ).1 ⟨rfl, State.Warmed39.refl s, rfl⟩ trivial
  refine ⟨n, _, h1, h2, h3, hpost _ _ _ _ _ _ ⟨Cond.after_iff.mpr rfl, Cond.after_iff.mpr (eq_i res_at (Term.int_eval (1)) rfl), trivial⟩ ⟨hq.1, hq.2.1, (hq.2.2.sift fun y hy => Or.inr (N y hy)).mono (by decide) (by decide)⟩⟩
theorem main_1_1 : Claimed_1_1 := comes_1 fun _ _ _ _ _ _ h hF => ⟨h.1, hF⟩
theorem main_1_2 : Claimed_1_2 := comes_1 fun _ _ _ _ _ _ h hF => ⟨h.2.1, hF⟩
end Jvm.Pilot.@@N@@
namespace Jvm.Pilot.@@N@@
open Jvm Jvm.ClassFile Sem Op Lib Jvm.Free Jvm.Stand Jvm.Pilot.@@N@@.Jvm.D
/-! MADE BY PROGRAM (witnessworld.py) out of the Statement's table words and the real class files: 13 classes; the members and pool entries that the words name. The judged class is class 1, her method 1. -/
namespace start1
open Jvm.ClassFile
def u (s : String) : CpInfo := .utf8 (stringToUtf16 s)
/-- a pool by its gaps: so many unusable entries, then the entry; so many at the end -/
def gap : Nat → List CpInfo → List CpInfo
  | 0, r => r
  | n + 1, r => .unusable :: gap n r
def poolList (es : List (Nat × CpInfo)) (last : Nat) : List CpInfo := es.foldr (fun e r => gap e.1 (e.2 :: r)) (gap last [])
def pool (es : List (Nat × CpInfo)) (last : Nat) : Array CpInfo := ⟨poolList es last⟩
def fileOf (pool : Array CpInfo) (this : Nat) (attrs : Array Attribute := #[]) (ms : Array MethodInfo := #[]) (fl : Nat := 33) (sup : Nat := 0) (ifs : Array Nat := #[]) (fds : Array FieldInfo := #[]) : ClassFile where
  minorVersion := 0
  majorVersion := 65
  constantPool := pool
  accessFlags := fl
  thisClass := this
  superClass := sup
  interfaces := ifs
  fields := fds
  methods := ms
  attributes := attrs
def plain (name : String) (sup : Option ClassId) : Class where
  name := name
  kind := .ordinary
  loader := none
  accessFlags := 33
  super := sup
  interfaces := #[]
  cf := none
  fields := #[]
  methods := #[]
  instanceTypes := #[]
  staticTypes := #[]
  resolved := #[]
  callSites := []
  init := .initialized
  statics := none
  mirror := none

def pool0 : Array CpInfo := pool [(5, u "<init>"), (0, u "()V"), (1, .class_ 10), (1, u "java/lang/Object")] 113

def k0c0 : Code := { maxStack := 0, maxLocals := 1, code := object_method_1_code, exceptionTable := #[], attributes := #[] }
def k0m0 : Method := { name := "<init>", desc := "()V", sig := { parameters := [], returnType := none }, accessFlags := 1, code := some k0c0 }
/-- java/lang/Object -/
def k0 : Class := { plain "java/lang/Object" none with
  accessFlags := 33
  interfaces := #[]
  cf := some (fileOf pool0 8 #[] #[{ accessFlags := 1, nameIndex := 5, descriptorIndex := 6, attributes := #[] }] 33 0 #[] #[])
  fields := #[]
  methods := #[k0m0]
  instanceTypes := #[]
  staticTypes := #[]
  resolved := Array.replicate 124 none
  statics := none }

def pool1 : Array CpInfo := pool [(2, .class_ 4), (1, u "java/lang/Object"), (0, u "<init>"), (0, u "()V"), (0, .integer 2147483647), (0, .class_ 9), (0, u "com/example/maat/maat/search/Accumulator"), (0, .methodref 8 11), (0, .nameAndType 5 12), (0, u "(I)V"), (0, .methodref 8 14), (0, .nameAndType 15 16), (0, u "add"), (0, u "(ID)V"), (0, .methodref 8 18), (0, .nameAndType 19 20), (0, u "size"), (0, u "()I"), (0, .methodref 8 22), (0, .nameAndType 23 24), (0, u "document"), (0, u "(I)I"), (0, .methodref 8 26), (0, .nameAndType 27 28), (0, u "score"), (0, u "(I)D"), (0, .class_ 30), (0, u "com/example/maat/maat/search/AccumulatorAddPinLaw"), (2, u "law"), (0, u "(IIIIII)Z")] 3

def k1m0 : Method := { name := "<init>", desc := "()V", sig := { parameters := [], returnType := none }, accessFlags := 2, code := none }
def k1c1 : Code := { maxStack := 4, maxLocals := 19, code := code, exceptionTable := #[], attributes := #[] }
def k1m1 : Method := { name := "law", desc := "(IIIIII)Z", sig := { parameters := [.int, .int, .int, .int, .int, .int], returnType := some .boolean }, accessFlags := 9, code := some k1c1 }
/-- com/example/maat/maat/search/AccumulatorAddPinLaw -/
def k1 : Class := { plain "com/example/maat/maat/search/AccumulatorAddPinLaw" (some 0) with
  accessFlags := 49
  interfaces := #[]
  cf := some (fileOf pool1 29 #[] #[{ accessFlags := 2, nameIndex := 5, descriptorIndex := 6, attributes := #[] }, { accessFlags := 9, nameIndex := 33, descriptorIndex := 34, attributes := #[] }] 49 2 #[] #[])
  fields := #[]
  methods := #[k1m0, k1m1]
  instanceTypes := #[]
  staticTypes := #[]
  resolved := Array.replicate 38 none
  statics := none }

def pool2 : Array CpInfo := pool [(1, .methodref 2 3), (0, .class_ 4), (0, .nameAndType 5 6), (0, u "java/lang/Object"), (0, u "<init>"), (0, u "()V"), (0, .fieldref 8 9), (0, .class_ 10), (0, .nameAndType 11 12), (0, u "com/example/maat/maat/search/Accumulator"), (0, u "scores"), (0, u "[D"), (0, .fieldref 8 14), (0, .nameAndType 15 16), (0, u "retrieved"), (0, u "[Z"), (0, .fieldref 8 18), (0, .nameAndType 19 20), (0, u "documents"), (0, u "[I"), (0, .fieldref 8 22), (0, .nameAndType 23 24), (0, u "size"), (0, u "I"), (0, u "(I)V"), (2, u "add"), (0, u "(ID)V"), (1, u "()I"), (0, u "document"), (0, u "(I)I"), (0, u "score"), (0, u "(I)D")] 3

def k2c0 : Code := { maxStack := 2, maxLocals := 2, code := prog_23_method_1_code, exceptionTable := #[], attributes := #[] }
def k2m0 : Method := { name := "<init>", desc := "(I)V", sig := { parameters := [.int], returnType := none }, accessFlags := 0, code := some k2c0 }
def k2c1 : Code := { maxStack := 6, maxLocals := 4, code := prog_23_method_2_code, exceptionTable := #[], attributes := #[] }
def k2m1 : Method := { name := "add", desc := "(ID)V", sig := { parameters := [.int, .double], returnType := none }, accessFlags := 0, code := some k2c1 }
def k2c2 : Code := { maxStack := 1, maxLocals := 1, code := prog_23_method_3_code, exceptionTable := #[], attributes := #[] }
def k2m2 : Method := { name := "size", desc := "()I", sig := { parameters := [], returnType := some .int }, accessFlags := 0, code := some k2c2 }
def k2c3 : Code := { maxStack := 2, maxLocals := 2, code := prog_23_method_4_code, exceptionTable := #[], attributes := #[] }
def k2m3 : Method := { name := "document", desc := "(I)I", sig := { parameters := [.int], returnType := some .int }, accessFlags := 0, code := some k2c3 }
def k2c4 : Code := { maxStack := 2, maxLocals := 2, code := prog_23_method_5_code, exceptionTable := #[], attributes := #[] }
def k2m4 : Method := { name := "score", desc := "(I)D", sig := { parameters := [.int], returnType := some .double }, accessFlags := 0, code := some k2c4 }
/-- com/example/maat/maat/search/Accumulator -/
def k2 : Class := { plain "com/example/maat/maat/search/Accumulator" (some 0) with
  accessFlags := 48
  interfaces := #[]
  cf := some (fileOf pool2 8 #[] #[{ accessFlags := 0, nameIndex := 5, descriptorIndex := 25, attributes := #[] }, { accessFlags := 0, nameIndex := 28, descriptorIndex := 29, attributes := #[] }, { accessFlags := 0, nameIndex := 23, descriptorIndex := 31, attributes := #[] }, { accessFlags := 0, nameIndex := 32, descriptorIndex := 33, attributes := #[] }, { accessFlags := 0, nameIndex := 34, descriptorIndex := 35, attributes := #[] }] 48 2 #[] #[{ accessFlags := 18, nameIndex := 11, descriptorIndex := 12, attributes := #[] }, { accessFlags := 18, nameIndex := 15, descriptorIndex := 16, attributes := #[] }, { accessFlags := 18, nameIndex := 19, descriptorIndex := 20, attributes := #[] }, { accessFlags := 2, nameIndex := 23, descriptorIndex := 24, attributes := #[] }])
  fields := #[{ name := "scores", type := (.array .double), accessFlags := 18, slot := 0, constantValue := 0 }, { name := "retrieved", type := (.array .boolean), accessFlags := 18, slot := 1, constantValue := 0 }, { name := "documents", type := (.array .int), accessFlags := 18, slot := 2, constantValue := 0 }, { name := "size", type := .int, accessFlags := 2, slot := 3, constantValue := 0 }]
  methods := #[k2m0, k2m1, k2m2, k2m3, k2m4]
  instanceTypes := #[(.array .double), (.array .boolean), (.array .int), .int]
  staticTypes := #[]
  resolved := Array.replicate 39 none
  statics := none }

def pool3 : Array CpInfo := pool [(1, u "java/lang/Cloneable"), (0, .class_ 1), (0, u "java/lang/Object"), (0, .class_ 3)] 3

/-- java/lang/Cloneable -/
def k3 : Class := { plain "java/lang/Cloneable" (some 0) with
  accessFlags := 1537
  interfaces := #[]
  cf := some (fileOf pool3 2 #[] #[] 1537 4 #[] #[])
  fields := #[]
  methods := #[]
  instanceTypes := #[]
  staticTypes := #[]
  resolved := Array.replicate 8 none
  statics := none }

def pool4 : Array CpInfo := pool [(1, u "java/io/Serializable"), (0, .class_ 1), (0, u "java/lang/Object"), (0, .class_ 3)] 3

/-- java/io/Serializable -/
def k4 : Class := { plain "java/io/Serializable" (some 0) with
  accessFlags := 1537
  interfaces := #[]
  cf := some (fileOf pool4 2 #[] #[] 1537 4 #[] #[])
  fields := #[]
  methods := #[]
  instanceTypes := #[]
  staticTypes := #[]
  resolved := Array.replicate 8 none
  statics := none }

/-- the primitive boolean -/
def k5 : Class := { plain "boolean" none with kind := .primitive 'Z', accessFlags := 0x411 }
/-- [Z -/
def k6 : Class := { plain "[Z" (some 0) with kind := .array 5 .boolean, interfaces := #[3, 4], accessFlags := 1041 }

/-- the primitive byte -/
def k7 : Class := { plain "byte" none with kind := .primitive 'B', accessFlags := 0x411 }
/-- [B -/
def k8 : Class := { plain "[B" (some 0) with kind := .array 7 .byte, interfaces := #[3, 4], accessFlags := 1041 }

/-- the primitive double -/
def k9 : Class := { plain "double" none with kind := .primitive 'D', accessFlags := 0x411 }
/-- [D -/
def k10 : Class := { plain "[D" (some 0) with kind := .array 9 .double, interfaces := #[3, 4], accessFlags := 1041 }

/-- the primitive int -/
def k11 : Class := { plain "int" none with kind := .primitive 'I', accessFlags := 0x411 }
/-- [I -/
def k12 : Class := { plain "[I" (some 0) with kind := .array 11 .int, interfaces := #[3, 4], accessFlags := 1041 }

def heap : Heap := #[]
def classes : Array Class := #[k0, k1, k2, k3, k4, k5, k6, k7, k8, k9, k10, k11, k12]
def interned : List (Array UInt16 × Addr) := []
def slotsUsed : Nat := 0
def theMethod : MethodId := ⟨1, 1⟩
def args0 : Array Value := #[.int 5, .int 5, .int 5, .int 5, .int 5, .int 5]
def aboutOver (below : List Frame) : State where
  vm := { classes := classes, interned := interned.toArray }
  heap := heap
  slotsUsed := slotsUsed
  threads := #[{ frames := .invoking theMethod args0 :: below }]
def below0 : List Frame := [.native { method := ⟨0, 0⟩, args := #[] }]
def about1 : State := aboutOver below0
def p0 : Program := .bare "" "" ""
def e0 : Env := launch0.env 0 0 0
theorem w_frames : about1.frames = Frame.invoking theMethod args0 :: below0 := rfl
set_option maxRecDepth 65536 in
theorem w_args : argsFit about1.vm theMethod args0 = true := by decide +kernel
set_option maxRecDepth 65536 in
theorem w_heap : heapFits about1 = true := by decide +kernel
set_option maxRecDepth 65536 in
theorem w_runnable : about1.curStatus? = some .runnable := by decide +kernel
set_option maxRecDepth 65536 in
theorem w_alone : about1.alone = true := by decide +kernel
set_option maxRecDepth 65536 in
theorem w_named : about1.methodNamed? x = some theMethod := by decide +kernel
set_option maxRecDepth 65536 in
theorem w_hears : about1.hears theMethod below0 = true := by decide +kernel
set_option maxRecDepth 65536 in
theorem w_ripe : about1.ripe theMethod args0 below0 = true := by decide +kernel
theorem w_running : about1.status = .running := rfl
set_option maxRecDepth 65536 in
theorem w_room : about1.hasRoom e0.platform room_1 = true :=
  launch0.hasRoom_least _ room_1 (by decide +kernel) (by decide +kernel) (by decide +kernel) (by decide +kernel) (by decide +kernel) (by decide +kernel)
theorem allAtoms_all (ts : List Jvm.Cond) (a : Array Jvm.Value) (st : Jvm.State) : (allAtoms ts).before a st = ts.all (fun c => c.before a st) := by
  induction ts with
  | nil => rfl
  | cons c t ih =>
    show (Jvm.Cond.and c (allAtoms t)).before a st = _
    rw [Jvm.Cond.before_and, ih, List.all_cons]
def words1 : List Jvm.Cond := Jvm.Cond.code x code maxLocals ret :: tables_1
/-- a 'code' word, met by the world's own term for the bytes: nothing is compared byte by byte -/
theorem code_word {y : MethodName} {bytes : ByteArray} {mx : Nat} {rt : Option FieldType} {a : Array Value} {s : State} {m : MethodId} {meth : Method} {c : Code} (h1 : s.methodNamed? y = some m) (h2 : s.vm.method? m = some meth) (h3 : meth.code = some c) (h4 : c.code = bytes)
    (h5 : (c.maxLocals == mx && c.exceptionTable.isEmpty && decide (c.maxStack ≤ mostOperands) && decide (meth.sig.returnType = rt) && !meth.locks && decide (parseMethodDescriptor y.desc = some meth.sig)) = true) : (Jvm.Cond.code y bytes mx rt).before a s = true := by
  simp only [Bool.and_eq_true, beq_iff_eq, Bool.not_eq_true', decide_eq_true_eq] at h5
  obtain ⟨⟨⟨⟨⟨g1, g2⟩, g3⟩, g4⟩, g5⟩, g6⟩ := h5
  simp [Cond.before, Cond.holds, Cond.value, h1, h2, h3, h4, g1, g2, g3, g4, g5, g6]
def isCode : Jvm.Cond → Bool
  | .code _ _ _ _ => true
  | _ => false
theorem all_split {L : List Jvm.Cond} {P : Jvm.Cond → Bool} (h1 : L.all (fun c => isCode c || P c) = true) (h2 : ∀ c ∈ L.filter isCode, P c = true) : L.all P = true := by
  refine List.all_eq_true.mpr fun c hc => ?_
  have h := List.all_eq_true.mp h1 c hc
  rcases Bool.eq_false_or_eq_true (isCode c) with hi | hi
  · exact h2 c (List.mem_filter.mpr ⟨hc, hi⟩)
  · simpa [hi] using h
set_option maxRecDepth 65536 in
theorem w_c0 : (Jvm.Cond.code x code maxLocals ret).before args0 about1 = true := code_word (m := ⟨1, 1⟩) (meth := k1m1) (c := k1c1) (by decide +kernel) rfl rfl rfl (by decide +kernel)
set_option maxRecDepth 65536 in
theorem w_c1 : (Jvm.Cond.code ({ cls := "com/example/maat/maat/search/Accumulator", name := "<init>", desc := "(I)V" } : Jvm.MethodName) prog_23_method_1_code (2 : Nat) (Option.none : Option Jvm.ClassFile.FieldType)).before args0 about1 = true := code_word (m := ⟨2, 0⟩) (meth := k2m0) (c := k2c0) (by decide +kernel) rfl rfl rfl (by decide +kernel)
set_option maxRecDepth 65536 in
theorem w_c2 : (Jvm.Cond.code ({ cls := "java/lang/Object", name := "<init>", desc := "()V" } : Jvm.MethodName) object_method_1_code (1 : Nat) (Option.none : Option Jvm.ClassFile.FieldType)).before args0 about1 = true := code_word (m := ⟨0, 0⟩) (meth := k0m0) (c := k0c0) (by decide +kernel) rfl rfl rfl (by decide +kernel)
set_option maxRecDepth 65536 in
theorem w_c3 : (Jvm.Cond.code ({ cls := "com/example/maat/maat/search/Accumulator", name := "add", desc := "(ID)V" } : Jvm.MethodName) prog_23_method_2_code (4 : Nat) (Option.none : Option Jvm.ClassFile.FieldType)).before args0 about1 = true := code_word (m := ⟨2, 1⟩) (meth := k2m1) (c := k2c1) (by decide +kernel) rfl rfl rfl (by decide +kernel)
set_option maxRecDepth 65536 in
theorem w_c4 : (Jvm.Cond.code ({ cls := "com/example/maat/maat/search/Accumulator", name := "size", desc := "()I" } : Jvm.MethodName) prog_23_method_3_code (1 : Nat) (Option.some Jvm.ClassFile.FieldType.int)).before args0 about1 = true := code_word (m := ⟨2, 2⟩) (meth := k2m2) (c := k2c2) (by decide +kernel) rfl rfl rfl (by decide +kernel)
set_option maxRecDepth 65536 in
theorem w_c5 : (Jvm.Cond.code ({ cls := "com/example/maat/maat/search/Accumulator", name := "document", desc := "(I)I" } : Jvm.MethodName) prog_23_method_4_code (2 : Nat) (Option.some Jvm.ClassFile.FieldType.int)).before args0 about1 = true := code_word (m := ⟨2, 3⟩) (meth := k2m3) (c := k2c3) (by decide +kernel) rfl rfl rfl (by decide +kernel)
set_option maxRecDepth 65536 in
theorem w_c6 : (Jvm.Cond.code ({ cls := "com/example/maat/maat/search/Accumulator", name := "score", desc := "(I)D" } : Jvm.MethodName) prog_23_method_5_code (2 : Nat) (Option.some Jvm.ClassFile.FieldType.double)).before args0 about1 = true := code_word (m := ⟨2, 4⟩) (meth := k2m4) (c := k2c4) (by decide +kernel) rfl rfl rfl (by decide +kernel)
def codes1 : List Jvm.Cond := [Jvm.Cond.code x code maxLocals ret, Jvm.Cond.code ({ cls := "com/example/maat/maat/search/Accumulator", name := "<init>", desc := "(I)V" } : Jvm.MethodName) prog_23_method_1_code (2 : Nat) (Option.none : Option Jvm.ClassFile.FieldType), Jvm.Cond.code ({ cls := "java/lang/Object", name := "<init>", desc := "()V" } : Jvm.MethodName) object_method_1_code (1 : Nat) (Option.none : Option Jvm.ClassFile.FieldType), Jvm.Cond.code ({ cls := "com/example/maat/maat/search/Accumulator", name := "add", desc := "(ID)V" } : Jvm.MethodName) prog_23_method_2_code (4 : Nat) (Option.none : Option Jvm.ClassFile.FieldType), Jvm.Cond.code ({ cls := "com/example/maat/maat/search/Accumulator", name := "size", desc := "()I" } : Jvm.MethodName) prog_23_method_3_code (1 : Nat) (Option.some Jvm.ClassFile.FieldType.int), Jvm.Cond.code ({ cls := "com/example/maat/maat/search/Accumulator", name := "document", desc := "(I)I" } : Jvm.MethodName) prog_23_method_4_code (2 : Nat) (Option.some Jvm.ClassFile.FieldType.int), Jvm.Cond.code ({ cls := "com/example/maat/maat/search/Accumulator", name := "score", desc := "(I)D" } : Jvm.MethodName) prog_23_method_5_code (2 : Nat) (Option.some Jvm.ClassFile.FieldType.double)]
set_option maxRecDepth 65536 in
theorem codes_eq : words1.filter isCode = codes1 := rfl
theorem w_codes : ∀ c ∈ words1.filter isCode, c.before args0 about1 = true := by
  rw [codes_eq]
  intro c hc
  simp only [codes1, List.mem_cons, List.not_mem_nil, or_false] at hc
  rcases hc with rfl | rfl | rfl | rfl | rfl | rfl | rfl
  · exact w_c0
  · exact w_c1
  · exact w_c2
  · exact w_c3
  · exact w_c4
  · exact w_c5
  · exact w_c6
set_option maxRecDepth 65536 in
theorem w_t1 : (words1.take 24).all (fun c => isCode c || c.before args0 about1) = true := by decide +kernel
set_option maxRecDepth 65536 in
theorem w_t2 : (words1.drop 24).all (fun c => isCode c || c.before args0 about1) = true := by decide +kernel
theorem w_tables : (allAtoms (Jvm.Cond.code x code maxLocals ret :: tables_1)).before args0 about1 = true := by
  rw [allAtoms_all]
  show words1.all (fun c => c.before args0 about1) = true
  refine all_split ?_ w_codes
  rw [← List.take_append_drop 24 words1, List.all_append, w_t1, w_t2]
  rfl
set_option maxRecDepth 65536 in
theorem w_case : (Jvm.Cond.and given_1 narrow_1).before args0 about1 = true := by decide +kernel
theorem w_applies : (headSpec (Jvm.Cond.code x code maxLocals ret :: tables_1) room_1).applies x e0.platform about1 = true :=
  (Spec.applies_iff w_frames).mpr ⟨w_running, w_runnable, w_alone, w_named, w_hears, w_ripe, w_room, w_tables⟩
theorem atStart : AtStart classFile x code maxLocals ret World_1 tables_1 room_1 Calls_1 rest_1 Pre_1 launch0 p0 e0 about1 theMethod args0 below0 :=
  ⟨lists_1, trivial, launch0.admits_env _ _ _, launch0.least_env, fairChoices_fair.cas, fairChoices_fair.clock, w_frames, w_args, w_heap, w_applies, trivial, trivial, w_case⟩
end start1
theorem witness_1 : WitnessClaimed_1 := ⟨start1.p0, start1.e0, start1.about1, start1.theMethod, start1.args0, start1.below0, start1.atStart⟩
end Jvm.Pilot.@@N@@

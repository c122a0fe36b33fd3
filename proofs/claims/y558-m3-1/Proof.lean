import JvmDerived
import JvmDerived.Pilot.@@N@@Statement
import JvmDerived.Pilot.@@N@@Code
set_option linter.unusedVariables false
set_option linter.unusedSimpArgs false
namespace Jvm.Pilot.@@N@@
section OwnFP
open Jvm.FP Jvm.FP.Core Jvm.Free.Fl
/-- what x stands for, in units of the least double -/
def own_zv (x : UInt64) : Int := zval b64 (val64 x)
/-- x is finite and stands for a / 2^k -/
def Dy (x : UInt64) (a : Int) (k : Nat) : Prop := DFin x ∧ own_zv x * ((2 ^ k : Nat) : Int) = a * (one64 : Int)
theorem Dy.nn {x : UInt64} {a : Int} {k : Nat} (h : Dy x a k) : NoNaN64 x := (fin64_core.mpr h.1).noNaN
theorem own_pp (k : Nat) : (0 : Int) < ((2 ^ k : Nat) : Int) := Int.natCast_pos.mpr (Nat.two_pow_pos k)
theorem own_up : (0 : Int) < (one64 : Int) := Int.natCast_pos.mpr one64_pos
theorem own_signed_abs (a : Int) : signed (decide (a < 0)) a.natAbs = a := by
  unfold signed
  by_cases h : a < 0
  · simp [h]; omega
  · simp [h]; omega
theorem own_datum (a : Int) (n : Nat) (ha : a.natAbs < 2 ^ 53) (hn : n ≤ 1074) : ∃ V : Datum, Core.fits b64 V ∧ V ≠ .nan ∧ zval b64 V = a * ((2 ^ n : Nat) : Int) := by
  have hq : b64.qmin = -1074 := qmin_b64
  have hqx : b64.qmax = 971 := by decide
  obtain ⟨c', q', hr, hu⟩ := round_exact good_b64 (decide (a < 0)) (c := a.natAbs) (q := (n : Int) - 1074) ha (by rw [hq]; omega) (by rw [hqx]; omega)
  have hV := round_fits good_b64 (.fin (decide (a < 0)) a.natAbs ((n : Int) - 1074))
  rw [hr] at hV
  refine ⟨_, hV, by simp, ?_⟩
  show signed (decide (a < 0)) (inUnits c' q' b64.qmin) = _
  rw [hu]
  unfold inUnits
  rw [signed_mul, own_signed_abs, hq, show (((n : Int) - 1074) - -1074).toNat = n by omega]
theorem own_notinf {a : Int} {n : Nat} {t : Bool} (ha : a.natAbs < 2 ^ 53) (hn : n ≤ 1074) : ¬ zval b64 (.inf t) = a * ((2 ^ n : Nat) : Int) := by
  intro e
  have q := congrArg Int.natAbs e
  rw [show zval b64 (.inf t) = signed t (b64.tails * 2 ^ (b64.exps - 2)) from rfl, natAbs_signed, Int.natAbs_mul, Int.natAbs_natCast] at q
  have l1 : a.natAbs * 2 ^ n < 2 ^ 53 * 2 ^ 1074 := Nat.mul_lt_mul_of_lt_of_le ha (Nat.pow_le_pow_right (by decide) hn) (Nat.two_pow_pos _)
  have l2 : 2 ^ 53 * 2 ^ 1074 < b64.tails * 2 ^ (b64.exps - 2) := by
    rw [tails_b64, show b64.exps - 2 = 2046 by decide, ← Nat.pow_add, ← Nat.pow_add]
    exact Nat.pow_lt_pow_right (by decide) (by decide)
  exact Nat.lt_irrefl _ (Nat.lt_trans l2 (by rw [q]; exact l1))
theorem own_round {s : Bool} {c : Nat} {q e0 a : Int} {k : Nat} (ha : a.natAbs < 2 ^ 53) (hk : k ≤ 1074) (h0 : e0 ≤ -1074) (h0e : e0 ≤ q)
    (h : signed s (inUnits c q e0) * ((2 ^ k : Nat) : Int) = a * ((2 ^ (-e0).toNat : Nat) : Int)) :
    (∃ s' c' q', round b64 (.fin s c q) = .fin s' c' q') ∧ zval b64 (round b64 (.fin s c q)) * ((2 ^ k : Nat) : Int) = a * (one64 : Int) := by
  have hq : b64.qmin = -1074 := qmin_b64
  obtain ⟨V, hV, hVn, hz⟩ := own_datum a (1074 - k) ha (by omega)
  have hs : zval b64 V * ((2 ^ (b64.qmin - e0).toNat : Nat) : Int) = signed s (inUnits c q e0) := by
    apply Int.eq_of_mul_eq_mul_right (a := ((2 ^ k : Nat) : Int)) (Int.ne_of_gt (own_pp k))
    rw [h, hz, hq, Int.mul_assoc, Int.mul_assoc, ← Int.natCast_mul, ← Int.natCast_mul, ← Nat.pow_add, ← Nat.pow_add]
    rw [show 1074 - k + ((-1074 - e0).toNat + k) = (-e0).toNat by omega]
  have le := zval_round_le good_b64 (s := s) (c := c) (q := q) (e0 := e0) hV hVn (by rw [hq]; exact h0) h0e (by rw [hs]; exact Int.le_refl _)
  have ge := zval_round_ge good_b64 (s := s) (c := c) (q := q) (e0 := e0) hV hVn (by rw [hq]; exact h0) h0e (by rw [hs]; exact Int.le_refl _)
  have e : zval b64 (round b64 (.fin s c q)) = a * ((2 ^ (1074 - k) : Nat) : Int) := by rw [← hz]; exact Int.le_antisymm le ge
  refine ⟨?_, by rw [e, Int.mul_assoc, ← Int.natCast_mul, ← Nat.pow_add, show 1074 - k + k = 1074 by omega]; rfl⟩
  cases hc : round b64 (.fin s c q) with
  | nan => exact absurd hc (roundRatio_ne_nan _ _ _ _ _)
  | fin s' c' q' => exact ⟨_, _, _, rfl⟩
  | inf t => rw [hc] at e; exact absurd e (own_notinf ha (by omega))
theorem Dy.add {x y : UInt64} {a b : Int} {k : Nat} (hx : Dy x a k) (hy : Dy y b k) (h : (a + b).natAbs < 2 ^ 53) (hk : k ≤ 1074) : Dy (FP.dadd x y) (a + b) k := by
  obtain ⟨⟨s, c, q, ex⟩, zx⟩ := hx
  obtain ⟨⟨t, d, r, ey⟩, zy⟩ := hy
  have fx := val64_fits x
  have fy := val64_fits y
  unfold own_zv at zx zy
  rw [ex] at fx zx
  rw [ey] at fy zy
  obtain ⟨sg, n, e, hs, he, hv⟩ := sum_units fx fy
  have hd : val64 (FP.dadd x y) = round b64 (.fin sg n e) := by rw [show FP.dadd x y = Core.dadd x y from rfl, val64_dadd, ex, ey, hs]
  obtain ⟨⟨s', c', q', h1⟩, h2⟩ := own_round (s := sg) (c := n) (q := e) (e0 := b64.qmin) (a := a + b) (k := k) h hk (Int.le_of_eq qmin_b64) he (by rw [hv, Int.add_mul, zx, zy, ← Int.add_mul, pow_qmin64])
  exact ⟨⟨s', c', q', hd.trans h1⟩, by unfold own_zv; rw [hd]; exact h2⟩
theorem Dy.sub {x y : UInt64} {a b : Int} {k : Nat} (hx : Dy x a k) (hy : Dy y b k) (h : (a - b).natAbs < 2 ^ 53) (hk : k ≤ 1074) : Dy (FP.dsub x y) (a - b) k := by
  obtain ⟨⟨s, c, q, ex⟩, zx⟩ := hx
  obtain ⟨⟨t, d, r, ey⟩, zy⟩ := hy
  have fx := val64_fits x
  have fy := negate_fits (val64_fits y)
  have zn := zval_negate b64 (val64 y)
  unfold own_zv at zx zy
  rw [ex] at fx zx
  rw [ey] at fy zy zn
  have fy' : Core.fits b64 (.fin (!t) d r) := fy
  have zn' : zval b64 (.fin (!t) d r) = -zval b64 (.fin t d r) := zn
  obtain ⟨sg, n, e, hs, he, hv⟩ := sum_units fx fy'
  have hd : val64 (FP.dsub x y) = round b64 (.fin sg n e) := by
    rw [show FP.dsub x y = Core.dsub x y from rfl, val64_dsub, ex, ey]
    exact congrArg (round b64) hs
  obtain ⟨⟨s', c', q', h1⟩, h2⟩ := own_round (s := sg) (c := n) (q := e) (e0 := b64.qmin) (a := a - b) (k := k) h hk (Int.le_of_eq qmin_b64) he (by rw [hv, zn', Int.add_mul, Int.neg_mul, zx, zy, ← Int.sub_eq_add_neg, ← Int.sub_mul, pow_qmin64])
  exact ⟨⟨s', c', q', hd.trans h1⟩, by unfold own_zv; rw [hd]; exact h2⟩
theorem own_two_qmin : 2 ^ (-(2 * b64.qmin)).toNat = one64 * one64 := by
  rw [show (-(2 * b64.qmin)).toNat = (-b64.qmin).toNat + (-b64.qmin).toNat by rw [qmin_b64]; decide, Nat.pow_add, pow_qmin64]
theorem Dy.mul {x y : UInt64} {a b : Int} {k j : Nat} (hx : Dy x a k) (hy : Dy y b j) (h : (a * b).natAbs < 2 ^ 53) (hk : k + j ≤ 1074) : Dy (FP.dmul x y) (a * b) (k + j) := by
  obtain ⟨⟨s, c, q, ex⟩, zx⟩ := hx
  obtain ⟨⟨t, d, r, ey⟩, zy⟩ := hy
  have fx := val64_fits x
  have fy := val64_fits y
  unfold own_zv at zx zy
  rw [ex] at fx zx
  rw [ey] at fy zy
  obtain ⟨hp, he, hv⟩ := product_units fx fy
  have hd : val64 (FP.dmul x y) = round b64 (.fin (s != t) (c * d) (q + r)) := by rw [show FP.dmul x y = Core.dmul x y from rfl, val64_dmul, ex, ey, hp]
  have hg : signed (s != t) (inUnits (c * d) (q + r) (2 * b64.qmin)) = zval b64 (.fin s c q) * zval b64 (.fin t d r) := by rw [hv, signed_xor]; rfl
  obtain ⟨⟨s', c', q', h1⟩, h2⟩ := own_round (s := s != t) (c := c * d) (q := q + r) (e0 := 2 * b64.qmin) (a := a * b) (k := k + j) h hk (by rw [qmin_b64]; decide) he (by
    rw [hg, own_two_qmin, Nat.pow_add, Int.natCast_mul, Int.natCast_mul]
    rw [show ∀ A B P Q : Int, A * B * (P * Q) = (A * P) * (B * Q) from fun A B P Q => by ac_rfl, zx, zy]
    exact (fun A B P : Int => by ac_rfl : ∀ A B P : Int, A * P * (B * P) = A * B * (P * P)) _ _ _)
  exact ⟨⟨s', c', q', hd.trans h1⟩, by unfold own_zv; rw [hd]; exact h2⟩
theorem own_units {c : Nat} {q r e0 : Int} (hq : b64.qmin ≤ q) (hr : b64.qmin ≤ r) (h1 : e0 ≤ q - r) (h2 : e0 ≤ b64.qmin) :
    inUnits c (q - r) e0 * 2 ^ (r - b64.qmin).toNat = inUnits c q b64.qmin * one64 * 2 ^ (b64.qmin - e0).toNat := by
  unfold inUnits one64
  rw [qmin_b64] at *
  rw [Nat.mul_assoc, ← Nat.pow_add, Nat.mul_assoc, Nat.mul_assoc, ← Nat.pow_add, ← Nat.pow_add]
  rw [show (q - r - e0).toNat + (r - -1074).toNat = (q - -1074).toNat + (1074 + (-1074 - e0).toNat) by omega]
theorem own_ddiv {x y : UInt64} {s t : Bool} {c d : Nat} {q r : Int} (ex : val64 x = .fin s c q) (ey : val64 y = .fin t d r) (hd : d ≠ 0) : val64 (FP.ddiv x y) = roundRatio b64 (s != t) c d (q - r) := by
  rw [show FP.ddiv x y = Core.ddiv x y from rfl, val64_ddiv, ex, ey]
  simp [quotient, hd]
theorem own_div_le {x y : UInt64} {s t : Bool} {c d : Nat} {q r : Int} (ex : val64 x = .fin s c q) (ey : val64 y = .fin t d r) (hd : d ≠ 0) {V : Datum} (hV : Core.fits b64 V) (hn : V ≠ .nan)
    (h : zmag b64 (val64 x) * one64 ≤ zmag b64 V * zmag b64 (val64 y)) : zmag b64 (val64 (FP.ddiv x y)) ≤ zmag b64 V := by
  have fx := val64_fits x
  have fy := val64_fits y
  rw [ex] at fx h
  rw [ey] at fy h
  rw [own_ddiv ex ey hd]
  refine zmag_roundRatio_le good_b64 (e0 := min (q - r) b64.qmin) (Nat.pos_of_ne_zero hd) hV hn (Int.min_le_right _ _) (Int.min_le_left _ _) ?_
  refine Nat.le_of_mul_le_mul_right (c := 2 ^ (r - b64.qmin).toNat) ?_ (Nat.two_pow_pos _)
  rw [own_units fx.2.1 fy.2.1 (Int.min_le_left _ _) (Int.min_le_right _ _)]
  refine Nat.le_trans (Nat.mul_le_mul_right _ h) (Nat.le_of_eq ?_)
  show zmag b64 V * inUnits d r b64.qmin * _ = _
  unfold inUnits
  exact (fun A B P Q : Nat => by ac_rfl : ∀ A B P Q : Nat, A * (B * P) * Q = A * Q * B * P) _ _ _ _
theorem own_div_ge {x y : UInt64} {s t : Bool} {c d : Nat} {q r : Int} (ex : val64 x = .fin s c q) (ey : val64 y = .fin t d r) (hd : d ≠ 0) {V : Datum} (hV : Core.fits b64 V)
    (h : zmag b64 V * zmag b64 (val64 y) ≤ zmag b64 (val64 x) * one64) : zmag b64 V ≤ zmag b64 (val64 (FP.ddiv x y)) := by
  have fx := val64_fits x
  have fy := val64_fits y
  rw [ex] at fx h
  rw [ey] at fy h
  rw [own_ddiv ex ey hd]
  refine zmag_roundRatio_ge good_b64 (e0 := min (q - r) b64.qmin) (Nat.pos_of_ne_zero hd) hV (Int.min_le_right _ _) (Int.min_le_left _ _) ?_
  refine Nat.le_of_mul_le_mul_right (c := 2 ^ (r - b64.qmin).toNat) ?_ (Nat.two_pow_pos _)
  rw [own_units fx.2.1 fy.2.1 (Int.min_le_left _ _) (Int.min_le_right _ _)]
  refine Nat.le_trans (Nat.le_of_eq ?_) (Nat.mul_le_mul_right _ h)
  show _ = zmag b64 V * inUnits d r b64.qmin * _
  unfold inUnits
  exact (fun A B P Q : Nat => by ac_rfl : ∀ A B P Q : Nat, A * Q * B * P = A * (B * P) * Q) _ _ _ _
theorem own_zval_abs (d : Datum) : (zval b64 d).natAbs = zmag b64 d := by unfold zval; exact natAbs_signed _ _
theorem Dy.div {x y : UInt64} {a b m : Int} {k j n : Nat} (hx : Dy x a k) (hy : Dy y b j) (hb : b ≠ 0) (hm : m.natAbs < 2 ^ 53) (hn : n ≤ 1074)
    (h : a * ((2 ^ j : Nat) : Int) * ((2 ^ n : Nat) : Int) = m * b * ((2 ^ k : Nat) : Int)) : Dy (FP.ddiv x y) m n := by
  obtain ⟨⟨s, c, q, ex⟩, zx⟩ := hx
  obtain ⟨⟨t, d, r, ey⟩, zy⟩ := hy
  unfold own_zv at zx zy
  obtain ⟨V, hV, hVn, hz⟩ := own_datum m (1074 - n) hm (by omega)
  have hzn : zval b64 V * ((2 ^ n : Nat) : Int) = m * (one64 : Int) := by rw [hz, Int.mul_assoc, ← Int.natCast_mul, ← Nat.pow_add, show 1074 - n + n = 1074 by omega]; rfl
  have hyn : zval b64 (val64 y) ≠ 0 := fun e => by
    rw [e, Int.zero_mul] at zy
    rcases Int.mul_eq_zero.mp zy.symm with q | q
    · exact hb q
    · exact absurd q (Int.ne_of_gt own_up)
  have hd : d ≠ 0 := fun e => by
    subst e
    rw [ey] at hyn
    exact hyn (by show signed t (inUnits 0 r b64.qmin) = 0; unfold inUnits; rw [Nat.zero_mul, signed_zero])
  have key : zval b64 V * zval b64 (val64 y) = zval b64 (val64 x) * (one64 : Int) := by
    have e1 : (zval b64 V * zval b64 (val64 y)) * (((2 ^ n : Nat) : Int) * ((2 ^ j : Nat) : Int) * ((2 ^ k : Nat) : Int)) = (zval b64 (val64 x) * (one64 : Int)) * (((2 ^ n : Nat) : Int) * ((2 ^ j : Nat) : Int) * ((2 ^ k : Nat) : Int)) := by
      rw [(fun A B P Q R : Int => by ac_rfl : ∀ A B P Q R : Int, A * B * (P * Q * R) = (A * P) * (B * Q) * R), hzn, zy,
        (fun A B P Q R : Int => by ac_rfl : ∀ A B P Q R : Int, A * B * (P * Q * R) = (A * R) * (B * P * Q)) (zval b64 (val64 x)), zx,
        (fun M B U K : Int => by ac_rfl : ∀ M B U K : Int, M * U * (B * U) * K = (M * B * K) * (U * U)), ← h]
      exact (fun A U P Q : Int => by ac_rfl : ∀ A U P Q : Int, A * Q * P * (U * U) = A * U * (U * P * Q)) _ _ _ _
    exact Int.eq_of_mul_eq_mul_right (Int.ne_of_gt (Int.mul_pos (Int.mul_pos (own_pp n) (own_pp j)) (own_pp k))) e1
  have kn : zmag b64 V * zmag b64 (val64 y) = zmag b64 (val64 x) * one64 := by
    have q := congrArg Int.natAbs key
    rw [Int.natAbs_mul, Int.natAbs_mul, own_zval_abs, own_zval_abs, own_zval_abs, Int.natAbs_natCast] at q
    exact q
  have le := own_div_le ex ey hd hV hVn (Nat.le_of_eq kn.symm)
  have ge := own_div_ge ex ey hd hV (Nat.le_of_eq kn)
  have em : zmag b64 (val64 (FP.ddiv x y)) = zmag b64 V := Nat.le_antisymm le ge
  have er := own_ddiv ex ey hd
  have es : sgn (val64 (FP.ddiv x y)) = (s != t) := by rw [er, sgn_roundRatio]
  have prod : zval b64 (val64 (FP.ddiv x y)) * zval b64 (val64 y) = zval b64 (val64 x) * (one64 : Int) := by
    unfold zval
    rw [es, em, ← signed_xor, kn, signed_mul, ex, ey]
    show signed ((s != t) != t) _ * _ = signed s _ * _
    rw [show ((s != t) != t) = s by cases s <;> cases t <;> rfl]
  have eq : zval b64 (val64 (FP.ddiv x y)) = zval b64 V := Int.eq_of_mul_eq_mul_right hyn (prod.trans key.symm)
  refine ⟨?_, by unfold own_zv; rw [eq]; exact hzn⟩
  cases hc : val64 (FP.ddiv x y) with
  | nan => exact absurd (er.symm.trans hc) (roundRatio_ne_nan _ _ _ _ _)
  | fin s' c' q' => exact ⟨_, _, _, hc⟩
  | inf t => rw [hc, hz] at eq; exact absurd eq (own_notinf hm (by omega))
theorem own_ofInt {x : UInt64} {i : Int} (hx : val64 x = round b64 (ofInt i)) (h : i.natAbs < 2 ^ 53) : Dy x i 0 := by
  obtain ⟨⟨s', c', q', h1⟩, h2⟩ := own_round (s := decide (i < 0)) (c := i.natAbs) (q := 0) (e0 := b64.qmin) (a := i) (k := 0) h (by decide) (Int.le_of_eq qmin_b64) (by rw [qmin_b64]; decide) (by
    unfold inUnits
    rw [signed_mul, own_signed_abs, show (0 - b64.qmin) = -b64.qmin by omega, pow_qmin64]; simp)
  exact ⟨⟨s', c', q', hx.trans h1⟩, by unfold own_zv; rw [hx]; exact h2⟩
theorem Dy.i2d (v : Int32) : Dy (FP.i2d v) v.toInt 0 := own_ofInt (val64_i2d v) (by have h1 := Int32.toInt_lt v; have h2 := Int32.le_toInt v; omega)
theorem Dy.l2d {v : Int64} (h : v.toInt.natAbs < 2 ^ 53) : Dy (FP.l2d v) v.toInt 0 := own_ofInt (val64_l2d v) h
theorem Dy.lit {x : UInt64} {a : Int} {k : Nat} (s : Bool) (c : Nat) (q : Int) (h : val64 x = .fin s c q) (h2 : signed s (inUnits c q b64.qmin) * ((2 ^ k : Nat) : Int) = a * (one64 : Int)) : Dy x a k :=
  ⟨⟨s, c, q, h⟩, by unfold own_zv; rw [h]; exact h2⟩
theorem Dy.up {x : UInt64} {a : Int} {k : Nat} (i : Nat) (h : Dy x a k) : Dy x (a * ((2 ^ i : Nat) : Int)) (k + i) :=
  ⟨h.1, by rw [Nat.pow_add, Int.natCast_mul, ← Int.mul_assoc, h.2]; exact (fun A B C : Int => by ac_rfl : ∀ A B C : Int, A * B * C = A * C * B) _ _ _⟩
theorem Dy.cast {x : UInt64} {a b : Int} {k j : Nat} (h : Dy x a k) (e : a = b) (e2 : k = j) : Dy x b j := e ▸ e2 ▸ h
/-- the int that dcmpl and dcmpg push for two numbers -/
def own_ci (a b : Int) : Int32 := if a < b then -1 else if a = b then 0 else 1
theorem own_ci_lt {a b : Int} : own_ci a b < 0 ↔ a < b := by unfold own_ci; split <;> (try split) <;> simp_all <;> omega
theorem own_ci_gt {a b : Int} : 0 < own_ci a b ↔ b < a := by unfold own_ci; split <;> (try split) <;> simp_all <;> omega
theorem own_ci_eq {a b : Int} : own_ci a b = 0 ↔ a = b := by unfold own_ci; split <;> (try split) <;> simp_all <;> omega
theorem own_dcmp {x y : UInt64} (hx : DFin x) (hy : DFin y) : FP.dcmp x y = some (compare (own_zv x) (own_zv y)) := by
  obtain ⟨s, c, q, ex⟩ := hx
  obtain ⟨t, d, r, ey⟩ := hy
  exact order_zval good_b64 (val64_fits x) (val64_fits y) (fun e => by cases ex.symm.trans e) (fun e => by cases ey.symm.trans e)
theorem Dy.dcmp {x y : UInt64} {a b : Int} {k : Nat} (hx : Dy x a k) (hy : Dy y b k) : FP.dcmp x y = some (compare a b) := by
  rw [own_dcmp hx.1 hy.1]
  congr 1
  refine compare_congr ?_ ?_
  · rw [← Int.mul_lt_mul_right (own_pp k), hx.2, hy.2, Int.mul_lt_mul_right own_up]
  · constructor
    · intro e
      have q := hx.2
      rw [e, hy.2] at q
      exact (Int.eq_of_mul_eq_mul_right (Int.ne_of_gt own_up) q).symm
    · intro e
      have q := hx.2
      rw [e, ← hy.2] at q
      exact Int.eq_of_mul_eq_mul_right (Int.ne_of_gt (own_pp k)) q
theorem Dy.cmp {x y : UInt64} {a b : Int} {k : Nat} (hx : Dy x a k) (hy : Dy y b k) (o : Jvm.ClassFile.CmpOp) : Jvm.Op.cmpValue (FP.dcmp x y) o = own_ci a b := by
  rw [hx.dcmp hy]
  unfold own_ci
  show Jvm.Op.cmpValue (some (compareOfLessAndEq a b)) o = _
  unfold compareOfLessAndEq
  by_cases h1 : a < b
  · simp [h1]; cases o <;> rfl
  · by_cases h2 : a = b
    · simp [h2]; cases o <;> rfl
    · simp [h1, h2]; cases o <;> rfl
end OwnFP
end Jvm.Pilot.@@N@@
namespace Jvm.Pilot.@@N@@
open Jvm Jvm.ClassFile Sem Op Lib Jvm.Free Jvm.Stand Jvm.LawKit Jvm.RoadKit Jvm.Free.Fl Bundle Jvm.Pilot.@@N@@.Jvm.D
/-- the run from A ends, and what it leaves meets F -/
def Rn (p : Program) (e : Env) (below : List Frame) (A : State) (F : Outcome → State → Prop) : Prop := ∃ s₂ o, Steps p.tables e below A s₂ ∧ s₂.status = .running ∧ Ended s₂ below o ∧ F o s₂
theorem Rn.st {p : Program} {e : Env} {below : List Frame} {A B : State} {F : Outcome → State → Prop} (h : ∀ t, Steps p.tables e below B t → Steps p.tables e below A t) (r : Rn p e below B F) : Rn p e below A F := by
  obtain ⟨s₂, o, h1, h2⟩ := r
  exact ⟨s₂, o, h _ h1, h2⟩
theorem Rn.ret {p : Program} {l : Launch} {e : Env} {R : Room} {s : State} {m : MethodId} {args : Array Value} {below : List Frame} {meth : Method} {c : Code} {T : State} {locs : List Loc} {cells slots k n : Nat} {A : State} {h : Heap}
    (X : Stand p l e R s m args below meth c T locs cells slots) (hlk : meth.locks = false) {v : Option Value} (hv : meth.sig.returnType = none → v = none) {Q : Option Value → Heap → List Loc → Prop} (eT : T.heap = h)
    (last : ∀ fs, (∀ (f : JFrame) (acts : List Action), f.method = m → f.locked = none → f.entered = [] → (doReturn e (T.setTop f) acts v).1 = T.setFrames fs) → Steps p.tables e below A (T.setFrames fs))
    (q : Q v h locs) (hc : cells ≤ k) (hs : slots ≤ n) : Rn p e below A (fun o U' => ∃ v L, o = .returned v ∧ Q v U'.heap L ∧ FrameEnd s o U' L k n) := by
  obtain ⟨fs, hr, hrun, hended, hW, hsame⟩ := X.leave hv hlk
  refine ⟨_, _, last fs hr, hrun, hended, _, _, rfl, ?_, ⟨_, rfl⟩, hW, hsame.mono hc hs⟩
  show Q v T.heap locs
  rw [eT]; exact q
theorem own_sta_keep {Z : State} {h h' : Heap} {C n d : String} {w : Value} {ws : List Addr} (F : Sta Z h C n d w) (K : Keep h h' ws) (q : ∀ x ∈ ws, ∀ cell : Cell, h[x]? = some cell → cell.vm.isStatics = false) : Sta Z h' C n d w := by
  obtain ⟨cf, i, k, f, st, cell, h1, h2, h3, h4, h5, h6, h7⟩ := F
  refine ⟨cf, i, k, f, st, cell, h1, h2, h3, h4, K.2.1 st cell h5 (fun hm => ?_), h6, h7⟩
  have e := q st hm cell h5
  rw [h6] at e
  exact absurd e (by decide)
theorem own_wadd (a b : Int32) : (a.toInt64 + b.toInt64).toInt = a.toInt + b.toInt := by
  have h1 := Int32.toInt_lt a; have h2 := Int32.le_toInt a; have h3 := Int32.toInt_lt b; have h4 := Int32.le_toInt b
  rw [Int64.toInt_add, Int32.toInt_toInt64, Int32.toInt_toInt64, Int.bmod_eq_of_le (by omega) (by omega)]
theorem own_mulL {a b : Int64} (h : (a.toInt * b.toInt).natAbs < 9223372036854775808) : (a * b).toInt = a.toInt * b.toInt := by
  rw [Int64.toInt_mul, Int.bmod_eq_of_le (by omega) (by omega)]
theorem own_addL {a b : Int64} (h : (a.toInt + b.toInt).natAbs < 9223372036854775808) : (a + b).toInt = a.toInt + b.toInt := by
  rw [Int64.toInt_add, Int.bmod_eq_of_le (by omega) (by omega)]
theorem own_subI {a b : Int32} (h : -2147483648 ≤ a.toInt - b.toInt ∧ a.toInt - b.toInt < 2147483648) : (a - b).toInt = a.toInt - b.toInt := by
  rw [Int32.toInt_sub, Int.bmod_eq_of_le (by omega) (by omega)]
theorem own_addI {a b : Int32} (h : -2147483648 ≤ a.toInt + b.toInt ∧ a.toInt + b.toInt < 2147483648) : (a + b).toInt = a.toInt + b.toInt := by
  rw [Int32.toInt_add, Int.bmod_eq_of_le (by omega) (by omega)]
theorem own_mulI {a b : Int32} (h : (a.toInt * b.toInt).natAbs < 2147483648) : (a * b).toInt = a.toInt * b.toInt := by
  rw [Int32.toInt_mul, Int.bmod_eq_of_le (by omega) (by omega)]
theorem own_masked {a r m : Int32} {d : Int} (hm : 0 ≤ m.toInt) (hd : 0 < d) {k : Int32} (hk : k.toInt = d) (h : (a &&& m) % k = r) : 0 ≤ r.toInt ∧ r.toInt < d := by
  have q := c_and a m hm
  have t := (c_irem (a &&& m) k d hk).1 q.1
  rw [h] at t
  rw [t]
  exact ⟨Int.emod_nonneg _ (Int.ne_of_gt hd), Int.emod_lt_of_pos _ hd⟩
theorem own_eqI {a b : Int32} (h : a.toInt = b.toInt) : a = b := Int32.toInt_inj.mp h
theorem own_neI {a b : Int32} (h : ¬ a.toInt = b.toInt) : ¬ a = b := fun q => h (congrArg Int32.toInt q)
theorem own_bd {j n : Int32} (h : 0 ≤ j.toInt ∧ j.toInt < n.toInt) : ¬ j < 0 ∧ j < n := by
  constructor
  · rw [Int32.lt_iff_toInt_lt]; have : (0 : Int32).toInt = 0 := by decide
    omega
  · rw [Int32.lt_iff_toInt_lt]; exact h.2
theorem own_getH_nil (dv : Value) (n : Nat) : getH [] [] dv n = dv := by simp [getH]
theorem own_pb {a b : Int} {A B : Nat} (ha : a.natAbs ≤ A) (hb : b.natAbs ≤ B) : (a * b).natAbs ≤ A * B := by rw [Int.natAbs_mul]; exact Nat.mul_le_mul ha hb
theorem own_b (a : Int32) : -2147483648 ≤ a.toInt ∧ a.toInt < 2147483648 := ⟨Int32.le_toInt a, Int32.toInt_lt a⟩
theorem own_wsub (a b : Int32) : (a.toInt64 - b.toInt64).toInt = a.toInt - b.toInt := by
  have h1 := Int32.toInt_lt a; have h2 := Int32.le_toInt a; have h3 := Int32.toInt_lt b; have h4 := Int32.le_toInt b
  rw [Int64.toInt_sub, Int32.toInt_toInt64, Int32.toInt_toInt64, Int.bmod_eq_of_le (by omega) (by omega)]
section RSteps
variable {p : Program} {l : Launch} {e : Env} {R : Room} {s : State} {m : MethodId} {args : Array Value} {below : List Frame} {meth : Method} {c : Code} {T : State} {locs : List Loc} {cells slots : Nat} {G : Outcome → State → Prop} {L L' : Array Slot} {S : List Value} {pc pc' : Nat}
theorem R.iloadN (X : Stand p l e R s m args below meth c T locs cells slots) (hx : p.tables.exec = Jvm.exec) {k : Fin 4} {v : Int32} (hd : decode c.code pc = .ok (.iload_n k, 1)) (hl : L[k.val]? = some (.val (.int v))) (hp : pc + 1 = pc') (r : Rn p e below (T.setTop (mkF m pc' L (.int v :: S))) G) : Rn p e below (T.setTop (mkF m pc L (S))) G := by
  subst hp; exact Rn.st (fun t q => XS.iloadN X.here hx rfl hd hl q) r
theorem R.iload (X : Stand p l e R s m args below meth c T locs cells slots) (hx : p.tables.exec = Jvm.exec) {k : Nat} {v : Int32} (hd : decode c.code pc = .ok (.iload k, 2)) (hl : L[k]? = some (.val (.int v))) (hp : pc + 2 = pc') (r : Rn p e below (T.setTop (mkF m pc' L (.int v :: S))) G) : Rn p e below (T.setTop (mkF m pc L (S))) G := by
  subst hp; exact Rn.st (fun t q => XS.iload X.here hx rfl hd hl q) r
theorem R.istoreN (X : Stand p l e R s m args below meth c T locs cells slots) (hx : p.tables.exec = Jvm.exec) {k : Fin 4} {v : Int32} (hd : decode c.code pc = .ok (.istore_n k, 1)) (hl : storeLocals L k.val (.int v) = some L') (hp : pc + 1 = pc') (r : Rn p e below (T.setTop (mkF m pc' L' (S))) G) : Rn p e below (T.setTop (mkF m pc L (.int v :: S))) G := by
  subst hp; exact Rn.st (fun t q => XS.istoreN X.here hx rfl hd rfl hl q) r
theorem R.istore (X : Stand p l e R s m args below meth c T locs cells slots) (hx : p.tables.exec = Jvm.exec) {k : Nat} {v : Int32} (hd : decode c.code pc = .ok (.istore k, 2)) (hl : storeLocals L k (.int v) = some L') (hp : pc + 2 = pc') (r : Rn p e below (T.setTop (mkF m pc' L' (S))) G) : Rn p e below (T.setTop (mkF m pc L (.int v :: S))) G := by
  subst hp; exact Rn.st (fun t q => XS.istore X.here hx rfl hd rfl hl q) r
theorem R.lloadN (X : Stand p l e R s m args below meth c T locs cells slots) (hx : p.tables.exec = Jvm.exec) {k : Fin 4} {v : Int64} (hd : decode c.code pc = .ok (.lload_n k, 1)) (hl : L[k.val]? = some (.val (.long v))) (hp : pc + 1 = pc') (r : Rn p e below (T.setTop (mkF m pc' L (.long v :: S))) G) : Rn p e below (T.setTop (mkF m pc L (S))) G := by
  subst hp; exact Rn.st (fun t q => XS.lloadN X.here hx rfl hd hl q) r
theorem R.lload (X : Stand p l e R s m args below meth c T locs cells slots) (hx : p.tables.exec = Jvm.exec) {k : Nat} {v : Int64} (hd : decode c.code pc = .ok (.lload k, 2)) (hl : L[k]? = some (.val (.long v))) (hp : pc + 2 = pc') (r : Rn p e below (T.setTop (mkF m pc' L (.long v :: S))) G) : Rn p e below (T.setTop (mkF m pc L (S))) G := by
  subst hp; exact Rn.st (fun t q => XS.lload X.here hx rfl hd hl q) r
theorem R.lstoreN (X : Stand p l e R s m args below meth c T locs cells slots) (hx : p.tables.exec = Jvm.exec) {k : Fin 4} {v : Int64} (hd : decode c.code pc = .ok (.lstore_n k, 1)) (hl : storeLocals L k.val (.long v) = some L') (hp : pc + 1 = pc') (r : Rn p e below (T.setTop (mkF m pc' L' (S))) G) : Rn p e below (T.setTop (mkF m pc L (.long v :: S))) G := by
  subst hp; exact Rn.st (fun t q => XS.lstoreN X.here hx rfl hd rfl hl q) r
theorem R.lstore (X : Stand p l e R s m args below meth c T locs cells slots) (hx : p.tables.exec = Jvm.exec) {k : Nat} {v : Int64} (hd : decode c.code pc = .ok (.lstore k, 2)) (hl : storeLocals L k (.long v) = some L') (hp : pc + 2 = pc') (r : Rn p e below (T.setTop (mkF m pc' L' (S))) G) : Rn p e below (T.setTop (mkF m pc L (.long v :: S))) G := by
  subst hp; exact Rn.st (fun t q => XS.lstore X.here hx rfl hd rfl hl q) r
theorem R.dloadN (X : Stand p l e R s m args below meth c T locs cells slots) (hx : p.tables.exec = Jvm.exec) {k : Fin 4} {v : UInt64} (hd : decode c.code pc = .ok (.dload_n k, 1)) (hl : L[k.val]? = some (.val (.double v))) (hp : pc + 1 = pc') (r : Rn p e below (T.setTop (mkF m pc' L (.double v :: S))) G) : Rn p e below (T.setTop (mkF m pc L (S))) G := by
  subst hp; exact Rn.st (fun t q => XS.dloadN X.here hx rfl hd hl q) r
theorem R.dload (X : Stand p l e R s m args below meth c T locs cells slots) (hx : p.tables.exec = Jvm.exec) {k : Nat} {v : UInt64} (hd : decode c.code pc = .ok (.dload k, 2)) (hl : L[k]? = some (.val (.double v))) (hp : pc + 2 = pc') (r : Rn p e below (T.setTop (mkF m pc' L (.double v :: S))) G) : Rn p e below (T.setTop (mkF m pc L (S))) G := by
  subst hp; exact Rn.st (fun t q => XS.dload X.here hx rfl hd hl q) r
theorem R.dstoreN (X : Stand p l e R s m args below meth c T locs cells slots) (hx : p.tables.exec = Jvm.exec) {k : Fin 4} {v : UInt64} (hd : decode c.code pc = .ok (.dstore_n k, 1)) (hl : storeLocals L k.val (.double v) = some L') (hp : pc + 1 = pc') (r : Rn p e below (T.setTop (mkF m pc' L' (S))) G) : Rn p e below (T.setTop (mkF m pc L (.double v :: S))) G := by
  subst hp; exact Rn.st (fun t q => XS.dstoreN X.here hx rfl hd rfl hl q) r
theorem R.dstore (X : Stand p l e R s m args below meth c T locs cells slots) (hx : p.tables.exec = Jvm.exec) {k : Nat} {v : UInt64} (hd : decode c.code pc = .ok (.dstore k, 2)) (hl : storeLocals L k (.double v) = some L') (hp : pc + 2 = pc') (r : Rn p e below (T.setTop (mkF m pc' L' (S))) G) : Rn p e below (T.setTop (mkF m pc L (.double v :: S))) G := by
  subst hp; exact Rn.st (fun t q => XS.dstore X.here hx rfl hd rfl hl q) r
theorem R.aloadN (X : Stand p l e R s m args below meth c T locs cells slots) (hx : p.tables.exec = Jvm.exec) {k : Fin 4} {v : Value} (hd : decode c.code pc = .ok (.aload_n k, 1)) (hl : L[k.val]? = some (.val v)) (hv : v.isRef = true) (hp : pc + 1 = pc') (r : Rn p e below (T.setTop (mkF m pc' L (v :: S))) G) : Rn p e below (T.setTop (mkF m pc L (S))) G := by
  subst hp; exact Rn.st (fun t q => XS.aloadN X.here hx rfl hd hl hv q) r
theorem R.aload (X : Stand p l e R s m args below meth c T locs cells slots) (hx : p.tables.exec = Jvm.exec) {k : Nat} {v : Value} (hd : decode c.code pc = .ok (.aload k, 2)) (hl : L[k]? = some (.val v)) (hv : v.isRef = true) (hp : pc + 2 = pc') (r : Rn p e below (T.setTop (mkF m pc' L (v :: S))) G) : Rn p e below (T.setTop (mkF m pc L (S))) G := by
  subst hp; exact Rn.st (fun t q => XS.aload X.here hx rfl hd hl hv q) r
theorem R.astoreN (X : Stand p l e R s m args below meth c T locs cells slots) (hx : p.tables.exec = Jvm.exec) {k : Fin 4} {v : Value} (hd : decode c.code pc = .ok (.astore_n k, 1)) (hv : v.isRef = true) (hl : storeLocals L k.val v = some L') (hp : pc + 1 = pc') (r : Rn p e below (T.setTop (mkF m pc' L' (S))) G) : Rn p e below (T.setTop (mkF m pc L (v :: S))) G := by
  subst hp; exact Rn.st (fun t q => XS.astoreN X.here hx rfl hd rfl hv hl q) r
theorem R.astore (X : Stand p l e R s m args below meth c T locs cells slots) (hx : p.tables.exec = Jvm.exec) {k : Nat} {v : Value} (hd : decode c.code pc = .ok (.astore k, 2)) (hv : v.isRef = true) (hl : storeLocals L k v = some L') (hp : pc + 2 = pc') (r : Rn p e below (T.setTop (mkF m pc' L' (S))) G) : Rn p e below (T.setTop (mkF m pc L (v :: S))) G := by
  subst hp; exact Rn.st (fun t q => XS.astore X.here hx rfl hd rfl hv hl q) r
theorem R.iconst (X : Stand p l e R s m args below meth c T locs cells slots) (hx : p.tables.exec = Jvm.exec) {i : Int} {v : Int32} (hd : decode c.code pc = .ok (.iconst i, 1)) (hv : Int32.ofInt i = v) (hp : pc + 1 = pc') (r : Rn p e below (T.setTop (mkF m pc' L (.int v :: S))) G) : Rn p e below (T.setTop (mkF m pc L (S))) G := by
  subst hp hv; exact Rn.st (fun t q => XS.iconst X.here hx rfl hd q) r
theorem R.bipush (X : Stand p l e R s m args below meth c T locs cells slots) (hx : p.tables.exec = Jvm.exec) {i : Int} {v : Int32} (hd : decode c.code pc = .ok (.bipush i, 2)) (hv : (Int8.ofInt i).toInt32 = v) (hp : pc + 2 = pc') (r : Rn p e below (T.setTop (mkF m pc' L (.int v :: S))) G) : Rn p e below (T.setTop (mkF m pc L (S))) G := by
  subst hp hv; exact Rn.st (fun t q => XS.bipush X.here hx rfl hd q) r
theorem R.sipush (X : Stand p l e R s m args below meth c T locs cells slots) (hx : p.tables.exec = Jvm.exec) {i : Int} {v : Int32} (hd : decode c.code pc = .ok (.sipush i, 3)) (hv : (Int16.ofInt i).toInt32 = v) (hp : pc + 3 = pc') (r : Rn p e below (T.setTop (mkF m pc' L (.int v :: S))) G) : Rn p e below (T.setTop (mkF m pc L (S))) G := by
  subst hp hv; exact Rn.st (fun t q => XS.sipush X.here hx rfl hd q) r
theorem R.lconst (X : Stand p l e R s m args below meth c T locs cells slots) (hx : p.tables.exec = Jvm.exec) {i : Fin 2} {v : Int64} (hd : decode c.code pc = .ok (.lconst i, 1)) (hv : Int64.ofNat i = v) (hp : pc + 1 = pc') (r : Rn p e below (T.setTop (mkF m pc' L (.long v :: S))) G) : Rn p e below (T.setTop (mkF m pc L (S))) G := by
  subst hp hv; exact Rn.st (fun t q => XS.lconst X.here hx rfl hd q) r
theorem R.dconst0 (X : Stand p l e R s m args below meth c T locs cells slots) (hx : p.tables.exec = Jvm.exec)  (hd : decode c.code pc = .ok (.dconst 0, 1)) (hp : pc + 1 = pc') (r : Rn p e below (T.setTop (mkF m pc' L (.double FP.dconst0 :: S))) G) : Rn p e below (T.setTop (mkF m pc L (S))) G := by
  subst hp; exact Rn.st (fun t q => XS.dconst0 X.here hx rfl hd rfl q) r
theorem R.dconst1 (X : Stand p l e R s m args below meth c T locs cells slots) (hx : p.tables.exec = Jvm.exec)  (hd : decode c.code pc = .ok (.dconst 1, 1)) (hp : pc + 1 = pc') (r : Rn p e below (T.setTop (mkF m pc' L (.double FP.dconst1 :: S))) G) : Rn p e below (T.setTop (mkF m pc L (S))) G := by
  subst hp; exact Rn.st (fun t q => XS.dconst1 X.here hx rfl hd rfl q) r
theorem R.aconstNull (X : Stand p l e R s m args below meth c T locs cells slots) (hx : p.tables.exec = Jvm.exec)  (hd : decode c.code pc = .ok (.aconst_null, 1)) (hp : pc + 1 = pc') (r : Rn p e below (T.setTop (mkF m pc' L (.null :: S))) G) : Rn p e below (T.setTop (mkF m pc L (S))) G := by
  subst hp; exact Rn.st (fun t q => XS.aconstNull X.here hx rfl hd q) r
theorem R.iadd (X : Stand p l e R s m args below meth c T locs cells slots) (hx : p.tables.exec = Jvm.exec) {x y v : Int32} (hd : decode c.code pc = .ok (.iadd, 1)) (hv : x + y = v) (hp : pc + 1 = pc') (r : Rn p e below (T.setTop (mkF m pc' L (.int v :: S))) G) : Rn p e below (T.setTop (mkF m pc L (.int y :: .int x :: S))) G := by
  subst hp hv; exact Rn.st (fun t q => XS.iadd X.here hx rfl hd rfl q) r
theorem R.ladd (X : Stand p l e R s m args below meth c T locs cells slots) (hx : p.tables.exec = Jvm.exec) {x y v : Int64} (hd : decode c.code pc = .ok (.ladd, 1)) (hv : x + y = v) (hp : pc + 1 = pc') (r : Rn p e below (T.setTop (mkF m pc' L (.long v :: S))) G) : Rn p e below (T.setTop (mkF m pc L (.long y :: .long x :: S))) G := by
  subst hp hv; exact Rn.st (fun t q => XS.ladd X.here hx rfl hd rfl q) r
theorem R.isub (X : Stand p l e R s m args below meth c T locs cells slots) (hx : p.tables.exec = Jvm.exec) {x y v : Int32} (hd : decode c.code pc = .ok (.isub, 1)) (hv : x - y = v) (hp : pc + 1 = pc') (r : Rn p e below (T.setTop (mkF m pc' L (.int v :: S))) G) : Rn p e below (T.setTop (mkF m pc L (.int y :: .int x :: S))) G := by
  subst hp hv; exact Rn.st (fun t q => XS.isub X.here hx rfl hd rfl q) r
theorem R.lsub (X : Stand p l e R s m args below meth c T locs cells slots) (hx : p.tables.exec = Jvm.exec) {x y v : Int64} (hd : decode c.code pc = .ok (.lsub, 1)) (hv : x - y = v) (hp : pc + 1 = pc') (r : Rn p e below (T.setTop (mkF m pc' L (.long v :: S))) G) : Rn p e below (T.setTop (mkF m pc L (.long y :: .long x :: S))) G := by
  subst hp hv; exact Rn.st (fun t q => XS.lsub X.here hx rfl hd rfl q) r
theorem R.imul (X : Stand p l e R s m args below meth c T locs cells slots) (hx : p.tables.exec = Jvm.exec) {x y v : Int32} (hd : decode c.code pc = .ok (.imul, 1)) (hv : x * y = v) (hp : pc + 1 = pc') (r : Rn p e below (T.setTop (mkF m pc' L (.int v :: S))) G) : Rn p e below (T.setTop (mkF m pc L (.int y :: .int x :: S))) G := by
  subst hp hv; exact Rn.st (fun t q => XS.imul X.here hx rfl hd rfl q) r
theorem R.lmul (X : Stand p l e R s m args below meth c T locs cells slots) (hx : p.tables.exec = Jvm.exec) {x y v : Int64} (hd : decode c.code pc = .ok (.lmul, 1)) (hv : x * y = v) (hp : pc + 1 = pc') (r : Rn p e below (T.setTop (mkF m pc' L (.long v :: S))) G) : Rn p e below (T.setTop (mkF m pc L (.long y :: .long x :: S))) G := by
  subst hp hv; exact Rn.st (fun t q => XS.lmul X.here hx rfl hd rfl q) r
theorem R.iand (X : Stand p l e R s m args below meth c T locs cells slots) (hx : p.tables.exec = Jvm.exec) {x y v : Int32} (hd : decode c.code pc = .ok (.iand, 1)) (hv : x &&& y = v) (hp : pc + 1 = pc') (r : Rn p e below (T.setTop (mkF m pc' L (.int v :: S))) G) : Rn p e below (T.setTop (mkF m pc L (.int y :: .int x :: S))) G := by
  subst hp hv; exact Rn.st (fun t q => XS.iand X.here hx rfl hd rfl q) r
theorem R.land (X : Stand p l e R s m args below meth c T locs cells slots) (hx : p.tables.exec = Jvm.exec) {x y v : Int64} (hd : decode c.code pc = .ok (.land, 1)) (hv : x &&& y = v) (hp : pc + 1 = pc') (r : Rn p e below (T.setTop (mkF m pc' L (.long v :: S))) G) : Rn p e below (T.setTop (mkF m pc L (.long y :: .long x :: S))) G := by
  subst hp hv; exact Rn.st (fun t q => XS.land X.here hx rfl hd rfl q) r
theorem R.ior (X : Stand p l e R s m args below meth c T locs cells slots) (hx : p.tables.exec = Jvm.exec) {x y v : Int32} (hd : decode c.code pc = .ok (.ior, 1)) (hv : x ||| y = v) (hp : pc + 1 = pc') (r : Rn p e below (T.setTop (mkF m pc' L (.int v :: S))) G) : Rn p e below (T.setTop (mkF m pc L (.int y :: .int x :: S))) G := by
  subst hp hv; exact Rn.st (fun t q => XS.ior X.here hx rfl hd rfl q) r
theorem R.lor (X : Stand p l e R s m args below meth c T locs cells slots) (hx : p.tables.exec = Jvm.exec) {x y v : Int64} (hd : decode c.code pc = .ok (.lor, 1)) (hv : x ||| y = v) (hp : pc + 1 = pc') (r : Rn p e below (T.setTop (mkF m pc' L (.long v :: S))) G) : Rn p e below (T.setTop (mkF m pc L (.long y :: .long x :: S))) G := by
  subst hp hv; exact Rn.st (fun t q => XS.lor X.here hx rfl hd rfl q) r
theorem R.ixor (X : Stand p l e R s m args below meth c T locs cells slots) (hx : p.tables.exec = Jvm.exec) {x y v : Int32} (hd : decode c.code pc = .ok (.ixor, 1)) (hv : x ^^^ y = v) (hp : pc + 1 = pc') (r : Rn p e below (T.setTop (mkF m pc' L (.int v :: S))) G) : Rn p e below (T.setTop (mkF m pc L (.int y :: .int x :: S))) G := by
  subst hp hv; exact Rn.st (fun t q => XS.ixor X.here hx rfl hd rfl q) r
theorem R.lxor (X : Stand p l e R s m args below meth c T locs cells slots) (hx : p.tables.exec = Jvm.exec) {x y v : Int64} (hd : decode c.code pc = .ok (.lxor, 1)) (hv : x ^^^ y = v) (hp : pc + 1 = pc') (r : Rn p e below (T.setTop (mkF m pc' L (.long v :: S))) G) : Rn p e below (T.setTop (mkF m pc L (.long y :: .long x :: S))) G := by
  subst hp hv; exact Rn.st (fun t q => XS.lxor X.here hx rfl hd rfl q) r
theorem R.ineg (X : Stand p l e R s m args below meth c T locs cells slots) (hx : p.tables.exec = Jvm.exec) {x : Int32} (hd : decode c.code pc = .ok (.ineg, 1)) (hp : pc + 1 = pc') (r : Rn p e below (T.setTop (mkF m pc' L (.int (-x) :: S))) G) : Rn p e below (T.setTop (mkF m pc L (.int x :: S))) G := by
  subst hp; exact Rn.st (fun t q => XS.ineg X.here hx rfl hd rfl q) r
theorem R.lneg (X : Stand p l e R s m args below meth c T locs cells slots) (hx : p.tables.exec = Jvm.exec) {x : Int64} (hd : decode c.code pc = .ok (.lneg, 1)) (hp : pc + 1 = pc') (r : Rn p e below (T.setTop (mkF m pc' L (.long (-x) :: S))) G) : Rn p e below (T.setTop (mkF m pc L (.long x :: S))) G := by
  subst hp; exact Rn.st (fun t q => XS.lneg X.here hx rfl hd rfl q) r
theorem R.i2l (X : Stand p l e R s m args below meth c T locs cells slots) (hx : p.tables.exec = Jvm.exec) {x : Int32} (hd : decode c.code pc = .ok (.i2l, 1)) (hp : pc + 1 = pc') (r : Rn p e below (T.setTop (mkF m pc' L (.long (x.toInt64) :: S))) G) : Rn p e below (T.setTop (mkF m pc L (.int x :: S))) G := by
  subst hp; exact Rn.st (fun t q => XS.i2l X.here hx rfl hd rfl q) r
theorem R.l2i (X : Stand p l e R s m args below meth c T locs cells slots) (hx : p.tables.exec = Jvm.exec) {x : Int64} (hd : decode c.code pc = .ok (.l2i, 1)) (hp : pc + 1 = pc') (r : Rn p e below (T.setTop (mkF m pc' L (.int (x.toInt32) :: S))) G) : Rn p e below (T.setTop (mkF m pc L (.long x :: S))) G := by
  subst hp; exact Rn.st (fun t q => XS.l2i X.here hx rfl hd rfl q) r
theorem R.i2b (X : Stand p l e R s m args below meth c T locs cells slots) (hx : p.tables.exec = Jvm.exec) {x : Int32} (hd : decode c.code pc = .ok (.i2b, 1)) (hp : pc + 1 = pc') (r : Rn p e below (T.setTop (mkF m pc' L (.int (x.toInt8.toInt32) :: S))) G) : Rn p e below (T.setTop (mkF m pc L (.int x :: S))) G := by
  subst hp; exact Rn.st (fun t q => XS.i2b X.here hx rfl hd rfl q) r
theorem R.i2s (X : Stand p l e R s m args below meth c T locs cells slots) (hx : p.tables.exec = Jvm.exec) {x : Int32} (hd : decode c.code pc = .ok (.i2s, 1)) (hp : pc + 1 = pc') (r : Rn p e below (T.setTop (mkF m pc' L (.int (x.toInt16.toInt32) :: S))) G) : Rn p e below (T.setTop (mkF m pc L (.int x :: S))) G := by
  subst hp; exact Rn.st (fun t q => XS.i2s X.here hx rfl hd rfl q) r
theorem R.i2c (X : Stand p l e R s m args below meth c T locs cells slots) (hx : p.tables.exec = Jvm.exec) {x : Int32} (hd : decode c.code pc = .ok (.i2c, 1)) (hp : pc + 1 = pc') (r : Rn p e below (T.setTop (mkF m pc' L (.int (x.toUInt32.toUInt16.toUInt32.toInt32) :: S))) G) : Rn p e below (T.setTop (mkF m pc L (.int x :: S))) G := by
  subst hp; exact Rn.st (fun t q => XS.i2c X.here hx rfl hd rfl q) r
theorem R.ishl (X : Stand p l e R s m args below meth c T locs cells slots) (hx : p.tables.exec = Jvm.exec) {x : Int32} {y : Int32} (hd : decode c.code pc = .ok (.ishl, 1)) (hp : pc + 1 = pc') (r : Rn p e below (T.setTop (mkF m pc' L (.int (x <<< (y &&& 31)) :: S))) G) : Rn p e below (T.setTop (mkF m pc L (.int y :: .int x :: S))) G := by
  subst hp; exact Rn.st (fun t q => XS.ishl X.here hx rfl hd rfl q) r
theorem R.ishr (X : Stand p l e R s m args below meth c T locs cells slots) (hx : p.tables.exec = Jvm.exec) {x : Int32} {y : Int32} (hd : decode c.code pc = .ok (.ishr, 1)) (hp : pc + 1 = pc') (r : Rn p e below (T.setTop (mkF m pc' L (.int (x >>> (y &&& 31)) :: S))) G) : Rn p e below (T.setTop (mkF m pc L (.int y :: .int x :: S))) G := by
  subst hp; exact Rn.st (fun t q => XS.ishr X.here hx rfl hd rfl q) r
theorem R.iushr (X : Stand p l e R s m args below meth c T locs cells slots) (hx : p.tables.exec = Jvm.exec) {x : Int32} {y : Int32} (hd : decode c.code pc = .ok (.iushr, 1)) (hp : pc + 1 = pc') (r : Rn p e below (T.setTop (mkF m pc' L (.int ((x.toUInt32 >>> (y &&& 31).toUInt32).toInt32) :: S))) G) : Rn p e below (T.setTop (mkF m pc L (.int y :: .int x :: S))) G := by
  subst hp; exact Rn.st (fun t q => XS.iushr X.here hx rfl hd rfl q) r
theorem R.lshl (X : Stand p l e R s m args below meth c T locs cells slots) (hx : p.tables.exec = Jvm.exec) {x : Int64} {y : Int32} (hd : decode c.code pc = .ok (.lshl, 1)) (hp : pc + 1 = pc') (r : Rn p e below (T.setTop (mkF m pc' L (.long (x <<< (y &&& 63).toInt64) :: S))) G) : Rn p e below (T.setTop (mkF m pc L (.int y :: .long x :: S))) G := by
  subst hp; exact Rn.st (fun t q => XS.lshl X.here hx rfl hd rfl q) r
theorem R.lshr (X : Stand p l e R s m args below meth c T locs cells slots) (hx : p.tables.exec = Jvm.exec) {x : Int64} {y : Int32} (hd : decode c.code pc = .ok (.lshr, 1)) (hp : pc + 1 = pc') (r : Rn p e below (T.setTop (mkF m pc' L (.long (x >>> (y &&& 63).toInt64) :: S))) G) : Rn p e below (T.setTop (mkF m pc L (.int y :: .long x :: S))) G := by
  subst hp; exact Rn.st (fun t q => XS.lshr X.here hx rfl hd rfl q) r
theorem R.lcmp (X : Stand p l e R s m args below meth c T locs cells slots) (hx : p.tables.exec = Jvm.exec) {x y : Int64} (hd : decode c.code pc = .ok (.lcmp, 1)) (hp : pc + 1 = pc') (r : Rn p e below (T.setTop (mkF m pc' L (.int (lcmpW x y) :: S))) G) : Rn p e below (T.setTop (mkF m pc L (.long y :: .long x :: S))) G := by
  subst hp; exact Rn.st (fun t q => XS.lcmp X.here hx rfl hd rfl q) r
theorem R.idiv (X : Stand p l e R s m args below meth c T locs cells slots) (hx : p.tables.exec = Jvm.exec) {x y : Int32} (hd : decode c.code pc = .ok (.idiv, 1)) (hy : y ≠ 0) (hp : pc + 1 = pc') (r : Rn p e below (T.setTop (mkF m pc' L (.int (x / y) :: S))) G) : Rn p e below (T.setTop (mkF m pc L (.int y :: .int x :: S))) G := by
  subst hp; exact Rn.st (fun t q => XS.idiv X.here hx rfl hd rfl hy q) r
theorem R.irem (X : Stand p l e R s m args below meth c T locs cells slots) (hx : p.tables.exec = Jvm.exec) {x y : Int32} (hd : decode c.code pc = .ok (.irem, 1)) (hy : y ≠ 0) (hp : pc + 1 = pc') (r : Rn p e below (T.setTop (mkF m pc' L (.int (x % y) :: S))) G) : Rn p e below (T.setTop (mkF m pc L (.int y :: .int x :: S))) G := by
  subst hp; exact Rn.st (fun t q => iremM X hx rfl hd rfl hy q) r
theorem R.ldiv (X : Stand p l e R s m args below meth c T locs cells slots) (hx : p.tables.exec = Jvm.exec) {x y : Int64} (hd : decode c.code pc = .ok (.ldiv, 1)) (hy : y ≠ 0) (hp : pc + 1 = pc') (r : Rn p e below (T.setTop (mkF m pc' L (.long (x / y) :: S))) G) : Rn p e below (T.setTop (mkF m pc L (.long y :: .long x :: S))) G := by
  subst hp; exact Rn.st (fun t q => XS.ldiv X.here hx rfl hd rfl hy q) r
theorem R.lrem (X : Stand p l e R s m args below meth c T locs cells slots) (hx : p.tables.exec = Jvm.exec) {x y : Int64} (hd : decode c.code pc = .ok (.lrem, 1)) (hy : y ≠ 0) (hp : pc + 1 = pc') (r : Rn p e below (T.setTop (mkF m pc' L (.long (x - (x / y) * y) :: S))) G) : Rn p e below (T.setTop (mkF m pc L (.long y :: .long x :: S))) G := by
  subst hp; exact Rn.st (fun t q => XS.lrem X.here hx rfl hd rfl hy q) r
theorem R.i2d (X : Stand p l e R s m args below meth c T locs cells slots) (hx : p.tables.exec = Jvm.exec) {x : Int32} (hd : decode c.code pc = .ok (.i2d, 1)) (hp : pc + 1 = pc') (r : Rn p e below (T.setTop (mkF m pc' L (.double (FP.i2d x) :: S))) G) : Rn p e below (T.setTop (mkF m pc L (.int x :: S))) G := by
  subst hp; exact Rn.st (fun t q => XS.i2dS X.here hx rfl hd rfl rfl q) r
theorem R.l2d (X : Stand p l e R s m args below meth c T locs cells slots) (hx : p.tables.exec = Jvm.exec) {x : Int64} (hd : decode c.code pc = .ok (.l2d, 1)) (hp : pc + 1 = pc') (r : Rn p e below (T.setTop (mkF m pc' L (.double (FP.l2d x) :: S))) G) : Rn p e below (T.setTop (mkF m pc L (.long x :: S))) G := by
  subst hp; exact Rn.st (fun t q => XS.l2dS X.here hx rfl hd rfl rfl q) r
theorem R.d2i (X : Stand p l e R s m args below meth c T locs cells slots) (hx : p.tables.exec = Jvm.exec) {x : UInt64} (hd : decode c.code pc = .ok (.d2i, 1)) (hp : pc + 1 = pc') (r : Rn p e below (T.setTop (mkF m pc' L (.int (FP.d2i x) :: S))) G) : Rn p e below (T.setTop (mkF m pc L (.double x :: S))) G := by
  subst hp; exact Rn.st (fun t q => XS.d2iS X.here hx rfl hd rfl rfl q) r
theorem R.d2l (X : Stand p l e R s m args below meth c T locs cells slots) (hx : p.tables.exec = Jvm.exec) {x : UInt64} (hd : decode c.code pc = .ok (.d2l, 1)) (hp : pc + 1 = pc') (r : Rn p e below (T.setTop (mkF m pc' L (.long (FP.d2l x) :: S))) G) : Rn p e below (T.setTop (mkF m pc L (.double x :: S))) G := by
  subst hp; exact Rn.st (fun t q => XS.d2lS X.here hx rfl hd rfl rfl q) r
theorem R.dadd (X : Stand p l e R s m args below meth c T locs cells slots) (hx : p.tables.exec = Jvm.exec) {x y : UInt64} (hd : decode c.code pc = .ok (.dadd, 1)) (hn : NoNaN64 (FP.dadd x y)) (hp : pc + 1 = pc') (r : Rn p e below (T.setTop (mkF m pc' L (.double (FP.dadd x y) :: S))) G) : Rn p e below (T.setTop (mkF m pc L (.double y :: .double x :: S))) G := by
  subst hp; exact Rn.st (fun t q => XS.daddS X.here hx rfl hd rfl hn rfl q) r
theorem R.dsub (X : Stand p l e R s m args below meth c T locs cells slots) (hx : p.tables.exec = Jvm.exec) {x y : UInt64} (hd : decode c.code pc = .ok (.dsub, 1)) (hn : NoNaN64 (FP.dsub x y)) (hp : pc + 1 = pc') (r : Rn p e below (T.setTop (mkF m pc' L (.double (FP.dsub x y) :: S))) G) : Rn p e below (T.setTop (mkF m pc L (.double y :: .double x :: S))) G := by
  subst hp; exact Rn.st (fun t q => XS.dsubS X.here hx rfl hd rfl hn rfl q) r
theorem R.dmul (X : Stand p l e R s m args below meth c T locs cells slots) (hx : p.tables.exec = Jvm.exec) {x y : UInt64} (hd : decode c.code pc = .ok (.dmul, 1)) (hn : NoNaN64 (FP.dmul x y)) (hp : pc + 1 = pc') (r : Rn p e below (T.setTop (mkF m pc' L (.double (FP.dmul x y) :: S))) G) : Rn p e below (T.setTop (mkF m pc L (.double y :: .double x :: S))) G := by
  subst hp; exact Rn.st (fun t q => XS.dmulS X.here hx rfl hd rfl hn rfl q) r
theorem R.ddiv (X : Stand p l e R s m args below meth c T locs cells slots) (hx : p.tables.exec = Jvm.exec) {x y : UInt64} (hd : decode c.code pc = .ok (.ddiv, 1)) (hn : NoNaN64 (FP.ddiv x y)) (hp : pc + 1 = pc') (r : Rn p e below (T.setTop (mkF m pc' L (.double (FP.ddiv x y) :: S))) G) : Rn p e below (T.setTop (mkF m pc L (.double y :: .double x :: S))) G := by
  subst hp; exact Rn.st (fun t q => XS.ddivS X.here hx rfl hd rfl hn rfl q) r
theorem R.dneg (X : Stand p l e R s m args below meth c T locs cells slots) (hx : p.tables.exec = Jvm.exec) {x : UInt64} (hd : decode c.code pc = .ok (.dneg, 1)) (hp : pc + 1 = pc') (r : Rn p e below (T.setTop (mkF m pc' L (.double (FP.dneg x) :: S))) G) : Rn p e below (T.setTop (mkF m pc L (.double x :: S))) G := by
  subst hp; exact Rn.st (fun t q => XS.dnegS X.here hx rfl hd rfl rfl q) r
theorem R.dcmp (X : Stand p l e R s m args below meth c T locs cells slots) (hx : p.tables.exec = Jvm.exec) {o : CmpOp} {x y : UInt64} {v : Int32} (hd : decode c.code pc = .ok (.dcmp o, 1)) (hv : cmpValue (FP.dcmp x y) o = v) (hp : pc + 1 = pc') (r : Rn p e below (T.setTop (mkF m pc' L (.int v :: S))) G) : Rn p e below (T.setTop (mkF m pc L (.double y :: .double x :: S))) G := by
  subst hp; exact Rn.st (fun t q => XS.dcmpS X.here hx rfl hd rfl hv q) r
theorem R.iinc (X : Stand p l e R s m args below meth c T locs cells slots) (hx : p.tables.exec = Jvm.exec) {k : Nat} {cst : Int} {x : Int32} (hd : decode c.code pc = .ok (.iinc k cst, 3)) (hl : L[k]? = some (.val (.int x))) (hl' : storeLocals L k (.int (x + Int32.ofInt cst)) = some L') (hp : pc + 3 = pc') (r : Rn p e below (T.setTop (mkF m pc' L' (S))) G) : Rn p e below (T.setTop (mkF m pc L (S))) G := by
  subst hp; exact Rn.st (fun t q => XS.iinc X.here hx rfl hd hl hl' q) r
theorem R.dup (X : Stand p l e R s m args below meth c T locs cells slots) (hx : p.tables.exec = Jvm.exec) {x : Value} (hd : decode c.code pc = .ok (.dup, 1)) (hc : x.category = 1) (hp : pc + 1 = pc') (r : Rn p e below (T.setTop (mkF m pc' L (x :: x :: S))) G) : Rn p e below (T.setTop (mkF m pc L (x :: S))) G := by
  subst hp; exact Rn.st (fun t q => XS.dup X.here hx rfl hd rfl hc q) r
theorem R.dupX1 (X : Stand p l e R s m args below meth c T locs cells slots) (hx : p.tables.exec = Jvm.exec) {x y : Value} (hd : decode c.code pc = .ok (.dup_x1, 1)) (hc : x.category = 1) (hc' : y.category = 1) (hp : pc + 1 = pc') (r : Rn p e below (T.setTop (mkF m pc' L (x :: y :: x :: S))) G) : Rn p e below (T.setTop (mkF m pc L (x :: y :: S))) G := by
  subst hp; exact Rn.st (fun t q => XS.dupX1 X.here hx rfl hd rfl hc hc' q) r
theorem R.dup2 (X : Stand p l e R s m args below meth c T locs cells slots) (hx : p.tables.exec = Jvm.exec) {x y : Value} (hd : decode c.code pc = .ok (.dup2, 1)) (hc : x.category = 1) (hc' : y.category = 1) (hp : pc + 1 = pc') (r : Rn p e below (T.setTop (mkF m pc' L (x :: y :: x :: y :: S))) G) : Rn p e below (T.setTop (mkF m pc L (x :: y :: S))) G := by
  subst hp; exact Rn.st (fun t q => Jvm.Free.XT.dup2 X.here hx rfl hd rfl hc hc' q) r
theorem R.pop (X : Stand p l e R s m args below meth c T locs cells slots) (hx : p.tables.exec = Jvm.exec) {x : Value} (hd : decode c.code pc = .ok (.pop, 1)) (hc : x.category = 1) (hp : pc + 1 = pc') (r : Rn p e below (T.setTop (mkF m pc' L (S))) G) : Rn p e below (T.setTop (mkF m pc L (x :: S))) G := by
  subst hp; exact Rn.st (fun t q => XS.pop X.here hx rfl hd rfl hc q) r
theorem R.ifYes (X : Stand p l e R s m args below meth c T locs cells slots) (hx : p.tables.exec = Jvm.exec) {cd : ClassFile.Cond} {x : Int32} {o : Int} (hd : decode c.code pc = .ok (.ifCond cd o, 3)) (hc : if_icmp.holds cd x 0 = true) (ho : 0 ≤ (pc : Int) + o) (hp : ((pc : Int) + o).toNat = pc') (r : Rn p e below (T.setTop (mkF m pc' L S)) G) : Rn p e below (T.setTop (mkF m pc L (.int x :: S))) G :=
  Rn.st (fun t q => XS.ifYes X.here hx rfl rfl hd rfl ((if0 _ _).trans hc) ho hp q) r
theorem R.ifNo (X : Stand p l e R s m args below meth c T locs cells slots) (hx : p.tables.exec = Jvm.exec) {cd : ClassFile.Cond} {x : Int32} {o : Int} (hd : decode c.code pc = .ok (.ifCond cd o, 3)) (hc : if_icmp.holds cd x 0 = false) (hp : pc + 3 = pc') (r : Rn p e below (T.setTop (mkF m pc' L (S))) G) : Rn p e below (T.setTop (mkF m pc L (.int x :: S))) G := by
  subst hp; exact Rn.st (fun t q => XS.ifNo X.here hx rfl hd rfl ((if0 _ _).trans hc) q) r
theorem R.icmpYes (X : Stand p l e R s m args below meth c T locs cells slots) (hx : p.tables.exec = Jvm.exec) {cd : ClassFile.Cond} {x y : Int32} {o : Int} (hd : decode c.code pc = .ok (.if_icmp cd o, 3)) (hc : if_icmp.holds cd x y = true) (ho : 0 ≤ (pc : Int) + o) (hp : ((pc : Int) + o).toNat = pc') (r : Rn p e below (T.setTop (mkF m pc' L S)) G) : Rn p e below (T.setTop (mkF m pc L (.int y :: .int x :: S))) G :=
  Rn.st (fun t q => XS.icmpYes X.here hx rfl rfl hd rfl hc ho hp q) r
theorem R.icmpNo (X : Stand p l e R s m args below meth c T locs cells slots) (hx : p.tables.exec = Jvm.exec) {cd : ClassFile.Cond} {x y : Int32} {o : Int} (hd : decode c.code pc = .ok (.if_icmp cd o, 3)) (hc : if_icmp.holds cd x y = false) (hp : pc + 3 = pc') (r : Rn p e below (T.setTop (mkF m pc' L (S))) G) : Rn p e below (T.setTop (mkF m pc L (.int y :: .int x :: S))) G := by
  subst hp; exact Rn.st (fun t q => XS.icmpNo X.here hx rfl hd rfl hc q) r
theorem R.goto (X : Stand p l e R s m args below meth c T locs cells slots) (hx : p.tables.exec = Jvm.exec)  {o : Int} (hd : decode c.code pc = .ok (.goto o, 3)) (ho : 0 ≤ (pc : Int) + o) (hp : ((pc : Int) + o).toNat = pc') (r : Rn p e below (T.setTop (mkF m pc' L S)) G) : Rn p e below (T.setTop (mkF m pc L (S))) G :=
  Rn.st (fun t q => XS.goto X.here hx rfl rfl hd ho hp q) r
theorem R.ifnullYes (X : Stand p l e R s m args below meth c T locs cells slots) (hx : p.tables.exec = Jvm.exec)  {o : Int} (hd : decode c.code pc = .ok (.ifnull o, 3)) (ho : 0 ≤ (pc : Int) + o) (hp : ((pc : Int) + o).toNat = pc') (r : Rn p e below (T.setTop (mkF m pc' L S)) G) : Rn p e below (T.setTop (mkF m pc L (.null :: S))) G :=
  Rn.st (fun t q => XS.ifnullYes X.here hx rfl rfl hd rfl ho hp q) r
theorem R.ifnullNo (X : Stand p l e R s m args below meth c T locs cells slots) (hx : p.tables.exec = Jvm.exec) {b : Addr} {o : Int} (hd : decode c.code pc = .ok (.ifnull o, 3)) (hp : pc + 3 = pc') (r : Rn p e below (T.setTop (mkF m pc' L (S))) G) : Rn p e below (T.setTop (mkF m pc L (.ref b :: S))) G := by
  subst hp; exact Rn.st (fun t q => XS.ifnullNo X.here hx rfl hd rfl q) r
theorem R.ifnonnullYes (X : Stand p l e R s m args below meth c T locs cells slots) (hx : p.tables.exec = Jvm.exec) {b : Addr} {o : Int} (hd : decode c.code pc = .ok (.ifnonnull o, 3)) (ho : 0 ≤ (pc : Int) + o) (hp : ((pc : Int) + o).toNat = pc') (r : Rn p e below (T.setTop (mkF m pc' L S)) G) : Rn p e below (T.setTop (mkF m pc L (.ref b :: S))) G :=
  Rn.st (fun t q => XS.ifnonnullYes X.here hx rfl rfl hd rfl ho hp q) r
theorem R.ifnonnullNo (X : Stand p l e R s m args below meth c T locs cells slots) (hx : p.tables.exec = Jvm.exec)  {o : Int} (hd : decode c.code pc = .ok (.ifnonnull o, 3)) (hp : pc + 3 = pc') (r : Rn p e below (T.setTop (mkF m pc' L (S))) G) : Rn p e below (T.setTop (mkF m pc L (.null :: S))) G := by
  subst hp; exact Rn.st (fun t q => XS.ifnonnullNo X.here hx rfl hd rfl q) r
end RSteps
section RBig
variable {p : Program} {l : Launch} {e : Env} {R : Room} {s : State} {m : MethodId} {args : Array Value} {below : List Frame} {meth : Method} {c : Code} {T : State} {locs : List Loc} {cells slots : Nat} {G : Outcome → State → Prop} {L L' : Array Slot} {S : List Value} {pc pc' : Nat} {Z : State} {a0 : Array Value} {h : Heap} {a : Addr} {own : String} {index : Nat}
theorem R.getF (X : Stand p l e R s m args below meth c T locs cells slots) (hx : p.tables.exec = Jvm.exec) (hZ : Z.Warmed39 s.vm) {R0 O n d host : String} (hown : s.vm.findClass own = some m.cls) (w : (Jvm.Cond.fieldLink own index R0 n d).before a0 Z = true ∨ (Jvm.Cond.fieldLinkNest own index R0 n d host).before a0 Z = true) (via : Via Z R0 O n d) (eT : T.heap = h) {v : Value} (F : Fld Z h a O n d v)
    (hd : decode c.code pc = .ok (.getfield index, 3)) (hp : pc + 3 = pc') (K : ∀ T', Stand p l e R s m args below meth c T' locs cells slots → T'.heap = h → Rn p e below (T'.setTop (mkF m pc' L (v :: S))) G) : Rn p e below (T.setTop (mkF m pc L (.ref a :: S))) G := by
  subst hp
  obtain ⟨T', X', e', st⟩ := getF X hx hZ hown w via eT F (g := mkF m pc L (.ref a :: S)) rfl rfl hd
  exact Rn.st st (K T' X' e')
theorem R.getS (X : Stand p l e R s m args below meth c T locs cells slots) (hx : p.tables.exec = Jvm.exec) (hZ : Z.Warmed39 s.vm) {R0 O n d host : String} (hown : s.vm.findClass own = some m.cls) (w : (Jvm.Cond.fieldLink own index R0 n d).before a0 Z = true ∨ (Jvm.Cond.fieldLinkNest own index R0 n d host).before a0 Z = true) (via : Via Z R0 O n d) (eT : T.heap = h) {v : Value} (F : Sta Z h O n d v)
    (hd : decode c.code pc = .ok (.getstatic index, 3)) (hp : pc + 3 = pc') (K : ∀ T', Stand p l e R s m args below meth c T' locs cells slots → T'.heap = h → Rn p e below (T'.setTop (mkF m pc' L (v :: S))) G) : Rn p e below (T.setTop (mkF m pc L S)) G := by
  subst hp
  obtain ⟨T', X', e', st⟩ := getS2 X hx hZ hown w via eT F (g := mkF m pc L S) rfl hd
  exact Rn.st st (K T' X' e')
theorem R.putF (X : Stand p l e R s m args below meth c T locs cells slots) (hx : p.tables.exec = Jvm.exec) (hZ : Z.Warmed39 s.vm) {R0 O n d host C : String} {kk : Nat} {ty : FieldType} (hown : s.vm.findClass own = some m.cls) (w : (Jvm.Cond.fieldLink own index R0 n d).before a0 Z = true ∨ (Jvm.Cond.fieldLinkNest own index R0 n d host).before a0 Z = true) (via : Via Z R0 O n d) (eT : T.heap = h) {v old : Value} (F : Fld Z h a O n d old) (E : Exa Z h a C)
    (Ly : (Jvm.Cond.lays C O n d).before a0 Z = true ∨ ((Jvm.Cond.laysFinal C O n d).before a0 Z = true ∧ own = O ∧ meth.name = "<init>")) (wi : (Jvm.Cond.instantiable C kk).before a0 Z = true) (hty : parseFieldDescriptor d = some ty) (hn : narrow ty v = v) (hf : fits ty v = true)
    (hd : decode c.code pc = .ok (.putfield index, 3)) (hp : pc + 3 = pc') (K : ∀ T' h', Stand p l e R s m args below meth c T' (locs ++ [⟨a, Jvm.RoadKit.slotOf Z O n d⟩]) cells slots → T'.heap = h' → Wr h h' a (Jvm.RoadKit.slotOf Z O n d) v → Rn p e below (T'.setTop (mkF m pc' L S)) G) : Rn p e below (T.setTop (mkF m pc L (v :: .ref a :: S))) G := by
  subst hp
  obtain ⟨T', h', X', e', W', st⟩ := putF X hx hZ hown w via eT F E Ly wi hty hn hf (g := mkF m pc L (v :: .ref a :: S)) rfl rfl hd
  exact Rn.st st (K T' h' X' e' W')
theorem R.newO (X : Stand p l e R s m args below meth c T locs cells slots) (hx : p.tables.exec = Jvm.exec) (hZ : Z.Warmed39 s.vm) {C : String} {n : Nat} (hown : s.vm.findClass own = some m.cls) (w : (Jvm.Cond.classLink own index C).before a0 Z = true) (wi : (Jvm.Cond.instantiable C n).before a0 Z = true) (wz : (Jvm.Cond.initialized C).before a0 Z = true) (eT : T.heap = h)
    (hd : decode c.code pc = .ok (.new index, 3)) (hp : pc + 3 = pc') (hc : cells + 1 ≤ R.cells) (hl : slots + n ≤ R.slots)
    (K : ∀ T' h' b, b = h.size → Stand p l e R s m args below meth c T' locs (cells + 1) (slots + n) → T'.heap = h' → Ext h h' → Exa Z h' b C → (∀ {O nm d : String} {ty : FieldType}, Laid Z a0 C O nm d → parseFieldDescriptor d = some ty → Fld Z h' b O nm d (defaultValue ty)) → Rn p e below (T'.setTop (mkF m pc' L (.ref b :: S))) G) : Rn p e below (T.setTop (mkF m pc L S)) G := by
  subst hp
  obtain ⟨T', h', X', e', E', A', D', -, st⟩ := newO X hx hZ hown w wi wz eT (g := mkF m pc L S) rfl hd hc hl
  exact Rn.st st (K T' h' _ rfl X' e' E' A' D')
theorem R.newP (X : Stand p l e R s m args below meth c T locs cells slots) (hx : p.tables.exec = Jvm.exec) (hZ : Z.Warmed39 s.vm) {aty : ArrayType} {ty : FieldType} (hty : newarray.typeOf aty = ty) (w : (Jvm.Cond.arrayClass ty).before a0 Z = true) (eT : T.heap = h) {n : Int32} (hn : ¬ n < 0) {cap : Nat} (hcap : n.toNatClampNeg ≤ cap) (hb : cap * 8 ≤ 536870912) {ad : String} (had : "[" ++ ty.toString = ad)
    (hd : decode c.code pc = .ok (.newarray aty, 2)) (hp : pc + 2 = pc') (hc : cells + 1 ≤ R.cells) (hl : slots + cap ≤ R.slots)
    (K : ∀ T' h' b k, b = h.size → Stand p l e R s m args below meth c T' locs (cells + 1) (slots + cap) → T'.heap = h' → Ext h h' → Exa Z h' b ad → Arh Z h' b k ty n [] [] (defaultValue ty) → Rn p e below (T'.setTop (mkF m pc' L (.ref b :: S))) G) : Rn p e below (T.setTop (mkF m pc L (.int n :: S))) G := by
  subst hp hty
  obtain ⟨T', h', k, X', e', E', A', EE, st⟩ := newPE X hx hZ w eT (g := mkF m pc L (.int n :: S)) rfl hd rfl hn hcap hb hc hl had
  exact Rn.st st (K T' h' _ k rfl X' e' E' EE (Arv.new A' hn).arh)
section Arr
variable {k : ClassId} {z : Int32} {hs : List (Int32 × Value)} {vs : List Value} {dv : Value} {j : Int32}
theorem R.alen (X : Stand p l e R s m args below meth c T locs cells slots) (hx : p.tables.exec = Jvm.exec) (hZ : Z.Warmed39 s.vm) (eT : T.heap = h) {ty : FieldType} (F : Arh Z h a k ty z hs vs dv) (hd : decode c.code pc = .ok (.arraylength, 1)) (hp : pc + 1 = pc') (r : Rn p e below (T.setTop (mkF m pc' L (.int z :: S))) G) : Rn p e below (T.setTop (mkF m pc L (.ref a :: S))) G := by
  subst hp
  obtain ⟨cl, Ar, qA, SA, NA, HA, GA⟩ := F
  exact Rn.st (fun t q => X.arraylength hx (by rw [eT]; exact Ar.1) (State.isArrayOf_alike hZ.alike Ar.2.1) (g := mkF m pc L (.ref a :: S)) rfl rfl hd _ (by rw [len_of SA NA]; exact q)) r
theorem R.daload (X : Stand p l e R s m args below meth c T locs cells slots) (hx : p.tables.exec = Jvm.exec) (hZ : Z.Warmed39 s.vm) (eT : T.heap = h) (F : Arh Z h a k .double z hs vs dv) (hb : ¬ j < 0 ∧ j < z) {v : Value} (hv : getH hs vs dv j.toNatClampNeg = v) (hd : decode c.code pc = .ok (.daload, 1)) (hp : pc + 1 = pc') (r : Rn p e below (T.setTop (mkF m pc' L (v :: S))) G) : Rn p e below (T.setTop (mkF m pc L (.int j :: .ref a :: S))) G := by
  subst hp
  obtain ⟨cl, Ar, qA, SA, NA, HA, GA⟩ := F
  have hin := inb_of SA hb
  exact Rn.st (fun t q => X.daload hx (by rw [eT]; exact Ar.1) (State.isArrayOf_alike hZ.alike Ar.2.1) Ar.2.2 hin (atH HA hin hv) (g := mkF m pc L (.int j :: .ref a :: S)) rfl rfl hd _ q) r
theorem R.iaload (X : Stand p l e R s m args below meth c T locs cells slots) (hx : p.tables.exec = Jvm.exec) (hZ : Z.Warmed39 s.vm) (eT : T.heap = h) (F : Arh Z h a k .int z hs vs dv) (hb : ¬ j < 0 ∧ j < z) {v : Value} (hv : getH hs vs dv j.toNatClampNeg = v) (hd : decode c.code pc = .ok (.iaload, 1)) (hp : pc + 1 = pc') (r : Rn p e below (T.setTop (mkF m pc' L (v :: S))) G) : Rn p e below (T.setTop (mkF m pc L (.int j :: .ref a :: S))) G := by
  subst hp
  obtain ⟨cl, Ar, qA, SA, NA, HA, GA⟩ := F
  have hin := inb_of SA hb
  exact Rn.st (fun t q => X.iaload hx (by rw [eT]; exact Ar.1) (State.isArrayOf_alike hZ.alike Ar.2.1) Ar.2.2 hin (atH HA hin hv) (g := mkF m pc L (.int j :: .ref a :: S)) rfl rfl hd _ q) r
theorem R.baloadZ (X : Stand p l e R s m args below meth c T locs cells slots) (hx : p.tables.exec = Jvm.exec) (hZ : Z.Warmed39 s.vm) (eT : T.heap = h) (F : Arh Z h a k .boolean z hs vs dv) (hb : ¬ j < 0 ∧ j < z) {v : Value} (hv : getH hs vs dv j.toNatClampNeg = v) (hd : decode c.code pc = .ok (.baload, 1)) (hp : pc + 1 = pc') (r : Rn p e below (T.setTop (mkF m pc' L (v :: S))) G) : Rn p e below (T.setTop (mkF m pc L (.int j :: .ref a :: S))) G := by
  subst hp
  obtain ⟨cl, Ar, qA, SA, NA, HA, GA⟩ := F
  have hin := inb_of SA hb
  exact Rn.st (fun t q => X.baloadBooleans hx (by rw [eT]; exact Ar.1) (State.isArrayOf_alike hZ.alike Ar.2.1) Ar.2.2 hin (atH HA hin hv) (g := mkF m pc L (.int j :: .ref a :: S)) rfl rfl hd _ q) r
theorem R.dastore (X : Stand p l e R s m args below meth c T locs cells slots) (hx : p.tables.exec = Jvm.exec) (hZ : Z.Warmed39 s.vm) (eT : T.heap = h) (F : Arh Z h a k .double z hs vs dv) (hb : ¬ j < 0 ∧ j < z) {x : UInt64} (hd : decode c.code pc = .ok (.dastore, 1)) (hp : pc + 1 = pc')
    (K : ∀ T' h', Stand p l e R s m args below meth c T' (locs ++ [⟨a, j.toNatClampNeg⟩]) cells slots → T'.heap = h' → Wr h h' a j.toNatClampNeg (.double x) → Arh Z h' a k .double z ((j, .double x) :: hs) vs dv → Rn p e below (T'.setTop (mkF m pc' L S)) G) : Rn p e below (T.setTop (mkF m pc L (.double x :: .int j :: .ref a :: S))) G := by
  subst hp
  obtain ⟨cl, Ar, qA, SA, NA, HA, GA⟩ := F
  have hin := inb_of SA hb
  obtain ⟨T', h', X', e', W', st⟩ := stD X hx hZ eT Ar (j := j) hin (g := mkF m pc L (.double x :: .int j :: .ref a :: S)) rfl rfl hd
  exact Rn.st st (K T' h' X' e' W' (Arh.push Ar qA SA NA HA GA rfl W' hin))
theorem R.iastore (X : Stand p l e R s m args below meth c T locs cells slots) (hx : p.tables.exec = Jvm.exec) (hZ : Z.Warmed39 s.vm) (eT : T.heap = h) (F : Arh Z h a k .int z hs vs dv) (hb : ¬ j < 0 ∧ j < z) {x : Int32} (hd : decode c.code pc = .ok (.iastore, 1)) (hp : pc + 1 = pc')
    (K : ∀ T' h', Stand p l e R s m args below meth c T' (locs ++ [⟨a, j.toNatClampNeg⟩]) cells slots → T'.heap = h' → Wr h h' a j.toNatClampNeg (.int x) → Arh Z h' a k .int z ((j, .int x) :: hs) vs dv → Rn p e below (T'.setTop (mkF m pc' L S)) G) : Rn p e below (T.setTop (mkF m pc L (.int x :: .int j :: .ref a :: S))) G := by
  subst hp
  obtain ⟨cl, Ar, qA, SA, NA, HA, GA⟩ := F
  have hin := inb_of SA hb
  obtain ⟨T', h', X', e', W', st⟩ := stI X hx hZ eT Ar (j := j) hin (g := mkF m pc L (.int x :: .int j :: .ref a :: S)) rfl rfl hd
  exact Rn.st st (K T' h' X' e' W' (Arh.push Ar qA SA NA HA GA rfl W' hin))
theorem R.bastoreZ (X : Stand p l e R s m args below meth c T locs cells slots) (hx : p.tables.exec = Jvm.exec) (hZ : Z.Warmed39 s.vm) (eT : T.heap = h) (F : Arh Z h a k .boolean z hs vs dv) (hb : ¬ j < 0 ∧ j < z) {x : Int32} (hn : nar .boolean x = x) (hd : decode c.code pc = .ok (.bastore, 1)) (hp : pc + 1 = pc')
    (K : ∀ T' h', Stand p l e R s m args below meth c T' (locs ++ [⟨a, j.toNatClampNeg⟩]) cells slots → T'.heap = h' → Wr h h' a j.toNatClampNeg (.int x) → Arh Z h' a k .boolean z ((j, .int x) :: hs) vs dv → Rn p e below (T'.setTop (mkF m pc' L S)) G) : Rn p e below (T.setTop (mkF m pc L (.int x :: .int j :: .ref a :: S))) G := by
  subst hp
  obtain ⟨cl, Ar, qA, SA, NA, HA, GA⟩ := F
  have hin := inb_of SA hb
  obtain ⟨T', h', X', e', W', st⟩ := stZ X hx hZ eT Ar (j := j) hin (g := mkF m pc L (.int x :: .int j :: .ref a :: S)) rfl rfl hd
  rw [hn] at W'
  exact Rn.st st (K T' h' X' e' W' (Arh.push Ar qA SA NA HA GA (by have q := fits_nar_bool x; rw [hn] at q; exact q) W' hin))
end Arr
theorem R.ldc2D (X : Stand p l e R s m args below meth c T locs cells slots) (hx : p.tables.exec = Jvm.exec) (hZ : Z.Warmed39 s.vm) {b : UInt64} (hown : s.vm.findClass own = some m.cls) (w : (Jvm.Cond.constantDouble own index b).before a0 Z = true) (hd : decode c.code pc = .ok (.ldc2_w index, 3)) (hp : pc + 3 = pc') (r : Rn p e below (T.setTop (mkF m pc' L (.double b :: S))) G) : Rn p e below (T.setTop (mkF m pc L S)) G := by
  subst hp; exact Rn.st (fun t q => X.ldc2DoubleC hx hown (mvT hZ w) (g := mkF m pc L S) rfl hd _ q) r
theorem R.ldc2J (X : Stand p l e R s m args below meth c T locs cells slots) (hx : p.tables.exec = Jvm.exec) (hZ : Z.Warmed39 s.vm) {b : Int64} (hown : s.vm.findClass own = some m.cls) (w : (Jvm.Cond.constantLong own index b).before a0 Z = true) (hd : decode c.code pc = .ok (.ldc2_w index, 3)) (hp : pc + 3 = pc') (r : Rn p e below (T.setTop (mkF m pc' L (.long b :: S))) G) : Rn p e below (T.setTop (mkF m pc L S)) G := by
  subst hp; exact Rn.st (fun t q => X.ldc2Long hx hown (mvT hZ w) (g := mkF m pc L S) rfl hd _ q) r
theorem R.ldcI (X : Stand p l e R s m args below meth c T locs cells slots) (hx : p.tables.exec = Jvm.exec) (hZ : Z.Warmed39 s.vm) {b : Int32} (hown : s.vm.findClass own = some m.cls) (w : (Jvm.Cond.constant own index b).before a0 Z = true) (hd : decode c.code pc = .ok (.ldc index, 2)) (hp : pc + 2 = pc') (r : Rn p e below (T.setTop (mkF m pc' L (.int b :: S))) G) : Rn p e below (T.setTop (mkF m pc L S)) G := by
  subst hp; exact Rn.st (fun t q => X.ldcInt hx hown (mvT hZ w) (g := mkF m pc L S) rfl hd _ q) r
theorem R.castY (X : Stand p l e R s m args below meth c T locs cells slots) (hx : p.tables.exec = Jvm.exec) (hZ : Z.Warmed39 s.vm) {C : String} (hown : s.vm.findClass own = some m.cls) (w : (Jvm.Cond.classLink own index C).before a0 Z = true) (eT : T.heap = h) (F : Ins Z h a C true) (hd : decode c.code pc = .ok (.checkcast index, 3)) (hp : pc + 3 = pc')
    (K : ∀ T', Stand p l e R s m args below meth c T' locs cells slots → T'.heap = h → Rn p e below (T'.setTop (mkF m pc' L (.ref a :: S))) G) : Rn p e below (T.setTop (mkF m pc L (.ref a :: S))) G := by
  subst hp
  obtain ⟨T', X', e', st⟩ := castY X hx hZ hown w eT F (g := mkF m pc L (.ref a :: S)) rfl rfl hd
  exact Rn.st st (K T' X' e')
theorem R.instY (X : Stand p l e R s m args below meth c T locs cells slots) (hx : p.tables.exec = Jvm.exec) (hZ : Z.Warmed39 s.vm) {C : String} (hown : s.vm.findClass own = some m.cls) (w : (Jvm.Cond.classLink own index C).before a0 Z = true) (eT : T.heap = h) (F : Ins Z h a C true) (hd : decode c.code pc = .ok (.instanceof index, 3)) (hp : pc + 3 = pc')
    (K : ∀ T', Stand p l e R s m args below meth c T' locs cells slots → T'.heap = h → Rn p e below (T'.setTop (mkF m pc' L (.int 1 :: S))) G) : Rn p e below (T.setTop (mkF m pc L (.ref a :: S))) G := by
  subst hp
  obtain ⟨T', X', e', st⟩ := instY X hx hZ hown w eT F (g := mkF m pc L (.ref a :: S)) rfl rfl hd
  exact Rn.st st (K T' X' e')
theorem R.instNo (X : Stand p l e R s m args below meth c T locs cells slots) (hx : p.tables.exec = Jvm.exec) (hZ : Z.Warmed39 s.vm) {C C' : String} (hown : s.vm.findClass own = some m.cls) (w : (Jvm.Cond.classLink own index C').before a0 Z = true) (eT : T.heap = h) (E : Exa Z h a C) (F : ∃ c t, Z.vm.findClass C = some c ∧ Z.vm.findClass C' = some t ∧ Z.vm.assignable c t = false) (hd : decode c.code pc = .ok (.instanceof index, 3)) (hp : pc + 3 = pc')
    (K : ∀ T', Stand p l e R s m args below meth c T' locs cells slots → T'.heap = h → Rn p e below (T'.setTop (mkF m pc' L (.int 0 :: S))) G) : Rn p e below (T.setTop (mkF m pc L (.ref a :: S))) G := by
  subst hp
  obtain ⟨T', X', e', st⟩ := instNo X hx hZ hown w eT E F (g := mkF m pc L (.ref a :: S)) rfl rfl hd
  exact Rn.st st (K T' X' e')
theorem R.initO (X : Stand p l e R s m args below meth c T locs cells slots) (hx : p.tables.exec = Jvm.exec) (hZ : Z.Warmed39 s.vm) (hown : s.vm.findClass own = some m.cls) (w1 : (Jvm.Cond.methodLink own index Lib.objectInit).before a0 Z = true) (w2 : (Jvm.Cond.instanceMethod Lib.objectInit).before a0 Z = true) (w3 : (Jvm.Cond.code Lib.objectInit ⟨#[0xb1]⟩ 1 none).before a0 Z = true) (eT : T.heap = h) (hsize : L.size = c.maxLocals)
    (hd : decode c.code pc = .ok (.invokespecial index, 3)) (hp : pc + 3 = pc') (hf : 1 ≤ R.frames) {W : Nat} (hW : (S.map fun v => v.category).sum ≤ W) (hl : W + 12 ≤ R.locals)
    (K : ∀ T', Stand p l e R s m args below meth c T' locs cells slots → T'.heap = h → Rn p e below (T'.setTop (mkF m pc' L S)) G) : Rn p e below (T.setTop (mkF m pc L (.ref a :: S))) G := by
  subst hp
  obtain ⟨T', X', e', st⟩ := initO X hx hZ hown w1 w2 w3 eT (g := mkF m pc L (.ref a :: S)) rfl hsize rfl hd hf (W := W) (by show 2 * 0 + _ ≤ W; rw [Nat.mul_zero, Nat.zero_add]; exact hW) hl
  exact Rn.st st (K T' X' e')
section Calls
variable {y : MethodName} {bytes : ByteArray} {maxL : Nat} {ret : Option FieldType} {rm : Room} {as' : List Value} {Q : Option Value → Heap → List Loc → Prop} {S0 : List Value} {W : Nat}
theorem R.callS (X : Stand p l e R s m args below meth c T locs cells slots) (hx : p.tables.exec = Jvm.exec) (hZ : Z.Warmed39 s.vm) (hown : s.vm.findClass own = some m.cls) (w1 : (Jvm.Cond.methodLink own index y).before a0 Z = true) (w2 : (Jvm.Cond.static y).before a0 Z = true) (w3 : (Jvm.Cond.initialized y.cls).before a0 Z = true) (w4 : (Jvm.Cond.code y bytes maxL ret).before a0 Z = true) (hy : y.cls ≠ "java/lang/invoke/MethodHandle" ∧ y.cls ≠ "java/lang/invoke/VarHandle") (eT : T.heap = h)
    (hM : MetFree l y (head1 [Jvm.Cond.code y bytes maxL ret] rm) (fun a U => a = as'.toArray ∧ Z.Warmed39 U.vm ∧ U.heap = h) (fun _ _ _ _ _ => True) (fun _ U o U' => ∃ v L, o = .returned v ∧ Q v U'.heap L ∧ FrameEnd U o U' L rm.cells rm.slots))
    (hf : rm.frames + 1 ≤ R.frames) (hW : (S.map fun v => v.category).sum ≤ W) (hl : W + (maxL + 11) + rm.locals ≤ R.locals) (hsize : L.size = c.maxLocals) (hlen : ∀ sig, parseMethodDescriptor y.desc = some sig → as'.length = sig.parameters.length) (hst : S0 = as'.reverse ++ S) (hd : decode c.code pc = .ok (.invokestatic index, 3)) (hp : pc + 3 = pc') (hc : cells + rm.cells ≤ R.cells) (hs : slots + rm.slots ≤ R.slots)
    (K : ∀ v T' L1, Stand p l e R s m args below meth c T' (locs ++ L1) (cells + rm.cells) (slots + rm.slots) → Q v T'.heap L1 → Rn p e below (T'.setTop (mkF m pc' L (v.toList ++ S))) G) : Rn p e below (T.setTop (mkF m pc L S0)) G := by
  subst hp
  obtain ⟨v, vm1, ⟨T', L2, k', n'⟩, -, X', ⟨Lc, hQ, l1, y1, z1⟩, st⟩ := Jvm.LawKit.callS X hx (y := y) hown (mvT hZ w1) (mvT hZ w2) (mvT hZ w3) (mvT hZ w4) hy (backOf (W := W) hM hZ w4 w3 hf hl) (g := mkF m pc L S0) rfl hsize (argsL := as') (rest := S) hlen hst (by show 2 * 0 + _ ≤ W; rw [Nat.mul_zero, Nat.zero_add]; exact hW) hd (fun _ _ => ⟨rfl, eT, hc, hs⟩)
  dsimp only [Pt.U, Pt.locs, Pt.cells, Pt.slots] at X' l1 y1 z1 st hQ
  subst l1 y1 z1
  exact Rn.st st (K v T' Lc X' hQ)
theorem R.special (X : Stand p l e R s m args below meth c T locs cells slots) (hx : p.tables.exec = Jvm.exec) (hZ : Z.Warmed39 s.vm) (hy1 : y.name = "<init>") (hown : s.vm.findClass own = some m.cls) (w1 : (Jvm.Cond.methodLink own index y).before a0 Z = true) (w2 : (Jvm.Cond.instanceMethod y).before a0 Z = true) (w3 : (Jvm.Cond.initialized y.cls).before a0 Z = true) (w4 : (Jvm.Cond.code y bytes maxL none).before a0 Z = true) (hy : y.cls ≠ "java/lang/invoke/MethodHandle" ∧ y.cls ≠ "java/lang/invoke/VarHandle") (eT : T.heap = h)
    (hM : MetFree l y (head1 [Jvm.Cond.code y bytes maxL none] rm) (fun u U => u = (.ref a :: as').toArray ∧ Z.Warmed39 U.vm ∧ U.heap = h) (fun _ _ _ _ _ => True) (fun _ U o U' => ∃ v L, o = .returned v ∧ Q v U'.heap L ∧ FrameEnd U o U' L rm.cells rm.slots))
    (hf : rm.frames + 1 ≤ R.frames) (hW : (S.map fun v => v.category).sum ≤ W) (hl : W + (maxL + 11) + rm.locals ≤ R.locals) (hsize : L.size = c.maxLocals) (hlen : ∀ sig, parseMethodDescriptor y.desc = some sig → as'.length = sig.parameters.length) (hst : S0 = as'.reverse ++ .ref a :: S) (hd : decode c.code pc = .ok (.invokespecial index, 3)) (hp : pc + 3 = pc') (hc : cells + rm.cells ≤ R.cells) (hs : slots + rm.slots ≤ R.slots)
    (K : ∀ v T' L1, Stand p l e R s m args below meth c T' (locs ++ L1) (cells + rm.cells) (slots + rm.slots) → Q v T'.heap L1 → Rn p e below (T'.setTop (mkF m pc' L (v.toList ++ S))) G) : Rn p e below (T.setTop (mkF m pc L S0)) G := by
  subst hp
  obtain ⟨v, vm1, ⟨T', L2, k', n'⟩, -, X', ⟨Lc, hQ, l1, y1, z1⟩, st⟩ := X.specialBack hx (y := y) hy1 hown (mvT hZ w1) (mvT hZ w2) (mvT hZ w4) hy (backOf (W := W) hM hZ w4 w3 hf hl) (g := mkF m pc L S0) rfl hsize (Steps.refl _) (a := a) (argsL := as') (rest := S) hlen hst (by show 2 * 0 + _ ≤ W; rw [Nat.mul_zero, Nat.zero_add]; exact hW) hd (fun _ _ => ⟨rfl, eT, hc, hs⟩)
  dsimp only [Pt.U, Pt.locs, Pt.cells, Pt.slots] at X' l1 y1 z1 st hQ
  subst l1 y1 z1
  exact Rn.st (fun t q => st.trans q) (K v T' Lc X' hQ)
theorem R.virtual (X : Stand p l e R s m args below meth c T locs cells slots) (hx : p.tables.exec = Jvm.exec) (hZ : Z.Warmed39 s.vm) {C : String} {z : MethodName} (hown : s.vm.findClass own = some m.cls) (w1 : (Jvm.Cond.methodLink own index y).before a0 Z = true) (w2 : (Jvm.Cond.declares y).before a0 Z = true) (hnf : NotFace s y) (w5 : (Jvm.Cond.selects C y z).before a0 Z = true) (w6 : (Jvm.Cond.instanceMethod z).before a0 Z = true) (w3 : (Jvm.Cond.initialized z.cls).before a0 Z = true) (w4 : (Jvm.Cond.code z bytes maxL ret).before a0 Z = true) (hy : y.cls ≠ "java/lang/invoke/MethodHandle" ∧ y.cls ≠ "java/lang/invoke/VarHandle") (eT : T.heap = h) (E : Exa Z h a C)
    (hM : MetFree l z (head1 [Jvm.Cond.code z bytes maxL ret] rm) (fun u U => u = (.ref a :: as').toArray ∧ Z.Warmed39 U.vm ∧ U.heap = h) (fun _ _ _ _ _ => True) (fun _ U o U' => ∃ v L, o = .returned v ∧ Q v U'.heap L ∧ FrameEnd U o U' L rm.cells rm.slots))
    (hf : rm.frames + 1 ≤ R.frames) (hW : (S.map fun v => v.category).sum ≤ W) (hl : W + (maxL + 11) + rm.locals ≤ R.locals) (hsize : L.size = c.maxLocals) (hlen : ∀ sig, parseMethodDescriptor y.desc = some sig → as'.length = sig.parameters.length) (hst : S0 = as'.reverse ++ .ref a :: S) (hd : decode c.code pc = .ok (.invokevirtual index, 3)) (hp : pc + 3 = pc') (hc : cells + rm.cells ≤ R.cells) (hs : slots + rm.slots ≤ R.slots)
    (K : ∀ v T' L1, Stand p l e R s m args below meth c T' (locs ++ L1) (cells + rm.cells) (slots + rm.slots) → Q v T'.heap L1 → Rn p e below (T'.setTop (mkF m pc' L (v.toList ++ S))) G) : Rn p e below (T.setTop (mkF m pc L S0)) G := by
  subst hp
  obtain ⟨cq, kq, qa, qb, qc⟩ := isOf hZ eT E
  obtain ⟨v, vm1, ⟨T', L2, k', n'⟩, -, X', ⟨Lc, hQ, l1, y1, z1⟩, st⟩ := X.virtualBack hx (y := y) (z := z) hown (mvT hZ w1) (mvT hZ w2) hnf (mvT hZ w5) (mvT hZ w6) hy (backOf (W := W) hM hZ w4 w3 hf hl) qa qc (g := mkF m pc L S0) rfl hsize (Steps.refl _) (argsL := as') (rest := S) hlen hst (by show 2 * 0 + _ ≤ W; rw [Nat.mul_zero, Nat.zero_add]; exact hW) hd (fun _ _ => ⟨rfl, eT, hc, hs⟩)
  dsimp only [Pt.U, Pt.locs, Pt.cells, Pt.slots] at X' l1 y1 z1 st hQ
  subst l1 y1 z1
  exact Rn.st (fun t q => st.trans q) (K v T' Lc X' hQ)
end Calls
end RBig
theorem own_0 : Dy FP.dconst0 0 0 := Dy.lit false 0 (-1074) (by decide +kernel) (by decide +kernel)
theorem own_0' : Dy FP.dconst0 0 2 := Dy.lit false 0 (-1074) (by decide +kernel) (by decide +kernel)
theorem own_1 : Dy FP.dconst1 4 2 := Dy.lit false 4503599627370496 (-52) (by decide +kernel) (by decide +kernel)
theorem own_q4 : Dy 4598175219545276416 1 2 := Dy.lit false 4503599627370496 (-54) (by decide +kernel) (by decide +kernel)
section Sat
variable {x y z : UInt64} {K M : Int} {dl : Int32} {j : Nat}
def own_num (M : Int) (dl : Int32) (j : Nat) : Int := (4 - M) * ((2 ^ j : Nat) : Int) + M * dl.toInt
theorem own_p10 (hj : j ≤ 10) : ((2 ^ j : Nat) : Int).natAbs ≤ 1024 := by
  rw [Int.natAbs_natCast]; exact Nat.pow_le_pow_right (by decide) hj
theorem own_numb (hM : 0 ≤ M ∧ M ≤ 4) (hj : j ≤ 10) : (own_num M dl j).natAbs ≤ 8589938688 := by
  unfold own_num
  have z1 := own_pb (show (4 - M).natAbs ≤ 4 by omega) (own_p10 hj)
  have z2 := own_pb (show M.natAbs ≤ 4 by omega) (show dl.toInt.natAbs ≤ 2147483648 by have := own_b dl; omega)
  omega
theorem own_prodb (hK : 0 ≤ K ∧ K ≤ 524287) (hM : 0 ≤ M ∧ M ≤ 4) (hj : j ≤ 10) : (K * own_num M dl j).natAbs ≤ 4503593185443904 + 2000000000000 := by
  have z := own_pb (show K.natAbs ≤ 524287 by omega) (own_numb (dl := dl) hM hj)
  omega
theorem own_k0 (hy : Dy y M 2) (hM : 0 ≤ M ∧ M ≤ 4) : Dy (FP.dsub FP.dconst1 y) (4 - M) 2 := own_1.sub hy (by omega) (by decide)
theorem own_k1 (hy : Dy y M 2) (hM : 0 ≤ M ∧ M ≤ 4) : Dy (FP.dmul y (FP.i2d dl)) (M * dl.toInt) 2 := hy.mul (Dy.i2d dl) (by have z2 := own_pb (show M.natAbs ≤ 4 by omega) (show dl.toInt.natAbs ≤ 2147483648 by have := own_b dl; omega); omega) (by decide)
theorem own_k2 (hy : Dy y M 2) (hM : 0 ≤ M ∧ M ≤ 4) (hz : Dy z ((2 ^ j : Nat) : Int) 0) (hj : j ≤ 10) : Dy (FP.ddiv (FP.dmul y (FP.i2d dl)) z) (M * dl.toInt) (2 + j) :=
  (own_k1 hy hM).div hz (Int.ne_of_gt (own_pp j)) (by have z2 := own_pb (show M.natAbs ≤ 4 by omega) (show dl.toInt.natAbs ≤ 2147483648 by have := own_b dl; omega); omega) (by omega) (by
    rw [Nat.pow_add, Int.natCast_mul]
    generalize ((2 ^ j : Nat) : Int) = P
    generalize M * dl.toInt = A
    show A * 1 * (4 * P) = A * P * 4
    rw [Int.mul_one]; ac_rfl)
theorem own_k3 (hy : Dy y M 2) (hM : 0 ≤ M ∧ M ≤ 4) (hz : Dy z ((2 ^ j : Nat) : Int) 0) (hj : j ≤ 10) : Dy (FP.dadd (FP.dsub FP.dconst1 y) (FP.ddiv (FP.dmul y (FP.i2d dl)) z)) (own_num M dl j) (2 + j) :=
  ((own_k0 hy hM).up j).add (own_k2 hy hM hz hj) (by have z := own_numb (dl := dl) hM hj; unfold own_num at z; omega) (by omega)
theorem own_k4 (hx : Dy x K 0) (hK : 0 ≤ K ∧ K ≤ 524287) (hy : Dy y M 2) (hM : 0 ≤ M ∧ M ≤ 4) (hz : Dy z ((2 ^ j : Nat) : Int) 0) (hj : j ≤ 10) : Dy (FP.dmul x (FP.dadd (FP.dsub FP.dconst1 y) (FP.ddiv (FP.dmul y (FP.i2d dl)) z))) (K * own_num M dl j) (2 + j) :=
  (hx.mul (own_k3 hy hM hz hj) (by have z := own_prodb (dl := dl) hK hM hj; omega) (by omega)).cast rfl (by omega)
theorem own_e {a b : Int64} (ha : a.toInt = K * own_num M dl j) (hb : b.toInt = 4 * ((2 ^ j : Nat) : Int)) (hK : 0 ≤ K ∧ K ≤ 524287) (hM : 0 ≤ M ∧ M ≤ 4) (hj : j ≤ 10) : Dy (FP.ddiv (FP.l2d a) (FP.l2d b)) (K * own_num M dl j) (2 + j) := by
  have z := own_prodb (dl := dl) hK hM hj
  have zp := own_p10 hj
  have pp := own_pp j
  refine (Dy.l2d (v := a) (by rw [ha]; omega)).div (Dy.l2d (v := b) (by rw [hb]; omega)) (by rw [hb]; omega) (by omega) (by omega) ?_
  rw [ha, hb, Nat.pow_add, Int.natCast_mul]
  generalize ((2 ^ j : Nat) : Int) = P
  generalize K * own_num M dl j = A
  show A * 1 * (4 * P) = A * (4 * P) * 1
  rw [Int.mul_one, Int.mul_one]
theorem own_shl {i : Int32} (h : 0 ≤ i.toInt ∧ i.toInt < 11) : ∃ j : Nat, j ≤ 10 ∧ i.toInt = j ∧ ((1 : Int64) <<< (i &&& 63).toInt64).toInt = ((2 ^ j : Nat) : Int) := by
  have e : i = Int32.ofInt i.toInt := by rw [Int32.ofInt_toInt]
  rw [e]
  generalize i.toInt = n at h
  have : n = 0 ∨ n = 1 ∨ n = 2 ∨ n = 3 ∨ n = 4 ∨ n = 5 ∨ n = 6 ∨ n = 7 ∨ n = 8 ∨ n = 9 ∨ n = 10 := by omega
  rcases this with rfl | rfl | rfl | rfl | rfl | rfl | rfl | rfl | rfl | rfl | rfl
  · exact ⟨0, by decide, by decide, by decide⟩
  · exact ⟨1, by decide, by decide, by decide⟩
  · exact ⟨2, by decide, by decide, by decide⟩
  · exact ⟨3, by decide, by decide, by decide⟩
  · exact ⟨4, by decide, by decide, by decide⟩
  · exact ⟨5, by decide, by decide, by decide⟩
  · exact ⟨6, by decide, by decide, by decide⟩
  · exact ⟨7, by decide, by decide, by decide⟩
  · exact ⟨8, by decide, by decide, by decide⟩
  · exact ⟨9, by decide, by decide, by decide⟩
  · exact ⟨10, by decide, by decide, by decide⟩
theorem own_numL {i6 dl : Int32} {j8 j13 : Int64} (hM : 0 ≤ i6.toInt ∧ i6.toInt ≤ 4) (hj : j ≤ 10) (h8 : j8.toInt = ((2 ^ j : Nat) : Int)) (h : (((4 : Int32) - i6).toInt64 * j8) + (i6.toInt64 * dl.toInt64) = j13) : j13.toInt = own_num i6.toInt dl j := by
  have e4 : (4 : Int32).toInt = 4 := by decide
  have s4 : ((4 : Int32) - i6).toInt = 4 - i6.toInt := by rw [own_subI] <;> rw [e4]; omega
  have z1 := own_pb (show (4 - i6.toInt).natAbs ≤ 4 by omega) (own_p10 hj)
  have z2 := own_pb (show i6.toInt.natAbs ≤ 4 by omega) (show dl.toInt.natAbs ≤ 2147483648 by have := own_b dl; omega)
  have a1 : (((4 : Int32) - i6).toInt64 * j8).toInt = (4 - i6.toInt) * ((2 ^ j : Nat) : Int) := by rw [own_mulL] <;> rw [Int32.toInt_toInt64, s4, h8]; omega
  have a2 : (i6.toInt64 * dl.toInt64).toInt = i6.toInt * dl.toInt := by rw [own_mulL] <;> rw [Int32.toInt_toInt64, Int32.toInt_toInt64]; omega
  rw [← h, own_addL] <;> rw [a1, a2]
  · rfl
  · omega
theorem own_prodL {j4 j13 j15 : Int64} (hK : 0 ≤ j4.toInt ∧ j4.toInt ≤ 524287) (hM : 0 ≤ M ∧ M ≤ 4) (hj : j ≤ 10) (h13 : j13.toInt = own_num M dl j) (h : j4 * j13 = j15) : j15.toInt = j4.toInt * own_num M dl j := by
  have z := own_prodb (dl := dl) hK hM hj
  rw [← h, own_mulL] <;> rw [h13]; omega
theorem own_fourL {j8 : Int64} (hj : j ≤ 10) (h8 : j8.toInt = ((2 ^ j : Nat) : Int)) : ((4 : Int64) * j8).toInt = 4 * ((2 ^ j : Nat) : Int) := by
  have z := own_p10 hj
  have e4 : (4 : Int64).toInt = 4 := by decide
  rw [own_mulL] <;> rw [e4, h8]; omega
theorem own_k1L {a : Int32} {j4 : Int64} (h : (a &&& (524287 : Int32)).toInt64 = j4) : 0 ≤ j4.toInt ∧ j4.toInt ≤ 524287 := by
  rw [← h, Int32.toInt_toInt64]; exact c_and a 524287 (by decide)
end Sat
theorem d1_0 : decode prog_21_method_1_code 0 = .ok (.aload_n 0, 1) := by decide +kernel
theorem d1_1 : decode prog_21_method_1_code 1 = .ok (.invokespecial 1, 3) := by decide +kernel
theorem d1_4 : decode prog_21_method_1_code 4 = .ok (.dload_n 1, 1) := by decide +kernel
theorem d1_5 : decode prog_21_method_1_code 5 = .ok (.dconst 0, 1) := by decide +kernel
theorem d1_6 : decode prog_21_method_1_code 6 = .ok (.dcmp .l, 1) := by decide +kernel
theorem d1_7 : decode prog_21_method_1_code 7 = .ok (.ifCond .lt 10, 3) := by decide +kernel
theorem d1_10 : decode prog_21_method_1_code 10 = .ok (.dload_n 1, 1) := by decide +kernel
theorem pd_0 : parseMethodDescriptor "(D)Z" = some ⟨[.double], some .boolean⟩ := by decide +kernel
theorem d1_11 : decode prog_21_method_1_code 11 = .ok (.invokestatic 7, 3) := by decide +kernel
theorem d1_14 : decode prog_21_method_1_code 14 = .ok (.ifCond .ne 17, 3) := by decide +kernel
theorem d1_31 : decode prog_21_method_1_code 31 = .ok (.dload_n 3, 1) := by decide +kernel
theorem d1_32 : decode prog_21_method_1_code 32 = .ok (.dconst 0, 1) := by decide +kernel
theorem d1_33 : decode prog_21_method_1_code 33 = .ok (.dcmp .l, 1) := by decide +kernel
theorem d1_34 : decode prog_21_method_1_code 34 = .ok (.ifCond .lt 9, 3) := by decide +kernel
theorem d1_37 : decode prog_21_method_1_code 37 = .ok (.dload_n 3, 1) := by decide +kernel
theorem d1_38 : decode prog_21_method_1_code 38 = .ok (.dconst 1, 1) := by decide +kernel
theorem d1_39 : decode prog_21_method_1_code 39 = .ok (.dcmp .g, 1) := by decide +kernel
theorem d1_40 : decode prog_21_method_1_code 40 = .ok (.ifCond .le 17, 3) := by decide +kernel
theorem d1_57 : decode prog_21_method_1_code 57 = .ok (.aload_n 0, 1) := by decide +kernel
theorem d1_58 : decode prog_21_method_1_code 58 = .ok (.dload_n 1, 1) := by decide +kernel
theorem d1_59 : decode prog_21_method_1_code 59 = .ok (.putfield 23, 3) := by decide +kernel
theorem d1_62 : decode prog_21_method_1_code 62 = .ok (.aload_n 0, 1) := by decide +kernel
theorem d1_63 : decode prog_21_method_1_code 63 = .ok (.dload_n 3, 1) := by decide +kernel
theorem d1_64 : decode prog_21_method_1_code 64 = .ok (.putfield 29, 3) := by decide +kernel
theorem d1_67 : decode prog_21_method_1_code 67 = .ok (.return_, 1) := by decide +kernel
theorem pn_0 : plainName "com/example/maat/maat/model/Saturation" = true := by first | (simp [plainName, overriddenIn]; done) | decide +kernel
theorem ef_1 (m : MethodId) (x0 : Addr) (x1 : UInt64) (x2 : UInt64) : entryFrame m #[(.ref x0), (.double x1), (.double x2)] 5 = mkF m 0 #[.val (.ref x0), .val (.double x1), .second, .val (.double x2), .second] [] := by first | (simp [entryFrame, mkF, argsToLocals, Value.category]; done) | rfl
def Q1 (Z : State) (a0 : Addr) (d1 : UInt64) (d2 : UInt64) (K : Int) (M : Int) (h0 : Heap) (n0 : Nat) (vQ : Option Value) (hQ_ : Heap) (LQ : List Loc) : Prop := vQ = none ∧ Fr n0 LQ ∧ Keep h0 hQ_ [a0] ∧ (Exa Z hQ_ a0 "com/example/maat/maat/model/Saturation") ∧ (Fld Z hQ_ a0 "com/example/maat/maat/model/Saturation" "k1" "D" (.double d1)) ∧ (Fld Z hQ_ a0 "com/example/maat/maat/model/Saturation" "b" "D" (.double d2))
def Fn1 (Z : State) (a0 : Addr) (d1 : UInt64) (d2 : UInt64) (K : Int) (M : Int) (h0 : Heap) (n0 : Nat) (sQ : State) (oQ : Outcome) (UQ : State) : Prop := ∃ vQ LQ, oQ = .returned vQ ∧ Q1 Z a0 d1 d2 K M h0 n0 vQ UQ.heap LQ ∧ FrameEnd sQ oQ UQ LQ ({ frames := 2, cells := 0, slots := 0, locals := 26 } : Room).cells ({ frames := 2, cells := 0, slots := 0, locals := 26 } : Room).slots
set_option maxRecDepth 65536 in
set_option maxHeartbeats 40000000 in
theorem rm1 (l : Launch) (Z : State) (aZ : Array Value) (hw : ∀ d ∈ tables_1, d.before aZ Z = true) (ws : List Jvm.Cond) (a0 : Addr) (d1 : UInt64) (d2 : UInt64) (K : Int) (M : Int) (h0 : Heap) (n0 : Nat) (Z0 : n0 ≤ h0.size) (E_a0 : Exa Z h0 a0 "com/example/maat/maat/model/Saturation") (F_k1_a0 : Fld Z h0 a0 "com/example/maat/maat/model/Saturation" "k1" "D" (.double (0 : UInt64))) (F_b_a0 : Fld Z h0 a0 "com/example/maat/maat/model/Saturation" "b" "D" (.double (0 : UInt64))) (g_a0 : n0 ≤ a0) (D1 : Dy d1 K 0) (D2 : Dy d2 M 2) (hK0 : 0 ≤ K) (hM0 : 0 ≤ M ∧ M ≤ 4) :
    MetFree l (⟨"com/example/maat/maat/model/Saturation", "<init>", "(DD)V"⟩ : MethodName) (head1 (Jvm.Cond.code (⟨"com/example/maat/maat/model/Saturation", "<init>", "(DD)V"⟩ : MethodName) prog_21_method_1_code 5 none :: ws) ({ frames := 2, cells := 0, slots := 0, locals := 26 } : Room)) (fun aQ UQ => aQ = #[(.ref a0), (.double d1), (.double d2)] ∧ Z.Warmed39 UQ.vm ∧ UQ.heap = h0) (fun _ _ _ _ _ => True) (fun _ UQ oQ UR => ∃ vQ LQ, oQ = .returned vQ ∧ Q1 Z a0 d1 d2 K M h0 n0 vQ UR.heap LQ ∧ FrameEnd UQ oQ UR LQ ({ frames := 2, cells := 0, slots := 0, locals := 26 } : Room).cells ({ frames := 2, cells := 0, slots := 0, locals := 26 } : Room).slots) := by
  refine MetFree.of_bodySF (plainFor_of_name pn_0) hisR ?_
  intro p e s m args below meth c s₁ Bd hml0 hP hK
  obtain ⟨rfl, hZ, hh⟩ := hP
  have hx := Bd.exec
  have hby := Bd.bytes
  have hml : c.maxLocals = 5 := hml0
  have hown : s.vm.findClass "com/example/maat/maat/model/Saturation" = some m.cls := findClass_of_methodNamed Bd.named
  have hnm := (name_of_methodNamed Bd.named Bd.method).1
  have X0 : Stand p l e ({ frames := 2, cells := 0, slots := 0, locals := 26 } : Room) s m #[(.ref a0), (.double d1), (.double d2)] below meth c s₁ [] 0 0 := Stand.of_body Bd
  have e0 : s₁.heap = h0 := by rw [← hh, Bd.state]; rfl
  have N0 := Fr.nil n0
  have K0 : Keep h0 h0 [a0] := Keep.refl _ _
  have w_3 := hw _ (List.mem_of_getElem? (i := 3) rfl)
  have w_9 := hw _ (List.mem_of_getElem? (i := 9) rfl)
  have w_10 := hw _ (List.mem_of_getElem? (i := 10) rfl)
  have w_11 := hw _ (List.mem_of_getElem? (i := 11) rfl)
  have w_12 := hw _ (List.mem_of_getElem? (i := 12) rfl)
  have w_13 := hw _ (List.mem_of_getElem? (i := 13) rfl)
  have w_14 := hw _ (List.mem_of_getElem? (i := 14) rfl)
  have w_15 := hw _ (List.mem_of_getElem? (i := 15) rfl)
  have w_16 := hw _ (List.mem_of_getElem? (i := 16) rfl)
  have w_17 := hw _ (List.mem_of_getElem? (i := 17) rfl)
  have w_18 := hw _ (List.mem_of_getElem? (i := 18) rfl)
  have w_19 := hw _ (List.mem_of_getElem? (i := 19) rfl)
  have w_20 := hw _ (List.mem_of_getElem? (i := 20) rfl)
  have w_21 := hw _ (List.mem_of_getElem? (i := 21) rfl)
  have w_22 := hw _ (List.mem_of_getElem? (i := 22) rfl)
  have w_23 := hw _ (List.mem_of_getElem? (i := 23) rfl)
  have w_24 := hw _ (List.mem_of_getElem? (i := 24) rfl)
  have first_ : Rn p e below (s₁.setTop (mkF m 0 #[.val (.ref a0), .val (.double d1), .second, .val (.double d2), .second] [])) (Fn1 Z a0 d1 d2 K M h0 n0 s) := by
    generalize hG : (Fn1 Z a0 d1 d2 K M h0 n0 s) = G
    refine R.aloadN X0 hx (hb hby d1_0) rfl rfl (pc' := 1) rfl ?_
    refine R.initO X0 hx hZ hown w_9 w_10 w_11 e0 (by rw [hml]; rfl) (hb hby d1_1) (pc' := 4) rfl (by decide) (W := 0) (Nat.le_of_eq rfl) (by decide) ?_; intro T1 X1 e1
    refine R.dloadN X1 hx (hb hby d1_4) rfl (pc' := 5) rfl ?_
    refine R.dconst0 X1 hx (hb hby d1_5) (pc' := 6) rfl ?_
    refine R.dcmp X1 hx (hb hby d1_6) (D1.cmp own_0 _ : cmpValue (FP.dcmp d1 FP.dconst0) .l = (own_ci K 0)) (pc' := 7) rfl ?_
    refine R.ifNo X1 hx (hb hby d1_7) (flt (fun q => absurd (own_ci_lt.mp q) (by omega) : ¬ ((own_ci K 0) < (0 : Int32)))).1 (pc' := 10) rfl ?_
    refine R.dloadN X1 hx (hb hby d1_10) rfl (pc' := 11) rfl ?_
    show Rn p e below (T1.setTop (mkF m 11 #[.val (.ref a0), .val (.double d1), .second, .val (.double d2), .second] [(.double d1)])) G
    have htab : IsFinite.tab.before #[(.ref a0), (.double d1), (.double d2)] s = true := by
      simp only [IsFinite.tab, Cond.before_and, Bool.and_eq_true]
      exact ⟨mvT hZ w_15, mvT hZ w_16, mvT hZ w_17, mvT hZ w_18, mvT hZ w_19, mvT hZ w_20⟩
    have hfin : Fin64 d1 := fin64_core.mpr D1.1
    obtain ⟨v2, vm2, ⟨T2, L2, k2, n2⟩, -, X2, ⟨⟨pu1, pu2, pu3, pu4⟩, pv⟩, st2⟩ := Jvm.LawKit.callS X1 hx (y := (⟨"java/lang/Double", "isFinite", "(D)Z"⟩ : MethodName)) hown (mvT hZ w_12) (mvT hZ w_13) (mvT hZ w_14) (mvT hZ w_15) (by decide) (IsFinite.pays (W := 0) (by decide) (by decide) htab (mvT hZ w_14)) (g := (mkF m 11 #[.val (.ref a0), .val (.double d1), .second, .val (.double d2), .second] [(.double d1)])) rfl (by rw [hml]; rfl) (argsL := [(.double d1)]) (rest := []) (lenOf pd_0 rfl) rfl (by show 2 * 0 + _ ≤ _; exact Nat.le_of_eq rfl) (hb hby d1_11) (fun _ _ => ⟨Nat.le_of_ble_eq_true rfl, Nat.le_of_ble_eq_true rfl, d1, rfl, D1.nn⟩)
    have hv2 := pv d1 ⟨rfl, D1.nn⟩
    rw [if_pos ((le_max_iff D1.nn).mpr hfin)] at hv2
    dsimp only [Pt.U, Pt.locs, Pt.cells, Pt.slots] at X2 pu1 pu2 pu3 pu4 st2
    subst hv2 pu2 pu3 pu4
    have e2 : T2.heap = h0 := pu1.trans e1
    refine Rn.st st2 ?_
    refine R.ifYes X2 hx (hb hby d1_14) (feq (by decide : ¬ ((1 : Int32) = (0 : Int32)))).2 (by decide) (pc' := 31) (by decide) ?_
    refine R.dloadN X2 hx (hb hby d1_31) rfl (pc' := 32) rfl ?_
    refine R.dconst0 X2 hx (hb hby d1_32) (pc' := 33) rfl ?_
    refine R.dcmp X2 hx (hb hby d1_33) (D2.cmp own_0' _ : cmpValue (FP.dcmp d2 FP.dconst0) .l = (own_ci M 0)) (pc' := 34) rfl ?_
    refine R.ifNo X2 hx (hb hby d1_34) (flt (fun q => absurd (own_ci_lt.mp q) (by omega) : ¬ ((own_ci M 0) < (0 : Int32)))).1 (pc' := 37) rfl ?_
    refine R.dloadN X2 hx (hb hby d1_37) rfl (pc' := 38) rfl ?_
    refine R.dconst1 X2 hx (hb hby d1_38) (pc' := 39) rfl ?_
    refine R.dcmp X2 hx (hb hby d1_39) (D2.cmp own_1 _ : cmpValue (FP.dcmp d2 FP.dconst1) .g = (own_ci M 4)) (pc' := 40) rfl ?_
    refine R.ifYes X2 hx (hb hby d1_40) (flt (fun q => absurd (own_ci_gt.mp q) (by omega) : ¬ ((0 : Int32) < (own_ci M 4)))).2.2.2 (by decide) (pc' := 57) (by decide) ?_
    refine R.aloadN X2 hx (hb hby d1_57) rfl rfl (pc' := 58) rfl ?_
    refine R.dloadN X2 hx (hb hby d1_58) rfl (pc' := 59) rfl ?_
    refine R.putF X2 hx hZ hown (host := "") (Or.inl w_21) Via.refl e2 F_k1_a0 E_a0 (Or.inr ⟨w_22, rfl, hnm⟩) w_3 (ty := .double) (by decide) rfl rfl (hb hby d1_59) (pc' := 62) rfl ?_; intro T3 h3 X3 e3 W3
    have E_a0 := E_a0.wr W3
    have F_b_a0 := F_b_a0.other W3 (Or.inr (slot_ne (Or.inr w_24) (Or.inr w_22) (by decide) (t := .double) (t' := .double) (by decide) (by decide)))
    have F_k1_a0 : Fld Z h3 a0 "com/example/maat/maat/model/Saturation" "k1" "D" (.double d1) := F_k1_a0.same W3
    have N3 := Fr.snoc X3 N0 g_a0
    have K3 : Keep h0 h3 [a0] := K0.wr W3 (Or.inl (List.mem_of_getElem? (i := 0) rfl))
    have Z3 : n0 ≤ h3.size := Nat.le_trans Z0 (Keep.of_wr W3).1
    refine R.aloadN X3 hx (hb hby d1_62) rfl rfl (pc' := 63) rfl ?_
    refine R.dloadN X3 hx (hb hby d1_63) rfl (pc' := 64) rfl ?_
    refine R.putF X3 hx hZ hown (host := "") (Or.inl w_23) Via.refl e3 F_b_a0 E_a0 (Or.inr ⟨w_24, rfl, hnm⟩) w_3 (ty := .double) (by decide) rfl rfl (hb hby d1_64) (pc' := 67) rfl ?_; intro T4 h4 X4 e4 W4
    have E_a0 := E_a0.wr W4
    have F_k1_a0 := F_k1_a0.other W4 (Or.inr (slot_ne (Or.inr w_22) (Or.inr w_24) (by decide) (t := .double) (t' := .double) (by decide) (by decide)))
    have F_b_a0 : Fld Z h4 a0 "com/example/maat/maat/model/Saturation" "b" "D" (.double d2) := F_b_a0.same W4
    have N4 := Fr.snoc X4 N3 g_a0
    have K4 : Keep h0 h4 [a0] := K3.wr W4 (Or.inl (List.mem_of_getElem? (i := 0) rfl))
    have Z4 : n0 ≤ h4.size := Nat.le_trans Z3 (Keep.of_wr W4).1
    rw [← hG]
    exact Rn.ret X4 (BodyLoose.notSynchronized Bd) (v := none) (fun _ => rfl) (Q := Q1 Z a0 d1 d2 K M h0 n0) e4 (fun fs hr => X4.returnOut hx Bd.returns (hb hby d1_67) hr) ⟨rfl, N4, K4, E_a0, F_k1_a0, F_b_a0⟩ (by decide) (by decide)
  exact (Rn.st (fun t k => castTop (ef_1 m a0 d1 d2) k) first_ : Rn p e below (s₁.setTop (entryFrame m #[(.ref a0), (.double d1), (.double d2)] 5)) (Fn1 Z a0 d1 d2 K M h0 n0 s))
theorem d5_0 : decode prog_21_method_2_code 0 = .ok (.aload_n 0, 1) := by decide +kernel
theorem d5_1 : decode prog_21_method_2_code 1 = .ok (.getfield 23, 3) := by decide +kernel
theorem d5_4 : decode prog_21_method_2_code 4 = .ok (.dconst 1, 1) := by decide +kernel
theorem d5_5 : decode prog_21_method_2_code 5 = .ok (.aload_n 0, 1) := by decide +kernel
theorem d5_6 : decode prog_21_method_2_code 6 = .ok (.getfield 29, 3) := by decide +kernel
theorem d5_9 : decode prog_21_method_2_code 9 = .ok (.dsub, 1) := by decide +kernel
theorem d5_10 : decode prog_21_method_2_code 10 = .ok (.aload_n 0, 1) := by decide +kernel
theorem d5_11 : decode prog_21_method_2_code 11 = .ok (.getfield 29, 3) := by decide +kernel
theorem d5_14 : decode prog_21_method_2_code 14 = .ok (.iload_n 1, 1) := by decide +kernel
theorem d5_15 : decode prog_21_method_2_code 15 = .ok (.i2d, 1) := by decide +kernel
theorem d5_16 : decode prog_21_method_2_code 16 = .ok (.dmul, 1) := by decide +kernel
theorem d5_17 : decode prog_21_method_2_code 17 = .ok (.dload_n 2, 1) := by decide +kernel
theorem d5_18 : decode prog_21_method_2_code 18 = .ok (.ddiv, 1) := by decide +kernel
theorem d5_19 : decode prog_21_method_2_code 19 = .ok (.dadd, 1) := by decide +kernel
theorem d5_20 : decode prog_21_method_2_code 20 = .ok (.dmul, 1) := by decide +kernel
theorem d5_21 : decode prog_21_method_2_code 21 = .ok (.dreturn, 1) := by decide +kernel
theorem ef_5 (m : MethodId) (x0 : Addr) (x1 : Int32) (x2 : UInt64) : entryFrame m #[(.ref x0), (.int x1), (.double x2)] 4 = mkF m 0 #[.val (.ref x0), .val (.int x1), .val (.double x2), .second] [] := by first | (simp [entryFrame, mkF, argsToLocals, Value.category]; done) | rfl
def Q5 (Z : State) (a0 : Addr) (p1 : Int32) (d2 : UInt64) (x : UInt64) (y : UInt64) (h0 : Heap) (n0 : Nat) (vQ : Option Value) (hQ_ : Heap) (LQ : List Loc) : Prop := vQ = some (.double (FP.dmul x (FP.dadd (FP.dsub FP.dconst1 y) (FP.ddiv (FP.dmul y (FP.i2d p1)) d2)))) ∧ Fr n0 LQ ∧ hQ_ = h0
def Fn5 (Z : State) (a0 : Addr) (p1 : Int32) (d2 : UInt64) (x : UInt64) (y : UInt64) (h0 : Heap) (n0 : Nat) (sQ : State) (oQ : Outcome) (UQ : State) : Prop := ∃ vQ LQ, oQ = .returned vQ ∧ Q5 Z a0 p1 d2 x y h0 n0 vQ UQ.heap LQ ∧ FrameEnd sQ oQ UQ LQ ({ frames := 0, cells := 0, slots := 0, locals := 0 } : Room).cells ({ frames := 0, cells := 0, slots := 0, locals := 0 } : Room).slots
set_option maxRecDepth 65536 in
set_option maxHeartbeats 40000000 in
theorem rm5 (l : Launch) (Z : State) (aZ : Array Value) (hw : ∀ d ∈ tables_1, d.before aZ Z = true) (ws : List Jvm.Cond) (a0 : Addr) (p1 : Int32) (d2 : UInt64) (x : UInt64) (y : UInt64) (h0 : Heap) (n0 : Nat) (Z0 : n0 ≤ h0.size) (F_k1_a0 : Fld Z h0 a0 "com/example/maat/maat/model/Saturation" "k1" "D" (.double x)) (F_b_a0 : Fld Z h0 a0 "com/example/maat/maat/model/Saturation" "b" "D" (.double y)) (nn0 : NoNaN64 (FP.dsub FP.dconst1 y)) (nn1 : NoNaN64 (FP.dmul y (FP.i2d p1))) (nn2 : NoNaN64 (FP.ddiv (FP.dmul y (FP.i2d p1)) d2)) (nn3 : NoNaN64 (FP.dadd (FP.dsub FP.dconst1 y) (FP.ddiv (FP.dmul y (FP.i2d p1)) d2))) (nn4 : NoNaN64 (FP.dmul x (FP.dadd (FP.dsub FP.dconst1 y) (FP.ddiv (FP.dmul y (FP.i2d p1)) d2)))) :
    MetFree l (⟨"com/example/maat/maat/model/Saturation", "k", "(ID)D"⟩ : MethodName) (head1 (Jvm.Cond.code (⟨"com/example/maat/maat/model/Saturation", "k", "(ID)D"⟩ : MethodName) prog_21_method_2_code 4 (some .double) :: ws) ({ frames := 0, cells := 0, slots := 0, locals := 0 } : Room)) (fun aQ UQ => aQ = #[(.ref a0), (.int p1), (.double d2)] ∧ Z.Warmed39 UQ.vm ∧ UQ.heap = h0) (fun _ _ _ _ _ => True) (fun _ UQ oQ UR => ∃ vQ LQ, oQ = .returned vQ ∧ Q5 Z a0 p1 d2 x y h0 n0 vQ UR.heap LQ ∧ FrameEnd UQ oQ UR LQ ({ frames := 0, cells := 0, slots := 0, locals := 0 } : Room).cells ({ frames := 0, cells := 0, slots := 0, locals := 0 } : Room).slots) := by
  refine MetFree.of_bodySF (plainFor_of_name pn_0) hisR ?_
  intro p e s m args below meth c s₁ Bd hml0 hP hK
  obtain ⟨rfl, hZ, hh⟩ := hP
  have hx := Bd.exec
  have hby := Bd.bytes
  have hml : c.maxLocals = 4 := hml0
  have hown : s.vm.findClass "com/example/maat/maat/model/Saturation" = some m.cls := findClass_of_methodNamed Bd.named
  have hnm := (name_of_methodNamed Bd.named Bd.method).1
  have X0 : Stand p l e ({ frames := 0, cells := 0, slots := 0, locals := 0 } : Room) s m #[(.ref a0), (.int p1), (.double d2)] below meth c s₁ [] 0 0 := Stand.of_body Bd
  have e0 : s₁.heap = h0 := by rw [← hh, Bd.state]; rfl
  have N0 := Fr.nil n0
  have K0 : Keep h0 h0 [] := Keep.refl _ _
  have w_21 := hw _ (List.mem_of_getElem? (i := 21) rfl)
  have w_23 := hw _ (List.mem_of_getElem? (i := 23) rfl)
  have first_ : Rn p e below (s₁.setTop (mkF m 0 #[.val (.ref a0), .val (.int p1), .val (.double d2), .second] [])) (Fn5 Z a0 p1 d2 x y h0 n0 s) := by
    generalize hG : (Fn5 Z a0 p1 d2 x y h0 n0 s) = G
    refine R.aloadN X0 hx (hb hby d5_0) rfl rfl (pc' := 1) rfl ?_
    refine R.getF X0 hx hZ hown (host := "") (Or.inl w_21) Via.refl e0 F_k1_a0 (hb hby d5_1) (pc' := 4) rfl ?_; intro T1 X1 e1
    refine R.dconst1 X1 hx (hb hby d5_4) (pc' := 5) rfl ?_
    refine R.aloadN X1 hx (hb hby d5_5) rfl rfl (pc' := 6) rfl ?_
    refine R.getF X1 hx hZ hown (host := "") (Or.inl w_23) Via.refl e1 F_b_a0 (hb hby d5_6) (pc' := 9) rfl ?_; intro T2 X2 e2
    refine R.dsub X2 hx (hb hby d5_9) (nn0 : NoNaN64 (FP.dsub FP.dconst1 y)) (pc' := 10) rfl ?_
    refine R.aloadN X2 hx (hb hby d5_10) rfl rfl (pc' := 11) rfl ?_
    refine R.getF X2 hx hZ hown (host := "") (Or.inl w_23) Via.refl e2 F_b_a0 (hb hby d5_11) (pc' := 14) rfl ?_; intro T3 X3 e3
    refine R.iloadN X3 hx (hb hby d5_14) rfl (pc' := 15) rfl ?_
    refine R.i2d X3 hx (hb hby d5_15) (pc' := 16) rfl ?_
    refine R.dmul X3 hx (hb hby d5_16) (nn1 : NoNaN64 (FP.dmul y (FP.i2d p1))) (pc' := 17) rfl ?_
    refine R.dloadN X3 hx (hb hby d5_17) rfl (pc' := 18) rfl ?_
    refine R.ddiv X3 hx (hb hby d5_18) (nn2 : NoNaN64 (FP.ddiv (FP.dmul y (FP.i2d p1)) d2)) (pc' := 19) rfl ?_
    refine R.dadd X3 hx (hb hby d5_19) (nn3 : NoNaN64 (FP.dadd (FP.dsub FP.dconst1 y) (FP.ddiv (FP.dmul y (FP.i2d p1)) d2))) (pc' := 20) rfl ?_
    refine R.dmul X3 hx (hb hby d5_20) (nn4 : NoNaN64 (FP.dmul x (FP.dadd (FP.dsub FP.dconst1 y) (FP.ddiv (FP.dmul y (FP.i2d p1)) d2)))) (pc' := 21) rfl ?_
    rw [← hG]
    exact Rn.ret X3 (BodyLoose.notSynchronized Bd) (v := some (.double (FP.dmul x (FP.dadd (FP.dsub FP.dconst1 y) (FP.ddiv (FP.dmul y (FP.i2d p1)) d2))))) (fun h => by rw [Bd.returns] at h; cases h) (Q := Q5 Z a0 p1 d2 x y h0 n0) e3 (fun fs hr => retOut X3 hx (t := .double) Bd.returns rfl (Or.inr (Or.inr (Or.inl ⟨rfl, rfl, _, rfl⟩))) (hb hby d5_21) hr) ⟨rfl, N0, rfl⟩ (by decide) (by decide)
  exact (Rn.st (fun t k => castTop (ef_5 m a0 p1 d2) k) first_ : Rn p e below (s₁.setTop (entryFrame m #[(.ref a0), (.int p1), (.double d2)] 4)) (Fn5 Z a0 p1 d2 x y h0 n0 s))
theorem pd_1 : parseMethodDescriptor "(DD)V" = some ⟨[.double, .double], none⟩ := by decide +kernel
abbrev mY0 : MethodName := (⟨"com/example/maat/maat/model/Saturation", "<init>", "(DD)V"⟩ : MethodName)
theorem pd_2 : parseMethodDescriptor "(ID)D" = some ⟨[.int, .double], some .double⟩ := by decide +kernel
abbrev mY1 : MethodName := (⟨"com/example/maat/maat/model/Saturation", "k", "(ID)D"⟩ : MethodName)
theorem pn_1 : plainName "com/example/maat/maat/model/SaturationKPinLaw" = true := by first | (simp [plainName, overriddenIn]; done) | decide +kernel
theorem ef_0 (m : MethodId) (x0 : Int32) (x1 : Int32) (x2 : Int32) (x3 : Int32) : entryFrame m #[(.int x0), (.int x1), (.int x2), (.int x3)] maxLocals = mkF m 0 #[.val (.int x0), .val (.int x1), .val (.int x2), .val (.int x3), .unset, .unset, .unset, .unset, .unset, .unset, .unset, .unset, .unset, .unset, .unset, .unset, .unset, .unset, .unset] [] := by first | (simp [entryFrame, mkF, argsToLocals, Value.category, maxLocals]; done) | rfl
def Q0 (Z : State) (p0 : Int32) (p1 : Int32) (p2 : Int32) (p3 : Int32) (h0 : Heap) (n0 : Nat) (vQ : Option Value) (hQ_ : Heap) (LQ : List Loc) : Prop := vQ = some (.int 1) ∧ Fr n0 LQ
def Fn0 (Z : State) (p0 : Int32) (p1 : Int32) (p2 : Int32) (p3 : Int32) (h0 : Heap) (n0 : Nat) (sQ : State) (oQ : Outcome) (UQ : State) : Prop := ∃ vQ LQ, oQ = .returned vQ ∧ Q0 Z p0 p1 p2 p3 h0 n0 vQ UQ.heap LQ ∧ FrameEnd sQ oQ UQ LQ room_1.cells room_1.slots
set_option maxRecDepth 65536 in
set_option maxHeartbeats 40000000 in
theorem rm0 (l : Launch) (Z : State) (aZ : Array Value) (hw : ∀ d ∈ tables_1, d.before aZ Z = true) (ws : List Jvm.Cond) (p0 : Int32) (p1 : Int32) (p2 : Int32) (p3 : Int32) (h0 : Heap) (n0 : Nat) (Z0 : n0 ≤ h0.size) :
    MetFree l x (head1 (Jvm.Cond.code x code maxLocals ret :: ws) room_1) (fun aQ UQ => aQ = #[(.int p0), (.int p1), (.int p2), (.int p3)] ∧ Z.Warmed39 UQ.vm ∧ UQ.heap = h0) (fun _ _ _ _ _ => True) (fun _ UQ oQ UR => ∃ vQ LQ, oQ = .returned vQ ∧ Q0 Z p0 p1 p2 p3 h0 n0 vQ UR.heap LQ ∧ FrameEnd UQ oQ UR LQ room_1.cells room_1.slots) := by
  refine MetFree.of_bodySF (plainFor_of_name pn_1) hisR ?_
  intro p e s m args below meth c s₁ Bd hml0 hP hK
  obtain ⟨rfl, hZ, hh⟩ := hP
  have hx := Bd.exec
  have hby := Bd.bytes
  have hml : c.maxLocals = 19 := hml0
  have hown : s.vm.findClass "com/example/maat/maat/model/SaturationKPinLaw" = some m.cls := findClass_of_methodNamed Bd.named
  have hnm := (name_of_methodNamed Bd.named Bd.method).1
  have X0 : Stand p l e room_1 s m #[(.int p0), (.int p1), (.int p2), (.int p3)] below meth c s₁ [] 0 0 := Stand.of_body Bd
  have e0 : s₁.heap = h0 := by rw [← hh, Bd.state]; rfl
  have N0 := Fr.nil n0
  have K0 : Keep h0 h0 [] := Keep.refl _ _
  have w_0 := hw _ (List.mem_of_getElem? (i := 0) rfl)
  have w_1 := hw _ (List.mem_of_getElem? (i := 1) rfl)
  have w_2 := hw _ (List.mem_of_getElem? (i := 2) rfl)
  have w_3 := hw _ (List.mem_of_getElem? (i := 3) rfl)
  have w_4 := hw _ (List.mem_of_getElem? (i := 4) rfl)
  have w_5 := hw _ (List.mem_of_getElem? (i := 5) rfl)
  have w_6 := hw _ (List.mem_of_getElem? (i := 6) rfl)
  have w_7 := hw _ (List.mem_of_getElem? (i := 7) rfl)
  have w_8 := hw _ (List.mem_of_getElem? (i := 8) rfl)
  have w_22 := hw _ (List.mem_of_getElem? (i := 22) rfl)
  have w_24 := hw _ (List.mem_of_getElem? (i := 24) rfl)
  have w_25 := hw _ (List.mem_of_getElem? (i := 25) rfl)
  have w_26 := hw _ (List.mem_of_getElem? (i := 26) rfl)
  have w_27 := hw _ (List.mem_of_getElem? (i := 27) rfl)
  have w_28 := hw _ (List.mem_of_getElem? (i := 28) rfl)
  have w_29 := hw _ (List.mem_of_getElem? (i := 29) rfl)
  have w_30 := hw _ (List.mem_of_getElem? (i := 30) rfl)
  have first_ : Rn p e below (s₁.setTop (mkF m 0 #[.val (.int p0), .val (.int p1), .val (.int p2), .val (.int p3), .unset, .unset, .unset, .unset, .unset, .unset, .unset, .unset, .unset, .unset, .unset, .unset, .unset, .unset, .unset] [])) (Fn0 Z p0 p1 p2 p3 h0 n0 s) := by
    generalize hG : (Fn0 Z p0 p1 p2 p3 h0 n0 s) = G
    refine R.iloadN X0 hx (hb hby at_0) rfl (pc' := 1) rfl ?_
    refine R.ldcI X0 hx hZ hown w_0 (hb hby at_1) (pc' := 3) rfl ?_
    refine R.iand X0 hx (hb hby at_3) rfl (pc' := 4) rfl ?_
    refine R.i2l X0 hx (hb hby at_4) (pc' := 5) rfl ?_
    show Rn p e below (s₁.setTop (mkF m 5 #[.val (.int p0), .val (.int p1), .val (.int p2), .val (.int p3), .unset, .unset, .unset, .unset, .unset, .unset, .unset, .unset, .unset, .unset, .unset, .unset, .unset, .unset, .unset] [(.long ((p0 &&& (524287 : Int32)).toInt64))])) G
    generalize hj1 : ((p0 &&& (524287 : Int32)).toInt64) = j1
    refine R.lstore X0 hx (hb hby at_5) (L' := #[.val (.int p0), .val (.int p1), .val (.int p2), .val (.int p3), .val (.long j1), .second, .unset, .unset, .unset, .unset, .unset, .unset, .unset, .unset, .unset, .unset, .unset, .unset, .unset]) rfl (pc' := 7) rfl ?_
    refine R.iloadN X0 hx (hb hby at_7) rfl (pc' := 8) rfl ?_
    refine R.ldcI X0 hx hZ hown w_1 (hb hby at_8) (pc' := 10) rfl ?_
    refine R.iand X0 hx (hb hby at_10) rfl (pc' := 11) rfl ?_
    refine R.iconst X0 hx (hb hby at_11) (v := (5 : Int32)) (by decide) (pc' := 12) rfl ?_
    refine R.irem X0 hx (hb hby at_12) (by decide : (5 : Int32) ≠ (0 : Int32)) (pc' := 13) rfl ?_
    show Rn p e below (s₁.setTop (mkF m 13 #[.val (.int p0), .val (.int p1), .val (.int p2), .val (.int p3), .val (.long j1), .second, .unset, .unset, .unset, .unset, .unset, .unset, .unset, .unset, .unset, .unset, .unset, .unset, .unset] [(.int ((p1 &&& (2147483647 : Int32)) % (5 : Int32)))])) G
    generalize hi2 : ((p1 &&& (2147483647 : Int32)) % (5 : Int32)) = i2
    refine R.istore X0 hx (hb hby at_13) (L' := #[.val (.int p0), .val (.int p1), .val (.int p2), .val (.int p3), .val (.long j1), .second, .val (.int i2), .unset, .unset, .unset, .unset, .unset, .unset, .unset, .unset, .unset, .unset, .unset, .unset]) rfl (pc' := 15) rfl ?_
    refine R.iloadN X0 hx (hb hby at_15) rfl (pc' := 16) rfl ?_
    refine R.ldcI X0 hx hZ hown w_1 (hb hby at_16) (pc' := 18) rfl ?_
    refine R.iand X0 hx (hb hby at_18) rfl (pc' := 19) rfl ?_
    refine R.bipush X0 hx (hb hby at_19) (v := (11 : Int32)) (by decide) (pc' := 21) rfl ?_
    refine R.irem X0 hx (hb hby at_21) (by decide : (11 : Int32) ≠ (0 : Int32)) (pc' := 22) rfl ?_
    show Rn p e below (s₁.setTop (mkF m 22 #[.val (.int p0), .val (.int p1), .val (.int p2), .val (.int p3), .val (.long j1), .second, .val (.int i2), .unset, .unset, .unset, .unset, .unset, .unset, .unset, .unset, .unset, .unset, .unset, .unset] [(.int ((p3 &&& (2147483647 : Int32)) % (11 : Int32)))])) G
    generalize hi3 : ((p3 &&& (2147483647 : Int32)) % (11 : Int32)) = i3
    refine R.istore X0 hx (hb hby at_22) (L' := #[.val (.int p0), .val (.int p1), .val (.int p2), .val (.int p3), .val (.long j1), .second, .val (.int i2), .val (.int i3), .unset, .unset, .unset, .unset, .unset, .unset, .unset, .unset, .unset, .unset, .unset]) rfl (pc' := 24) rfl ?_
    refine R.lconst X0 hx (hb hby at_24) (v := (1 : Int64)) (by decide) (pc' := 25) rfl ?_
    refine R.iload X0 hx (hb hby at_25) rfl (pc' := 27) rfl ?_
    refine R.lshl X0 hx (hb hby at_27) (pc' := 28) rfl ?_
    show Rn p e below (s₁.setTop (mkF m 28 #[.val (.int p0), .val (.int p1), .val (.int p2), .val (.int p3), .val (.long j1), .second, .val (.int i2), .val (.int i3), .unset, .unset, .unset, .unset, .unset, .unset, .unset, .unset, .unset, .unset, .unset] [(.long ((1 : Int64) <<< (i3 &&& 63).toInt64))])) G
    generalize hj4 : ((1 : Int64) <<< (i3 &&& 63).toInt64) = j4
    refine R.lstore X0 hx (hb hby at_28) (L' := #[.val (.int p0), .val (.int p1), .val (.int p2), .val (.int p3), .val (.long j1), .second, .val (.int i2), .val (.int i3), .val (.long j4), .second, .unset, .unset, .unset, .unset, .unset, .unset, .unset, .unset, .unset]) rfl (pc' := 30) rfl ?_
    have hK := own_k1L hj1
    have hM0 := own_masked (d := 5) (by decide) (by decide) (by decide) hi2
    have hM : 0 ≤ i2.toInt ∧ i2.toInt ≤ 4 := by omega
    obtain ⟨jn, hj, -, hav0⟩ := own_shl (own_masked (by decide) (by decide) (by decide) hi3)
    rw [hj4] at hav0
    have DK : Dy (FP.l2d j1) j1.toInt 0 := Dy.l2d (by omega)
    have DA : Dy (FP.l2d j4) ((2 ^ jn : Nat) : Int) 0 := (Dy.l2d (by rw [hav0]; have := own_p10 hj; omega)).cast hav0 rfl
    have DM : Dy (FP.dmul (FP.i2d i2) (4598175219545276416 : UInt64)) i2.toInt 2 := ((Dy.i2d i2).mul own_q4 (by omega) (by decide)).cast (by omega) rfl
    refine R.newO X0 hx hZ hown w_2 w_3 w_4 e0 (hb hby at_30) (pc' := 33) rfl (by decide) (by decide) ?_; intro T5 h5 b5 g5 X5 e5 E5 A5 D5
    have g_b5 : n0 ≤ b5 := Nat.le_trans Z0 (Nat.le_of_eq g5.symm)
    have sz_b5 : h0.size ≤ b5 := Nat.le_trans K0.1 (Nat.le_of_eq g5.symm)
    have K5 : Keep h0 h5 [] := K0.ext E5
    have Z5 : n0 ≤ h5.size := Nat.le_trans Z0 E5.1
    have E_b5 := A5
    have F_k1_b5 : Fld Z h5 b5 "com/example/maat/maat/model/Saturation" "k1" "D" (.double (0 : UInt64)) := D5 (Or.inr w_22) (ty := .double) (by decide)
    have F_b_b5 : Fld Z h5 b5 "com/example/maat/maat/model/Saturation" "b" "D" (.double (0 : UInt64)) := D5 (Or.inr w_24) (ty := .double) (by decide)
    refine R.dup X5 hx (hb hby at_33) rfl (pc' := 34) rfl ?_
    refine R.lload X5 hx (hb hby at_34) rfl (pc' := 36) rfl ?_
    refine R.l2d X5 hx (hb hby at_36) (pc' := 37) rfl ?_
    refine R.iload X5 hx (hb hby at_37) rfl (pc' := 39) rfl ?_
    refine R.i2d X5 hx (hb hby at_39) (pc' := 40) rfl ?_
    refine R.ldc2D X5 hx hZ hown w_5 (hb hby at_40) (pc' := 43) rfl ?_
    refine R.dmul X5 hx (hb hby at_43) (DM.nn : NoNaN64 (FP.dmul (FP.i2d i2) (4598175219545276416 : UInt64))) (pc' := 44) rfl ?_
    refine R.special X5 hx hZ (y := mY0) rfl hown w_6 w_7 w_4 w_8 (by decide) e5 (rm1 l Z aZ hw [] b5 (FP.l2d j1) (FP.dmul (FP.i2d i2) (4598175219545276416 : UInt64)) j1.toInt i2.toInt h5 n0 Z5 E_b5 F_k1_b5 F_b_b5 g_b5 (DK) (DM) (hK.1) (hM)) (by decide) (W := 1) (Nat.le_of_eq rfl) (by decide) (by rw [hml]; rfl) (lenOf pd_1 rfl) rfl (hb hby at_44) (pc' := 47) rfl (by decide) (by decide) ?_; intro v6 T6 L6 X6 hQ6
    obtain ⟨rfl, N6q, Kc6, P6_0, P6_1, P6_2⟩ := hQ6
    have N6 := Fr.app N0 N6q
    generalize e6 : T6.heap = h6 at Kc6 P6_0 P6_1 P6_2
    have K6 : Keep h0 h6 [] := K5.trans Kc6 ((allS (Or.inr sz_b5) all0))
    have Z6 : n0 ≤ h6.size := Nat.le_trans Z5 Kc6.1
    have E_b5 : Exa Z h6 b5 "com/example/maat/maat/model/Saturation" := P6_0
    have F_k1_b5 : Fld Z h6 b5 "com/example/maat/maat/model/Saturation" "k1" "D" (.double (FP.l2d j1)) := P6_1
    have F_b_b5 : Fld Z h6 b5 "com/example/maat/maat/model/Saturation" "b" "D" (.double (FP.dmul (FP.i2d i2) (4598175219545276416 : UInt64))) := P6_2
    refine R.astore X6 hx (hb hby at_47) rfl (L' := #[.val (.int p0), .val (.int p1), .val (.int p2), .val (.int p3), .val (.long j1), .second, .val (.int i2), .val (.int i3), .val (.long j4), .second, .val (.ref b5), .unset, .unset, .unset, .unset, .unset, .unset, .unset, .unset]) rfl (pc' := 49) rfl ?_
    refine R.aload X6 hx (hb hby at_49) rfl rfl (pc' := 51) rfl ?_
    refine R.iloadN X6 hx (hb hby at_51) rfl (pc' := 52) rfl ?_
    refine R.lload X6 hx (hb hby at_52) rfl (pc' := 54) rfl ?_
    refine R.l2d X6 hx (hb hby at_54) (pc' := 55) rfl ?_
    refine R.virtual X6 hx hZ (y := mY1) (z := mY1) hown w_25 w_26 (notFace_of_selects (args := #[]) (mvT hZ w_28)) w_28 w_27 w_4 w_29 (by decide) e6 E_b5 (rm5 l Z aZ hw [] b5 p2 (FP.l2d j4) (FP.l2d j1) (FP.dmul (FP.i2d i2) (4598175219545276416 : UInt64)) h6 n0 Z6 F_k1_b5 F_b_b5 ((own_k0 DM hM).nn) ((own_k1 DM hM).nn) ((own_k2 DM hM DA hj).nn) ((own_k3 DM hM DA hj).nn) ((own_k4 DK hK DM hM DA hj).nn)) (by decide) (W := 0) (Nat.le_of_eq rfl) (by decide) (by rw [hml]; rfl) (lenOf pd_2 rfl) rfl (hb hby at_55) (pc' := 58) rfl (by decide) (by decide) ?_; intro v7 T7 L7 X7 hQ7
    obtain ⟨rfl, N7q, e7⟩ := hQ7
    have N7 := Fr.app N6 N7q
    show Rn p e below (T7.setTop (mkF m 58 #[.val (.int p0), .val (.int p1), .val (.int p2), .val (.int p3), .val (.long j1), .second, .val (.int i2), .val (.int i3), .val (.long j4), .second, .val (.ref b5), .unset, .unset, .unset, .unset, .unset, .unset, .unset, .unset] [(.double (FP.dmul (FP.l2d j1) (FP.dadd (FP.dsub FP.dconst1 (FP.dmul (FP.i2d i2) (4598175219545276416 : UInt64))) (FP.ddiv (FP.dmul (FP.dmul (FP.i2d i2) (4598175219545276416 : UInt64)) (FP.i2d p2)) (FP.l2d j4)))))])) G
    generalize hr8 : (FP.dmul (FP.l2d j1) (FP.dadd (FP.dsub FP.dconst1 (FP.dmul (FP.i2d i2) (4598175219545276416 : UInt64))) (FP.ddiv (FP.dmul (FP.dmul (FP.i2d i2) (4598175219545276416 : UInt64)) (FP.i2d p2)) (FP.l2d j4)))) = r8
    refine R.dstore X7 hx (hb hby at_58) (L' := #[.val (.int p0), .val (.int p1), .val (.int p2), .val (.int p3), .val (.long j1), .second, .val (.int i2), .val (.int i3), .val (.long j4), .second, .val (.ref b5), .val (.double r8), .second, .unset, .unset, .unset, .unset, .unset, .unset]) rfl (pc' := 60) rfl ?_
    refine R.iconst X7 hx (hb hby at_60) (v := (4 : Int32)) (by decide) (pc' := 61) rfl ?_
    refine R.iload X7 hx (hb hby at_61) rfl (pc' := 63) rfl ?_
    refine R.isub X7 hx (hb hby at_63) rfl (pc' := 64) rfl ?_
    refine R.i2l X7 hx (hb hby at_64) (pc' := 65) rfl ?_
    refine R.lload X7 hx (hb hby at_65) rfl (pc' := 67) rfl ?_
    refine R.lmul X7 hx (hb hby at_67) rfl (pc' := 68) rfl ?_
    refine R.iload X7 hx (hb hby at_68) rfl (pc' := 70) rfl ?_
    refine R.i2l X7 hx (hb hby at_70) (pc' := 71) rfl ?_
    refine R.iloadN X7 hx (hb hby at_71) rfl (pc' := 72) rfl ?_
    refine R.i2l X7 hx (hb hby at_72) (pc' := 73) rfl ?_
    refine R.lmul X7 hx (hb hby at_73) rfl (pc' := 74) rfl ?_
    refine R.ladd X7 hx (hb hby at_74) rfl (pc' := 75) rfl ?_
    show Rn p e below (T7.setTop (mkF m 75 #[.val (.int p0), .val (.int p1), .val (.int p2), .val (.int p3), .val (.long j1), .second, .val (.int i2), .val (.int i3), .val (.long j4), .second, .val (.ref b5), .val (.double r8), .second, .unset, .unset, .unset, .unset, .unset, .unset] [(.long (((((4 : Int32) - i2).toInt64) * j4) + ((i2.toInt64) * (p2.toInt64))))])) G
    generalize hj9 : (((((4 : Int32) - i2).toInt64) * j4) + ((i2.toInt64) * (p2.toInt64))) = j9
    refine R.lstore X7 hx (hb hby at_75) (L' := #[.val (.int p0), .val (.int p1), .val (.int p2), .val (.int p3), .val (.long j1), .second, .val (.int i2), .val (.int i3), .val (.long j4), .second, .val (.ref b5), .val (.double r8), .second, .val (.long j9), .second, .unset, .unset, .unset, .unset]) rfl (pc' := 77) rfl ?_
    refine R.lload X7 hx (hb hby at_77) rfl (pc' := 79) rfl ?_
    refine R.lload X7 hx (hb hby at_79) rfl (pc' := 81) rfl ?_
    refine R.lmul X7 hx (hb hby at_81) rfl (pc' := 82) rfl ?_
    show Rn p e below (T7.setTop (mkF m 82 #[.val (.int p0), .val (.int p1), .val (.int p2), .val (.int p3), .val (.long j1), .second, .val (.int i2), .val (.int i3), .val (.long j4), .second, .val (.ref b5), .val (.double r8), .second, .val (.long j9), .second, .unset, .unset, .unset, .unset] [(.long (j1 * j9))])) G
    generalize hj10 : (j1 * j9) = j10
    refine R.lstore X7 hx (hb hby at_82) (L' := #[.val (.int p0), .val (.int p1), .val (.int p2), .val (.int p3), .val (.long j1), .second, .val (.int i2), .val (.int i3), .val (.long j4), .second, .val (.ref b5), .val (.double r8), .second, .val (.long j9), .second, .val (.long j10), .second, .unset, .unset]) rfl (pc' := 84) rfl ?_
    refine R.lload X7 hx (hb hby at_84) rfl (pc' := 86) rfl ?_
    refine R.l2d X7 hx (hb hby at_86) (pc' := 87) rfl ?_
    refine R.ldc2J X7 hx hZ hown w_30 (hb hby at_87) (pc' := 90) rfl ?_
    refine R.lload X7 hx (hb hby at_90) rfl (pc' := 92) rfl ?_
    refine R.lmul X7 hx (hb hby at_92) rfl (pc' := 93) rfl ?_
    refine R.l2d X7 hx (hb hby at_93) (pc' := 94) rfl ?_
    have own_ee := own_e (K := j1.toInt) (M := i2.toInt) (dl := p2) (own_prodL hK hM hj (own_numL hM hj hav0 hj9) hj10) (own_fourL hj hav0) hK hM hj
    refine R.ddiv X7 hx (hb hby at_94) (own_ee.nn : NoNaN64 (FP.ddiv (FP.l2d j10) (FP.l2d ((4 : Int64) * j4)))) (pc' := 95) rfl ?_
    show Rn p e below (T7.setTop (mkF m 95 #[.val (.int p0), .val (.int p1), .val (.int p2), .val (.int p3), .val (.long j1), .second, .val (.int i2), .val (.int i3), .val (.long j4), .second, .val (.ref b5), .val (.double r8), .second, .val (.long j9), .second, .val (.long j10), .second, .unset, .unset] [(.double (FP.ddiv (FP.l2d j10) (FP.l2d ((4 : Int64) * j4))))])) G
    generalize hr11 : (FP.ddiv (FP.l2d j10) (FP.l2d ((4 : Int64) * j4))) = r11
    refine R.dstore X7 hx (hb hby at_95) (L' := #[.val (.int p0), .val (.int p1), .val (.int p2), .val (.int p3), .val (.long j1), .second, .val (.int i2), .val (.int i3), .val (.long j4), .second, .val (.ref b5), .val (.double r8), .second, .val (.long j9), .second, .val (.long j10), .second, .val (.double r11), .second]) rfl (pc' := 97) rfl ?_
    have DG : Dy r8 (j1.toInt * own_num i2.toInt p2 jn) (2 + jn) := hr8 ▸ own_k4 DK hK DM hM DA hj
    have DE : Dy r11 (j1.toInt * own_num i2.toInt p2 jn) (2 + jn) := hr11 ▸ own_ee
    refine R.dload X7 hx (hb hby at_97) rfl (pc' := 99) rfl ?_
    refine R.dload X7 hx (hb hby at_99) rfl (pc' := 101) rfl ?_
    refine R.dcmp X7 hx (hb hby at_101) (DG.cmp DE _ : cmpValue (FP.dcmp r8 r11) .l = (own_ci (j1.toInt * own_num i2.toInt p2 jn) (j1.toInt * own_num i2.toInt p2 jn))) (pc' := 102) rfl ?_
    refine R.ifNo X7 hx (hb hby at_102) (teq (own_ci_eq.mpr rfl : (own_ci (j1.toInt * own_num i2.toInt p2 jn) (j1.toInt * own_num i2.toInt p2 jn)) = (0 : Int32))).2 (pc' := 105) rfl ?_
    refine R.iconst X7 hx (hb hby at_105) (v := (1 : Int32)) (by decide) (pc' := 106) rfl ?_
    refine R.goto X7 hx (hb hby at_106) (by decide) (pc' := 110) (by decide) ?_
    rw [← hG]
    exact Rn.ret X7 (BodyLoose.notSynchronized Bd) (v := some (.int (1 : Int32))) (fun h => by rw [Bd.returns] at h; cases h) (Q := Q0 Z p0 p1 p2 p3 h0 n0) e7 (fun fs hr => retN X7 hx (t := .boolean) Bd.returns (by simp) (hb hby at_110) hr) ⟨rfl, N7⟩ (by decide) (by decide)
  exact (Rn.st (fun t k => castTop (ef_0 m p0 p1 p2 p3) k) first_ : Rn p e below (s₁.setTop (entryFrame m #[(.int p0), (.int p1), (.int p2), (.int p3)] maxLocals)) (Fn0 Z p0 p1 p2 p3 h0 n0 s))
set_option maxRecDepth 65536 in
set_option maxHeartbeats 40000000 in
theorem comes_1 {Post : Tables → Env → Array Value → State → Outcome → State → Prop} (hpost : ∀ tb e args s v u, (limb_1_1.after args s (.returned v) u = true ∧ limb_1_2.after args s (.returned v) u = true ∧ True) → FrameEnd s (.returned v) u (Jvm.fieldLocs frame_1_writes args s ++ Jvm.arrayLocs frame_1_arrays args s ++ Jvm.staticLocs frame_1_statics s) 16 128 → Post tb e args s (.returned v) u) :
    ArmFor flags0 classFile x code maxLocals ret World_1 tables_1 room_1 Calls_1 rest_1 Pre_1 Post := by
  intro l hfl _ _ p e ha hc hk s m args below hf hA hF happ hP
  obtain ⟨hcalls, hrest, hpre⟩ := hP
  obtain ⟨-, -, -, hnamed, -, -, -, hat⟩ := (Spec.applies_iff hf).mp happ
  obtain ⟨hg, hn⟩ := and_e (Cond.before_iff.mp (show (Jvm.Cond.and given_1 narrow_1).before args s = true from hpre))
  obtain ⟨g1, g2⟩ := and_e hg
  obtain ⟨g3, g4⟩ := and_e g2
  obtain ⟨g5, g6⟩ := and_e g4
  obtain ⟨g7, g8⟩ := and_e g6
  obtain ⟨w0, w1, w2, w3, rfl⟩ : ∃ w0 w1 w2 w3 : Value, args = #[w0, w1, w2, w3] := by
    have hs : args.size = 4 := by simpa [Cond.value, given_1] using g1
    obtain ⟨L⟩ := args
    match L, hs with
    | [w0, w1, w2, w3], _ => exact ⟨w0, w1, w2, w3, rfl⟩
  have hw := fun d (hd : d ∈ tables_1) => atoms_spec (ws := Jvm.Cond.code x code maxLocals ret :: tables_1) hat d (List.mem_cons_of_mem _ hd)
  obtain ⟨i0, ei0⟩ := is_v g3
  obtain rfl : w0 = (.int i0) := Option.some.inj ei0
  obtain ⟨i1, ei1⟩ := is_v g5
  obtain rfl : w1 = (.int i1) := Option.some.inj ei1
  obtain ⟨i2, ei2⟩ := is_v g7
  obtain rfl : w2 = (.int i2) := Option.some.inj ei2
  obtain ⟨i3, ei3⟩ := is_v g8
  obtain rfl : w3 = (.int i3) := Option.some.inj ei3
  obtain ⟨n, o, h1, h2, h3, _, L, rfl, ⟨rfl, N⟩, hq⟩ := rm0 l s _ hw tables_1 i0 i1 i2 i3 s.heap s.heap.size (Nat.le_refl _) p e ha hc hk s m _ below hf ((Spec.applies_iff_loose hf).mp happ).1 ⟨rfl, State.Warmed39.refl s, rfl⟩ trivial
  refine ⟨n, _, h1, h2, h3, hpost _ _ _ _ _ _ ⟨Cond.after_iff.mpr rfl, Cond.after_iff.mpr (eq_i res_at (Term.int_eval (1)) rfl), trivial⟩ ⟨hq.1, hq.2.1, (hq.2.2.sift fun y hy => Or.inr (N y hy)).mono (by decide) (by decide)⟩⟩
theorem main_1_1 : Claimed_1_1 := comes_1 fun _ _ _ _ _ _ h hF => ⟨h.1, hF⟩
theorem main_1_2 : Claimed_1_2 := comes_1 fun _ _ _ _ _ _ h hF => ⟨h.2.1, hF⟩
end Jvm.Pilot.@@N@@
namespace Jvm.Pilot.@@N@@
open Jvm Jvm.ClassFile Sem Op Lib Jvm.Free Jvm.Stand Jvm.Pilot.@@N@@.Jvm.D
/-! MADE BY PROGRAM (witnessworld.py) out of the Statement's table words and the real class files: 15 classes; the members and pool entries that the words name. The judged class is class 1, her method 1. -/
namespace start1
open Jvm.ClassFile
def u (s : String) : CpInfo := .utf8 (stringToUtf16 s)
/-- a pool by its gaps: so many unusable entries, then the entry; so many at the end -/
def gap : Nat → List CpInfo → List CpInfo
  | 0, r => r
  | n + 1, r => .unusable :: gap n r
def poolList (es : List (Nat × CpInfo)) (last : Nat) : List CpInfo := es.foldr (fun e r => gap e.1 (e.2 :: r)) (gap last [])
def pool (es : List (Nat × CpInfo)) (last : Nat) : Array CpInfo := ⟨poolList es last⟩
def fileOf (pool : Array CpInfo) (this : Nat) (attrs : Array Attribute := #[]) (ms : Array MethodInfo := #[]) (fl : Nat := 33) (sup : Nat := 0) (ifs : Array Nat := #[]) (fds : Array FieldInfo := #[]) : ClassFile where
  minorVersion := 0
  majorVersion := 65
  constantPool := pool
  accessFlags := fl
  thisClass := this
  superClass := sup
  interfaces := ifs
  fields := fds
  methods := ms
  attributes := attrs
def plain (name : String) (sup : Option ClassId) : Class where
  name := name
  kind := .ordinary
  loader := none
  accessFlags := 33
  super := sup
  interfaces := #[]
  cf := none
  fields := #[]
  methods := #[]
  instanceTypes := #[]
  staticTypes := #[]
  resolved := #[]
  callSites := []
  init := .initialized
  statics := none
  mirror := none

def pool0 : Array CpInfo := pool [(5, u "<init>"), (0, u "()V"), (1, .class_ 10), (1, u "java/lang/Object")] 113

def k0c0 : Code := { maxStack := 0, maxLocals := 1, code := object_method_1_code, exceptionTable := #[], attributes := #[] }
def k0m0 : Method := { name := "<init>", desc := "()V", sig := { parameters := [], returnType := none }, accessFlags := 1, code := some k0c0 }
/-- java/lang/Object -/
def k0 : Class := { plain "java/lang/Object" none with
  accessFlags := 33
  interfaces := #[]
  cf := some (fileOf pool0 8 #[] #[{ accessFlags := 1, nameIndex := 5, descriptorIndex := 6, attributes := #[] }] 33 0 #[] #[])
  fields := #[]
  methods := #[k0m0]
  instanceTypes := #[]
  staticTypes := #[]
  resolved := Array.replicate 124 none
  statics := none }

def pool1 : Array CpInfo := pool [(2, .class_ 4), (1, u "java/lang/Object"), (0, u "<init>"), (0, u "()V"), (0, .integer 524287), (0, .integer 2147483647), (0, .class_ 10), (0, u "com/example/maat/maat/model/Saturation"), (0, .double 4598175219545276416), (1, .methodref 9 14), (0, .nameAndType 5 15), (0, u "(DD)V"), (0, .methodref 9 17), (0, .nameAndType 18 19), (0, u "k"), (0, u "(ID)D"), (0, .long 4), (1, .class_ 23), (0, u "com/example/maat/maat/model/SaturationKPinLaw"), (2, u "law"), (0, u "(IIII)Z")] 3

def k1m0 : Method := { name := "<init>", desc := "()V", sig := { parameters := [], returnType := none }, accessFlags := 1, code := none }
def k1c1 : Code := { maxStack := 8, maxLocals := 19, code := code, exceptionTable := #[], attributes := #[] }
def k1m1 : Method := { name := "law", desc := "(IIII)Z", sig := { parameters := [.int, .int, .int, .int], returnType := some .boolean }, accessFlags := 9, code := some k1c1 }
/-- com/example/maat/maat/model/SaturationKPinLaw -/
def k1 : Class := { plain "com/example/maat/maat/model/SaturationKPinLaw" (some 0) with
  accessFlags := 49
  interfaces := #[]
  cf := some (fileOf pool1 22 #[] #[{ accessFlags := 1, nameIndex := 5, descriptorIndex := 6, attributes := #[] }, { accessFlags := 9, nameIndex := 26, descriptorIndex := 27, attributes := #[] }] 49 2 #[] #[])
  fields := #[]
  methods := #[k1m0, k1m1]
  instanceTypes := #[]
  staticTypes := #[]
  resolved := Array.replicate 31 none
  statics := none }

def pool2 : Array CpInfo := pool [(1, .methodref 2 3), (0, .class_ 4), (0, .nameAndType 5 6), (0, u "java/lang/Object"), (0, u "<init>"), (0, u "()V"), (0, .methodref 8 9), (0, .class_ 10), (0, .nameAndType 11 12), (0, u "java/lang/Double"), (0, u "isFinite"), (0, u "(D)Z"), (10, .fieldref 24 25), (0, .class_ 26), (0, .nameAndType 27 28), (0, u "com/example/maat/maat/model/Saturation"), (0, u "k1"), (0, u "D"), (0, .fieldref 24 30), (0, .nameAndType 31 28), (0, u "b"), (2, u "k"), (0, u "(ID)D"), (0, u "(DD)V")] 24

def k2c0 : Code := { maxStack := 4, maxLocals := 5, code := prog_21_method_1_code, exceptionTable := #[], attributes := #[] }
def k2m0 : Method := { name := "<init>", desc := "(DD)V", sig := { parameters := [.double, .double], returnType := none }, accessFlags := 0, code := some k2c0 }
def k2c1 : Code := { maxStack := 8, maxLocals := 4, code := prog_21_method_2_code, exceptionTable := #[], attributes := #[] }
def k2m1 : Method := { name := "k", desc := "(ID)D", sig := { parameters := [.int, .double], returnType := some .double }, accessFlags := 0, code := some k2c1 }
/-- com/example/maat/maat/model/Saturation -/
def k2 : Class := { plain "com/example/maat/maat/model/Saturation" (some 0) with
  accessFlags := 48
  interfaces := #[]
  cf := some (fileOf pool2 24 #[] #[{ accessFlags := 0, nameIndex := 5, descriptorIndex := 36, attributes := #[] }, { accessFlags := 0, nameIndex := 34, descriptorIndex := 35, attributes := #[] }] 48 2 #[] #[{ accessFlags := 18, nameIndex := 27, descriptorIndex := 28, attributes := #[] }, { accessFlags := 18, nameIndex := 31, descriptorIndex := 28, attributes := #[] }])
  fields := #[{ name := "k1", type := .double, accessFlags := 18, slot := 0, constantValue := 0 }, { name := "b", type := .double, accessFlags := 18, slot := 1, constantValue := 0 }]
  methods := #[k2m0, k2m1]
  instanceTypes := #[.double, .double]
  staticTypes := #[]
  resolved := Array.replicate 61 none
  statics := none }

def pool3 : Array CpInfo := pool [(1, .class_ 2), (0, u "java/io/Serializable"), (0, .class_ 4), (0, u "java/lang/Object")] 2

/-- java/io/Serializable -/
def k3 : Class := { plain "java/io/Serializable" (some 0) with
  accessFlags := 1537
  interfaces := #[]
  cf := some (fileOf pool3 1 #[] #[] 1537 3 #[] #[])
  fields := #[]
  methods := #[]
  instanceTypes := #[]
  staticTypes := #[]
  resolved := Array.replicate 7 none
  statics := none }

def pool4 : Array CpInfo := pool [(2, .class_ 4), (1, u "java/lang/Object"), (0, u "<init>"), (0, u "()V"), (1, .class_ 10), (1, u "java/lang/Number"), (2, .class_ 14), (0, u "java/io/Serializable"), (0, u "serialVersionUID"), (0, u "J")] 20

def k4m0 : Method := { name := "<init>", desc := "()V", sig := { parameters := [], returnType := none }, accessFlags := 1, code := none }
/-- java/lang/Number -/
def k4 : Class := { plain "java/lang/Number" (some 0) with
  accessFlags := 1057
  interfaces := #[3]
  cf := some (fileOf pool4 8 #[] #[{ accessFlags := 1, nameIndex := 5, descriptorIndex := 6, attributes := #[] }] 1057 2 #[13] #[{ accessFlags := 26, nameIndex := 15, descriptorIndex := 16, attributes := #[] }])
  fields := #[{ name := "serialVersionUID", type := .long, accessFlags := 26, slot := 0, constantValue := 0 }]
  methods := #[k4m0]
  instanceTypes := #[]
  staticTypes := #[.long]
  resolved := Array.replicate 37 none
  statics := none }

def pool5 : Array CpInfo := pool [(1, .class_ 2), (0, u "java/lang/Comparable"), (0, .class_ 4), (0, u "java/lang/Object")] 7

/-- java/lang/Comparable -/
def k5 : Class := { plain "java/lang/Comparable" (some 0) with
  accessFlags := 1537
  interfaces := #[]
  cf := some (fileOf pool5 1 #[] #[] 1537 3 #[] #[])
  fields := #[]
  methods := #[]
  instanceTypes := #[]
  staticTypes := #[]
  resolved := Array.replicate 12 none
  statics := none }

def pool6 : Array CpInfo := pool [(1, .class_ 2), (0, u "java/lang/constant/Constable"), (0, .class_ 4), (0, u "java/lang/Object")] 6

/-- java/lang/constant/Constable -/
def k6 : Class := { plain "java/lang/constant/Constable" (some 0) with
  accessFlags := 1537
  interfaces := #[]
  cf := some (fileOf pool6 1 #[] #[] 1537 3 #[] #[])
  fields := #[]
  methods := #[]
  instanceTypes := #[]
  staticTypes := #[]
  resolved := Array.replicate 11 none
  statics := none }

def pool7 : Array CpInfo := pool [(1, .class_ 2), (0, u "java/lang/constant/ConstantDesc"), (0, .class_ 4), (0, u "java/lang/Object")] 32

/-- java/lang/constant/ConstantDesc -/
def k7 : Class := { plain "java/lang/constant/ConstantDesc" (some 0) with
  accessFlags := 1537
  interfaces := #[]
  cf := some (fileOf pool7 1 #[] #[] 1537 3 #[] #[])
  fields := #[]
  methods := #[]
  instanceTypes := #[]
  staticTypes := #[]
  resolved := Array.replicate 37 none
  statics := none }

def pool8 : Array CpInfo := pool [(1, .class_ 2), (0, u "java/lang/Double"), (10, u "isFinite"), (0, u "(D)Z"), (8, .class_ 25), (1, u "java/lang/Math"), (12, .methodref 23 39), (0, .nameAndType 40 41), (0, u "abs"), (0, u "(D)D"), (69, .double 9218868437227405311), (2, .class_ 116), (1, u "java/lang/Number"), (3, u "value"), (0, u "D"), (51, u "TYPE"), (0, u "Ljava/lang/Class;"), (0, .class_ 176), (0, u "java/lang/Comparable"), (0, .class_ 178), (0, u "java/lang/constant/Constable"), (0, .class_ 180), (0, u "java/lang/constant/ConstantDesc"), (0, u "POSITIVE_INFINITY"), (3, u "NEGATIVE_INFINITY"), (2, u "NaN"), (2, u "MAX_VALUE"), (0, u "MIN_NORMAL"), (0, u "MIN_VALUE"), (2, u "SIZE"), (0, u "I"), (1, u "PRECISION"), (1, u "MAX_EXPONENT"), (1, u "MIN_EXPONENT"), (1, u "BYTES"), (3, u "serialVersionUID"), (0, u "J")] 79

def k8c0 : Code := { maxStack := 4, maxLocals := 2, code := jdk_117_method_8_code, exceptionTable := #[], attributes := #[] }
def k8m0 : Method := { name := "isFinite", desc := "(D)Z", sig := { parameters := [.double], returnType := some .boolean }, accessFlags := 9, code := some k8c0 }
/-- java/lang/Double -/
def k8 : Class := { plain "java/lang/Double" (some 4) with
  accessFlags := 49
  interfaces := #[5, 6, 7]
  cf := some (fileOf pool8 1 #[] #[{ accessFlags := 9, nameIndex := 13, descriptorIndex := 14, attributes := #[] }] 49 114 #[175, 177, 179] #[{ accessFlags := 25, nameIndex := 181, descriptorIndex := 121, attributes := #[] }, { accessFlags := 25, nameIndex := 185, descriptorIndex := 121, attributes := #[] }, { accessFlags := 25, nameIndex := 188, descriptorIndex := 121, attributes := #[] }, { accessFlags := 25, nameIndex := 191, descriptorIndex := 121, attributes := #[] }, { accessFlags := 25, nameIndex := 192, descriptorIndex := 121, attributes := #[] }, { accessFlags := 25, nameIndex := 193, descriptorIndex := 121, attributes := #[] }, { accessFlags := 25, nameIndex := 196, descriptorIndex := 197, attributes := #[] }, { accessFlags := 25, nameIndex := 199, descriptorIndex := 197, attributes := #[] }, { accessFlags := 25, nameIndex := 201, descriptorIndex := 197, attributes := #[] }, { accessFlags := 25, nameIndex := 203, descriptorIndex := 197, attributes := #[] }, { accessFlags := 25, nameIndex := 205, descriptorIndex := 197, attributes := #[] }, { accessFlags := 25, nameIndex := 173, descriptorIndex := 174, attributes := #[] }, { accessFlags := 18, nameIndex := 120, descriptorIndex := 121, attributes := #[] }, { accessFlags := 26, nameIndex := 209, descriptorIndex := 210, attributes := #[] }])
  fields := #[{ name := "POSITIVE_INFINITY", type := .double, accessFlags := 25, slot := 0, constantValue := 0 }, { name := "NEGATIVE_INFINITY", type := .double, accessFlags := 25, slot := 1, constantValue := 0 }, { name := "NaN", type := .double, accessFlags := 25, slot := 2, constantValue := 0 }, { name := "MAX_VALUE", type := .double, accessFlags := 25, slot := 3, constantValue := 0 }, { name := "MIN_NORMAL", type := .double, accessFlags := 25, slot := 4, constantValue := 0 }, { name := "MIN_VALUE", type := .double, accessFlags := 25, slot := 5, constantValue := 0 }, { name := "SIZE", type := .int, accessFlags := 25, slot := 6, constantValue := 0 }, { name := "PRECISION", type := .int, accessFlags := 25, slot := 7, constantValue := 0 }, { name := "MAX_EXPONENT", type := .int, accessFlags := 25, slot := 8, constantValue := 0 }, { name := "MIN_EXPONENT", type := .int, accessFlags := 25, slot := 9, constantValue := 0 }, { name := "BYTES", type := .int, accessFlags := 25, slot := 10, constantValue := 0 }, { name := "TYPE", type := (.object "java/lang/Class"), accessFlags := 25, slot := 11, constantValue := 0 }, { name := "value", type := .double, accessFlags := 18, slot := 0, constantValue := 0 }, { name := "serialVersionUID", type := .long, accessFlags := 26, slot := 12, constantValue := 0 }]
  methods := #[k8m0]
  instanceTypes := #[.double]
  staticTypes := #[.double, .double, .double, .double, .double, .double, .int, .int, .int, .int, .int, (.object "java/lang/Class"), .long]
  resolved := Array.replicate 290 none
  statics := none }

def pool9 : Array CpInfo := pool [(1, .class_ 2), (0, u "java/lang/Math"), (1, .class_ 6), (1, u "java/lang/Object"), (0, u "<init>"), (0, u "()V"), (5, u "(D)D"), (83, .class_ 100), (1, u "java/lang/Math$RandomNumberGeneratorHolder"), (23, u "abs"), (47, u "negativeZeroFloatBits"), (0, u "J"), (2, u "negativeZeroDoubleBits"), (68, u "$assertionsDisabled"), (0, u "Z"), (91, u "twoToTheDoubleScaleDown"), (0, u "D"), (4, u "twoToTheDoubleScaleUp"), (9, u "E"), (3, u "PI"), (2, u "TAU"), (2, u "DEGREES_TO_RADIANS"), (0, u "RADIANS_TO_DEGREES")] 94

def k9m0 : Method := { name := "<init>", desc := "()V", sig := { parameters := [], returnType := none }, accessFlags := 2, code := none }
def k9c1 : Code := { maxStack := 4, maxLocals := 2, code := jdk_29_method_64_code, exceptionTable := #[], attributes := #[] }
def k9m1 : Method := { name := "abs", desc := "(D)D", sig := { parameters := [.double], returnType := some .double }, accessFlags := 9, code := some k9c1 }
/-- java/lang/Math -/
def k9 : Class := { plain "java/lang/Math" (some 0) with
  accessFlags := 49
  interfaces := #[]
  cf := some (fileOf pool9 1 #[.nestMembers #[98]] #[{ accessFlags := 2, nameIndex := 7, descriptorIndex := 8, attributes := #[] }, { accessFlags := 9, nameIndex := 124, descriptorIndex := 14, attributes := #[] }] 49 4 #[] #[{ accessFlags := 25, nameIndex := 354, descriptorIndex := 339, attributes := #[] }, { accessFlags := 25, nameIndex := 358, descriptorIndex := 339, attributes := #[] }, { accessFlags := 25, nameIndex := 361, descriptorIndex := 339, attributes := #[] }, { accessFlags := 26, nameIndex := 364, descriptorIndex := 339, attributes := #[] }, { accessFlags := 26, nameIndex := 365, descriptorIndex := 339, attributes := #[] }, { accessFlags := 26, nameIndex := 172, descriptorIndex := 173, attributes := #[] }, { accessFlags := 26, nameIndex := 176, descriptorIndex := 173, attributes := #[] }, { accessFlags := 8, nameIndex := 344, descriptorIndex := 339, attributes := #[] }, { accessFlags := 8, nameIndex := 338, descriptorIndex := 339, attributes := #[] }, { accessFlags := 4120, nameIndex := 245, descriptorIndex := 246, attributes := #[] }])
  fields := #[{ name := "E", type := .double, accessFlags := 25, slot := 0, constantValue := 0 }, { name := "PI", type := .double, accessFlags := 25, slot := 1, constantValue := 0 }, { name := "TAU", type := .double, accessFlags := 25, slot := 2, constantValue := 0 }, { name := "DEGREES_TO_RADIANS", type := .double, accessFlags := 26, slot := 3, constantValue := 0 }, { name := "RADIANS_TO_DEGREES", type := .double, accessFlags := 26, slot := 4, constantValue := 0 }, { name := "negativeZeroFloatBits", type := .long, accessFlags := 26, slot := 5, constantValue := 0 }, { name := "negativeZeroDoubleBits", type := .long, accessFlags := 26, slot := 6, constantValue := 0 }, { name := "twoToTheDoubleScaleUp", type := .double, accessFlags := 8, slot := 7, constantValue := 0 }, { name := "twoToTheDoubleScaleDown", type := .double, accessFlags := 8, slot := 8, constantValue := 0 }, { name := "$assertionsDisabled", type := .boolean, accessFlags := 4120, slot := 9, constantValue := 0 }]
  methods := #[k9m0, k9m1]
  instanceTypes := #[]
  staticTypes := #[.double, .double, .double, .double, .double, .long, .long, .double, .double, .boolean]
  resolved := Array.replicate 460 none
  statics := none }

def pool10 : Array CpInfo := pool [(1, u "java/lang/Cloneable"), (0, .class_ 1), (0, u "java/lang/Object"), (0, .class_ 3)] 3

/-- java/lang/Cloneable -/
def k10 : Class := { plain "java/lang/Cloneable" (some 0) with
  accessFlags := 1537
  interfaces := #[]
  cf := some (fileOf pool10 2 #[] #[] 1537 4 #[] #[])
  fields := #[]
  methods := #[]
  instanceTypes := #[]
  staticTypes := #[]
  resolved := Array.replicate 8 none
  statics := none }

/-- the primitive byte -/
def k11 : Class := { plain "byte" none with kind := .primitive 'B', accessFlags := 0x411 }
/-- [B -/
def k12 : Class := { plain "[B" (some 0) with kind := .array 11 .byte, interfaces := #[10, 3], accessFlags := 1041 }

/-- the primitive int -/
def k13 : Class := { plain "int" none with kind := .primitive 'I', accessFlags := 0x411 }
/-- [I -/
def k14 : Class := { plain "[I" (some 0) with kind := .array 13 .int, interfaces := #[10, 3], accessFlags := 1041 }

def heap : Heap := #[]
def classes : Array Class := #[k0, k1, k2, k3, k4, k5, k6, k7, k8, k9, k10, k11, k12, k13, k14]
def interned : List (Array UInt16 × Addr) := []
def slotsUsed : Nat := 0
def theMethod : MethodId := ⟨1, 1⟩
def args0 : Array Value := #[.int 5, .int 5, .int 5, .int 5]
def aboutOver (below : List Frame) : State where
  vm := { classes := classes, interned := interned.toArray }
  heap := heap
  slotsUsed := slotsUsed
  threads := #[{ frames := .invoking theMethod args0 :: below }]
def below0 : List Frame := [.native { method := ⟨0, 0⟩, args := #[] }]
def about1 : State := aboutOver below0
def p0 : Program := .bare "" "" ""
def e0 : Env := launch0.env 0 0 0
theorem w_frames : about1.frames = Frame.invoking theMethod args0 :: below0 := rfl
set_option maxRecDepth 65536 in
theorem w_args : argsFit about1.vm theMethod args0 = true := by decide +kernel
set_option maxRecDepth 65536 in
theorem w_heap : heapFits about1 = true := by decide +kernel
set_option maxRecDepth 65536 in
theorem w_runnable : about1.curStatus? = some .runnable := by decide +kernel
set_option maxRecDepth 65536 in
theorem w_alone : about1.alone = true := by decide +kernel
set_option maxRecDepth 65536 in
theorem w_named : about1.methodNamed? x = some theMethod := by decide +kernel
set_option maxRecDepth 65536 in
theorem w_hears : about1.hears theMethod below0 = true := by decide +kernel
set_option maxRecDepth 65536 in
theorem w_ripe : about1.ripe theMethod args0 below0 = true := by decide +kernel
theorem w_running : about1.status = .running := rfl
set_option maxRecDepth 65536 in
theorem w_room : about1.hasRoom e0.platform room_1 = true :=
  launch0.hasRoom_least _ room_1 (by decide +kernel) (by decide +kernel) (by decide +kernel) (by decide +kernel) (by decide +kernel) (by decide +kernel)
theorem allAtoms_all (ts : List Jvm.Cond) (a : Array Jvm.Value) (st : Jvm.State) : (allAtoms ts).before a st = ts.all (fun c => c.before a st) := by
  induction ts with
  | nil => rfl
  | cons c t ih =>
    show (Jvm.Cond.and c (allAtoms t)).before a st = _
    rw [Jvm.Cond.before_and, ih, List.all_cons]
def words1 : List Jvm.Cond := Jvm.Cond.code x code maxLocals ret :: tables_1
/-- a 'code' word, met by the world's own term for the bytes: nothing is compared byte by byte -/
theorem code_word {y : MethodName} {bytes : ByteArray} {mx : Nat} {rt : Option FieldType} {a : Array Value} {s : State} {m : MethodId} {meth : Method} {c : Code} (h1 : s.methodNamed? y = some m) (h2 : s.vm.method? m = some meth) (h3 : meth.code = some c) (h4 : c.code = bytes)
    (h5 : (c.maxLocals == mx && c.exceptionTable.isEmpty && decide (c.maxStack ≤ mostOperands) && decide (meth.sig.returnType = rt) && !meth.locks && decide (parseMethodDescriptor y.desc = some meth.sig)) = true) : (Jvm.Cond.code y bytes mx rt).before a s = true := by
  simp only [Bool.and_eq_true, beq_iff_eq, Bool.not_eq_true', decide_eq_true_eq] at h5
  obtain ⟨⟨⟨⟨⟨g1, g2⟩, g3⟩, g4⟩, g5⟩, g6⟩ := h5
  simp [Cond.before, Cond.holds, Cond.value, h1, h2, h3, h4, g1, g2, g3, g4, g5, g6]
def isCode : Jvm.Cond → Bool
  | .code _ _ _ _ => true
  | _ => false
theorem all_split {L : List Jvm.Cond} {P : Jvm.Cond → Bool} (h1 : L.all (fun c => isCode c || P c) = true) (h2 : ∀ c ∈ L.filter isCode, P c = true) : L.all P = true := by
  refine List.all_eq_true.mpr fun c hc => ?_
  have h := List.all_eq_true.mp h1 c hc
  rcases Bool.eq_false_or_eq_true (isCode c) with hi | hi
  · exact h2 c (List.mem_filter.mpr ⟨hc, hi⟩)
  · simpa [hi] using h
set_option maxRecDepth 65536 in
theorem w_c0 : (Jvm.Cond.code x code maxLocals ret).before args0 about1 = true := code_word (m := ⟨1, 1⟩) (meth := k1m1) (c := k1c1) (by decide +kernel) rfl rfl rfl (by decide +kernel)
set_option maxRecDepth 65536 in
theorem w_c1 : (Jvm.Cond.code ({ cls := "com/example/maat/maat/model/Saturation", name := "<init>", desc := "(DD)V" } : Jvm.MethodName) prog_21_method_1_code (5 : Nat) (Option.none : Option Jvm.ClassFile.FieldType)).before args0 about1 = true := code_word (m := ⟨2, 0⟩) (meth := k2m0) (c := k2c0) (by decide +kernel) rfl rfl rfl (by decide +kernel)
set_option maxRecDepth 65536 in
theorem w_c2 : (Jvm.Cond.code ({ cls := "java/lang/Object", name := "<init>", desc := "()V" } : Jvm.MethodName) object_method_1_code (1 : Nat) (Option.none : Option Jvm.ClassFile.FieldType)).before args0 about1 = true := code_word (m := ⟨0, 0⟩) (meth := k0m0) (c := k0c0) (by decide +kernel) rfl rfl rfl (by decide +kernel)
set_option maxRecDepth 65536 in
theorem w_c3 : (Jvm.Cond.code ({ cls := "java/lang/Double", name := "isFinite", desc := "(D)Z" } : Jvm.MethodName) jdk_117_method_8_code (2 : Nat) (Option.some Jvm.ClassFile.FieldType.boolean)).before args0 about1 = true := code_word (m := ⟨8, 0⟩) (meth := k8m0) (c := k8c0) (by decide +kernel) rfl rfl rfl (by decide +kernel)
set_option maxRecDepth 65536 in
theorem w_c4 : (Jvm.Cond.code ({ cls := "java/lang/Math", name := "abs", desc := "(D)D" } : Jvm.MethodName) jdk_29_method_64_code (2 : Nat) (Option.some Jvm.ClassFile.FieldType.double)).before args0 about1 = true := code_word (m := ⟨9, 1⟩) (meth := k9m1) (c := k9c1) (by decide +kernel) rfl rfl rfl (by decide +kernel)
set_option maxRecDepth 65536 in
theorem w_c5 : (Jvm.Cond.code ({ cls := "com/example/maat/maat/model/Saturation", name := "k", desc := "(ID)D" } : Jvm.MethodName) prog_21_method_2_code (4 : Nat) (Option.some Jvm.ClassFile.FieldType.double)).before args0 about1 = true := code_word (m := ⟨2, 1⟩) (meth := k2m1) (c := k2c1) (by decide +kernel) rfl rfl rfl (by decide +kernel)
def codes1 : List Jvm.Cond := [Jvm.Cond.code x code maxLocals ret, Jvm.Cond.code ({ cls := "com/example/maat/maat/model/Saturation", name := "<init>", desc := "(DD)V" } : Jvm.MethodName) prog_21_method_1_code (5 : Nat) (Option.none : Option Jvm.ClassFile.FieldType), Jvm.Cond.code ({ cls := "java/lang/Object", name := "<init>", desc := "()V" } : Jvm.MethodName) object_method_1_code (1 : Nat) (Option.none : Option Jvm.ClassFile.FieldType), Jvm.Cond.code ({ cls := "java/lang/Double", name := "isFinite", desc := "(D)Z" } : Jvm.MethodName) jdk_117_method_8_code (2 : Nat) (Option.some Jvm.ClassFile.FieldType.boolean), Jvm.Cond.code ({ cls := "java/lang/Math", name := "abs", desc := "(D)D" } : Jvm.MethodName) jdk_29_method_64_code (2 : Nat) (Option.some Jvm.ClassFile.FieldType.double), Jvm.Cond.code ({ cls := "com/example/maat/maat/model/Saturation", name := "k", desc := "(ID)D" } : Jvm.MethodName) prog_21_method_2_code (4 : Nat) (Option.some Jvm.ClassFile.FieldType.double)]
set_option maxRecDepth 65536 in
theorem codes_eq : words1.filter isCode = codes1 := rfl
theorem w_codes : ∀ c ∈ words1.filter isCode, c.before args0 about1 = true := by
  rw [codes_eq]
  intro c hc
  simp only [codes1, List.mem_cons, List.not_mem_nil, or_false] at hc
  rcases hc with rfl | rfl | rfl | rfl | rfl | rfl
  · exact w_c0
  · exact w_c1
  · exact w_c2
  · exact w_c3
  · exact w_c4
  · exact w_c5
set_option maxRecDepth 65536 in
theorem w_t1 : (words1.take 24).all (fun c => isCode c || c.before args0 about1) = true := by decide +kernel
set_option maxRecDepth 65536 in
theorem w_t2 : (words1.drop 24).all (fun c => isCode c || c.before args0 about1) = true := by decide +kernel
theorem w_tables : (allAtoms (Jvm.Cond.code x code maxLocals ret :: tables_1)).before args0 about1 = true := by
  rw [allAtoms_all]
  show words1.all (fun c => c.before args0 about1) = true
  refine all_split ?_ w_codes
  rw [← List.take_append_drop 24 words1, List.all_append, w_t1, w_t2]
  rfl
set_option maxRecDepth 65536 in
theorem w_case : (Jvm.Cond.and given_1 narrow_1).before args0 about1 = true := by decide +kernel
theorem w_applies : (headSpec (Jvm.Cond.code x code maxLocals ret :: tables_1) room_1).applies x e0.platform about1 = true :=
  (Spec.applies_iff w_frames).mpr ⟨w_running, w_runnable, w_alone, w_named, w_hears, w_ripe, w_room, w_tables⟩
theorem atStart : AtStart classFile x code maxLocals ret World_1 tables_1 room_1 Calls_1 rest_1 Pre_1 launch0 p0 e0 about1 theMethod args0 below0 :=
  ⟨lists_1, trivial, launch0.admits_env _ _ _, launch0.least_env, fairChoices_fair.cas, fairChoices_fair.clock, w_frames, w_args, w_heap, w_applies, trivial, trivial, w_case⟩
end start1
theorem witness_1 : WitnessClaimed_1 := ⟨start1.p0, start1.e0, start1.about1, start1.theMethod, start1.args0, start1.below0, start1.atStart⟩
end Jvm.Pilot.@@N@@

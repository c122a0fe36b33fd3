import JvmDerived
import JvmDerived.Pilot.@@N@@Statement
import JvmDerived.Pilot.@@N@@Code
set_option linter.unusedVariables false
set_option linter.unusedSimpArgs false
namespace Jvm.Pilot.@@N@@
section OwnFP
open Jvm.FP Jvm.FP.Core Jvm.Free.Fl
/-- what x stands for, in units of the least double -/
def own_zv (x : UInt64) : Int := zval b64 (val64 x)
/-- x is finite and stands for a / 2^k -/
def Dy (x : UInt64) (a : Int) (k : Nat) : Prop := DFin x ∧ own_zv x * ((2 ^ k : Nat) : Int) = a * (one64 : Int)
theorem Dy.nn {x : UInt64} {a : Int} {k : Nat} (h : Dy x a k) : NoNaN64 x := (fin64_core.mpr h.1).noNaN
theorem own_pp (k : Nat) : (0 : Int) < ((2 ^ k : Nat) : Int) := Int.natCast_pos.mpr (Nat.two_pow_pos k)
theorem own_up : (0 : Int) < (one64 : Int) := Int.natCast_pos.mpr one64_pos
theorem own_signed_abs (a : Int) : signed (decide (a < 0)) a.natAbs = a := by
  unfold signed
  by_cases h : a < 0
  · simp [h]; omega
  · simp [h]; omega
theorem own_datum (a : Int) (n : Nat) (ha : a.natAbs < 2 ^ 53) (hn : n ≤ 1074) : ∃ V : Datum, Core.fits b64 V ∧ V ≠ .nan ∧ zval b64 V = a * ((2 ^ n : Nat) : Int) := by
  have hq : b64.qmin = -1074 := qmin_b64
  have hqx : b64.qmax = 971 := by decide
  obtain ⟨c', q', hr, hu⟩ := round_exact good_b64 (decide (a < 0)) (c := a.natAbs) (q := (n : Int) - 1074) ha (by rw [hq]; omega) (by rw [hqx]; omega)
  have hV := round_fits good_b64 (.fin (decide (a < 0)) a.natAbs ((n : Int) - 1074))
  rw [hr] at hV
  refine ⟨_, hV, by simp, ?_⟩
  show signed (decide (a < 0)) (inUnits c' q' b64.qmin) = _
  rw [hu]
  unfold inUnits
  rw [signed_mul, own_signed_abs, hq, show (((n : Int) - 1074) - -1074).toNat = n by omega]
theorem own_notinf {a : Int} {n : Nat} {t : Bool} (ha : a.natAbs < 2 ^ 53) (hn : n ≤ 1074) : ¬ zval b64 (.inf t) = a * ((2 ^ n : Nat) : Int) := by
  intro e
  have q := congrArg Int.natAbs e
  rw [show zval b64 (.inf t) = signed t (b64.tails * 2 ^ (b64.exps - 2)) from rfl, natAbs_signed, Int.natAbs_mul, Int.natAbs_natCast] at q
  have l1 : a.natAbs * 2 ^ n < 2 ^ 53 * 2 ^ 1074 := Nat.mul_lt_mul_of_lt_of_le ha (Nat.pow_le_pow_right (by decide) hn) (Nat.two_pow_pos _)
  have l2 : 2 ^ 53 * 2 ^ 1074 < b64.tails * 2 ^ (b64.exps - 2) := by
    rw [tails_b64, show b64.exps - 2 = 2046 by decide, ← Nat.pow_add, ← Nat.pow_add]
    exact Nat.pow_lt_pow_right (by decide) (by decide)
  exact Nat.lt_irrefl _ (Nat.lt_trans l2 (by rw [q]; exact l1))
theorem own_round {s : Bool} {c : Nat} {q e0 a : Int} {k : Nat} (ha : a.natAbs < 2 ^ 53) (hk : k ≤ 1074) (h0 : e0 ≤ -1074) (h0e : e0 ≤ q)
    (h : signed s (inUnits c q e0) * ((2 ^ k : Nat) : Int) = a * ((2 ^ (-e0).toNat : Nat) : Int)) :
    (∃ s' c' q', round b64 (.fin s c q) = .fin s' c' q') ∧ zval b64 (round b64 (.fin s c q)) * ((2 ^ k : Nat) : Int) = a * (one64 : Int) := by
  have hq : b64.qmin = -1074 := qmin_b64
  obtain ⟨V, hV, hVn, hz⟩ := own_datum a (1074 - k) ha (by omega)
  have hs : zval b64 V * ((2 ^ (b64.qmin - e0).toNat : Nat) : Int) = signed s (inUnits c q e0) := by
    apply Int.eq_of_mul_eq_mul_right (a := ((2 ^ k : Nat) : Int)) (Int.ne_of_gt (own_pp k))
    rw [h, hz, hq, Int.mul_assoc, Int.mul_assoc, ← Int.natCast_mul, ← Int.natCast_mul, ← Nat.pow_add, ← Nat.pow_add]
    rw [show 1074 - k + ((-1074 - e0).toNat + k) = (-e0).toNat by omega]
  have le := zval_round_le good_b64 (s := s) (c := c) (q := q) (e0 := e0) hV hVn (by rw [hq]; exact h0) h0e (by rw [hs]; exact Int.le_refl _)
  have ge := zval_round_ge good_b64 (s := s) (c := c) (q := q) (e0 := e0) hV hVn (by rw [hq]; exact h0) h0e (by rw [hs]; exact Int.le_refl _)
  have e : zval b64 (round b64 (.fin s c q)) = a * ((2 ^ (1074 - k) : Nat) : Int) := by rw [← hz]; exact Int.le_antisymm le ge
  refine ⟨?_, by rw [e, Int.mul_assoc, ← Int.natCast_mul, ← Nat.pow_add, show 1074 - k + k = 1074 by omega]; rfl⟩
  cases hc : round b64 (.fin s c q) with
  | nan => exact absurd hc (roundRatio_ne_nan _ _ _ _ _)
  | fin s' c' q' => exact ⟨_, _, _, rfl⟩
  | inf t => rw [hc] at e; exact absurd e (own_notinf ha (by omega))
theorem Dy.add {x y : UInt64} {a b : Int} {k : Nat} (hx : Dy x a k) (hy : Dy y b k) (h : (a + b).natAbs < 2 ^ 53) (hk : k ≤ 1074) : Dy (FP.dadd x y) (a + b) k := by
  obtain ⟨⟨s, c, q, ex⟩, zx⟩ := hx
  obtain ⟨⟨t, d, r, ey⟩, zy⟩ := hy
  have fx := val64_fits x
  have fy := val64_fits y
  unfold own_zv at zx zy
  rw [ex] at fx zx
  rw [ey] at fy zy
  obtain ⟨sg, n, e, hs, he, hv⟩ := sum_units fx fy
  have hd : val64 (FP.dadd x y) = round b64 (.fin sg n e) := by rw [show FP.dadd x y = Core.dadd x y from rfl, val64_dadd, ex, ey, hs]
  obtain ⟨⟨s', c', q', h1⟩, h2⟩ := own_round (s := sg) (c := n) (q := e) (e0 := b64.qmin) (a := a + b) (k := k) h hk (Int.le_of_eq qmin_b64) he (by rw [hv, Int.add_mul, zx, zy, ← Int.add_mul, pow_qmin64])
  exact ⟨⟨s', c', q', hd.trans h1⟩, by unfold own_zv; rw [hd]; exact h2⟩
theorem Dy.sub {x y : UInt64} {a b : Int} {k : Nat} (hx : Dy x a k) (hy : Dy y b k) (h : (a - b).natAbs < 2 ^ 53) (hk : k ≤ 1074) : Dy (FP.dsub x y) (a - b) k := by
  obtain ⟨⟨s, c, q, ex⟩, zx⟩ := hx
  obtain ⟨⟨t, d, r, ey⟩, zy⟩ := hy
  have fx := val64_fits x
  have fy := negate_fits (val64_fits y)
  have zn := zval_negate b64 (val64 y)
  unfold own_zv at zx zy
  rw [ex] at fx zx
  rw [ey] at fy zy zn
  have fy' : Core.fits b64 (.fin (!t) d r) := fy
  have zn' : zval b64 (.fin (!t) d r) = -zval b64 (.fin t d r) := zn
  obtain ⟨sg, n, e, hs, he, hv⟩ := sum_units fx fy'
  have hd : val64 (FP.dsub x y) = round b64 (.fin sg n e) := by
    rw [show FP.dsub x y = Core.dsub x y from rfl, val64_dsub, ex, ey]
    exact congrArg (round b64) hs
  obtain ⟨⟨s', c', q', h1⟩, h2⟩ := own_round (s := sg) (c := n) (q := e) (e0 := b64.qmin) (a := a - b) (k := k) h hk (Int.le_of_eq qmin_b64) he (by rw [hv, zn', Int.add_mul, Int.neg_mul, zx, zy, ← Int.sub_eq_add_neg, ← Int.sub_mul, pow_qmin64])
  exact ⟨⟨s', c', q', hd.trans h1⟩, by unfold own_zv; rw [hd]; exact h2⟩
theorem own_two_qmin : 2 ^ (-(2 * b64.qmin)).toNat = one64 * one64 := by
  rw [show (-(2 * b64.qmin)).toNat = (-b64.qmin).toNat + (-b64.qmin).toNat by rw [qmin_b64]; decide, Nat.pow_add, pow_qmin64]
theorem Dy.mul {x y : UInt64} {a b : Int} {k j : Nat} (hx : Dy x a k) (hy : Dy y b j) (h : (a * b).natAbs < 2 ^ 53) (hk : k + j ≤ 1074) : Dy (FP.dmul x y) (a * b) (k + j) := by
  obtain ⟨⟨s, c, q, ex⟩, zx⟩ := hx
  obtain ⟨⟨t, d, r, ey⟩, zy⟩ := hy
  have fx := val64_fits x
  have fy := val64_fits y
  unfold own_zv at zx zy
  rw [ex] at fx zx
  rw [ey] at fy zy
  obtain ⟨hp, he, hv⟩ := product_units fx fy
  have hd : val64 (FP.dmul x y) = round b64 (.fin (s != t) (c * d) (q + r)) := by rw [show FP.dmul x y = Core.dmul x y from rfl, val64_dmul, ex, ey, hp]
  have hg : signed (s != t) (inUnits (c * d) (q + r) (2 * b64.qmin)) = zval b64 (.fin s c q) * zval b64 (.fin t d r) := by rw [hv, signed_xor]; rfl
  obtain ⟨⟨s', c', q', h1⟩, h2⟩ := own_round (s := s != t) (c := c * d) (q := q + r) (e0 := 2 * b64.qmin) (a := a * b) (k := k + j) h hk (by rw [qmin_b64]; decide) he (by
    rw [hg, own_two_qmin, Nat.pow_add, Int.natCast_mul, Int.natCast_mul]
    rw [show ∀ A B P Q : Int, A * B * (P * Q) = (A * P) * (B * Q) from fun A B P Q => by ac_rfl, zx, zy]
    exact (fun A B P : Int => by ac_rfl : ∀ A B P : Int, A * P * (B * P) = A * B * (P * P)) _ _ _)
  exact ⟨⟨s', c', q', hd.trans h1⟩, by unfold own_zv; rw [hd]; exact h2⟩
theorem own_units {c : Nat} {q r e0 : Int} (hq : b64.qmin ≤ q) (hr : b64.qmin ≤ r) (h1 : e0 ≤ q - r) (h2 : e0 ≤ b64.qmin) :
    inUnits c (q - r) e0 * 2 ^ (r - b64.qmin).toNat = inUnits c q b64.qmin * one64 * 2 ^ (b64.qmin - e0).toNat := by
  unfold inUnits one64
  rw [qmin_b64] at *
  rw [Nat.mul_assoc, ← Nat.pow_add, Nat.mul_assoc, Nat.mul_assoc, ← Nat.pow_add, ← Nat.pow_add]
  rw [show (q - r - e0).toNat + (r - -1074).toNat = (q - -1074).toNat + (1074 + (-1074 - e0).toNat) by omega]
theorem own_ddiv {x y : UInt64} {s t : Bool} {c d : Nat} {q r : Int} (ex : val64 x = .fin s c q) (ey : val64 y = .fin t d r) (hd : d ≠ 0) : val64 (FP.ddiv x y) = roundRatio b64 (s != t) c d (q - r) := by
  rw [show FP.ddiv x y = Core.ddiv x y from rfl, val64_ddiv, ex, ey]
  simp [quotient, hd]
theorem own_div_le {x y : UInt64} {s t : Bool} {c d : Nat} {q r : Int} (ex : val64 x = .fin s c q) (ey : val64 y = .fin t d r) (hd : d ≠ 0) {V : Datum} (hV : Core.fits b64 V) (hn : V ≠ .nan)
    (h : zmag b64 (val64 x) * one64 ≤ zmag b64 V * zmag b64 (val64 y)) : zmag b64 (val64 (FP.ddiv x y)) ≤ zmag b64 V := by
  have fx := val64_fits x
  have fy := val64_fits y
  rw [ex] at fx h
  rw [ey] at fy h
  rw [own_ddiv ex ey hd]
  refine zmag_roundRatio_le good_b64 (e0 := min (q - r) b64.qmin) (Nat.pos_of_ne_zero hd) hV hn (Int.min_le_right _ _) (Int.min_le_left _ _) ?_
  refine Nat.le_of_mul_le_mul_right (c := 2 ^ (r - b64.qmin).toNat) ?_ (Nat.two_pow_pos _)
  rw [own_units fx.2.1 fy.2.1 (Int.min_le_left _ _) (Int.min_le_right _ _)]
  refine Nat.le_trans (Nat.mul_le_mul_right _ h) (Nat.le_of_eq ?_)
  show zmag b64 V * inUnits d r b64.qmin * _ = _
  unfold inUnits
  exact (fun A B P Q : Nat => by ac_rfl : ∀ A B P Q : Nat, A * (B * P) * Q = A * Q * B * P) _ _ _ _
theorem own_div_ge {x y : UInt64} {s t : Bool} {c d : Nat} {q r : Int} (ex : val64 x = .fin s c q) (ey : val64 y = .fin t d r) (hd : d ≠ 0) {V : Datum} (hV : Core.fits b64 V)
    (h : zmag b64 V * zmag b64 (val64 y) ≤ zmag b64 (val64 x) * one64) : zmag b64 V ≤ zmag b64 (val64 (FP.ddiv x y)) := by
  have fx := val64_fits x
  have fy := val64_fits y
  rw [ex] at fx h
  rw [ey] at fy h
  rw [own_ddiv ex ey hd]
  refine zmag_roundRatio_ge good_b64 (e0 := min (q - r) b64.qmin) (Nat.pos_of_ne_zero hd) hV (Int.min_le_right _ _) (Int.min_le_left _ _) ?_
  refine Nat.le_of_mul_le_mul_right (c := 2 ^ (r - b64.qmin).toNat) ?_ (Nat.two_pow_pos _)
  rw [own_units fx.2.1 fy.2.1 (Int.min_le_left _ _) (Int.min_le_right _ _)]
  refine Nat.le_trans (Nat.le_of_eq ?_) (Nat.mul_le_mul_right _ h)
  show _ = zmag b64 V * inUnits d r b64.qmin * _
  unfold inUnits
  exact (fun A B P Q : Nat => by ac_rfl : ∀ A B P Q : Nat, A * Q * B * P = A * (B * P) * Q) _ _ _ _
theorem own_zval_abs (d : Datum) : (zval b64 d).natAbs = zmag b64 d := by unfold zval; exact natAbs_signed _ _
theorem Dy.div {x y : UInt64} {a b m : Int} {k j n : Nat} (hx : Dy x a k) (hy : Dy y b j) (hb : b ≠ 0) (hm : m.natAbs < 2 ^ 53) (hn : n ≤ 1074)
    (h : a * ((2 ^ j : Nat) : Int) * ((2 ^ n : Nat) : Int) = m * b * ((2 ^ k : Nat) : Int)) : Dy (FP.ddiv x y) m n := by
  obtain ⟨⟨s, c, q, ex⟩, zx⟩ := hx
  obtain ⟨⟨t, d, r, ey⟩, zy⟩ := hy
  unfold own_zv at zx zy
  obtain ⟨V, hV, hVn, hz⟩ := own_datum m (1074 - n) hm (by omega)
  have hzn : zval b64 V * ((2 ^ n : Nat) : Int) = m * (one64 : Int) := by rw [hz, Int.mul_assoc, ← Int.natCast_mul, ← Nat.pow_add, show 1074 - n + n = 1074 by omega]; rfl
  have hyn : zval b64 (val64 y) ≠ 0 := fun e => by
    rw [e, Int.zero_mul] at zy
    rcases Int.mul_eq_zero.mp zy.symm with q | q
    · exact hb q
    · exact absurd q (Int.ne_of_gt own_up)
  have hd : d ≠ 0 := fun e => by
    subst e
    rw [ey] at hyn
    exact hyn (by show signed t (inUnits 0 r b64.qmin) = 0; unfold inUnits; rw [Nat.zero_mul, signed_zero])
  have key : zval b64 V * zval b64 (val64 y) = zval b64 (val64 x) * (one64 : Int) := by
    have e1 : (zval b64 V * zval b64 (val64 y)) * (((2 ^ n : Nat) : Int) * ((2 ^ j : Nat) : Int) * ((2 ^ k : Nat) : Int)) = (zval b64 (val64 x) * (one64 : Int)) * (((2 ^ n : Nat) : Int) * ((2 ^ j : Nat) : Int) * ((2 ^ k : Nat) : Int)) := by
      rw [(fun A B P Q R : Int => by ac_rfl : ∀ A B P Q R : Int, A * B * (P * Q * R) = (A * P) * (B * Q) * R), hzn, zy,
        (fun A B P Q R : Int => by ac_rfl : ∀ A B P Q R : Int, A * B * (P * Q * R) = (A * R) * (B * P * Q)) (zval b64 (val64 x)), zx,
        (fun M B U K : Int => by ac_rfl : ∀ M B U K : Int, M * U * (B * U) * K = (M * B * K) * (U * U)), ← h]
      exact (fun A U P Q : Int => by ac_rfl : ∀ A U P Q : Int, A * Q * P * (U * U) = A * U * (U * P * Q)) _ _ _ _
    exact Int.eq_of_mul_eq_mul_right (Int.ne_of_gt (Int.mul_pos (Int.mul_pos (own_pp n) (own_pp j)) (own_pp k))) e1
  have kn : zmag b64 V * zmag b64 (val64 y) = zmag b64 (val64 x) * one64 := by
    have q := congrArg Int.natAbs key
    rw [Int.natAbs_mul, Int.natAbs_mul, own_zval_abs, own_zval_abs, own_zval_abs, Int.natAbs_natCast] at q
    exact q
  have le := own_div_le ex ey hd hV hVn (Nat.le_of_eq kn.symm)
  have ge := own_div_ge ex ey hd hV (Nat.le_of_eq kn)
  have em : zmag b64 (val64 (FP.ddiv x y)) = zmag b64 V := Nat.le_antisymm le ge
  have er := own_ddiv ex ey hd
  have es : sgn (val64 (FP.ddiv x y)) = (s != t) := by rw [er, sgn_roundRatio]
  have prod : zval b64 (val64 (FP.ddiv x y)) * zval b64 (val64 y) = zval b64 (val64 x) * (one64 : Int) := by
    unfold zval
    rw [es, em, ← signed_xor, kn, signed_mul, ex, ey]
    show signed ((s != t) != t) _ * _ = signed s _ * _
    rw [show ((s != t) != t) = s by cases s <;> cases t <;> rfl]
  have eq : zval b64 (val64 (FP.ddiv x y)) = zval b64 V := Int.eq_of_mul_eq_mul_right hyn (prod.trans key.symm)
  refine ⟨?_, by unfold own_zv; rw [eq]; exact hzn⟩
  cases hc : val64 (FP.ddiv x y) with
  | nan => exact absurd (er.symm.trans hc) (roundRatio_ne_nan _ _ _ _ _)
  | fin s' c' q' => exact ⟨_, _, _, hc⟩
  | inf t => rw [hc, hz] at eq; exact absurd eq (own_notinf hm (by omega))
theorem own_ofInt {x : UInt64} {i : Int} (hx : val64 x = round b64 (ofInt i)) (h : i.natAbs < 2 ^ 53) : Dy x i 0 := by
  obtain ⟨⟨s', c', q', h1⟩, h2⟩ := own_round (s := decide (i < 0)) (c := i.natAbs) (q := 0) (e0 := b64.qmin) (a := i) (k := 0) h (by decide) (Int.le_of_eq qmin_b64) (by rw [qmin_b64]; decide) (by
    unfold inUnits
    rw [signed_mul, own_signed_abs, show (0 - b64.qmin) = -b64.qmin by omega, pow_qmin64]; simp)
  exact ⟨⟨s', c', q', hx.trans h1⟩, by unfold own_zv; rw [hx]; exact h2⟩
theorem Dy.i2d (v : Int32) : Dy (FP.i2d v) v.toInt 0 := own_ofInt (val64_i2d v) (by have h1 := Int32.toInt_lt v; have h2 := Int32.le_toInt v; omega)
theorem Dy.l2d {v : Int64} (h : v.toInt.natAbs < 2 ^ 53) : Dy (FP.l2d v) v.toInt 0 := own_ofInt (val64_l2d v) h
theorem Dy.lit {x : UInt64} {a : Int} {k : Nat} (s : Bool) (c : Nat) (q : Int) (h : val64 x = .fin s c q) (h2 : signed s (inUnits c q b64.qmin) * ((2 ^ k : Nat) : Int) = a * (one64 : Int)) : Dy x a k :=
  ⟨⟨s, c, q, h⟩, by unfold own_zv; rw [h]; exact h2⟩
theorem Dy.up {x : UInt64} {a : Int} {k : Nat} (i : Nat) (h : Dy x a k) : Dy x (a * ((2 ^ i : Nat) : Int)) (k + i) :=
  ⟨h.1, by rw [Nat.pow_add, Int.natCast_mul, ← Int.mul_assoc, h.2]; exact (fun A B C : Int => by ac_rfl : ∀ A B C : Int, A * B * C = A * C * B) _ _ _⟩
theorem Dy.cast {x : UInt64} {a b : Int} {k j : Nat} (h : Dy x a k) (e : a = b) (e2 : k = j) : Dy x b j := e ▸ e2 ▸ h
/-- the int that dcmpl and dcmpg push for two numbers -/
def own_ci (a b : Int) : Int32 := if a < b then -1 else if a = b then 0 else 1
theorem own_ci_lt {a b : Int} : own_ci a b < 0 ↔ a < b := by unfold own_ci; split <;> (try split) <;> simp_all <;> omega
theorem own_ci_gt {a b : Int} : 0 < own_ci a b ↔ b < a := by unfold own_ci; split <;> (try split) <;> simp_all <;> omega
theorem own_ci_eq {a b : Int} : own_ci a b = 0 ↔ a = b := by unfold own_ci; split <;> (try split) <;> simp_all <;> omega
theorem own_dcmp {x y : UInt64} (hx : DFin x) (hy : DFin y) : FP.dcmp x y = some (compare (own_zv x) (own_zv y)) := by
  obtain ⟨s, c, q, ex⟩ := hx
  obtain ⟨t, d, r, ey⟩ := hy
  exact order_zval good_b64 (val64_fits x) (val64_fits y) (fun e => by cases ex.symm.trans e) (fun e => by cases ey.symm.trans e)
theorem Dy.dcmp {x y : UInt64} {a b : Int} {k : Nat} (hx : Dy x a k) (hy : Dy y b k) : FP.dcmp x y = some (compare a b) := by
  rw [own_dcmp hx.1 hy.1]
  congr 1
  refine compare_congr ?_ ?_
  · rw [← Int.mul_lt_mul_right (own_pp k), hx.2, hy.2, Int.mul_lt_mul_right own_up]
  · constructor
    · intro e
      have q := hx.2
      rw [e, hy.2] at q
      exact (Int.eq_of_mul_eq_mul_right (Int.ne_of_gt own_up) q).symm
    · intro e
      have q := hx.2
      rw [e, ← hy.2] at q
      exact Int.eq_of_mul_eq_mul_right (Int.ne_of_gt (own_pp k)) q
theorem Dy.cmp {x y : UInt64} {a b : Int} {k : Nat} (hx : Dy x a k) (hy : Dy y b k) (o : Jvm.ClassFile.CmpOp) : Jvm.Op.cmpValue (FP.dcmp x y) o = own_ci a b := by
  rw [hx.dcmp hy]
  unfold own_ci
  show Jvm.Op.cmpValue (some (compareOfLessAndEq a b)) o = _
  unfold compareOfLessAndEq
  by_cases h1 : a < b
  · simp [h1]; cases o <;> rfl
  · by_cases h2 : a = b
    · simp [h2]; cases o <;> rfl
    · simp [h1, h2]; cases o <;> rfl
end OwnFP
end Jvm.Pilot.@@N@@
namespace Jvm.Pilot.@@N@@
open Jvm Jvm.ClassFile Sem Op Lib Jvm.Free Jvm.Stand Jvm.LawKit Jvm.RoadKit Jvm.Free.Fl Bundle Jvm.Pilot.@@N@@.Jvm.D
/-- the run from A ends, and what it leaves meets F -/
def Rn (p : Program) (e : Env) (below : List Frame) (A : State) (F : Outcome → State → Prop) : Prop := ∃ s₂ o, Steps p.tables e below A s₂ ∧ s₂.status = .running ∧ Ended s₂ below o ∧ F o s₂
theorem Rn.st {p : Program} {e : Env} {below : List Frame} {A B : State} {F : Outcome → State → Prop} (h : ∀ t, Steps p.tables e below B t → Steps p.tables e below A t) (r : Rn p e below B F) : Rn p e below A F := by
  obtain ⟨s₂, o, h1, h2⟩ := r
  exact ⟨s₂, o, h _ h1, h2⟩
theorem Rn.ret {p : Program} {l : Launch} {e : Env} {R : Room} {s : State} {m : MethodId} {args : Array Value} {below : List Frame} {meth : Method} {c : Code} {T : State} {locs : List Loc} {cells slots k n : Nat} {A : State} {h : Heap}
    (X : Stand p l e R s m args below meth c T locs cells slots) (hlk : meth.locks = false) {v : Option Value} (hv : meth.sig.returnType = none → v = none) {Q : Option Value → Heap → List Loc → Prop} (eT : T.heap = h)
    (last : ∀ fs, (∀ (f : JFrame) (acts : List Action), f.method = m → f.locked = none → f.entered = [] → (doReturn e (T.setTop f) acts v).1 = T.setFrames fs) → Steps p.tables e below A (T.setFrames fs))
    (q : Q v h locs) (hc : cells ≤ k) (hs : slots ≤ n) : Rn p e below A (fun o U' => ∃ v L, o = .returned v ∧ Q v U'.heap L ∧ FrameEnd s o U' L k n) := by
  obtain ⟨fs, hr, hrun, hended, hW, hsame⟩ := X.leave hv hlk
  refine ⟨_, _, last fs hr, hrun, hended, _, _, rfl, ?_, ⟨_, rfl⟩, hW, hsame.mono hc hs⟩
  show Q v T.heap locs
  rw [eT]; exact q
theorem own_sta_keep {Z : State} {h h' : Heap} {C n d : String} {w : Value} {ws : List Addr} (F : Sta Z h C n d w) (K : Keep h h' ws) (q : ∀ x ∈ ws, ∀ cell : Cell, h[x]? = some cell → cell.vm.isStatics = false) : Sta Z h' C n d w := by
  obtain ⟨cf, i, k, f, st, cell, h1, h2, h3, h4, h5, h6, h7⟩ := F
  refine ⟨cf, i, k, f, st, cell, h1, h2, h3, h4, K.2.1 st cell h5 (fun hm => ?_), h6, h7⟩
  have e := q st hm cell h5
  rw [h6] at e
  exact absurd e (by decide)
theorem own_wadd (a b : Int32) : (a.toInt64 + b.toInt64).toInt = a.toInt + b.toInt := by
  have h1 := Int32.toInt_lt a; have h2 := Int32.le_toInt a; have h3 := Int32.toInt_lt b; have h4 := Int32.le_toInt b
  rw [Int64.toInt_add, Int32.toInt_toInt64, Int32.toInt_toInt64, Int.bmod_eq_of_le (by omega) (by omega)]
theorem own_mulL {a b : Int64} (h : (a.toInt * b.toInt).natAbs < 9223372036854775808) : (a * b).toInt = a.toInt * b.toInt := by
  rw [Int64.toInt_mul, Int.bmod_eq_of_le (by omega) (by omega)]
theorem own_addL {a b : Int64} (h : (a.toInt + b.toInt).natAbs < 9223372036854775808) : (a + b).toInt = a.toInt + b.toInt := by
  rw [Int64.toInt_add, Int.bmod_eq_of_le (by omega) (by omega)]
theorem own_subI {a b : Int32} (h : -2147483648 ≤ a.toInt - b.toInt ∧ a.toInt - b.toInt < 2147483648) : (a - b).toInt = a.toInt - b.toInt := by
  rw [Int32.toInt_sub, Int.bmod_eq_of_le (by omega) (by omega)]
theorem own_addI {a b : Int32} (h : -2147483648 ≤ a.toInt + b.toInt ∧ a.toInt + b.toInt < 2147483648) : (a + b).toInt = a.toInt + b.toInt := by
  rw [Int32.toInt_add, Int.bmod_eq_of_le (by omega) (by omega)]
theorem own_mulI {a b : Int32} (h : (a.toInt * b.toInt).natAbs < 2147483648) : (a * b).toInt = a.toInt * b.toInt := by
  rw [Int32.toInt_mul, Int.bmod_eq_of_le (by omega) (by omega)]
theorem own_masked {a r m : Int32} {d : Int} (hm : 0 ≤ m.toInt) (hd : 0 < d) {k : Int32} (hk : k.toInt = d) (h : (a &&& m) % k = r) : 0 ≤ r.toInt ∧ r.toInt < d := by
  have q := c_and a m hm
  have t := (c_irem (a &&& m) k d hk).1 q.1
  rw [h] at t
  rw [t]
  exact ⟨Int.emod_nonneg _ (Int.ne_of_gt hd), Int.emod_lt_of_pos _ hd⟩
theorem own_eqI {a b : Int32} (h : a.toInt = b.toInt) : a = b := Int32.toInt_inj.mp h
theorem own_neI {a b : Int32} (h : ¬ a.toInt = b.toInt) : ¬ a = b := fun q => h (congrArg Int32.toInt q)
theorem own_bd {j n : Int32} (h : 0 ≤ j.toInt ∧ j.toInt < n.toInt) : ¬ j < 0 ∧ j < n := by
  constructor
  · rw [Int32.lt_iff_toInt_lt]; have : (0 : Int32).toInt = 0 := by decide
    omega
  · rw [Int32.lt_iff_toInt_lt]; exact h.2
theorem own_getH_nil (dv : Value) (n : Nat) : getH [] [] dv n = dv := by simp [getH]
theorem own_pb {a b : Int} {A B : Nat} (ha : a.natAbs ≤ A) (hb : b.natAbs ≤ B) : (a * b).natAbs ≤ A * B := by rw [Int.natAbs_mul]; exact Nat.mul_le_mul ha hb
theorem own_b (a : Int32) : -2147483648 ≤ a.toInt ∧ a.toInt < 2147483648 := ⟨Int32.le_toInt a, Int32.toInt_lt a⟩
theorem own_wsub (a b : Int32) : (a.toInt64 - b.toInt64).toInt = a.toInt - b.toInt := by
  have h1 := Int32.toInt_lt a; have h2 := Int32.le_toInt a; have h3 := Int32.toInt_lt b; have h4 := Int32.le_toInt b
  rw [Int64.toInt_sub, Int32.toInt_toInt64, Int32.toInt_toInt64, Int.bmod_eq_of_le (by omega) (by omega)]
section RSteps
variable {p : Program} {l : Launch} {e : Env} {R : Room} {s : State} {m : MethodId} {args : Array Value} {below : List Frame} {meth : Method} {c : Code} {T : State} {locs : List Loc} {cells slots : Nat} {G : Outcome → State → Prop} {L L' : Array Slot} {S : List Value} {pc pc' : Nat}
theorem R.iloadN (X : Stand p l e R s m args below meth c T locs cells slots) (hx : p.tables.exec = Jvm.exec) {k : Fin 4} {v : Int32} (hd : decode c.code pc = .ok (.iload_n k, 1)) (hl : L[k.val]? = some (.val (.int v))) (hp : pc + 1 = pc') (r : Rn p e below (T.setTop (mkF m pc' L (.int v :: S))) G) : Rn p e below (T.setTop (mkF m pc L (S))) G := by
  subst hp; exact Rn.st (fun t q => XS.iloadN X.here hx rfl hd hl q) r
theorem R.iload (X : Stand p l e R s m args below meth c T locs cells slots) (hx : p.tables.exec = Jvm.exec) {k : Nat} {v : Int32} (hd : decode c.code pc = .ok (.iload k, 2)) (hl : L[k]? = some (.val (.int v))) (hp : pc + 2 = pc') (r : Rn p e below (T.setTop (mkF m pc' L (.int v :: S))) G) : Rn p e below (T.setTop (mkF m pc L (S))) G := by
  subst hp; exact Rn.st (fun t q => XS.iload X.here hx rfl hd hl q) r
theorem R.istoreN (X : Stand p l e R s m args below meth c T locs cells slots) (hx : p.tables.exec = Jvm.exec) {k : Fin 4} {v : Int32} (hd : decode c.code pc = .ok (.istore_n k, 1)) (hl : storeLocals L k.val (.int v) = some L') (hp : pc + 1 = pc') (r : Rn p e below (T.setTop (mkF m pc' L' (S))) G) : Rn p e below (T.setTop (mkF m pc L (.int v :: S))) G := by
  subst hp; exact Rn.st (fun t q => XS.istoreN X.here hx rfl hd rfl hl q) r
theorem R.istore (X : Stand p l e R s m args below meth c T locs cells slots) (hx : p.tables.exec = Jvm.exec) {k : Nat} {v : Int32} (hd : decode c.code pc = .ok (.istore k, 2)) (hl : storeLocals L k (.int v) = some L') (hp : pc + 2 = pc') (r : Rn p e below (T.setTop (mkF m pc' L' (S))) G) : Rn p e below (T.setTop (mkF m pc L (.int v :: S))) G := by
  subst hp; exact Rn.st (fun t q => XS.istore X.here hx rfl hd rfl hl q) r
theorem R.lloadN (X : Stand p l e R s m args below meth c T locs cells slots) (hx : p.tables.exec = Jvm.exec) {k : Fin 4} {v : Int64} (hd : decode c.code pc = .ok (.lload_n k, 1)) (hl : L[k.val]? = some (.val (.long v))) (hp : pc + 1 = pc') (r : Rn p e below (T.setTop (mkF m pc' L (.long v :: S))) G) : Rn p e below (T.setTop (mkF m pc L (S))) G := by
  subst hp; exact Rn.st (fun t q => XS.lloadN X.here hx rfl hd hl q) r
theorem R.lload (X : Stand p l e R s m args below meth c T locs cells slots) (hx : p.tables.exec = Jvm.exec) {k : Nat} {v : Int64} (hd : decode c.code pc = .ok (.lload k, 2)) (hl : L[k]? = some (.val (.long v))) (hp : pc + 2 = pc') (r : Rn p e below (T.setTop (mkF m pc' L (.long v :: S))) G) : Rn p e below (T.setTop (mkF m pc L (S))) G := by
  subst hp; exact Rn.st (fun t q => XS.lload X.here hx rfl hd hl q) r
theorem R.lstoreN (X : Stand p l e R s m args below meth c T locs cells slots) (hx : p.tables.exec = Jvm.exec) {k : Fin 4} {v : Int64} (hd : decode c.code pc = .ok (.lstore_n k, 1)) (hl : storeLocals L k.val (.long v) = some L') (hp : pc + 1 = pc') (r : Rn p e below (T.setTop (mkF m pc' L' (S))) G) : Rn p e below (T.setTop (mkF m pc L (.long v :: S))) G := by
  subst hp; exact Rn.st (fun t q => XS.lstoreN X.here hx rfl hd rfl hl q) r
theorem R.lstore (X : Stand p l e R s m args below meth c T locs cells slots) (hx : p.tables.exec = Jvm.exec) {k : Nat} {v : Int64} (hd : decode c.code pc = .ok (.lstore k, 2)) (hl : storeLocals L k (.long v) = some L') (hp : pc + 2 = pc') (r : Rn p e below (T.setTop (mkF m pc' L' (S))) G) : Rn p e below (T.setTop (mkF m pc L (.long v :: S))) G := by
  subst hp; exact Rn.st (fun t q => XS.lstore X.here hx rfl hd rfl hl q) r
theorem R.dloadN (X : Stand p l e R s m args below meth c T locs cells slots) (hx : p.tables.exec = Jvm.exec) {k : Fin 4} {v : UInt64} (hd : decode c.code pc = .ok (.dload_n k, 1)) (hl : L[k.val]? = some (.val (.double v))) (hp : pc + 1 = pc') (r : Rn p e below (T.setTop (mkF m pc' L (.double v :: S))) G) : Rn p e below (T.setTop (mkF m pc L (S))) G := by
  subst hp; exact Rn.st (fun t q => XS.dloadN X.here hx rfl hd hl q) r
theorem R.dload (X : Stand p l e R s m args below meth c T locs cells slots) (hx : p.tables.exec = Jvm.exec) {k : Nat} {v : UInt64} (hd : decode c.code pc = .ok (.dload k, 2)) (hl : L[k]? = some (.val (.double v))) (hp : pc + 2 = pc') (r : Rn p e below (T.setTop (mkF m pc' L (.double v :: S))) G) : Rn p e below (T.setTop (mkF m pc L (S))) G := by
  subst hp; exact Rn.st (fun t q => XS.dload X.here hx rfl hd hl q) r
theorem R.dstoreN (X : Stand p l e R s m args below meth c T locs cells slots) (hx : p.tables.exec = Jvm.exec) {k : Fin 4} {v : UInt64} (hd : decode c.code pc = .ok (.dstore_n k, 1)) (hl : storeLocals L k.val (.double v) = some L') (hp : pc + 1 = pc') (r : Rn p e below (T.setTop (mkF m pc' L' (S))) G) : Rn p e below (T.setTop (mkF m pc L (.double v :: S))) G := by
  subst hp; exact Rn.st (fun t q => XS.dstoreN X.here hx rfl hd rfl hl q) r
theorem R.dstore (X : Stand p l e R s m args below meth c T locs cells slots) (hx : p.tables.exec = Jvm.exec) {k : Nat} {v : UInt64} (hd : decode c.code pc = .ok (.dstore k, 2)) (hl : storeLocals L k (.double v) = some L') (hp : pc + 2 = pc') (r : Rn p e below (T.setTop (mkF m pc' L' (S))) G) : Rn p e below (T.setTop (mkF m pc L (.double v :: S))) G := by
  subst hp; exact Rn.st (fun t q => XS.dstore X.here hx rfl hd rfl hl q) r
theorem R.aloadN (X : Stand p l e R s m args below meth c T locs cells slots) (hx : p.tables.exec = Jvm.exec) {k : Fin 4} {v : Value} (hd : decode c.code pc = .ok (.aload_n k, 1)) (hl : L[k.val]? = some (.val v)) (hv : v.isRef = true) (hp : pc + 1 = pc') (r : Rn p e below (T.setTop (mkF m pc' L (v :: S))) G) : Rn p e below (T.setTop (mkF m pc L (S))) G := by
  subst hp; exact Rn.st (fun t q => XS.aloadN X.here hx rfl hd hl hv q) r
theorem R.aload (X : Stand p l e R s m args below meth c T locs cells slots) (hx : p.tables.exec = Jvm.exec) {k : Nat} {v : Value} (hd : decode c.code pc = .ok (.aload k, 2)) (hl : L[k]? = some (.val v)) (hv : v.isRef = true) (hp : pc + 2 = pc') (r : Rn p e below (T.setTop (mkF m pc' L (v :: S))) G) : Rn p e below (T.setTop (mkF m pc L (S))) G := by
  subst hp; exact Rn.st (fun t q => XS.aload X.here hx rfl hd hl hv q) r
theorem R.astoreN (X : Stand p l e R s m args below meth c T locs cells slots) (hx : p.tables.exec = Jvm.exec) {k : Fin 4} {v : Value} (hd : decode c.code pc = .ok (.astore_n k, 1)) (hv : v.isRef = true) (hl : storeLocals L k.val v = some L') (hp : pc + 1 = pc') (r : Rn p e below (T.setTop (mkF m pc' L' (S))) G) : Rn p e below (T.setTop (mkF m pc L (v :: S))) G := by
  subst hp; exact Rn.st (fun t q => XS.astoreN X.here hx rfl hd rfl hv hl q) r
theorem R.astore (X : Stand p l e R s m args below meth c T locs cells slots) (hx : p.tables.exec = Jvm.exec) {k : Nat} {v : Value} (hd : decode c.code pc = .ok (.astore k, 2)) (hv : v.isRef = true) (hl : storeLocals L k v = some L') (hp : pc + 2 = pc') (r : Rn p e below (T.setTop (mkF m pc' L' (S))) G) : Rn p e below (T.setTop (mkF m pc L (v :: S))) G := by
  subst hp; exact Rn.st (fun t q => XS.astore X.here hx rfl hd rfl hv hl q) r
theorem R.iconst (X : Stand p l e R s m args below meth c T locs cells slots) (hx : p.tables.exec = Jvm.exec) {i : Int} {v : Int32} (hd : decode c.code pc = .ok (.iconst i, 1)) (hv : Int32.ofInt i = v) (hp : pc + 1 = pc') (r : Rn p e below (T.setTop (mkF m pc' L (.int v :: S))) G) : Rn p e below (T.setTop (mkF m pc L (S))) G := by
  subst hp hv; exact Rn.st (fun t q => XS.iconst X.here hx rfl hd q) r
theorem R.bipush (X : Stand p l e R s m args below meth c T locs cells slots) (hx : p.tables.exec = Jvm.exec) {i : Int} {v : Int32} (hd : decode c.code pc = .ok (.bipush i, 2)) (hv : (Int8.ofInt i).toInt32 = v) (hp : pc + 2 = pc') (r : Rn p e below (T.setTop (mkF m pc' L (.int v :: S))) G) : Rn p e below (T.setTop (mkF m pc L (S))) G := by
  subst hp hv; exact Rn.st (fun t q => XS.bipush X.here hx rfl hd q) r
theorem R.sipush (X : Stand p l e R s m args below meth c T locs cells slots) (hx : p.tables.exec = Jvm.exec) {i : Int} {v : Int32} (hd : decode c.code pc = .ok (.sipush i, 3)) (hv : (Int16.ofInt i).toInt32 = v) (hp : pc + 3 = pc') (r : Rn p e below (T.setTop (mkF m pc' L (.int v :: S))) G) : Rn p e below (T.setTop (mkF m pc L (S))) G := by
  subst hp hv; exact Rn.st (fun t q => XS.sipush X.here hx rfl hd q) r
theorem R.lconst (X : Stand p l e R s m args below meth c T locs cells slots) (hx : p.tables.exec = Jvm.exec) {i : Fin 2} {v : Int64} (hd : decode c.code pc = .ok (.lconst i, 1)) (hv : Int64.ofNat i = v) (hp : pc + 1 = pc') (r : Rn p e below (T.setTop (mkF m pc' L (.long v :: S))) G) : Rn p e below (T.setTop (mkF m pc L (S))) G := by
  subst hp hv; exact Rn.st (fun t q => XS.lconst X.here hx rfl hd q) r
theorem R.dconst0 (X : Stand p l e R s m args below meth c T locs cells slots) (hx : p.tables.exec = Jvm.exec)  (hd : decode c.code pc = .ok (.dconst 0, 1)) (hp : pc + 1 = pc') (r : Rn p e below (T.setTop (mkF m pc' L (.double FP.dconst0 :: S))) G) : Rn p e below (T.setTop (mkF m pc L (S))) G := by
  subst hp; exact Rn.st (fun t q => XS.dconst0 X.here hx rfl hd rfl q) r
theorem R.dconst1 (X : Stand p l e R s m args below meth c T locs cells slots) (hx : p.tables.exec = Jvm.exec)  (hd : decode c.code pc = .ok (.dconst 1, 1)) (hp : pc + 1 = pc') (r : Rn p e below (T.setTop (mkF m pc' L (.double FP.dconst1 :: S))) G) : Rn p e below (T.setTop (mkF m pc L (S))) G := by
  subst hp; exact Rn.st (fun t q => XS.dconst1 X.here hx rfl hd rfl q) r
theorem R.aconstNull (X : Stand p l e R s m args below meth c T locs cells slots) (hx : p.tables.exec = Jvm.exec)  (hd : decode c.code pc = .ok (.aconst_null, 1)) (hp : pc + 1 = pc') (r : Rn p e below (T.setTop (mkF m pc' L (.null :: S))) G) : Rn p e below (T.setTop (mkF m pc L (S))) G := by
  subst hp; exact Rn.st (fun t q => XS.aconstNull X.here hx rfl hd q) r
theorem R.iadd (X : Stand p l e R s m args below meth c T locs cells slots) (hx : p.tables.exec = Jvm.exec) {x y v : Int32} (hd : decode c.code pc = .ok (.iadd, 1)) (hv : x + y = v) (hp : pc + 1 = pc') (r : Rn p e below (T.setTop (mkF m pc' L (.int v :: S))) G) : Rn p e below (T.setTop (mkF m pc L (.int y :: .int x :: S))) G := by
  subst hp hv; exact Rn.st (fun t q => XS.iadd X.here hx rfl hd rfl q) r
theorem R.ladd (X : Stand p l e R s m args below meth c T locs cells slots) (hx : p.tables.exec = Jvm.exec) {x y v : Int64} (hd : decode c.code pc = .ok (.ladd, 1)) (hv : x + y = v) (hp : pc + 1 = pc') (r : Rn p e below (T.setTop (mkF m pc' L (.long v :: S))) G) : Rn p e below (T.setTop (mkF m pc L (.long y :: .long x :: S))) G := by
  subst hp hv; exact Rn.st (fun t q => XS.ladd X.here hx rfl hd rfl q) r
theorem R.isub (X : Stand p l e R s m args below meth c T locs cells slots) (hx : p.tables.exec = Jvm.exec) {x y v : Int32} (hd : decode c.code pc = .ok (.isub, 1)) (hv : x - y = v) (hp : pc + 1 = pc') (r : Rn p e below (T.setTop (mkF m pc' L (.int v :: S))) G) : Rn p e below (T.setTop (mkF m pc L (.int y :: .int x :: S))) G := by
  subst hp hv; exact Rn.st (fun t q => XS.isub X.here hx rfl hd rfl q) r
theorem R.lsub (X : Stand p l e R s m args below meth c T locs cells slots) (hx : p.tables.exec = Jvm.exec) {x y v : Int64} (hd : decode c.code pc = .ok (.lsub, 1)) (hv : x - y = v) (hp : pc + 1 = pc') (r : Rn p e below (T.setTop (mkF m pc' L (.long v :: S))) G) : Rn p e below (T.setTop (mkF m pc L (.long y :: .long x :: S))) G := by
  subst hp hv; exact Rn.st (fun t q => XS.lsub X.here hx rfl hd rfl q) r
theorem R.imul (X : Stand p l e R s m args below meth c T locs cells slots) (hx : p.tables.exec = Jvm.exec) {x y v : Int32} (hd : decode c.code pc = .ok (.imul, 1)) (hv : x * y = v) (hp : pc + 1 = pc') (r : Rn p e below (T.setTop (mkF m pc' L (.int v :: S))) G) : Rn p e below (T.setTop (mkF m pc L (.int y :: .int x :: S))) G := by
  subst hp hv; exact Rn.st (fun t q => XS.imul X.here hx rfl hd rfl q) r
theorem R.lmul (X : Stand p l e R s m args below meth c T locs cells slots) (hx : p.tables.exec = Jvm.exec) {x y v : Int64} (hd : decode c.code pc = .ok (.lmul, 1)) (hv : x * y = v) (hp : pc + 1 = pc') (r : Rn p e below (T.setTop (mkF m pc' L (.long v :: S))) G) : Rn p e below (T.setTop (mkF m pc L (.long y :: .long x :: S))) G := by
  subst hp hv; exact Rn.st (fun t q => XS.lmul X.here hx rfl hd rfl q) r
theorem R.iand (X : Stand p l e R s m args below meth c T locs cells slots) (hx : p.tables.exec = Jvm.exec) {x y v : Int32} (hd : decode c.code pc = .ok (.iand, 1)) (hv : x &&& y = v) (hp : pc + 1 = pc') (r : Rn p e below (T.setTop (mkF m pc' L (.int v :: S))) G) : Rn p e below (T.setTop (mkF m pc L (.int y :: .int x :: S))) G := by
  subst hp hv; exact Rn.st (fun t q => XS.iand X.here hx rfl hd rfl q) r
theorem R.land (X : Stand p l e R s m args below meth c T locs cells slots) (hx : p.tables.exec = Jvm.exec) {x y v : Int64} (hd : decode c.code pc = .ok (.land, 1)) (hv : x &&& y = v) (hp : pc + 1 = pc') (r : Rn p e below (T.setTop (mkF m pc' L (.long v :: S))) G) : Rn p e below (T.setTop (mkF m pc L (.long y :: .long x :: S))) G := by
  subst hp hv; exact Rn.st (fun t q => XS.land X.here hx rfl hd rfl q) r
theorem R.ior (X : Stand p l e R s m args below meth c T locs cells slots) (hx : p.tables.exec = Jvm.exec) {x y v : Int32} (hd : decode c.code pc = .ok (.ior, 1)) (hv : x ||| y = v) (hp : pc + 1 = pc') (r : Rn p e below (T.setTop (mkF m pc' L (.int v :: S))) G) : Rn p e below (T.setTop (mkF m pc L (.int y :: .int x :: S))) G := by
  subst hp hv; exact Rn.st (fun t q => XS.ior X.here hx rfl hd rfl q) r
theorem R.lor (X : Stand p l e R s m args below meth c T locs cells slots) (hx : p.tables.exec = Jvm.exec) {x y v : Int64} (hd : decode c.code pc = .ok (.lor, 1)) (hv : x ||| y = v) (hp : pc + 1 = pc') (r : Rn p e below (T.setTop (mkF m pc' L (.long v :: S))) G) : Rn p e below (T.setTop (mkF m pc L (.long y :: .long x :: S))) G := by
  subst hp hv; exact Rn.st (fun t q => XS.lor X.here hx rfl hd rfl q) r
theorem R.ixor (X : Stand p l e R s m args below meth c T locs cells slots) (hx : p.tables.exec = Jvm.exec) {x y v : Int32} (hd : decode c.code pc = .ok (.ixor, 1)) (hv : x ^^^ y = v) (hp : pc + 1 = pc') (r : Rn p e below (T.setTop (mkF m pc' L (.int v :: S))) G) : Rn p e below (T.setTop (mkF m pc L (.int y :: .int x :: S))) G := by
  subst hp hv; exact Rn.st (fun t q => XS.ixor X.here hx rfl hd rfl q) r
theorem R.lxor (X : Stand p l e R s m args below meth c T locs cells slots) (hx : p.tables.exec = Jvm.exec) {x y v : Int64} (hd : decode c.code pc = .ok (.lxor, 1)) (hv : x ^^^ y = v) (hp : pc + 1 = pc') (r : Rn p e below (T.setTop (mkF m pc' L (.long v :: S))) G) : Rn p e below (T.setTop (mkF m pc L (.long y :: .long x :: S))) G := by
  subst hp hv; exact Rn.st (fun t q => XS.lxor X.here hx rfl hd rfl q) r
theorem R.ineg (X : Stand p l e R s m args below meth c T locs cells slots) (hx : p.tables.exec = Jvm.exec) {x : Int32} (hd : decode c.code pc = .ok (.ineg, 1)) (hp : pc + 1 = pc') (r : Rn p e below (T.setTop (mkF m pc' L (.int (-x) :: S))) G) : Rn p e below (T.setTop (mkF m pc L (.int x :: S))) G := by
  subst hp; exact Rn.st (fun t q => XS.ineg X.here hx rfl hd rfl q) r
theorem R.lneg (X : Stand p l e R s m args below meth c T locs cells slots) (hx : p.tables.exec = Jvm.exec) {x : Int64} (hd : decode c.code pc = .ok (.lneg, 1)) (hp : pc + 1 = pc') (r : Rn p e below (T.setTop (mkF m pc' L (.long (-x) :: S))) G) : Rn p e below (T.setTop (mkF m pc L (.long x :: S))) G := by
  subst hp; exact Rn.st (fun t q => XS.lneg X.here hx rfl hd rfl q) r
theorem R.i2l (X : Stand p l e R s m args below meth c T locs cells slots) (hx : p.tables.exec = Jvm.exec) {x : Int32} (hd : decode c.code pc = .ok (.i2l, 1)) (hp : pc + 1 = pc') (r : Rn p e below (T.setTop (mkF m pc' L (.long (x.toInt64) :: S))) G) : Rn p e below (T.setTop (mkF m pc L (.int x :: S))) G := by
  subst hp; exact Rn.st (fun t q => XS.i2l X.here hx rfl hd rfl q) r
theorem R.l2i (X : Stand p l e R s m args below meth c T locs cells slots) (hx : p.tables.exec = Jvm.exec) {x : Int64} (hd : decode c.code pc = .ok (.l2i, 1)) (hp : pc + 1 = pc') (r : Rn p e below (T.setTop (mkF m pc' L (.int (x.toInt32) :: S))) G) : Rn p e below (T.setTop (mkF m pc L (.long x :: S))) G := by
  subst hp; exact Rn.st (fun t q => XS.l2i X.here hx rfl hd rfl q) r
theorem R.i2b (X : Stand p l e R s m args below meth c T locs cells slots) (hx : p.tables.exec = Jvm.exec) {x : Int32} (hd : decode c.code pc = .ok (.i2b, 1)) (hp : pc + 1 = pc') (r : Rn p e below (T.setTop (mkF m pc' L (.int (x.toInt8.toInt32) :: S))) G) : Rn p e below (T.setTop (mkF m pc L (.int x :: S))) G := by
  subst hp; exact Rn.st (fun t q => XS.i2b X.here hx rfl hd rfl q) r
theorem R.i2s (X : Stand p l e R s m args below meth c T locs cells slots) (hx : p.tables.exec = Jvm.exec) {x : Int32} (hd : decode c.code pc = .ok (.i2s, 1)) (hp : pc + 1 = pc') (r : Rn p e below (T.setTop (mkF m pc' L (.int (x.toInt16.toInt32) :: S))) G) : Rn p e below (T.setTop (mkF m pc L (.int x :: S))) G := by
  subst hp; exact Rn.st (fun t q => XS.i2s X.here hx rfl hd rfl q) r
theorem R.i2c (X : Stand p l e R s m args below meth c T locs cells slots) (hx : p.tables.exec = Jvm.exec) {x : Int32} (hd : decode c.code pc = .ok (.i2c, 1)) (hp : pc + 1 = pc') (r : Rn p e below (T.setTop (mkF m pc' L (.int (x.toUInt32.toUInt16.toUInt32.toInt32) :: S))) G) : Rn p e below (T.setTop (mkF m pc L (.int x :: S))) G := by
  subst hp; exact Rn.st (fun t q => XS.i2c X.here hx rfl hd rfl q) r
theorem R.ishl (X : Stand p l e R s m args below meth c T locs cells slots) (hx : p.tables.exec = Jvm.exec) {x : Int32} {y : Int32} (hd : decode c.code pc = .ok (.ishl, 1)) (hp : pc + 1 = pc') (r : Rn p e below (T.setTop (mkF m pc' L (.int (x <<< (y &&& 31)) :: S))) G) : Rn p e below (T.setTop (mkF m pc L (.int y :: .int x :: S))) G := by
  subst hp; exact Rn.st (fun t q => XS.ishl X.here hx rfl hd rfl q) r
theorem R.ishr (X : Stand p l e R s m args below meth c T locs cells slots) (hx : p.tables.exec = Jvm.exec) {x : Int32} {y : Int32} (hd : decode c.code pc = .ok (.ishr, 1)) (hp : pc + 1 = pc') (r : Rn p e below (T.setTop (mkF m pc' L (.int (x >>> (y &&& 31)) :: S))) G) : Rn p e below (T.setTop (mkF m pc L (.int y :: .int x :: S))) G := by
  subst hp; exact Rn.st (fun t q => XS.ishr X.here hx rfl hd rfl q) r
theorem R.iushr (X : Stand p l e R s m args below meth c T locs cells slots) (hx : p.tables.exec = Jvm.exec) {x : Int32} {y : Int32} (hd : decode c.code pc = .ok (.iushr, 1)) (hp : pc + 1 = pc') (r : Rn p e below (T.setTop (mkF m pc' L (.int ((x.toUInt32 >>> (y &&& 31).toUInt32).toInt32) :: S))) G) : Rn p e below (T.setTop (mkF m pc L (.int y :: .int x :: S))) G := by
  subst hp; exact Rn.st (fun t q => XS.iushr X.here hx rfl hd rfl q) r
theorem R.lshl (X : Stand p l e R s m args below meth c T locs cells slots) (hx : p.tables.exec = Jvm.exec) {x : Int64} {y : Int32} (hd : decode c.code pc = .ok (.lshl, 1)) (hp : pc + 1 = pc') (r : Rn p e below (T.setTop (mkF m pc' L (.long (x <<< (y &&& 63).toInt64) :: S))) G) : Rn p e below (T.setTop (mkF m pc L (.int y :: .long x :: S))) G := by
  subst hp; exact Rn.st (fun t q => XS.lshl X.here hx rfl hd rfl q) r
theorem R.lshr (X : Stand p l e R s m args below meth c T locs cells slots) (hx : p.tables.exec = Jvm.exec) {x : Int64} {y : Int32} (hd : decode c.code pc = .ok (.lshr, 1)) (hp : pc + 1 = pc') (r : Rn p e below (T.setTop (mkF m pc' L (.long (x >>> (y &&& 63).toInt64) :: S))) G) : Rn p e below (T.setTop (mkF m pc L (.int y :: .long x :: S))) G := by
  subst hp; exact Rn.st (fun t q => XS.lshr X.here hx rfl hd rfl q) r
theorem R.lcmp (X : Stand p l e R s m args below meth c T locs cells slots) (hx : p.tables.exec = Jvm.exec) {x y : Int64} (hd : decode c.code pc = .ok (.lcmp, 1)) (hp : pc + 1 = pc') (r : Rn p e below (T.setTop (mkF m pc' L (.int (lcmpW x y) :: S))) G) : Rn p e below (T.setTop (mkF m pc L (.long y :: .long x :: S))) G := by
  subst hp; exact Rn.st (fun t q => XS.lcmp X.here hx rfl hd rfl q) r
theorem R.idiv (X : Stand p l e R s m args below meth c T locs cells slots) (hx : p.tables.exec = Jvm.exec) {x y : Int32} (hd : decode c.code pc = .ok (.idiv, 1)) (hy : y ≠ 0) (hp : pc + 1 = pc') (r : Rn p e below (T.setTop (mkF m pc' L (.int (x / y) :: S))) G) : Rn p e below (T.setTop (mkF m pc L (.int y :: .int x :: S))) G := by
  subst hp; exact Rn.st (fun t q => XS.idiv X.here hx rfl hd rfl hy q) r
theorem R.irem (X : Stand p l e R s m args below meth c T locs cells slots) (hx : p.tables.exec = Jvm.exec) {x y : Int32} (hd : decode c.code pc = .ok (.irem, 1)) (hy : y ≠ 0) (hp : pc + 1 = pc') (r : Rn p e below (T.setTop (mkF m pc' L (.int (x % y) :: S))) G) : Rn p e below (T.setTop (mkF m pc L (.int y :: .int x :: S))) G := by
  subst hp; exact Rn.st (fun t q => iremM X hx rfl hd rfl hy q) r
theorem R.ldiv (X : Stand p l e R s m args below meth c T locs cells slots) (hx : p.tables.exec = Jvm.exec) {x y : Int64} (hd : decode c.code pc = .ok (.ldiv, 1)) (hy : y ≠ 0) (hp : pc + 1 = pc') (r : Rn p e below (T.setTop (mkF m pc' L (.long (x / y) :: S))) G) : Rn p e below (T.setTop (mkF m pc L (.long y :: .long x :: S))) G := by
  subst hp; exact Rn.st (fun t q => XS.ldiv X.here hx rfl hd rfl hy q) r
theorem R.lrem (X : Stand p l e R s m args below meth c T locs cells slots) (hx : p.tables.exec = Jvm.exec) {x y : Int64} (hd : decode c.code pc = .ok (.lrem, 1)) (hy : y ≠ 0) (hp : pc + 1 = pc') (r : Rn p e below (T.setTop (mkF m pc' L (.long (x - (x / y) * y) :: S))) G) : Rn p e below (T.setTop (mkF m pc L (.long y :: .long x :: S))) G := by
  subst hp; exact Rn.st (fun t q => XS.lrem X.here hx rfl hd rfl hy q) r
theorem R.i2d (X : Stand p l e R s m args below meth c T locs cells slots) (hx : p.tables.exec = Jvm.exec) {x : Int32} (hd : decode c.code pc = .ok (.i2d, 1)) (hp : pc + 1 = pc') (r : Rn p e below (T.setTop (mkF m pc' L (.double (FP.i2d x) :: S))) G) : Rn p e below (T.setTop (mkF m pc L (.int x :: S))) G := by
  subst hp; exact Rn.st (fun t q => XS.i2dS X.here hx rfl hd rfl rfl q) r
theorem R.l2d (X : Stand p l e R s m args below meth c T locs cells slots) (hx : p.tables.exec = Jvm.exec) {x : Int64} (hd : decode c.code pc = .ok (.l2d, 1)) (hp : pc + 1 = pc') (r : Rn p e below (T.setTop (mkF m pc' L (.double (FP.l2d x) :: S))) G) : Rn p e below (T.setTop (mkF m pc L (.long x :: S))) G := by
  subst hp; exact Rn.st (fun t q => XS.l2dS X.here hx rfl hd rfl rfl q) r
theorem R.d2i (X : Stand p l e R s m args below meth c T locs cells slots) (hx : p.tables.exec = Jvm.exec) {x : UInt64} (hd : decode c.code pc = .ok (.d2i, 1)) (hp : pc + 1 = pc') (r : Rn p e below (T.setTop (mkF m pc' L (.int (FP.d2i x) :: S))) G) : Rn p e below (T.setTop (mkF m pc L (.double x :: S))) G := by
  subst hp; exact Rn.st (fun t q => XS.d2iS X.here hx rfl hd rfl rfl q) r
theorem R.d2l (X : Stand p l e R s m args below meth c T locs cells slots) (hx : p.tables.exec = Jvm.exec) {x : UInt64} (hd : decode c.code pc = .ok (.d2l, 1)) (hp : pc + 1 = pc') (r : Rn p e below (T.setTop (mkF m pc' L (.long (FP.d2l x) :: S))) G) : Rn p e below (T.setTop (mkF m pc L (.double x :: S))) G := by
  subst hp; exact Rn.st (fun t q => XS.d2lS X.here hx rfl hd rfl rfl q) r
theorem R.dadd (X : Stand p l e R s m args below meth c T locs cells slots) (hx : p.tables.exec = Jvm.exec) {x y : UInt64} (hd : decode c.code pc = .ok (.dadd, 1)) (hn : NoNaN64 (FP.dadd x y)) (hp : pc + 1 = pc') (r : Rn p e below (T.setTop (mkF m pc' L (.double (FP.dadd x y) :: S))) G) : Rn p e below (T.setTop (mkF m pc L (.double y :: .double x :: S))) G := by
  subst hp; exact Rn.st (fun t q => XS.daddS X.here hx rfl hd rfl hn rfl q) r
theorem R.dsub (X : Stand p l e R s m args below meth c T locs cells slots) (hx : p.tables.exec = Jvm.exec) {x y : UInt64} (hd : decode c.code pc = .ok (.dsub, 1)) (hn : NoNaN64 (FP.dsub x y)) (hp : pc + 1 = pc') (r : Rn p e below (T.setTop (mkF m pc' L (.double (FP.dsub x y) :: S))) G) : Rn p e below (T.setTop (mkF m pc L (.double y :: .double x :: S))) G := by
  subst hp; exact Rn.st (fun t q => XS.dsubS X.here hx rfl hd rfl hn rfl q) r
theorem R.dmul (X : Stand p l e R s m args below meth c T locs cells slots) (hx : p.tables.exec = Jvm.exec) {x y : UInt64} (hd : decode c.code pc = .ok (.dmul, 1)) (hn : NoNaN64 (FP.dmul x y)) (hp : pc + 1 = pc') (r : Rn p e below (T.setTop (mkF m pc' L (.double (FP.dmul x y) :: S))) G) : Rn p e below (T.setTop (mkF m pc L (.double y :: .double x :: S))) G := by
  subst hp; exact Rn.st (fun t q => XS.dmulS X.here hx rfl hd rfl hn rfl q) r
theorem R.ddiv (X : Stand p l e R s m args below meth c T locs cells slots) (hx : p.tables.exec = Jvm.exec) {x y : UInt64} (hd : decode c.code pc = .ok (.ddiv, 1)) (hn : NoNaN64 (FP.ddiv x y)) (hp : pc + 1 = pc') (r : Rn p e below (T.setTop (mkF m pc' L (.double (FP.ddiv x y) :: S))) G) : Rn p e below (T.setTop (mkF m pc L (.double y :: .double x :: S))) G := by
  subst hp; exact Rn.st (fun t q => XS.ddivS X.here hx rfl hd rfl hn rfl q) r
theorem R.dneg (X : Stand p l e R s m args below meth c T locs cells slots) (hx : p.tables.exec = Jvm.exec) {x : UInt64} (hd : decode c.code pc = .ok (.dneg, 1)) (hp : pc + 1 = pc') (r : Rn p e below (T.setTop (mkF m pc' L (.double (FP.dneg x) :: S))) G) : Rn p e below (T.setTop (mkF m pc L (.double x :: S))) G := by
  subst hp; exact Rn.st (fun t q => XS.dnegS X.here hx rfl hd rfl rfl q) r
theorem R.dcmp (X : Stand p l e R s m args below meth c T locs cells slots) (hx : p.tables.exec = Jvm.exec) {o : CmpOp} {x y : UInt64} {v : Int32} (hd : decode c.code pc = .ok (.dcmp o, 1)) (hv : cmpValue (FP.dcmp x y) o = v) (hp : pc + 1 = pc') (r : Rn p e below (T.setTop (mkF m pc' L (.int v :: S))) G) : Rn p e below (T.setTop (mkF m pc L (.double y :: .double x :: S))) G := by
  subst hp; exact Rn.st (fun t q => XS.dcmpS X.here hx rfl hd rfl hv q) r
theorem R.iinc (X : Stand p l e R s m args below meth c T locs cells slots) (hx : p.tables.exec = Jvm.exec) {k : Nat} {cst : Int} {x : Int32} (hd : decode c.code pc = .ok (.iinc k cst, 3)) (hl : L[k]? = some (.val (.int x))) (hl' : storeLocals L k (.int (x + Int32.ofInt cst)) = some L') (hp : pc + 3 = pc') (r : Rn p e below (T.setTop (mkF m pc' L' (S))) G) : Rn p e below (T.setTop (mkF m pc L (S))) G := by
  subst hp; exact Rn.st (fun t q => XS.iinc X.here hx rfl hd hl hl' q) r
theorem R.dup (X : Stand p l e R s m args below meth c T locs cells slots) (hx : p.tables.exec = Jvm.exec) {x : Value} (hd : decode c.code pc = .ok (.dup, 1)) (hc : x.category = 1) (hp : pc + 1 = pc') (r : Rn p e below (T.setTop (mkF m pc' L (x :: x :: S))) G) : Rn p e below (T.setTop (mkF m pc L (x :: S))) G := by
  subst hp; exact Rn.st (fun t q => XS.dup X.here hx rfl hd rfl hc q) r
theorem R.dupX1 (X : Stand p l e R s m args below meth c T locs cells slots) (hx : p.tables.exec = Jvm.exec) {x y : Value} (hd : decode c.code pc = .ok (.dup_x1, 1)) (hc : x.category = 1) (hc' : y.category = 1) (hp : pc + 1 = pc') (r : Rn p e below (T.setTop (mkF m pc' L (x :: y :: x :: S))) G) : Rn p e below (T.setTop (mkF m pc L (x :: y :: S))) G := by
  subst hp; exact Rn.st (fun t q => XS.dupX1 X.here hx rfl hd rfl hc hc' q) r
theorem R.dup2 (X : Stand p l e R s m args below meth c T locs cells slots) (hx : p.tables.exec = Jvm.exec) {x y : Value} (hd : decode c.code pc = .ok (.dup2, 1)) (hc : x.category = 1) (hc' : y.category = 1) (hp : pc + 1 = pc') (r : Rn p e below (T.setTop (mkF m pc' L (x :: y :: x :: y :: S))) G) : Rn p e below (T.setTop (mkF m pc L (x :: y :: S))) G := by
  subst hp; exact Rn.st (fun t q => Jvm.Free.XT.dup2 X.here hx rfl hd rfl hc hc' q) r
theorem R.pop (X : Stand p l e R s m args below meth c T locs cells slots) (hx : p.tables.exec = Jvm.exec) {x : Value} (hd : decode c.code pc = .ok (.pop, 1)) (hc : x.category = 1) (hp : pc + 1 = pc') (r : Rn p e below (T.setTop (mkF m pc' L (S))) G) : Rn p e below (T.setTop (mkF m pc L (x :: S))) G := by
  subst hp; exact Rn.st (fun t q => XS.pop X.here hx rfl hd rfl hc q) r
theorem R.ifYes (X : Stand p l e R s m args below meth c T locs cells slots) (hx : p.tables.exec = Jvm.exec) {cd : ClassFile.Cond} {x : Int32} {o : Int} (hd : decode c.code pc = .ok (.ifCond cd o, 3)) (hc : if_icmp.holds cd x 0 = true) (ho : 0 ≤ (pc : Int) + o) (hp : ((pc : Int) + o).toNat = pc') (r : Rn p e below (T.setTop (mkF m pc' L S)) G) : Rn p e below (T.setTop (mkF m pc L (.int x :: S))) G :=
  Rn.st (fun t q => XS.ifYes X.here hx rfl rfl hd rfl ((if0 _ _).trans hc) ho hp q) r
theorem R.ifNo (X : Stand p l e R s m args below meth c T locs cells slots) (hx : p.tables.exec = Jvm.exec) {cd : ClassFile.Cond} {x : Int32} {o : Int} (hd : decode c.code pc = .ok (.ifCond cd o, 3)) (hc : if_icmp.holds cd x 0 = false) (hp : pc + 3 = pc') (r : Rn p e below (T.setTop (mkF m pc' L (S))) G) : Rn p e below (T.setTop (mkF m pc L (.int x :: S))) G := by
  subst hp; exact Rn.st (fun t q => XS.ifNo X.here hx rfl hd rfl ((if0 _ _).trans hc) q) r
theorem R.icmpYes (X : Stand p l e R s m args below meth c T locs cells slots) (hx : p.tables.exec = Jvm.exec) {cd : ClassFile.Cond} {x y : Int32} {o : Int} (hd : decode c.code pc = .ok (.if_icmp cd o, 3)) (hc : if_icmp.holds cd x y = true) (ho : 0 ≤ (pc : Int) + o) (hp : ((pc : Int) + o).toNat = pc') (r : Rn p e below (T.setTop (mkF m pc' L S)) G) : Rn p e below (T.setTop (mkF m pc L (.int y :: .int x :: S))) G :=
  Rn.st (fun t q => XS.icmpYes X.here hx rfl rfl hd rfl hc ho hp q) r
theorem R.icmpNo (X : Stand p l e R s m args below meth c T locs cells slots) (hx : p.tables.exec = Jvm.exec) {cd : ClassFile.Cond} {x y : Int32} {o : Int} (hd : decode c.code pc = .ok (.if_icmp cd o, 3)) (hc : if_icmp.holds cd x y = false) (hp : pc + 3 = pc') (r : Rn p e below (T.setTop (mkF m pc' L (S))) G) : Rn p e below (T.setTop (mkF m pc L (.int y :: .int x :: S))) G := by
  subst hp; exact Rn.st (fun t q => XS.icmpNo X.here hx rfl hd rfl hc q) r
theorem R.goto (X : Stand p l e R s m args below meth c T locs cells slots) (hx : p.tables.exec = Jvm.exec)  {o : Int} (hd : decode c.code pc = .ok (.goto o, 3)) (ho : 0 ≤ (pc : Int) + o) (hp : ((pc : Int) + o).toNat = pc') (r : Rn p e below (T.setTop (mkF m pc' L S)) G) : Rn p e below (T.setTop (mkF m pc L (S))) G :=
  Rn.st (fun t q => XS.goto X.here hx rfl rfl hd ho hp q) r
theorem R.ifnullYes (X : Stand p l e R s m args below meth c T locs cells slots) (hx : p.tables.exec = Jvm.exec)  {o : Int} (hd : decode c.code pc = .ok (.ifnull o, 3)) (ho : 0 ≤ (pc : Int) + o) (hp : ((pc : Int) + o).toNat = pc') (r : Rn p e below (T.setTop (mkF m pc' L S)) G) : Rn p e below (T.setTop (mkF m pc L (.null :: S))) G :=
  Rn.st (fun t q => XS.ifnullYes X.here hx rfl rfl hd rfl ho hp q) r
theorem R.ifnullNo (X : Stand p l e R s m args below meth c T locs cells slots) (hx : p.tables.exec = Jvm.exec) {b : Addr} {o : Int} (hd : decode c.code pc = .ok (.ifnull o, 3)) (hp : pc + 3 = pc') (r : Rn p e below (T.setTop (mkF m pc' L (S))) G) : Rn p e below (T.setTop (mkF m pc L (.ref b :: S))) G := by
  subst hp; exact Rn.st (fun t q => XS.ifnullNo X.here hx rfl hd rfl q) r
theorem R.ifnonnullYes (X : Stand p l e R s m args below meth c T locs cells slots) (hx : p.tables.exec = Jvm.exec) {b : Addr} {o : Int} (hd : decode c.code pc = .ok (.ifnonnull o, 3)) (ho : 0 ≤ (pc : Int) + o) (hp : ((pc : Int) + o).toNat = pc') (r : Rn p e below (T.setTop (mkF m pc' L S)) G) : Rn p e below (T.setTop (mkF m pc L (.ref b :: S))) G :=
  Rn.st (fun t q => XS.ifnonnullYes X.here hx rfl rfl hd rfl ho hp q) r
theorem R.ifnonnullNo (X : Stand p l e R s m args below meth c T locs cells slots) (hx : p.tables.exec = Jvm.exec)  {o : Int} (hd : decode c.code pc = .ok (.ifnonnull o, 3)) (hp : pc + 3 = pc') (r : Rn p e below (T.setTop (mkF m pc' L (S))) G) : Rn p e below (T.setTop (mkF m pc L (.null :: S))) G := by
  subst hp; exact Rn.st (fun t q => XS.ifnonnullNo X.here hx rfl hd rfl q) r
end RSteps
section RBig
variable {p : Program} {l : Launch} {e : Env} {R : Room} {s : State} {m : MethodId} {args : Array Value} {below : List Frame} {meth : Method} {c : Code} {T : State} {locs : List Loc} {cells slots : Nat} {G : Outcome → State → Prop} {L L' : Array Slot} {S : List Value} {pc pc' : Nat} {Z : State} {a0 : Array Value} {h : Heap} {a : Addr} {own : String} {index : Nat}
theorem R.getF (X : Stand p l e R s m args below meth c T locs cells slots) (hx : p.tables.exec = Jvm.exec) (hZ : Z.Warmed39 s.vm) {R0 O n d host : String} (hown : s.vm.findClass own = some m.cls) (w : (Jvm.Cond.fieldLink own index R0 n d).before a0 Z = true ∨ (Jvm.Cond.fieldLinkNest own index R0 n d host).before a0 Z = true) (via : Via Z R0 O n d) (eT : T.heap = h) {v : Value} (F : Fld Z h a O n d v)
    (hd : decode c.code pc = .ok (.getfield index, 3)) (hp : pc + 3 = pc') (K : ∀ T', Stand p l e R s m args below meth c T' locs cells slots → T'.heap = h → Rn p e below (T'.setTop (mkF m pc' L (v :: S))) G) : Rn p e below (T.setTop (mkF m pc L (.ref a :: S))) G := by
  subst hp
  obtain ⟨T', X', e', st⟩ := getF X hx hZ hown w via eT F (g := mkF m pc L (.ref a :: S)) rfl rfl hd
  exact Rn.st st (K T' X' e')
theorem R.getS (X : Stand p l e R s m args below meth c T locs cells slots) (hx : p.tables.exec = Jvm.exec) (hZ : Z.Warmed39 s.vm) {R0 O n d host : String} (hown : s.vm.findClass own = some m.cls) (w : (Jvm.Cond.fieldLink own index R0 n d).before a0 Z = true ∨ (Jvm.Cond.fieldLinkNest own index R0 n d host).before a0 Z = true) (via : Via Z R0 O n d) (eT : T.heap = h) {v : Value} (F : Sta Z h O n d v)
    (hd : decode c.code pc = .ok (.getstatic index, 3)) (hp : pc + 3 = pc') (K : ∀ T', Stand p l e R s m args below meth c T' locs cells slots → T'.heap = h → Rn p e below (T'.setTop (mkF m pc' L (v :: S))) G) : Rn p e below (T.setTop (mkF m pc L S)) G := by
  subst hp
  obtain ⟨T', X', e', st⟩ := getS2 X hx hZ hown w via eT F (g := mkF m pc L S) rfl hd
  exact Rn.st st (K T' X' e')
theorem R.putF (X : Stand p l e R s m args below meth c T locs cells slots) (hx : p.tables.exec = Jvm.exec) (hZ : Z.Warmed39 s.vm) {R0 O n d host C : String} {kk : Nat} {ty : FieldType} (hown : s.vm.findClass own = some m.cls) (w : (Jvm.Cond.fieldLink own index R0 n d).before a0 Z = true ∨ (Jvm.Cond.fieldLinkNest own index R0 n d host).before a0 Z = true) (via : Via Z R0 O n d) (eT : T.heap = h) {v old : Value} (F : Fld Z h a O n d old) (E : Exa Z h a C)
    (Ly : (Jvm.Cond.lays C O n d).before a0 Z = true ∨ ((Jvm.Cond.laysFinal C O n d).before a0 Z = true ∧ own = O ∧ meth.name = "<init>")) (wi : (Jvm.Cond.instantiable C kk).before a0 Z = true) (hty : parseFieldDescriptor d = some ty) (hn : narrow ty v = v) (hf : fits ty v = true)
    (hd : decode c.code pc = .ok (.putfield index, 3)) (hp : pc + 3 = pc') (K : ∀ T' h', Stand p l e R s m args below meth c T' (locs ++ [⟨a, Jvm.RoadKit.slotOf Z O n d⟩]) cells slots → T'.heap = h' → Wr h h' a (Jvm.RoadKit.slotOf Z O n d) v → Rn p e below (T'.setTop (mkF m pc' L S)) G) : Rn p e below (T.setTop (mkF m pc L (v :: .ref a :: S))) G := by
  subst hp
  obtain ⟨T', h', X', e', W', st⟩ := putF X hx hZ hown w via eT F E Ly wi hty hn hf (g := mkF m pc L (v :: .ref a :: S)) rfl rfl hd
  exact Rn.st st (K T' h' X' e' W')
theorem R.newO (X : Stand p l e R s m args below meth c T locs cells slots) (hx : p.tables.exec = Jvm.exec) (hZ : Z.Warmed39 s.vm) {C : String} {n : Nat} (hown : s.vm.findClass own = some m.cls) (w : (Jvm.Cond.classLink own index C).before a0 Z = true) (wi : (Jvm.Cond.instantiable C n).before a0 Z = true) (wz : (Jvm.Cond.initialized C).before a0 Z = true) (eT : T.heap = h)
    (hd : decode c.code pc = .ok (.new index, 3)) (hp : pc + 3 = pc') (hc : cells + 1 ≤ R.cells) (hl : slots + n ≤ R.slots)
    (K : ∀ T' h' b, b = h.size → Stand p l e R s m args below meth c T' locs (cells + 1) (slots + n) → T'.heap = h' → Ext h h' → Exa Z h' b C → (∀ {O nm d : String} {ty : FieldType}, Laid Z a0 C O nm d → parseFieldDescriptor d = some ty → Fld Z h' b O nm d (defaultValue ty)) → Rn p e below (T'.setTop (mkF m pc' L (.ref b :: S))) G) : Rn p e below (T.setTop (mkF m pc L S)) G := by
  subst hp
  obtain ⟨T', h', X', e', E', A', D', -, st⟩ := newO X hx hZ hown w wi wz eT (g := mkF m pc L S) rfl hd hc hl
  exact Rn.st st (K T' h' _ rfl X' e' E' A' D')
theorem R.newP (X : Stand p l e R s m args below meth c T locs cells slots) (hx : p.tables.exec = Jvm.exec) (hZ : Z.Warmed39 s.vm) {aty : ArrayType} {ty : FieldType} (hty : newarray.typeOf aty = ty) (w : (Jvm.Cond.arrayClass ty).before a0 Z = true) (eT : T.heap = h) {n : Int32} (hn : ¬ n < 0) {cap : Nat} (hcap : n.toNatClampNeg ≤ cap) (hb : cap * 8 ≤ 536870912) {ad : String} (had : "[" ++ ty.toString = ad)
    (hd : decode c.code pc = .ok (.newarray aty, 2)) (hp : pc + 2 = pc') (hc : cells + 1 ≤ R.cells) (hl : slots + cap ≤ R.slots)
    (K : ∀ T' h' b k, b = h.size → Stand p l e R s m args below meth c T' locs (cells + 1) (slots + cap) → T'.heap = h' → Ext h h' → Exa Z h' b ad → Arh Z h' b k ty n [] [] (defaultValue ty) → Rn p e below (T'.setTop (mkF m pc' L (.ref b :: S))) G) : Rn p e below (T.setTop (mkF m pc L (.int n :: S))) G := by
  subst hp hty
  obtain ⟨T', h', k, X', e', E', A', EE, st⟩ := newPE X hx hZ w eT (g := mkF m pc L (.int n :: S)) rfl hd rfl hn hcap hb hc hl had
  exact Rn.st st (K T' h' _ k rfl X' e' E' EE (Arv.new A' hn).arh)
section Arr
variable {k : ClassId} {z : Int32} {hs : List (Int32 × Value)} {vs : List Value} {dv : Value} {j : Int32}
theorem R.alen (X : Stand p l e R s m args below meth c T locs cells slots) (hx : p.tables.exec = Jvm.exec) (hZ : Z.Warmed39 s.vm) (eT : T.heap = h) {ty : FieldType} (F : Arh Z h a k ty z hs vs dv) (hd : decode c.code pc = .ok (.arraylength, 1)) (hp : pc + 1 = pc') (r : Rn p e below (T.setTop (mkF m pc' L (.int z :: S))) G) : Rn p e below (T.setTop (mkF m pc L (.ref a :: S))) G := by
  subst hp
  obtain ⟨cl, Ar, qA, SA, NA, HA, GA⟩ := F
  exact Rn.st (fun t q => X.arraylength hx (by rw [eT]; exact Ar.1) (State.isArrayOf_alike hZ.alike Ar.2.1) (g := mkF m pc L (.ref a :: S)) rfl rfl hd _ (by rw [len_of SA NA]; exact q)) r
theorem R.daload (X : Stand p l e R s m args below meth c T locs cells slots) (hx : p.tables.exec = Jvm.exec) (hZ : Z.Warmed39 s.vm) (eT : T.heap = h) (F : Arh Z h a k .double z hs vs dv) (hb : ¬ j < 0 ∧ j < z) {v : Value} (hv : getH hs vs dv j.toNatClampNeg = v) (hd : decode c.code pc = .ok (.daload, 1)) (hp : pc + 1 = pc') (r : Rn p e below (T.setTop (mkF m pc' L (v :: S))) G) : Rn p e below (T.setTop (mkF m pc L (.int j :: .ref a :: S))) G := by
  subst hp
  obtain ⟨cl, Ar, qA, SA, NA, HA, GA⟩ := F
  have hin := inb_of SA hb
  exact Rn.st (fun t q => X.daload hx (by rw [eT]; exact Ar.1) (State.isArrayOf_alike hZ.alike Ar.2.1) Ar.2.2 hin (atH HA hin hv) (g := mkF m pc L (.int j :: .ref a :: S)) rfl rfl hd _ q) r
theorem R.iaload (X : Stand p l e R s m args below meth c T locs cells slots) (hx : p.tables.exec = Jvm.exec) (hZ : Z.Warmed39 s.vm) (eT : T.heap = h) (F : Arh Z h a k .int z hs vs dv) (hb : ¬ j < 0 ∧ j < z) {v : Value} (hv : getH hs vs dv j.toNatClampNeg = v) (hd : decode c.code pc = .ok (.iaload, 1)) (hp : pc + 1 = pc') (r : Rn p e below (T.setTop (mkF m pc' L (v :: S))) G) : Rn p e below (T.setTop (mkF m pc L (.int j :: .ref a :: S))) G := by
  subst hp
  obtain ⟨cl, Ar, qA, SA, NA, HA, GA⟩ := F
  have hin := inb_of SA hb
  exact Rn.st (fun t q => X.iaload hx (by rw [eT]; exact Ar.1) (State.isArrayOf_alike hZ.alike Ar.2.1) Ar.2.2 hin (atH HA hin hv) (g := mkF m pc L (.int j :: .ref a :: S)) rfl rfl hd _ q) r
theorem R.baloadZ (X : Stand p l e R s m args below meth c T locs cells slots) (hx : p.tables.exec = Jvm.exec) (hZ : Z.Warmed39 s.vm) (eT : T.heap = h) (F : Arh Z h a k .boolean z hs vs dv) (hb : ¬ j < 0 ∧ j < z) {v : Value} (hv : getH hs vs dv j.toNatClampNeg = v) (hd : decode c.code pc = .ok (.baload, 1)) (hp : pc + 1 = pc') (r : Rn p e below (T.setTop (mkF m pc' L (v :: S))) G) : Rn p e below (T.setTop (mkF m pc L (.int j :: .ref a :: S))) G := by
  subst hp
  obtain ⟨cl, Ar, qA, SA, NA, HA, GA⟩ := F
  have hin := inb_of SA hb
  exact Rn.st (fun t q => X.baloadBooleans hx (by rw [eT]; exact Ar.1) (State.isArrayOf_alike hZ.alike Ar.2.1) Ar.2.2 hin (atH HA hin hv) (g := mkF m pc L (.int j :: .ref a :: S)) rfl rfl hd _ q) r
theorem R.dastore (X : Stand p l e R s m args below meth c T locs cells slots) (hx : p.tables.exec = Jvm.exec) (hZ : Z.Warmed39 s.vm) (eT : T.heap = h) (F : Arh Z h a k .double z hs vs dv) (hb : ¬ j < 0 ∧ j < z) {x : UInt64} (hd : decode c.code pc = .ok (.dastore, 1)) (hp : pc + 1 = pc')
    (K : ∀ T' h', Stand p l e R s m args below meth c T' (locs ++ [⟨a, j.toNatClampNeg⟩]) cells slots → T'.heap = h' → Wr h h' a j.toNatClampNeg (.double x) → Arh Z h' a k .double z ((j, .double x) :: hs) vs dv → Rn p e below (T'.setTop (mkF m pc' L S)) G) : Rn p e below (T.setTop (mkF m pc L (.double x :: .int j :: .ref a :: S))) G := by
  subst hp
  obtain ⟨cl, Ar, qA, SA, NA, HA, GA⟩ := F
  have hin := inb_of SA hb
  obtain ⟨T', h', X', e', W', st⟩ := stD X hx hZ eT Ar (j := j) hin (g := mkF m pc L (.double x :: .int j :: .ref a :: S)) rfl rfl hd
  exact Rn.st st (K T' h' X' e' W' (Arh.push Ar qA SA NA HA GA rfl W' hin))
theorem R.iastore (X : Stand p l e R s m args below meth c T locs cells slots) (hx : p.tables.exec = Jvm.exec) (hZ : Z.Warmed39 s.vm) (eT : T.heap = h) (F : Arh Z h a k .int z hs vs dv) (hb : ¬ j < 0 ∧ j < z) {x : Int32} (hd : decode c.code pc = .ok (.iastore, 1)) (hp : pc + 1 = pc')
    (K : ∀ T' h', Stand p l e R s m args below meth c T' (locs ++ [⟨a, j.toNatClampNeg⟩]) cells slots → T'.heap = h' → Wr h h' a j.toNatClampNeg (.int x) → Arh Z h' a k .int z ((j, .int x) :: hs) vs dv → Rn p e below (T'.setTop (mkF m pc' L S)) G) : Rn p e below (T.setTop (mkF m pc L (.int x :: .int j :: .ref a :: S))) G := by
  subst hp
  obtain ⟨cl, Ar, qA, SA, NA, HA, GA⟩ := F
  have hin := inb_of SA hb
  obtain ⟨T', h', X', e', W', st⟩ := stI X hx hZ eT Ar (j := j) hin (g := mkF m pc L (.int x :: .int j :: .ref a :: S)) rfl rfl hd
  exact Rn.st st (K T' h' X' e' W' (Arh.push Ar qA SA NA HA GA rfl W' hin))
theorem R.bastoreZ (X : Stand p l e R s m args below meth c T locs cells slots) (hx : p.tables.exec = Jvm.exec) (hZ : Z.Warmed39 s.vm) (eT : T.heap = h) (F : Arh Z h a k .boolean z hs vs dv) (hb : ¬ j < 0 ∧ j < z) {x : Int32} (hn : nar .boolean x = x) (hd : decode c.code pc = .ok (.bastore, 1)) (hp : pc + 1 = pc')
    (K : ∀ T' h', Stand p l e R s m args below meth c T' (locs ++ [⟨a, j.toNatClampNeg⟩]) cells slots → T'.heap = h' → Wr h h' a j.toNatClampNeg (.int x) → Arh Z h' a k .boolean z ((j, .int x) :: hs) vs dv → Rn p e below (T'.setTop (mkF m pc' L S)) G) : Rn p e below (T.setTop (mkF m pc L (.int x :: .int j :: .ref a :: S))) G := by
  subst hp
  obtain ⟨cl, Ar, qA, SA, NA, HA, GA⟩ := F
  have hin := inb_of SA hb
  obtain ⟨T', h', X', e', W', st⟩ := stZ X hx hZ eT Ar (j := j) hin (g := mkF m pc L (.int x :: .int j :: .ref a :: S)) rfl rfl hd
  rw [hn] at W'
  exact Rn.st st (K T' h' X' e' W' (Arh.push Ar qA SA NA HA GA (by have q := fits_nar_bool x; rw [hn] at q; exact q) W' hin))
end Arr
theorem R.ldc2D (X : Stand p l e R s m args below meth c T locs cells slots) (hx : p.tables.exec = Jvm.exec) (hZ : Z.Warmed39 s.vm) {b : UInt64} (hown : s.vm.findClass own = some m.cls) (w : (Jvm.Cond.constantDouble own index b).before a0 Z = true) (hd : decode c.code pc = .ok (.ldc2_w index, 3)) (hp : pc + 3 = pc') (r : Rn p e below (T.setTop (mkF m pc' L (.double b :: S))) G) : Rn p e below (T.setTop (mkF m pc L S)) G := by
  subst hp; exact Rn.st (fun t q => X.ldc2DoubleC hx hown (mvT hZ w) (g := mkF m pc L S) rfl hd _ q) r
theorem R.ldc2J (X : Stand p l e R s m args below meth c T locs cells slots) (hx : p.tables.exec = Jvm.exec) (hZ : Z.Warmed39 s.vm) {b : Int64} (hown : s.vm.findClass own = some m.cls) (w : (Jvm.Cond.constantLong own index b).before a0 Z = true) (hd : decode c.code pc = .ok (.ldc2_w index, 3)) (hp : pc + 3 = pc') (r : Rn p e below (T.setTop (mkF m pc' L (.long b :: S))) G) : Rn p e below (T.setTop (mkF m pc L S)) G := by
  subst hp; exact Rn.st (fun t q => X.ldc2Long hx hown (mvT hZ w) (g := mkF m pc L S) rfl hd _ q) r
theorem R.ldcI (X : Stand p l e R s m args below meth c T locs cells slots) (hx : p.tables.exec = Jvm.exec) (hZ : Z.Warmed39 s.vm) {b : Int32} (hown : s.vm.findClass own = some m.cls) (w : (Jvm.Cond.constant own index b).before a0 Z = true) (hd : decode c.code pc = .ok (.ldc index, 2)) (hp : pc + 2 = pc') (r : Rn p e below (T.setTop (mkF m pc' L (.int b :: S))) G) : Rn p e below (T.setTop (mkF m pc L S)) G := by
  subst hp; exact Rn.st (fun t q => X.ldcInt hx hown (mvT hZ w) (g := mkF m pc L S) rfl hd _ q) r
theorem R.castY (X : Stand p l e R s m args below meth c T locs cells slots) (hx : p.tables.exec = Jvm.exec) (hZ : Z.Warmed39 s.vm) {C : String} (hown : s.vm.findClass own = some m.cls) (w : (Jvm.Cond.classLink own index C).before a0 Z = true) (eT : T.heap = h) (F : Ins Z h a C true) (hd : decode c.code pc = .ok (.checkcast index, 3)) (hp : pc + 3 = pc')
    (K : ∀ T', Stand p l e R s m args below meth c T' locs cells slots → T'.heap = h → Rn p e below (T'.setTop (mkF m pc' L (.ref a :: S))) G) : Rn p e below (T.setTop (mkF m pc L (.ref a :: S))) G := by
  subst hp
  obtain ⟨T', X', e', st⟩ := castY X hx hZ hown w eT F (g := mkF m pc L (.ref a :: S)) rfl rfl hd
  exact Rn.st st (K T' X' e')
theorem R.instY (X : Stand p l e R s m args below meth c T locs cells slots) (hx : p.tables.exec = Jvm.exec) (hZ : Z.Warmed39 s.vm) {C : String} (hown : s.vm.findClass own = some m.cls) (w : (Jvm.Cond.classLink own index C).before a0 Z = true) (eT : T.heap = h) (F : Ins Z h a C true) (hd : decode c.code pc = .ok (.instanceof index, 3)) (hp : pc + 3 = pc')
    (K : ∀ T', Stand p l e R s m args below meth c T' locs cells slots → T'.heap = h → Rn p e below (T'.setTop (mkF m pc' L (.int 1 :: S))) G) : Rn p e below (T.setTop (mkF m pc L (.ref a :: S))) G := by
  subst hp
  obtain ⟨T', X', e', st⟩ := instY X hx hZ hown w eT F (g := mkF m pc L (.ref a :: S)) rfl rfl hd
  exact Rn.st st (K T' X' e')
theorem R.instNo (X : Stand p l e R s m args below meth c T locs cells slots) (hx : p.tables.exec = Jvm.exec) (hZ : Z.Warmed39 s.vm) {C C' : String} (hown : s.vm.findClass own = some m.cls) (w : (Jvm.Cond.classLink own index C').before a0 Z = true) (eT : T.heap = h) (E : Exa Z h a C) (F : ∃ c t, Z.vm.findClass C = some c ∧ Z.vm.findClass C' = some t ∧ Z.vm.assignable c t = false) (hd : decode c.code pc = .ok (.instanceof index, 3)) (hp : pc + 3 = pc')
    (K : ∀ T', Stand p l e R s m args below meth c T' locs cells slots → T'.heap = h → Rn p e below (T'.setTop (mkF m pc' L (.int 0 :: S))) G) : Rn p e below (T.setTop (mkF m pc L (.ref a :: S))) G := by
  subst hp
  obtain ⟨T', X', e', st⟩ := instNo X hx hZ hown w eT E F (g := mkF m pc L (.ref a :: S)) rfl rfl hd
  exact Rn.st st (K T' X' e')
theorem R.initO (X : Stand p l e R s m args below meth c T locs cells slots) (hx : p.tables.exec = Jvm.exec) (hZ : Z.Warmed39 s.vm) (hown : s.vm.findClass own = some m.cls) (w1 : (Jvm.Cond.methodLink own index Lib.objectInit).before a0 Z = true) (w2 : (Jvm.Cond.instanceMethod Lib.objectInit).before a0 Z = true) (w3 : (Jvm.Cond.code Lib.objectInit ⟨#[0xb1]⟩ 1 none).before a0 Z = true) (eT : T.heap = h) (hsize : L.size = c.maxLocals)
    (hd : decode c.code pc = .ok (.invokespecial index, 3)) (hp : pc + 3 = pc') (hf : 1 ≤ R.frames) {W : Nat} (hW : (S.map fun v => v.category).sum ≤ W) (hl : W + 12 ≤ R.locals)
    (K : ∀ T', Stand p l e R s m args below meth c T' locs cells slots → T'.heap = h → Rn p e below (T'.setTop (mkF m pc' L S)) G) : Rn p e below (T.setTop (mkF m pc L (.ref a :: S))) G := by
  subst hp
  obtain ⟨T', X', e', st⟩ := initO X hx hZ hown w1 w2 w3 eT (g := mkF m pc L (.ref a :: S)) rfl hsize rfl hd hf (W := W) (by show 2 * 0 + _ ≤ W; rw [Nat.mul_zero, Nat.zero_add]; exact hW) hl
  exact Rn.st st (K T' X' e')
section Calls
variable {y : MethodName} {bytes : ByteArray} {maxL : Nat} {ret : Option FieldType} {rm : Room} {as' : List Value} {Q : Option Value → Heap → List Loc → Prop} {S0 : List Value} {W : Nat}
theorem R.callS (X : Stand p l e R s m args below meth c T locs cells slots) (hx : p.tables.exec = Jvm.exec) (hZ : Z.Warmed39 s.vm) (hown : s.vm.findClass own = some m.cls) (w1 : (Jvm.Cond.methodLink own index y).before a0 Z = true) (w2 : (Jvm.Cond.static y).before a0 Z = true) (w3 : (Jvm.Cond.initialized y.cls).before a0 Z = true) (w4 : (Jvm.Cond.code y bytes maxL ret).before a0 Z = true) (hy : y.cls ≠ "java/lang/invoke/MethodHandle" ∧ y.cls ≠ "java/lang/invoke/VarHandle") (eT : T.heap = h)
    (hM : MetFree l y (head1 [Jvm.Cond.code y bytes maxL ret] rm) (fun a U => a = as'.toArray ∧ Z.Warmed39 U.vm ∧ U.heap = h) (fun _ _ _ _ _ => True) (fun _ U o U' => ∃ v L, o = .returned v ∧ Q v U'.heap L ∧ FrameEnd U o U' L rm.cells rm.slots))
    (hf : rm.frames + 1 ≤ R.frames) (hW : (S.map fun v => v.category).sum ≤ W) (hl : W + (maxL + 11) + rm.locals ≤ R.locals) (hsize : L.size = c.maxLocals) (hlen : ∀ sig, parseMethodDescriptor y.desc = some sig → as'.length = sig.parameters.length) (hst : S0 = as'.reverse ++ S) (hd : decode c.code pc = .ok (.invokestatic index, 3)) (hp : pc + 3 = pc') (hc : cells + rm.cells ≤ R.cells) (hs : slots + rm.slots ≤ R.slots)
    (K : ∀ v T' L1, Stand p l e R s m args below meth c T' (locs ++ L1) (cells + rm.cells) (slots + rm.slots) → Q v T'.heap L1 → Rn p e below (T'.setTop (mkF m pc' L (v.toList ++ S))) G) : Rn p e below (T.setTop (mkF m pc L S0)) G := by
  subst hp
  obtain ⟨v, vm1, ⟨T', L2, k', n'⟩, -, X', ⟨Lc, hQ, l1, y1, z1⟩, st⟩ := Jvm.LawKit.callS X hx (y := y) hown (mvT hZ w1) (mvT hZ w2) (mvT hZ w3) (mvT hZ w4) hy (backOf (W := W) hM hZ w4 w3 hf hl) (g := mkF m pc L S0) rfl hsize (argsL := as') (rest := S) hlen hst (by show 2 * 0 + _ ≤ W; rw [Nat.mul_zero, Nat.zero_add]; exact hW) hd (fun _ _ => ⟨rfl, eT, hc, hs⟩)
  dsimp only [Pt.U, Pt.locs, Pt.cells, Pt.slots] at X' l1 y1 z1 st hQ
  subst l1 y1 z1
  exact Rn.st st (K v T' Lc X' hQ)
theorem R.special (X : Stand p l e R s m args below meth c T locs cells slots) (hx : p.tables.exec = Jvm.exec) (hZ : Z.Warmed39 s.vm) (hy1 : y.name = "<init>") (hown : s.vm.findClass own = some m.cls) (w1 : (Jvm.Cond.methodLink own index y).before a0 Z = true) (w2 : (Jvm.Cond.instanceMethod y).before a0 Z = true) (w3 : (Jvm.Cond.initialized y.cls).before a0 Z = true) (w4 : (Jvm.Cond.code y bytes maxL none).before a0 Z = true) (hy : y.cls ≠ "java/lang/invoke/MethodHandle" ∧ y.cls ≠ "java/lang/invoke/VarHandle") (eT : T.heap = h)
    (hM : MetFree l y (head1 [Jvm.Cond.code y bytes maxL none] rm) (fun u U => u = (.ref a :: as').toArray ∧ Z.Warmed39 U.vm ∧ U.heap = h) (fun _ _ _ _ _ => True) (fun _ U o U' => ∃ v L, o = .returned v ∧ Q v U'.heap L ∧ FrameEnd U o U' L rm.cells rm.slots))
    (hf : rm.frames + 1 ≤ R.frames) (hW : (S.map fun v => v.category).sum ≤ W) (hl : W + (maxL + 11) + rm.locals ≤ R.locals) (hsize : L.size = c.maxLocals) (hlen : ∀ sig, parseMethodDescriptor y.desc = some sig → as'.length = sig.parameters.length) (hst : S0 = as'.reverse ++ .ref a :: S) (hd : decode c.code pc = .ok (.invokespecial index, 3)) (hp : pc + 3 = pc') (hc : cells + rm.cells ≤ R.cells) (hs : slots + rm.slots ≤ R.slots)
    (K : ∀ v T' L1, Stand p l e R s m args below meth c T' (locs ++ L1) (cells + rm.cells) (slots + rm.slots) → Q v T'.heap L1 → Rn p e below (T'.setTop (mkF m pc' L (v.toList ++ S))) G) : Rn p e below (T.setTop (mkF m pc L S0)) G := by
  subst hp
  obtain ⟨v, vm1, ⟨T', L2, k', n'⟩, -, X', ⟨Lc, hQ, l1, y1, z1⟩, st⟩ := X.specialBack hx (y := y) hy1 hown (mvT hZ w1) (mvT hZ w2) (mvT hZ w4) hy (backOf (W := W) hM hZ w4 w3 hf hl) (g := mkF m pc L S0) rfl hsize (Steps.refl _) (a := a) (argsL := as') (rest := S) hlen hst (by show 2 * 0 + _ ≤ W; rw [Nat.mul_zero, Nat.zero_add]; exact hW) hd (fun _ _ => ⟨rfl, eT, hc, hs⟩)
  dsimp only [Pt.U, Pt.locs, Pt.cells, Pt.slots] at X' l1 y1 z1 st hQ
  subst l1 y1 z1
  exact Rn.st (fun t q => st.trans q) (K v T' Lc X' hQ)
theorem R.virtual (X : Stand p l e R s m args below meth c T locs cells slots) (hx : p.tables.exec = Jvm.exec) (hZ : Z.Warmed39 s.vm) {C : String} {z : MethodName} (hown : s.vm.findClass own = some m.cls) (w1 : (Jvm.Cond.methodLink own index y).before a0 Z = true) (w2 : (Jvm.Cond.declares y).before a0 Z = true) (hnf : NotFace s y) (w5 : (Jvm.Cond.selects C y z).before a0 Z = true) (w6 : (Jvm.Cond.instanceMethod z).before a0 Z = true) (w3 : (Jvm.Cond.initialized z.cls).before a0 Z = true) (w4 : (Jvm.Cond.code z bytes maxL ret).before a0 Z = true) (hy : y.cls ≠ "java/lang/invoke/MethodHandle" ∧ y.cls ≠ "java/lang/invoke/VarHandle") (eT : T.heap = h) (E : Exa Z h a C)
    (hM : MetFree l z (head1 [Jvm.Cond.code z bytes maxL ret] rm) (fun u U => u = (.ref a :: as').toArray ∧ Z.Warmed39 U.vm ∧ U.heap = h) (fun _ _ _ _ _ => True) (fun _ U o U' => ∃ v L, o = .returned v ∧ Q v U'.heap L ∧ FrameEnd U o U' L rm.cells rm.slots))
    (hf : rm.frames + 1 ≤ R.frames) (hW : (S.map fun v => v.category).sum ≤ W) (hl : W + (maxL + 11) + rm.locals ≤ R.locals) (hsize : L.size = c.maxLocals) (hlen : ∀ sig, parseMethodDescriptor y.desc = some sig → as'.length = sig.parameters.length) (hst : S0 = as'.reverse ++ .ref a :: S) (hd : decode c.code pc = .ok (.invokevirtual index, 3)) (hp : pc + 3 = pc') (hc : cells + rm.cells ≤ R.cells) (hs : slots + rm.slots ≤ R.slots)
    (K : ∀ v T' L1, Stand p l e R s m args below meth c T' (locs ++ L1) (cells + rm.cells) (slots + rm.slots) → Q v T'.heap L1 → Rn p e below (T'.setTop (mkF m pc' L (v.toList ++ S))) G) : Rn p e below (T.setTop (mkF m pc L S0)) G := by
  subst hp
  obtain ⟨cq, kq, qa, qb, qc⟩ := isOf hZ eT E
  obtain ⟨v, vm1, ⟨T', L2, k', n'⟩, -, X', ⟨Lc, hQ, l1, y1, z1⟩, st⟩ := X.virtualBack hx (y := y) (z := z) hown (mvT hZ w1) (mvT hZ w2) hnf (mvT hZ w5) (mvT hZ w6) hy (backOf (W := W) hM hZ w4 w3 hf hl) qa qc (g := mkF m pc L S0) rfl hsize (Steps.refl _) (argsL := as') (rest := S) hlen hst (by show 2 * 0 + _ ≤ W; rw [Nat.mul_zero, Nat.zero_add]; exact hW) hd (fun _ _ => ⟨rfl, eT, hc, hs⟩)
  dsimp only [Pt.U, Pt.locs, Pt.cells, Pt.slots] at X' l1 y1 z1 st hQ
  subst l1 y1 z1
  exact Rn.st (fun t q => st.trans q) (K v T' Lc X' hQ)
end Calls
end RBig
section RMore
variable {p : Program} {l : Launch} {e : Env} {R : Room} {s : State} {m : MethodId} {args : Array Value} {below : List Frame} {meth : Method} {c : Code} {T : State} {locs : List Loc} {cells slots : Nat} {G : Outcome → State → Prop} {L L' : Array Slot} {S : List Value} {pc pc' : Nat} {Z : State} {a0 : Array Value} {h : Heap} {a : Addr} {own : String} {index : Nat}
theorem R.aaload (X : Stand p l e R s m args below meth c T locs cells slots) (hx : p.tables.exec = Jvm.exec) (hZ : Z.Warmed39 s.vm) (eT : T.heap = h) {cl : Cell} {ty : FieldType} (Ar : Arr Z h a cl ty) (hr : ty.isReference = true) {j : Int32} (hin : ¬ (j < 0 ∨ cl.slots.size ≤ j.toNatClampNeg)) {v : Value} (hv : cl.slots[j.toNatClampNeg]? = some v) (hd : decode c.code pc = .ok (.aaload, 1)) (hp : pc + 1 = pc') (r : Rn p e below (T.setTop (mkF m pc' L (v :: S))) G) : Rn p e below (T.setTop (mkF m pc L (.int j :: .ref a :: S))) G := by
  subst hp
  exact Rn.st (fun t q => X.aaload hx (by rw [eT]; exact Ar.1) (State.isArrayOf_alike hZ.alike Ar.2.1) hr Ar.2.2 hin hv (g := mkF m pc L (.int j :: .ref a :: S)) rfl rfl hd _ q) r
theorem R.tsw (X : Stand p l e R s m args below meth c T locs cells slots) (hx : p.tables.exec = Jvm.exec) {dflt low high : Int} {offs : Array Int} {len : Nat} {o : Int} {i : Int32} (hd : decode c.code pc = .ok (.tableswitch dflt low high offs, len)) (hin : ¬ (i.toInt < low ∨ i.toInt > high)) (hoff : offs[(i.toInt - low).toNat]? = some o) (ho : 0 ≤ (pc : Int) + o) (hp : ((pc : Int) + o).toNat = pc') (r : Rn p e below (T.setTop (mkF m pc' L S)) G) : Rn p e below (T.setTop (mkF m pc L (.int i :: S))) G :=
  Rn.st (fun t q => XS.tswIn X.here hx rfl rfl hd rfl hin hoff ho hp q) r
theorem R.tswD (X : Stand p l e R s m args below meth c T locs cells slots) (hx : p.tables.exec = Jvm.exec) {dflt low high : Int} {offs : Array Int} {len : Nat} {i : Int32} (hd : decode c.code pc = .ok (.tableswitch dflt low high offs, len)) (hin : i.toInt < low ∨ i.toInt > high) (ho : 0 ≤ (pc : Int) + dflt) (hp : ((pc : Int) + dflt).toNat = pc') (r : Rn p e below (T.setTop (mkF m pc' L S)) G) : Rn p e below (T.setTop (mkF m pc L (.int i :: S))) G :=
  Rn.st (fun t q => XS.tswOut X.here hx rfl rfl hd rfl hin ho hp q) r
theorem R.virtualUp {x y : MethodName} {owner : String} {bytes : ByteArray} {maxL : Nat} {ret : Option FieldType} {rm : Room} {as' : List Value} {Q : Option Value → Heap → List Loc → Prop} {S0 : List Value} {W : Nat} (X : Stand p l e R s m args below meth c T locs cells slots) (hx : p.tables.exec = Jvm.exec) (hZ : Z.Warmed39 s.vm) {C : String} (hown : s.vm.findClass own = some m.cls) (w1 : (Jvm.Cond.methodLink own index x).before a0 Z = true) (w2 : (Jvm.Cond.sameMethod x.cls owner x.name x.desc).before a0 Z = true) (w7 : (Jvm.Cond.declares ⟨owner, x.name, x.desc⟩).before a0 Z = true) (w5 : (Jvm.Cond.selects C x y).before a0 Z = true) (w6 : (Jvm.Cond.instanceMethod y).before a0 Z = true) (w3 : (Jvm.Cond.initialized y.cls).before a0 Z = true) (w4 : (Jvm.Cond.code y bytes maxL ret).before a0 Z = true) (hy : owner ≠ "java/lang/invoke/MethodHandle" ∧ owner ≠ "java/lang/invoke/VarHandle") (eT : T.heap = h) (E : Exa Z h a C)
    (hM : MetFree l y (head1 [Jvm.Cond.code y bytes maxL ret] rm) (fun u U => u = (.ref a :: as').toArray ∧ Z.Warmed39 U.vm ∧ U.heap = h) (fun _ _ _ _ _ => True) (fun _ U o U' => ∃ v L, o = .returned v ∧ Q v U'.heap L ∧ FrameEnd U o U' L rm.cells rm.slots))
    (hf : rm.frames + 1 ≤ R.frames) (hW : (S.map fun v => v.category).sum ≤ W) (hl : W + (maxL + 11) + rm.locals ≤ R.locals) (hsize : L.size = c.maxLocals) (hlen : ∀ sig, parseMethodDescriptor x.desc = some sig → as'.length = sig.parameters.length) (hst : S0 = as'.reverse ++ .ref a :: S) (hd : decode c.code pc = .ok (.invokevirtual index, 3)) (hp : pc + 3 = pc') (hc : cells + rm.cells ≤ R.cells) (hs : slots + rm.slots ≤ R.slots)
    (K : ∀ v T' L1, Stand p l e R s m args below meth c T' (locs ++ L1) (cells + rm.cells) (slots + rm.slots) → Q v T'.heap L1 → Rn p e below (T'.setTop (mkF m pc' L (v.toList ++ S))) G) : Rn p e below (T.setTop (mkF m pc L S0)) G := by
  subst hp
  obtain ⟨cq, kq, qa, qb, qc⟩ := isOf hZ eT E
  obtain ⟨v, vm1, ⟨T', L2, k', n'⟩, -, X', ⟨Lc, hQ, l1, y1, z1⟩, st⟩ := X.virtualBackUp hx (x := x) (y := y) hown (mvT hZ w1) (mvT hZ w2) (mvT hZ w7) hy (mvT hZ w5) (mvT hZ w6) (backOf (W := W) hM hZ w4 w3 hf hl) qa qc (g := mkF m pc L S0) rfl hsize (Steps.refl _) (argsL := as') (rest := S) hlen hst (by show 2 * 0 + _ ≤ W; rw [Nat.mul_zero, Nat.zero_add]; exact hW) hd (fun _ _ => ⟨rfl, eT, hc, hs⟩)
  dsimp only [Pt.U, Pt.locs, Pt.cells, Pt.slots] at X' l1 y1 z1 st hQ
  subst l1 y1 z1
  exact Rn.st (fun t q => st.trans q) (K v T' Lc X' hQ)
end RMore
section RMore2
variable {p : Program} {l : Launch} {e : Env} {R : Room} {s : State} {m : MethodId} {args : Array Value} {below : List Frame} {meth : Method} {c : Code} {T : State} {locs : List Loc} {cells slots : Nat} {G : Outcome → State → Prop} {L L' : Array Slot} {S : List Value} {pc pc' : Nat} {Z : State} {a0 : Array Value} {h : Heap} {a : Addr} {own : String} {index : Nat}
theorem R.privateV {y : MethodName} {bytes : ByteArray} {maxL : Nat} {ret : Option FieldType} {rm : Room} {as' : List Value} {Q : Option Value → Heap → List Loc → Prop} {S0 : List Value} {W : Nat} (X : Stand p l e R s m args below meth c T locs cells slots) (hx : p.tables.exec = Jvm.exec) (hZ : Z.Warmed39 s.vm) {C : String} (hown : s.vm.findClass own = some m.cls) (w1 : (Jvm.Cond.methodLink own index y).before a0 Z = true) (w6 : (Jvm.Cond.instanceMethod y).before a0 Z = true) (w5 : (Jvm.Cond.selects y.cls y y).before a0 Z = true) (w8 : (Jvm.Cond.privateMethod y).before a0 Z = true) (w3 : (Jvm.Cond.initialized y.cls).before a0 Z = true) (w4 : (Jvm.Cond.code y bytes maxL ret).before a0 Z = true) (hy : y.cls ≠ "java/lang/invoke/MethodHandle" ∧ y.cls ≠ "java/lang/invoke/VarHandle") (eT : T.heap = h) (E : Exa Z h a C)
    (hM : MetFree l y (head1 [Jvm.Cond.code y bytes maxL ret] rm) (fun u U => u = (.ref a :: as').toArray ∧ Z.Warmed39 U.vm ∧ U.heap = h) (fun _ _ _ _ _ => True) (fun _ U o U' => ∃ v L, o = .returned v ∧ Q v U'.heap L ∧ FrameEnd U o U' L rm.cells rm.slots))
    (hf : rm.frames + 1 ≤ R.frames) (hW : (S.map fun v => v.category).sum ≤ W) (hl : W + (maxL + 11) + rm.locals ≤ R.locals) (hsize : L.size = c.maxLocals) (hlen : ∀ sig, parseMethodDescriptor y.desc = some sig → as'.length = sig.parameters.length) (hst : S0 = as'.reverse ++ .ref a :: S) (hd : decode c.code pc = .ok (.invokevirtual index, 3)) (hp : pc + 3 = pc') (hc : cells + rm.cells ≤ R.cells) (hs : slots + rm.slots ≤ R.slots)
    (K : ∀ v T' L1, Stand p l e R s m args below meth c T' (locs ++ L1) (cells + rm.cells) (slots + rm.slots) → Q v T'.heap L1 → Rn p e below (T'.setTop (mkF m pc' L (v.toList ++ S))) G) : Rn p e below (T.setTop (mkF m pc L S0)) G := by
  subst hp
  obtain ⟨cq, qa, qb⟩ := E.cell
  obtain ⟨v, vm1, ⟨T', L2, k', n'⟩, -, X', ⟨Lc, hQ, l1, y1, z1⟩, st⟩ := X.privateBack hx (y := y) hown (mvT hZ w1) (mvT hZ w6) (mvT hZ w5) (Cond.privateMethod_at (mvP hZ w8 (args := #[]))) (mvT hZ w4) hy (backOf (W := W) hM hZ w4 w3 hf hl) (g := mkF m pc L S0) rfl hsize (Steps.refl _) (a := a) (by rw [eT]; exact qa) qb (argsL := as') (rest := S) hlen hst (by show 2 * 0 + _ ≤ W; rw [Nat.mul_zero, Nat.zero_add]; exact hW) hd (fun _ _ => ⟨rfl, eT, hc, hs⟩)
  dsimp only [Pt.U, Pt.locs, Pt.cells, Pt.slots] at X' l1 y1 z1 st hQ
  subst l1 y1 z1
  exact Rn.st (fun t q => st.trans q) (K v T' Lc X' hQ)
/-- an array of so many references of a class -/
def own_AR (Z : State) (h : Heap) (b : Addr) (C : String) (n : Nat) : Prop := ∃ cl : Cell, Arr Z h b cl (.object C) ∧ cl.slots.size = n ∧ Ovr Z cl.cls C
theorem own_AR.other {Z : State} {h h' : Heap} {a b : Addr} {sl : Nat} {v : Value} {C : String} {n : Nat} (F : own_AR Z h b C n) (W : Wr h h' a sl v) (hne : b ≠ a) : own_AR Z h' b C n := by
  obtain ⟨cl, A, q⟩ := F
  exact ⟨cl, Arr.other W A hne, q⟩
theorem R.newR (X : Stand p l e R s m args below meth c T locs cells slots) (hx : p.tables.exec = Jvm.exec) (hZ : Z.Warmed39 s.vm) {C : String} (hown : s.vm.findClass own = some m.cls) (w1 : (Jvm.Cond.classLink own index C).before a0 Z = true) (w2 : (Jvm.Cond.arrayOver (.object C)).before a0 Z = true) (eT : T.heap = h) {n : Int32} (hn : ¬ n < 0) {cap : Nat} (hcap : n.toNatClampNeg = cap) (hb : cap * 8 ≤ 536870912)
    (hd : decode c.code pc = .ok (.anewarray index, 3)) (hp : pc + 3 = pc') (hc : cells + 1 ≤ R.cells) (hl : slots + cap ≤ R.slots)
    (K : ∀ T' h' b, b = h.size → Stand p l e R s m args below meth c T' locs (cells + 1) (slots + cap) → T'.heap = h' → Ext h h' → own_AR Z h' b C cap → Rn p e below (T'.setTop (mkF m pc' L (.ref b :: S))) G) : Rn p e below (T.setTop (mkF m pc L (.int n :: S))) G := by
  subst hp
  obtain ⟨T', h', cA, X', e', E', A', O', st⟩ := Jvm.RoadKit.newR X hx hZ hown w1 w2 eT (g := mkF m pc L (.int n :: S)) rfl hd rfl hn (Nat.le_of_eq hcap) hb hc hl
  exact Rn.st st (K T' h' _ rfl X' e' E' ⟨_, A', by rw [← hcap]; simp [newA], O'⟩)
theorem R.aastoreO (X : Stand p l e R s m args below meth c T locs cells slots) (hx : p.tables.exec = Jvm.exec) (hZ : Z.Warmed39 s.vm) (eT : T.heap = h) {C : String} {n : Nat} {y : Addr} (F : own_AR Z h a C n) (I : Ins Z h y C true) {j : Int32} (hj : ¬ j < 0) (hjn : j.toNatClampNeg < n) (hd : decode c.code pc = .ok (.aastore, 1)) (hp : pc + 1 = pc')
    (K : ∀ T' h', Stand p l e R s m args below meth c T' (locs ++ [⟨a, j.toNatClampNeg⟩]) cells slots → T'.heap = h' → Wr h h' a j.toNatClampNeg (.ref y) → Rn p e below (T'.setTop (mkF m pc' L S)) G) : Rn p e below (T.setTop (mkF m pc L (.ref y :: .int j :: .ref a :: S))) G := by
  subst hp
  obtain ⟨cl, A, hsz, O⟩ := F
  have hin : ¬ (j < 0 ∨ cl.slots.size ≤ j.toNatClampNeg) := by
    rintro (q | q)
    · exact hj q
    · omega
  obtain ⟨T', h', X', e', W', st⟩ := Jvm.RoadKit.stR X hx hZ eT A (j := j) hin rfl (Sto.of A O I) (g := mkF m pc L (.ref y :: .int j :: .ref a :: S)) rfl rfl hd
  exact Rn.st st (K T' h' X' e' W')
theorem R.bastoreB {k : ClassId} {z : Int32} {hs : List (Int32 × Value)} {vs : List Value} {dv : Value} {j : Int32} (X : Stand p l e R s m args below meth c T locs cells slots) (hx : p.tables.exec = Jvm.exec) (hZ : Z.Warmed39 s.vm) (eT : T.heap = h) (F : Arh Z h a k .byte z hs vs dv) (hb : ¬ j < 0 ∧ j < z) {x : Int32} (hd : decode c.code pc = .ok (.bastore, 1)) (hp : pc + 1 = pc')
    (K : ∀ T' h', Stand p l e R s m args below meth c T' (locs ++ [⟨a, j.toNatClampNeg⟩]) cells slots → T'.heap = h' → Wr h h' a j.toNatClampNeg (.int (nar .byte x)) → Arh Z h' a k .byte z ((j, .int (nar .byte x)) :: hs) vs dv → Rn p e below (T'.setTop (mkF m pc' L S)) G) : Rn p e below (T.setTop (mkF m pc L (.int x :: .int j :: .ref a :: S))) G := by
  subst hp
  obtain ⟨cl, Ar, qA, SA, NA, HA, GA⟩ := F
  have hin := inb_of SA hb
  obtain ⟨T', h', X', e', W', st⟩ := stB X hx hZ eT Ar (j := j) hin (g := mkF m pc L (.int x :: .int j :: .ref a :: S)) rfl rfl hd
  exact Rn.st st (K T' h' X' e' W' (Arh.push Ar qA SA NA HA GA (fits_nar_byte x) W' hin))
theorem own_ns0 {O K : String} {n : Nat} (w3 : (Jvm.Cond.noSuperclass O).before a0 Z = true) (wi : (Jvm.Cond.instantiable K n).before a0 Z = true) (h3 : O ≠ K := by decide) : NS Z O K := by
  obtain ⟨t, kt, g1, g2, g3, g4, -, -⟩ := Cond.instantiable_spec wi
  obtain ⟨cO, kO, o1, o2, o3, -, -⟩ := Cond.noSuperclass_spec w3
  exact ⟨cO, t, o1, g1, fun fuel => by
    have ne := ids_ne o1 g1 h3
    cases fuel with
    | zero => rfl
    | succ f => simp [Vm.isSubclassAux, ne, o2, o3]⟩
theorem own_nsS {C S K : String} (w : (Jvm.Cond.superclass C S).before a0 Z = true) (n : NS Z S K) (hn : C ≠ K := by decide) : NS Z C K := NS.step w n hn
theorem own_noS {C S K : String} {n : Nat} (w1 : (Jvm.Cond.superclass C S).before a0 Z = true) (N : NS Z S K) (wi : (Jvm.Cond.instantiable K n).before a0 Z = true) (h1 : C ≠ K := by decide) : ∃ c t, Z.vm.findClass C = some c ∧ Z.vm.findClass K = some t ∧ Z.vm.assignable c t = false := by
  obtain ⟨t, kt, g1, g2, g3, g4, -, -⟩ := Cond.instantiable_spec wi
  have nC := NS.step w1 N h1
  obtain ⟨c, t', c0, t0, n3⟩ := nC
  cases g1.symm.trans t0
  obtain ⟨p, k, kp, -, k2, -, -, k5, -, k7⟩ := Cond.superclass_spec c0 w1
  have ne := ids_ne c0 g1 h1
  have g4' : kt.isInterface = false := by
    cases hh : kt.isInterface
    · rfl
    · rw [hh] at g4; simp at g4
  refine ⟨c, t, c0, g1, ?_⟩
  show Z.vm.assignableAux (255 + 1) c t = false
  simp [Vm.assignableAux, ne, k2, g2, k5, g3, g4', Vm.isSubclass, n3]
/-- the cache of boxes of a class -/
def own_BX (Z : State) (CC K : String) (ca : Addr) : Prop := Sta Z Z.heap CC "cache" ("[L" ++ K ++ ";") (.ref ca) ∧ ∃ cl : Cell, Arr Z Z.heap ca cl (.object K) ∧ cl.slots.size = 256 ∧ ∀ k : Int32, 0 ≤ k.toInt → k.toInt < 256 → ∃ a : Addr, cl.slots[k.toNatClampNeg]? = some (.ref a) ∧ Exa Z Z.heap a K
theorem own_size {n : Nat} {k : Int32} {z : Nat} (h : n < 2 ^ 31) (e : n.toInt32 = k) (ek : k.toInt = (z : Int)) : n = z := by
  have u := congrArg Int32.toInt e
  rw [len_toInt h, ek] at u
  omega
theorem own_inb {cl : Cell} {j : Int32} {n : Nat} (hsz : cl.slots.size = n) (h0 : 0 ≤ j.toInt) (h1 : j.toInt < n) : ¬ (j < 0 ∨ cl.slots.size ≤ j.toNatClampNeg) := by
  intro q
  rcases q with q | q
  · rw [Int32.lt_iff_toInt_lt] at q; have : (0 : Int32).toInt = 0 := by decide
    omega
  · rw [hsz] at q; have e : j.toNatClampNeg = j.toInt.toNat := rfl
    omega
end RMore2
/-- the array with which an empty ArrayList begins -/
def own_DE (Z : State) (de : Addr) (kd : ClassId) : Prop := Sta Z Z.heap "java/util/ArrayList" "DEFAULTCAPACITY_EMPTY_ELEMENTDATA" "[Ljava/lang/Object;" (.ref de) ∧ Arh Z Z.heap de kd (.object "java/lang/Object") (0 : Int32) [] [] .null
theorem own_lidx {q : Int64} (h1 : ¬ lcmpW q (-128 : Int64) < (0 : Int32)) (h2 : ¬ (0 : Int32) < lcmpW q (127 : Int64)) : 0 ≤ (q.toInt32 + (128 : Int32)).toInt ∧ (q.toInt32 + (128 : Int32)).toInt < 256 := by
  rw [lw_lt, Int64.lt_iff_toInt_lt] at h1
  rw [lw_gt, Int64.lt_iff_toInt_lt] at h2
  have e1 : (-128 : Int64).toInt = -128 := by decide
  have e2 : (127 : Int64).toInt = 127 := by decide
  have e3 : (128 : Int32).toInt = 128 := by decide
  have t : q.toInt32.toInt = q.toInt := by
    rw [Int64.toInt_toInt32]
    exact Int.bmod_eq_of_le (by omega) (by omega)
  rw [own_addI] <;> rw [t, e3] <;> omega
theorem own_ch (a : Int32) : ¬ ((255 : Int32) < ((a &&& (255 : Int32)).toUInt32.toUInt16.toUInt32.toInt32)) := by
  have q := c_and a (255 : Int32) (by decide)
  have r := c_i2c (a &&& (255 : Int32))
  rw [Int32.lt_iff_toInt_lt]
  have e1 : (255 : Int32).toInt = 255 := by decide
  omega
theorem own_de {Z : State} {args : Array Value} (h : ∀ c ∈ jdkStatics_1, c.before args Z = true) (hi : (Jvm.Cond.initialized "java/util/ArrayList").before args Z = true) : ∃ de kd, own_DE Z de kd := by
  obtain ⟨en, et⟩ := arr_v (Cond.before_iff.mp (h _ (List.mem_of_getElem? (i := 15) rfl)))
  obtain ⟨cl, A⟩ := Arr.start et (Cond.before_iff.mp (h _ (List.mem_of_getElem? (i := 15) rfl)))
  have q := IntBox.length_fwd (h _ (List.mem_of_getElem? (i := 17) rfl)) et A.1 A.2.1 A.2.2
  have sz : cl.slots.size = 0 := own_size q.1 q.2 (by decide)
  exact ⟨en, cl.cls, Sta.start et (Or.inr ⟨hi, h _ (List.mem_of_getElem? (i := 11) rfl)⟩), cl, A, rfl, by rw [sz]; rfl, by decide, fun i hi => absurd hi (by omega), fun i hi => absurd hi (by omega)⟩
theorem own_lc {Z : State} {args : Array Value} (h : ∀ c ∈ jdkStatics_1, c.before args Z = true) : ∃ ca, own_BX Z "java/lang/Long$LongCache" "java/lang/Long" ca := by
  obtain ⟨ca, et⟩ := arr_v (Cond.before_iff.mp (h _ (List.mem_of_getElem? (i := 20) rfl)))
  obtain ⟨cl, A⟩ := Arr.start et (Cond.before_iff.mp (h _ (List.mem_of_getElem? (i := 20) rfl)))
  have q := IntBox.length_fwd (h _ (List.mem_of_getElem? (i := 22) rfl)) et A.1 A.2.1 A.2.2
  have sz : cl.slots.size = 256 := own_size q.1 q.2 (by decide)
  refine ⟨ca, Sta.start et (Or.inl (h _ (List.mem_of_getElem? (i := 19) rfl))), cl, A, sz, fun k h0 h1 => ?_⟩
  have nn : ¬ k < 0 := fun q => by
    rw [Int32.lt_iff_toInt_lt] at q
    have : (0 : Int32).toInt = 0 := by decide
    omega
  have hlt : k.toNatClampNeg < cl.slots.size := by
    rw [sz]
    have e : k.toNatClampNeg = k.toInt.toNat := rfl
    omega
  obtain ⟨u1, -⟩ := and_e (Cond.all_elim et (A.fin (Vm.Alike.refl _)) (Cond.before_iff.mp (h _ (List.mem_of_getElem? (i := 23) rfl))) k.toNatClampNeg hlt)
  obtain ⟨b, eb⟩ := exa_v u1
  have et' : ∀ idx, (Term.static "java/lang/Long$LongCache" "cache" "[Ljava/lang/Long;").eval args Z none idx Z = some (.ref ca) := fun idx => by first | exact et | simpa only [Term.eval] using et
  exact ⟨b, (elem_f (et' _) (idx_at nn) (A.fin (Vm.Alike.refl _)) nn).symm.trans eb, exa_at eb u1⟩
theorem d2_0 : decode jdk_30_method_1_code 0 = .ok (.aload_n 0, 1) := by decide +kernel
theorem d2_1 : decode jdk_30_method_1_code 1 = .ok (.invokespecial 1, 3) := by decide +kernel
theorem d2_4 : decode jdk_30_method_1_code 4 = .ok (.return_, 1) := by decide +kernel
theorem pn_0 : plainName "java/lang/Record" = true := by first | (simp [plainName, overriddenIn]; done) | decide +kernel
theorem ef_2 (m : MethodId) (x0 : Addr) : entryFrame m #[(.ref x0)] 1 = mkF m 0 #[.val (.ref x0)] [] := by first | (simp [entryFrame, mkF, argsToLocals, Value.category]; done) | rfl
def Q2 (Z : State) (a0 : Addr) (h0 : Heap) (n0 : Nat) (vQ : Option Value) (hQ_ : Heap) (LQ : List Loc) : Prop := vQ = none ∧ Fr n0 LQ ∧ hQ_ = h0
def Fn2 (Z : State) (a0 : Addr) (h0 : Heap) (n0 : Nat) (sQ : State) (oQ : Outcome) (UQ : State) : Prop := ∃ vQ LQ, oQ = .returned vQ ∧ Q2 Z a0 h0 n0 vQ UQ.heap LQ ∧ FrameEnd sQ oQ UQ LQ ({ frames := 1, cells := 0, slots := 0, locals := 12 } : Room).cells ({ frames := 1, cells := 0, slots := 0, locals := 12 } : Room).slots
set_option maxRecDepth 65536 in
set_option maxHeartbeats 40000000 in
theorem rm2 (l : Launch) (Z : State) (aZ : Array Value) (hw : ∀ d ∈ tables_1, d.before aZ Z = true) (ws : List Jvm.Cond) (a0 : Addr) (h0 : Heap) (n0 : Nat) (Z0 : n0 ≤ h0.size) :
    MetFree l (⟨"java/lang/Record", "<init>", "()V"⟩ : MethodName) (head1 (Jvm.Cond.code (⟨"java/lang/Record", "<init>", "()V"⟩ : MethodName) jdk_30_method_1_code 1 none :: ws) ({ frames := 1, cells := 0, slots := 0, locals := 12 } : Room)) (fun aQ UQ => aQ = #[(.ref a0)] ∧ Z.Warmed39 UQ.vm ∧ UQ.heap = h0) (fun _ _ _ _ _ => True) (fun _ UQ oQ UR => ∃ vQ LQ, oQ = .returned vQ ∧ Q2 Z a0 h0 n0 vQ UR.heap LQ ∧ FrameEnd UQ oQ UR LQ ({ frames := 1, cells := 0, slots := 0, locals := 12 } : Room).cells ({ frames := 1, cells := 0, slots := 0, locals := 12 } : Room).slots) := by
  refine MetFree.of_bodySF (plainFor_of_name pn_0) hisR ?_
  intro p e s m args below meth c s₁ Bd hml0 hP hK
  obtain ⟨rfl, hZ, hh⟩ := hP
  have hx := Bd.exec
  have hby := Bd.bytes
  have hml : c.maxLocals = 1 := hml0
  have hown : s.vm.findClass "java/lang/Record" = some m.cls := findClass_of_methodNamed Bd.named
  have hnm := (name_of_methodNamed Bd.named Bd.method).1
  have X0 : Stand p l e ({ frames := 1, cells := 0, slots := 0, locals := 12 } : Room) s m #[(.ref a0)] below meth c s₁ [] 0 0 := Stand.of_body Bd
  have e0 : s₁.heap = h0 := by rw [← hh, Bd.state]; rfl
  have N0 := Fr.nil n0
  have K0 : Keep h0 h0 [] := Keep.refl _ _
  have w_12 := hw _ (List.mem_of_getElem? (i := 12) rfl)
  have w_13 := hw _ (List.mem_of_getElem? (i := 13) rfl)
  have w_14 := hw _ (List.mem_of_getElem? (i := 14) rfl)
  have first_ : Rn p e below (s₁.setTop (mkF m 0 #[.val (.ref a0)] [])) (Fn2 Z a0 h0 n0 s) := by
    generalize hG : (Fn2 Z a0 h0 n0 s) = G
    refine R.aloadN X0 hx (hb hby d2_0) rfl rfl (pc' := 1) rfl ?_
    refine R.initO X0 hx hZ hown w_12 w_13 w_14 e0 (by rw [hml]; rfl) (hb hby d2_1) (pc' := 4) rfl (by decide) (W := 0) (Nat.le_of_eq rfl) (by decide) ?_; intro T1 X1 e1
    rw [← hG]
    exact Rn.ret X1 (BodyLoose.notSynchronized Bd) (v := none) (fun _ => rfl) (Q := Q2 Z a0 h0 n0) e1 (fun fs hr => X1.returnOut hx Bd.returns (hb hby d2_4) hr) ⟨rfl, N0, rfl⟩ (by decide) (by decide)
  exact (Rn.st (fun t k => castTop (ef_2 m a0) k) first_ : Rn p e below (s₁.setTop (entryFrame m #[(.ref a0)] 1)) (Fn2 Z a0 h0 n0 s))
theorem d1_0 : decode prog_143_method_1_code 0 = .ok (.aload_n 0, 1) := by decide +kernel
theorem d1_1 : decode prog_143_method_1_code 1 = .ok (.invokespecial 1, 3) := by decide +kernel
theorem pd_0 : parseMethodDescriptor "()V" = some ⟨[], none⟩ := by decide +kernel
abbrev mY0 : MethodName := (⟨"java/lang/Record", "<init>", "()V"⟩ : MethodName)
theorem d1_4 : decode prog_143_method_1_code 4 = .ok (.aload_n 0, 1) := by decide +kernel
theorem d1_5 : decode prog_143_method_1_code 5 = .ok (.lload_n 1, 1) := by decide +kernel
theorem d1_6 : decode prog_143_method_1_code 6 = .ok (.putfield 7, 3) := by decide +kernel
theorem d1_9 : decode prog_143_method_1_code 9 = .ok (.return_, 1) := by decide +kernel
theorem pn_1 : plainName "com/example/isomorph/isomorph/model/IntegerValue" = true := by first | (simp [plainName, overriddenIn]; done) | decide +kernel
theorem ef_1 (m : MethodId) (x0 : Addr) (x1 : Int64) : entryFrame m #[(.ref x0), (.long x1)] 3 = mkF m 0 #[.val (.ref x0), .val (.long x1), .second] [] := by first | (simp [entryFrame, mkF, argsToLocals, Value.category]; done) | rfl
def Q1 (Z : State) (a0 : Addr) (q1 : Int64) (h0 : Heap) (n0 : Nat) (vQ : Option Value) (hQ_ : Heap) (LQ : List Loc) : Prop := vQ = none ∧ Fr n0 LQ ∧ Keep h0 hQ_ [a0] ∧ (Exa Z hQ_ a0 "com/example/isomorph/isomorph/model/IntegerValue")
def Fn1 (Z : State) (a0 : Addr) (q1 : Int64) (h0 : Heap) (n0 : Nat) (sQ : State) (oQ : Outcome) (UQ : State) : Prop := ∃ vQ LQ, oQ = .returned vQ ∧ Q1 Z a0 q1 h0 n0 vQ UQ.heap LQ ∧ FrameEnd sQ oQ UQ LQ ({ frames := 2, cells := 0, slots := 0, locals := 24 } : Room).cells ({ frames := 2, cells := 0, slots := 0, locals := 24 } : Room).slots
set_option maxRecDepth 65536 in
set_option maxHeartbeats 40000000 in
theorem rm1 (l : Launch) (Z : State) (aZ : Array Value) (hw : ∀ d ∈ tables_1, d.before aZ Z = true) (ws : List Jvm.Cond) (a0 : Addr) (q1 : Int64) (h0 : Heap) (n0 : Nat) (Z0 : n0 ≤ h0.size) (E_a0 : Exa Z h0 a0 "com/example/isomorph/isomorph/model/IntegerValue") (F_value_a0 : Fld Z h0 a0 "com/example/isomorph/isomorph/model/IntegerValue" "value" "J" (.long (0 : Int64))) (g_a0 : n0 ≤ a0) :
    MetFree l (⟨"com/example/isomorph/isomorph/model/IntegerValue", "<init>", "(J)V"⟩ : MethodName) (head1 (Jvm.Cond.code (⟨"com/example/isomorph/isomorph/model/IntegerValue", "<init>", "(J)V"⟩ : MethodName) prog_143_method_1_code 3 none :: ws) ({ frames := 2, cells := 0, slots := 0, locals := 24 } : Room)) (fun aQ UQ => aQ = #[(.ref a0), (.long q1)] ∧ Z.Warmed39 UQ.vm ∧ UQ.heap = h0) (fun _ _ _ _ _ => True) (fun _ UQ oQ UR => ∃ vQ LQ, oQ = .returned vQ ∧ Q1 Z a0 q1 h0 n0 vQ UR.heap LQ ∧ FrameEnd UQ oQ UR LQ ({ frames := 2, cells := 0, slots := 0, locals := 24 } : Room).cells ({ frames := 2, cells := 0, slots := 0, locals := 24 } : Room).slots) := by
  refine MetFree.of_bodySF (plainFor_of_name pn_1) hisR ?_
  intro p e s m args below meth c s₁ Bd hml0 hP hK
  obtain ⟨rfl, hZ, hh⟩ := hP
  have hx := Bd.exec
  have hby := Bd.bytes
  have hml : c.maxLocals = 3 := hml0
  have hown : s.vm.findClass "com/example/isomorph/isomorph/model/IntegerValue" = some m.cls := findClass_of_methodNamed Bd.named
  have hnm := (name_of_methodNamed Bd.named Bd.method).1
  have X0 : Stand p l e ({ frames := 2, cells := 0, slots := 0, locals := 24 } : Room) s m #[(.ref a0), (.long q1)] below meth c s₁ [] 0 0 := Stand.of_body Bd
  have e0 : s₁.heap = h0 := by rw [← hh, Bd.state]; rfl
  have N0 := Fr.nil n0
  have K0 : Keep h0 h0 [a0] := Keep.refl _ _
  have w_2 := hw _ (List.mem_of_getElem? (i := 2) rfl)
  have w_7 := hw _ (List.mem_of_getElem? (i := 7) rfl)
  have w_8 := hw _ (List.mem_of_getElem? (i := 8) rfl)
  have w_10 := hw _ (List.mem_of_getElem? (i := 10) rfl)
  have w_11 := hw _ (List.mem_of_getElem? (i := 11) rfl)
  have w_15 := hw _ (List.mem_of_getElem? (i := 15) rfl)
  have w_16 := hw _ (List.mem_of_getElem? (i := 16) rfl)
  have first_ : Rn p e below (s₁.setTop (mkF m 0 #[.val (.ref a0), .val (.long q1), .second] [])) (Fn1 Z a0 q1 h0 n0 s) := by
    generalize hG : (Fn1 Z a0 q1 h0 n0 s) = G
    refine R.aloadN X0 hx (hb hby d1_0) rfl rfl (pc' := 1) rfl ?_
    refine R.special X0 hx hZ (y := mY0) rfl hown w_7 w_8 w_10 w_11 (by decide) e0 (rm2 l Z aZ hw [] a0 h0 n0 Z0 ) (by decide) (W := 0) (Nat.le_of_eq rfl) (by decide) (by rw [hml]; rfl) (lenOf pd_0 rfl) rfl (hb hby d1_1) (pc' := 4) rfl (by decide) (by decide) ?_; intro v1 T1 L1 X1 hQ1
    obtain ⟨rfl, N1q, e1⟩ := hQ1
    have N1 := Fr.app N0 N1q
    refine R.aloadN X1 hx (hb hby d1_4) rfl rfl (pc' := 5) rfl ?_
    refine R.lloadN X1 hx (hb hby d1_5) rfl (pc' := 6) rfl ?_
    refine R.putF X1 hx hZ hown (host := "") (Or.inl w_15) Via.refl e1 F_value_a0 E_a0 (Or.inr ⟨w_16, rfl, hnm⟩) w_2 (ty := .long) (by decide) rfl rfl (hb hby d1_6) (pc' := 9) rfl ?_; intro T2 h2 X2 e2 W2
    have E_a0 := E_a0.wr W2
    have F_value_a0 : Fld Z h2 a0 "com/example/isomorph/isomorph/model/IntegerValue" "value" "J" (.long q1) := F_value_a0.same W2
    have N2 := Fr.snoc X2 N1 g_a0
    have K2 : Keep h0 h2 [a0] := K0.wr W2 (Or.inl (List.mem_of_getElem? (i := 0) rfl))
    have Z2 : n0 ≤ h2.size := Nat.le_trans Z0 (Keep.of_wr W2).1
    rw [← hG]
    exact Rn.ret X2 (BodyLoose.notSynchronized Bd) (v := none) (fun _ => rfl) (Q := Q1 Z a0 q1 h0 n0) e2 (fun fs hr => X2.returnOut hx Bd.returns (hb hby d1_9) hr) ⟨rfl, N2, K2, E_a0⟩ (by decide) (by decide)
  exact (Rn.st (fun t k => castTop (ef_1 m a0 q1) k) first_ : Rn p e below (s₁.setTop (entryFrame m #[(.ref a0), (.long q1)] 3)) (Fn1 Z a0 q1 h0 n0 s))
theorem d5_0 : decode prog_136_method_1_code 0 = .ok (.aload_n 0, 1) := by decide +kernel
theorem d5_1 : decode prog_136_method_1_code 1 = .ok (.invokespecial 1, 3) := by decide +kernel
theorem d5_4 : decode prog_136_method_1_code 4 = .ok (.aload_n 0, 1) := by decide +kernel
theorem d5_5 : decode prog_136_method_1_code 5 = .ok (.dload_n 1, 1) := by decide +kernel
theorem d5_6 : decode prog_136_method_1_code 6 = .ok (.putfield 7, 3) := by decide +kernel
theorem d5_9 : decode prog_136_method_1_code 9 = .ok (.return_, 1) := by decide +kernel
theorem pn_2 : plainName "com/example/isomorph/isomorph/model/FloatValue" = true := by first | (simp [plainName, overriddenIn]; done) | decide +kernel
theorem ef_5 (m : MethodId) (x0 : Addr) (x1 : UInt64) : entryFrame m #[(.ref x0), (.double x1)] 3 = mkF m 0 #[.val (.ref x0), .val (.double x1), .second] [] := by first | (simp [entryFrame, mkF, argsToLocals, Value.category]; done) | rfl
def Q5 (Z : State) (a0 : Addr) (d1 : UInt64) (h0 : Heap) (n0 : Nat) (vQ : Option Value) (hQ_ : Heap) (LQ : List Loc) : Prop := vQ = none ∧ Fr n0 LQ ∧ Keep h0 hQ_ [a0] ∧ (Exa Z hQ_ a0 "com/example/isomorph/isomorph/model/FloatValue")
def Fn5 (Z : State) (a0 : Addr) (d1 : UInt64) (h0 : Heap) (n0 : Nat) (sQ : State) (oQ : Outcome) (UQ : State) : Prop := ∃ vQ LQ, oQ = .returned vQ ∧ Q5 Z a0 d1 h0 n0 vQ UQ.heap LQ ∧ FrameEnd sQ oQ UQ LQ ({ frames := 2, cells := 0, slots := 0, locals := 24 } : Room).cells ({ frames := 2, cells := 0, slots := 0, locals := 24 } : Room).slots
set_option maxRecDepth 65536 in
set_option maxHeartbeats 40000000 in
theorem rm5 (l : Launch) (Z : State) (aZ : Array Value) (hw : ∀ d ∈ tables_1, d.before aZ Z = true) (ws : List Jvm.Cond) (a0 : Addr) (d1 : UInt64) (h0 : Heap) (n0 : Nat) (Z0 : n0 ≤ h0.size) (E_a0 : Exa Z h0 a0 "com/example/isomorph/isomorph/model/FloatValue") (F_value_a0 : Fld Z h0 a0 "com/example/isomorph/isomorph/model/FloatValue" "value" "D" (.double (0 : UInt64))) (g_a0 : n0 ≤ a0) :
    MetFree l (⟨"com/example/isomorph/isomorph/model/FloatValue", "<init>", "(D)V"⟩ : MethodName) (head1 (Jvm.Cond.code (⟨"com/example/isomorph/isomorph/model/FloatValue", "<init>", "(D)V"⟩ : MethodName) prog_136_method_1_code 3 none :: ws) ({ frames := 2, cells := 0, slots := 0, locals := 24 } : Room)) (fun aQ UQ => aQ = #[(.ref a0), (.double d1)] ∧ Z.Warmed39 UQ.vm ∧ UQ.heap = h0) (fun _ _ _ _ _ => True) (fun _ UQ oQ UR => ∃ vQ LQ, oQ = .returned vQ ∧ Q5 Z a0 d1 h0 n0 vQ UR.heap LQ ∧ FrameEnd UQ oQ UR LQ ({ frames := 2, cells := 0, slots := 0, locals := 24 } : Room).cells ({ frames := 2, cells := 0, slots := 0, locals := 24 } : Room).slots) := by
  refine MetFree.of_bodySF (plainFor_of_name pn_2) hisR ?_
  intro p e s m args below meth c s₁ Bd hml0 hP hK
  obtain ⟨rfl, hZ, hh⟩ := hP
  have hx := Bd.exec
  have hby := Bd.bytes
  have hml : c.maxLocals = 3 := hml0
  have hown : s.vm.findClass "com/example/isomorph/isomorph/model/FloatValue" = some m.cls := findClass_of_methodNamed Bd.named
  have hnm := (name_of_methodNamed Bd.named Bd.method).1
  have X0 : Stand p l e ({ frames := 2, cells := 0, slots := 0, locals := 24 } : Room) s m #[(.ref a0), (.double d1)] below meth c s₁ [] 0 0 := Stand.of_body Bd
  have e0 : s₁.heap = h0 := by rw [← hh, Bd.state]; rfl
  have N0 := Fr.nil n0
  have K0 : Keep h0 h0 [a0] := Keep.refl _ _
  have w_8 := hw _ (List.mem_of_getElem? (i := 8) rfl)
  have w_10 := hw _ (List.mem_of_getElem? (i := 10) rfl)
  have w_11 := hw _ (List.mem_of_getElem? (i := 11) rfl)
  have w_24 := hw _ (List.mem_of_getElem? (i := 24) rfl)
  have w_29 := hw _ (List.mem_of_getElem? (i := 29) rfl)
  have w_30 := hw _ (List.mem_of_getElem? (i := 30) rfl)
  have w_31 := hw _ (List.mem_of_getElem? (i := 31) rfl)
  have first_ : Rn p e below (s₁.setTop (mkF m 0 #[.val (.ref a0), .val (.double d1), .second] [])) (Fn5 Z a0 d1 h0 n0 s) := by
    generalize hG : (Fn5 Z a0 d1 h0 n0 s) = G
    refine R.aloadN X0 hx (hb hby d5_0) rfl rfl (pc' := 1) rfl ?_
    refine R.special X0 hx hZ (y := mY0) rfl hown w_29 w_8 w_10 w_11 (by decide) e0 (rm2 l Z aZ hw [] a0 h0 n0 Z0 ) (by decide) (W := 0) (Nat.le_of_eq rfl) (by decide) (by rw [hml]; rfl) (lenOf pd_0 rfl) rfl (hb hby d5_1) (pc' := 4) rfl (by decide) (by decide) ?_; intro v1 T1 L1 X1 hQ1
    obtain ⟨rfl, N1q, e1⟩ := hQ1
    have N1 := Fr.app N0 N1q
    refine R.aloadN X1 hx (hb hby d5_4) rfl rfl (pc' := 5) rfl ?_
    refine R.dloadN X1 hx (hb hby d5_5) rfl (pc' := 6) rfl ?_
    refine R.putF X1 hx hZ hown (host := "") (Or.inl w_30) Via.refl e1 F_value_a0 E_a0 (Or.inr ⟨w_31, rfl, hnm⟩) w_24 (ty := .double) (by decide) rfl rfl (hb hby d5_6) (pc' := 9) rfl ?_; intro T2 h2 X2 e2 W2
    have E_a0 := E_a0.wr W2
    have F_value_a0 : Fld Z h2 a0 "com/example/isomorph/isomorph/model/FloatValue" "value" "D" (.double d1) := F_value_a0.same W2
    have N2 := Fr.snoc X2 N1 g_a0
    have K2 : Keep h0 h2 [a0] := K0.wr W2 (Or.inl (List.mem_of_getElem? (i := 0) rfl))
    have Z2 : n0 ≤ h2.size := Nat.le_trans Z0 (Keep.of_wr W2).1
    rw [← hG]
    exact Rn.ret X2 (BodyLoose.notSynchronized Bd) (v := none) (fun _ => rfl) (Q := Q5 Z a0 d1 h0 n0) e2 (fun fs hr => X2.returnOut hx Bd.returns (hb hby d5_9) hr) ⟨rfl, N2, K2, E_a0⟩ (by decide) (by decide)
  exact (Rn.st (fun t k => castTop (ef_5 m a0 d1) k) first_ : Rn p e below (s₁.setTop (entryFrame m #[(.ref a0), (.double d1)] 3)) (Fn5 Z a0 d1 h0 n0 s))
theorem d4_0 : decode prog_126_method_8_code 0 = .ok (.aload_n 0, 1) := by decide +kernel
theorem d4_1 : decode prog_126_method_8_code 1 = .ok (.instanceof 184, 3) := by decide +kernel
theorem d4_4 : decode prog_126_method_8_code 4 = .ok (.ifCond .ne 10, 3) := by decide +kernel
theorem d4_14 : decode prog_126_method_8_code 14 = .ok (.iconst 1, 1) := by decide +kernel
theorem d4_15 : decode prog_126_method_8_code 15 = .ok (.goto 4, 3) := by decide +kernel
theorem d4_19 : decode prog_126_method_8_code 19 = .ok (.ireturn, 1) := by decide +kernel
theorem pn_3 : plainName "com/example/isomorph/isomorph/engine/Ordering" = true := by first | (simp [plainName, overriddenIn]; done) | decide +kernel
theorem ef_nI (m : MethodId) (x0 : Addr) : entryFrame m #[(.ref x0)] 1 = mkF m 0 #[.val (.ref x0)] [] := by first | (simp [entryFrame, mkF, argsToLocals, Value.category]; done) | rfl
def QnI (Z : State) (a0 : Addr) (h0 : Heap) (n0 : Nat) (vQ : Option Value) (hQ_ : Heap) (LQ : List Loc) : Prop := vQ = some (.int (1 : Int32)) ∧ Fr n0 LQ ∧ hQ_ = h0
def FnnI (Z : State) (a0 : Addr) (h0 : Heap) (n0 : Nat) (sQ : State) (oQ : Outcome) (UQ : State) : Prop := ∃ vQ LQ, oQ = .returned vQ ∧ QnI Z a0 h0 n0 vQ UQ.heap LQ ∧ FrameEnd sQ oQ UQ LQ ({ frames := 0, cells := 0, slots := 0, locals := 0 } : Room).cells ({ frames := 0, cells := 0, slots := 0, locals := 0 } : Room).slots
set_option maxRecDepth 65536 in
set_option maxHeartbeats 40000000 in
theorem rmnI (l : Launch) (Z : State) (aZ : Array Value) (hw : ∀ d ∈ tables_1, d.before aZ Z = true) (ws : List Jvm.Cond) (a0 : Addr) (h0 : Heap) (n0 : Nat) (Z0 : n0 ≤ h0.size) (E_a0 : Exa Z h0 a0 "com/example/isomorph/isomorph/model/IntegerValue") :
    MetFree l (⟨"com/example/isomorph/isomorph/engine/Ordering", "isNumber", "(Ljava/lang/Object;)Z"⟩ : MethodName) (head1 (Jvm.Cond.code (⟨"com/example/isomorph/isomorph/engine/Ordering", "isNumber", "(Ljava/lang/Object;)Z"⟩ : MethodName) prog_126_method_8_code 1 (some .boolean) :: ws) ({ frames := 0, cells := 0, slots := 0, locals := 0 } : Room)) (fun aQ UQ => aQ = #[(.ref a0)] ∧ Z.Warmed39 UQ.vm ∧ UQ.heap = h0) (fun _ _ _ _ _ => True) (fun _ UQ oQ UR => ∃ vQ LQ, oQ = .returned vQ ∧ QnI Z a0 h0 n0 vQ UR.heap LQ ∧ FrameEnd UQ oQ UR LQ ({ frames := 0, cells := 0, slots := 0, locals := 0 } : Room).cells ({ frames := 0, cells := 0, slots := 0, locals := 0 } : Room).slots) := by
  refine MetFree.of_bodySF (plainFor_of_name pn_3) hisR ?_
  intro p e s m args below meth c s₁ Bd hml0 hP hK
  obtain ⟨rfl, hZ, hh⟩ := hP
  have hx := Bd.exec
  have hby := Bd.bytes
  have hml : c.maxLocals = 1 := hml0
  have hown : s.vm.findClass "com/example/isomorph/isomorph/engine/Ordering" = some m.cls := findClass_of_methodNamed Bd.named
  have hnm := (name_of_methodNamed Bd.named Bd.method).1
  have X0 : Stand p l e ({ frames := 0, cells := 0, slots := 0, locals := 0 } : Room) s m #[(.ref a0)] below meth c s₁ [] 0 0 := Stand.of_body Bd
  have e0 : s₁.heap = h0 := by rw [← hh, Bd.state]; rfl
  have N0 := Fr.nil n0
  have K0 : Keep h0 h0 [] := Keep.refl _ _
  have w_21 := hw _ (List.mem_of_getElem? (i := 21) rfl)
  have first_ : Rn p e below (s₁.setTop (mkF m 0 #[.val (.ref a0)] [])) (FnnI Z a0 h0 n0 s) := by
    generalize hG : (FnnI Z a0 h0 n0 s) = G
    refine R.aloadN X0 hx (hb hby d4_0) rfl rfl (pc' := 1) rfl ?_
    refine R.instY X0 hx hZ hown w_21 e0 (Ins.self E_a0) (hb hby d4_1) (pc' := 4) rfl ?_; intro T1 X1 e1
    refine R.ifYes X1 hx (hb hby d4_4) (feq (by decide : ¬ ((1 : Int32) = (0 : Int32)))).2 (by decide) (pc' := 14) (by decide) ?_
    refine R.iconst X1 hx (hb hby d4_14) (v := (1 : Int32)) (by decide) (pc' := 15) rfl ?_
    refine R.goto X1 hx (hb hby d4_15) (by decide) (pc' := 19) (by decide) ?_
    rw [← hG]
    exact Rn.ret X1 (BodyLoose.notSynchronized Bd) (v := some (.int (1 : Int32))) (fun h => by rw [Bd.returns] at h; cases h) (Q := QnI Z a0 h0 n0) e1 (fun fs hr => retN X1 hx (t := .boolean) Bd.returns (by simp) (hb hby d4_19) hr) ⟨rfl, N0, rfl⟩ (by decide) (by decide)
  exact (Rn.st (fun t k => castTop (ef_nI m a0) k) first_ : Rn p e below (s₁.setTop (entryFrame m #[(.ref a0)] 1)) (FnnI Z a0 h0 n0 s))
theorem d4_7 : decode prog_126_method_8_code 7 = .ok (.aload_n 0, 1) := by decide +kernel
theorem d4_8 : decode prog_126_method_8_code 8 = .ok (.instanceof 186, 3) := by decide +kernel
theorem d4_11 : decode prog_126_method_8_code 11 = .ok (.ifCond .eq 7, 3) := by decide +kernel
theorem ef_nF (m : MethodId) (x0 : Addr) : entryFrame m #[(.ref x0)] 1 = mkF m 0 #[.val (.ref x0)] [] := by first | (simp [entryFrame, mkF, argsToLocals, Value.category]; done) | rfl
def QnF (Z : State) (a0 : Addr) (h0 : Heap) (n0 : Nat) (vQ : Option Value) (hQ_ : Heap) (LQ : List Loc) : Prop := vQ = some (.int (1 : Int32)) ∧ Fr n0 LQ ∧ hQ_ = h0
def FnnF (Z : State) (a0 : Addr) (h0 : Heap) (n0 : Nat) (sQ : State) (oQ : Outcome) (UQ : State) : Prop := ∃ vQ LQ, oQ = .returned vQ ∧ QnF Z a0 h0 n0 vQ UQ.heap LQ ∧ FrameEnd sQ oQ UQ LQ ({ frames := 0, cells := 0, slots := 0, locals := 0 } : Room).cells ({ frames := 0, cells := 0, slots := 0, locals := 0 } : Room).slots
set_option maxRecDepth 65536 in
set_option maxHeartbeats 40000000 in
theorem rmnF (l : Launch) (Z : State) (aZ : Array Value) (hw : ∀ d ∈ tables_1, d.before aZ Z = true) (ws : List Jvm.Cond) (a0 : Addr) (h0 : Heap) (n0 : Nat) (Z0 : n0 ≤ h0.size) (E_a0 : Exa Z h0 a0 "com/example/isomorph/isomorph/model/FloatValue") :
    MetFree l (⟨"com/example/isomorph/isomorph/engine/Ordering", "isNumber", "(Ljava/lang/Object;)Z"⟩ : MethodName) (head1 (Jvm.Cond.code (⟨"com/example/isomorph/isomorph/engine/Ordering", "isNumber", "(Ljava/lang/Object;)Z"⟩ : MethodName) prog_126_method_8_code 1 (some .boolean) :: ws) ({ frames := 0, cells := 0, slots := 0, locals := 0 } : Room)) (fun aQ UQ => aQ = #[(.ref a0)] ∧ Z.Warmed39 UQ.vm ∧ UQ.heap = h0) (fun _ _ _ _ _ => True) (fun _ UQ oQ UR => ∃ vQ LQ, oQ = .returned vQ ∧ QnF Z a0 h0 n0 vQ UR.heap LQ ∧ FrameEnd UQ oQ UR LQ ({ frames := 0, cells := 0, slots := 0, locals := 0 } : Room).cells ({ frames := 0, cells := 0, slots := 0, locals := 0 } : Room).slots) := by
  refine MetFree.of_bodySF (plainFor_of_name pn_3) hisR ?_
  intro p e s m args below meth c s₁ Bd hml0 hP hK
  obtain ⟨rfl, hZ, hh⟩ := hP
  have hx := Bd.exec
  have hby := Bd.bytes
  have hml : c.maxLocals = 1 := hml0
  have hown : s.vm.findClass "com/example/isomorph/isomorph/engine/Ordering" = some m.cls := findClass_of_methodNamed Bd.named
  have hnm := (name_of_methodNamed Bd.named Bd.method).1
  have X0 : Stand p l e ({ frames := 0, cells := 0, slots := 0, locals := 0 } : Room) s m #[(.ref a0)] below meth c s₁ [] 0 0 := Stand.of_body Bd
  have e0 : s₁.heap = h0 := by rw [← hh, Bd.state]; rfl
  have N0 := Fr.nil n0
  have K0 : Keep h0 h0 [] := Keep.refl _ _
  have w_2 := hw _ (List.mem_of_getElem? (i := 2) rfl)
  have w_21 := hw _ (List.mem_of_getElem? (i := 21) rfl)
  have w_32 := hw _ (List.mem_of_getElem? (i := 32) rfl)
  have w_33 := hw _ (List.mem_of_getElem? (i := 33) rfl)
  have w_34 := hw _ (List.mem_of_getElem? (i := 34) rfl)
  have w_35 := hw _ (List.mem_of_getElem? (i := 35) rfl)
  have first_ : Rn p e below (s₁.setTop (mkF m 0 #[.val (.ref a0)] [])) (FnnF Z a0 h0 n0 s) := by
    generalize hG : (FnnF Z a0 h0 n0 s) = G
    refine R.aloadN X0 hx (hb hby d4_0) rfl rfl (pc' := 1) rfl ?_
    refine R.instNo X0 hx hZ hown w_21 e0 E_a0 (own_noS w_32 (own_nsS w_33 (own_ns0 w_34 w_2)) w_2) (hb hby d4_1) (pc' := 4) rfl ?_; intro T1 X1 e1
    refine R.ifNo X1 hx (hb hby d4_4) (teq (by decide : (0 : Int32) = (0 : Int32))).2 (pc' := 7) rfl ?_
    refine R.aloadN X1 hx (hb hby d4_7) rfl rfl (pc' := 8) rfl ?_
    refine R.instY X1 hx hZ hown w_35 e1 (Ins.self E_a0) (hb hby d4_8) (pc' := 11) rfl ?_; intro T2 X2 e2
    refine R.ifNo X2 hx (hb hby d4_11) (feq (by decide : ¬ ((1 : Int32) = (0 : Int32)))).1 (pc' := 14) rfl ?_
    refine R.iconst X2 hx (hb hby d4_14) (v := (1 : Int32)) (by decide) (pc' := 15) rfl ?_
    refine R.goto X2 hx (hb hby d4_15) (by decide) (pc' := 19) (by decide) ?_
    rw [← hG]
    exact Rn.ret X2 (BodyLoose.notSynchronized Bd) (v := some (.int (1 : Int32))) (fun h => by rw [Bd.returns] at h; cases h) (Q := QnF Z a0 h0 n0) e2 (fun fs hr => retN X2 hx (t := .boolean) Bd.returns (by simp) (hb hby d4_19) hr) ⟨rfl, N0, rfl⟩ (by decide) (by decide)
  exact (Rn.st (fun t k => castTop (ef_nF m a0) k) first_ : Rn p e below (s₁.setTop (entryFrame m #[(.ref a0)] 1)) (FnnF Z a0 h0 n0 s))
theorem d4_18 : decode prog_126_method_8_code 18 = .ok (.iconst 0, 1) := by decide +kernel
theorem ef_nL (m : MethodId) (x0 : Addr) : entryFrame m #[(.ref x0)] 1 = mkF m 0 #[.val (.ref x0)] [] := by first | (simp [entryFrame, mkF, argsToLocals, Value.category]; done) | rfl
def QnL (Z : State) (a0 : Addr) (h0 : Heap) (n0 : Nat) (vQ : Option Value) (hQ_ : Heap) (LQ : List Loc) : Prop := vQ = some (.int (0 : Int32)) ∧ Fr n0 LQ ∧ hQ_ = h0
def FnnL (Z : State) (a0 : Addr) (h0 : Heap) (n0 : Nat) (sQ : State) (oQ : Outcome) (UQ : State) : Prop := ∃ vQ LQ, oQ = .returned vQ ∧ QnL Z a0 h0 n0 vQ UQ.heap LQ ∧ FrameEnd sQ oQ UQ LQ ({ frames := 0, cells := 0, slots := 0, locals := 0 } : Room).cells ({ frames := 0, cells := 0, slots := 0, locals := 0 } : Room).slots
set_option maxRecDepth 65536 in
set_option maxHeartbeats 40000000 in
theorem rmnL (l : Launch) (Z : State) (aZ : Array Value) (hw : ∀ d ∈ tables_1, d.before aZ Z = true) (ws : List Jvm.Cond) (a0 : Addr) (h0 : Heap) (n0 : Nat) (Z0 : n0 ≤ h0.size) (E_a0 : Exa Z h0 a0 "java/lang/Long") :
    MetFree l (⟨"com/example/isomorph/isomorph/engine/Ordering", "isNumber", "(Ljava/lang/Object;)Z"⟩ : MethodName) (head1 (Jvm.Cond.code (⟨"com/example/isomorph/isomorph/engine/Ordering", "isNumber", "(Ljava/lang/Object;)Z"⟩ : MethodName) prog_126_method_8_code 1 (some .boolean) :: ws) ({ frames := 0, cells := 0, slots := 0, locals := 0 } : Room)) (fun aQ UQ => aQ = #[(.ref a0)] ∧ Z.Warmed39 UQ.vm ∧ UQ.heap = h0) (fun _ _ _ _ _ => True) (fun _ UQ oQ UR => ∃ vQ LQ, oQ = .returned vQ ∧ QnL Z a0 h0 n0 vQ UR.heap LQ ∧ FrameEnd UQ oQ UR LQ ({ frames := 0, cells := 0, slots := 0, locals := 0 } : Room).cells ({ frames := 0, cells := 0, slots := 0, locals := 0 } : Room).slots) := by
  refine MetFree.of_bodySF (plainFor_of_name pn_3) hisR ?_
  intro p e s m args below meth c s₁ Bd hml0 hP hK
  obtain ⟨rfl, hZ, hh⟩ := hP
  have hx := Bd.exec
  have hby := Bd.bytes
  have hml : c.maxLocals = 1 := hml0
  have hown : s.vm.findClass "com/example/isomorph/isomorph/engine/Ordering" = some m.cls := findClass_of_methodNamed Bd.named
  have hnm := (name_of_methodNamed Bd.named Bd.method).1
  have X0 : Stand p l e ({ frames := 0, cells := 0, slots := 0, locals := 0 } : Room) s m #[(.ref a0)] below meth c s₁ [] 0 0 := Stand.of_body Bd
  have e0 : s₁.heap = h0 := by rw [← hh, Bd.state]; rfl
  have N0 := Fr.nil n0
  have K0 : Keep h0 h0 [] := Keep.refl _ _
  have w_2 := hw _ (List.mem_of_getElem? (i := 2) rfl)
  have w_21 := hw _ (List.mem_of_getElem? (i := 21) rfl)
  have w_24 := hw _ (List.mem_of_getElem? (i := 24) rfl)
  have w_34 := hw _ (List.mem_of_getElem? (i := 34) rfl)
  have w_35 := hw _ (List.mem_of_getElem? (i := 35) rfl)
  have w_57 := hw _ (List.mem_of_getElem? (i := 57) rfl)
  have w_58 := hw _ (List.mem_of_getElem? (i := 58) rfl)
  have first_ : Rn p e below (s₁.setTop (mkF m 0 #[.val (.ref a0)] [])) (FnnL Z a0 h0 n0 s) := by
    generalize hG : (FnnL Z a0 h0 n0 s) = G
    refine R.aloadN X0 hx (hb hby d4_0) rfl rfl (pc' := 1) rfl ?_
    refine R.instNo X0 hx hZ hown w_21 e0 E_a0 (own_noS w_57 (own_nsS w_58 (own_ns0 w_34 w_2)) w_2) (hb hby d4_1) (pc' := 4) rfl ?_; intro T1 X1 e1
    refine R.ifNo X1 hx (hb hby d4_4) (teq (by decide : (0 : Int32) = (0 : Int32))).2 (pc' := 7) rfl ?_
    refine R.aloadN X1 hx (hb hby d4_7) rfl rfl (pc' := 8) rfl ?_
    refine R.instNo X1 hx hZ hown w_35 e1 E_a0 (own_noS w_57 (own_nsS w_58 (own_ns0 w_34 w_24)) w_24) (hb hby d4_8) (pc' := 11) rfl ?_; intro T2 X2 e2
    refine R.ifYes X2 hx (hb hby d4_11) (teq (by decide : (0 : Int32) = (0 : Int32))).1 (by decide) (pc' := 18) (by decide) ?_
    refine R.iconst X2 hx (hb hby d4_18) (v := (0 : Int32)) (by decide) (pc' := 19) rfl ?_
    rw [← hG]
    exact Rn.ret X2 (BodyLoose.notSynchronized Bd) (v := some (.int (0 : Int32))) (fun h => by rw [Bd.returns] at h; cases h) (Q := QnL Z a0 h0 n0) e2 (fun fs hr => retN X2 hx (t := .boolean) Bd.returns (by simp) (hb hby d4_19) hr) ⟨rfl, N0, rfl⟩ (by decide) (by decide)
  exact (Rn.st (fun t k => castTop (ef_nL m a0) k) first_ : Rn p e below (s₁.setTop (entryFrame m #[(.ref a0)] 1)) (FnnL Z a0 h0 n0 s))
theorem ef_nS (m : MethodId) (x0 : Addr) : entryFrame m #[(.ref x0)] 1 = mkF m 0 #[.val (.ref x0)] [] := by first | (simp [entryFrame, mkF, argsToLocals, Value.category]; done) | rfl
def QnS (Z : State) (a0 : Addr) (h0 : Heap) (n0 : Nat) (vQ : Option Value) (hQ_ : Heap) (LQ : List Loc) : Prop := vQ = some (.int (0 : Int32)) ∧ Fr n0 LQ ∧ hQ_ = h0
def FnnS (Z : State) (a0 : Addr) (h0 : Heap) (n0 : Nat) (sQ : State) (oQ : Outcome) (UQ : State) : Prop := ∃ vQ LQ, oQ = .returned vQ ∧ QnS Z a0 h0 n0 vQ UQ.heap LQ ∧ FrameEnd sQ oQ UQ LQ ({ frames := 0, cells := 0, slots := 0, locals := 0 } : Room).cells ({ frames := 0, cells := 0, slots := 0, locals := 0 } : Room).slots
set_option maxRecDepth 65536 in
set_option maxHeartbeats 40000000 in
theorem rmnS (l : Launch) (Z : State) (aZ : Array Value) (hw : ∀ d ∈ tables_1, d.before aZ Z = true) (ws : List Jvm.Cond) (a0 : Addr) (h0 : Heap) (n0 : Nat) (Z0 : n0 ≤ h0.size) (E_a0 : Exa Z h0 a0 "java/lang/String") :
    MetFree l (⟨"com/example/isomorph/isomorph/engine/Ordering", "isNumber", "(Ljava/lang/Object;)Z"⟩ : MethodName) (head1 (Jvm.Cond.code (⟨"com/example/isomorph/isomorph/engine/Ordering", "isNumber", "(Ljava/lang/Object;)Z"⟩ : MethodName) prog_126_method_8_code 1 (some .boolean) :: ws) ({ frames := 0, cells := 0, slots := 0, locals := 0 } : Room)) (fun aQ UQ => aQ = #[(.ref a0)] ∧ Z.Warmed39 UQ.vm ∧ UQ.heap = h0) (fun _ _ _ _ _ => True) (fun _ UQ oQ UR => ∃ vQ LQ, oQ = .returned vQ ∧ QnS Z a0 h0 n0 vQ UR.heap LQ ∧ FrameEnd UQ oQ UR LQ ({ frames := 0, cells := 0, slots := 0, locals := 0 } : Room).cells ({ frames := 0, cells := 0, slots := 0, locals := 0 } : Room).slots) := by
  refine MetFree.of_bodySF (plainFor_of_name pn_3) hisR ?_
  intro p e s m args below meth c s₁ Bd hml0 hP hK
  obtain ⟨rfl, hZ, hh⟩ := hP
  have hx := Bd.exec
  have hby := Bd.bytes
  have hml : c.maxLocals = 1 := hml0
  have hown : s.vm.findClass "com/example/isomorph/isomorph/engine/Ordering" = some m.cls := findClass_of_methodNamed Bd.named
  have hnm := (name_of_methodNamed Bd.named Bd.method).1
  have X0 : Stand p l e ({ frames := 0, cells := 0, slots := 0, locals := 0 } : Room) s m #[(.ref a0)] below meth c s₁ [] 0 0 := Stand.of_body Bd
  have e0 : s₁.heap = h0 := by rw [← hh, Bd.state]; rfl
  have N0 := Fr.nil n0
  have K0 : Keep h0 h0 [] := Keep.refl _ _
  have w_2 := hw _ (List.mem_of_getElem? (i := 2) rfl)
  have w_21 := hw _ (List.mem_of_getElem? (i := 21) rfl)
  have w_24 := hw _ (List.mem_of_getElem? (i := 24) rfl)
  have w_34 := hw _ (List.mem_of_getElem? (i := 34) rfl)
  have w_35 := hw _ (List.mem_of_getElem? (i := 35) rfl)
  have w_83 := hw _ (List.mem_of_getElem? (i := 83) rfl)
  have first_ : Rn p e below (s₁.setTop (mkF m 0 #[.val (.ref a0)] [])) (FnnS Z a0 h0 n0 s) := by
    generalize hG : (FnnS Z a0 h0 n0 s) = G
    refine R.aloadN X0 hx (hb hby d4_0) rfl rfl (pc' := 1) rfl ?_
    refine R.instNo X0 hx hZ hown w_21 e0 E_a0 (own_noS w_83 (own_ns0 w_34 w_2) w_2) (hb hby d4_1) (pc' := 4) rfl ?_; intro T1 X1 e1
    refine R.ifNo X1 hx (hb hby d4_4) (teq (by decide : (0 : Int32) = (0 : Int32))).2 (pc' := 7) rfl ?_
    refine R.aloadN X1 hx (hb hby d4_7) rfl rfl (pc' := 8) rfl ?_
    refine R.instNo X1 hx hZ hown w_35 e1 E_a0 (own_noS w_83 (own_ns0 w_34 w_24) w_24) (hb hby d4_8) (pc' := 11) rfl ?_; intro T2 X2 e2
    refine R.ifYes X2 hx (hb hby d4_11) (teq (by decide : (0 : Int32) = (0 : Int32))).1 (by decide) (pc' := 18) (by decide) ?_
    refine R.iconst X2 hx (hb hby d4_18) (v := (0 : Int32)) (by decide) (pc' := 19) rfl ?_
    rw [← hG]
    exact Rn.ret X2 (BodyLoose.notSynchronized Bd) (v := some (.int (0 : Int32))) (fun h => by rw [Bd.returns] at h; cases h) (Q := QnS Z a0 h0 n0) e2 (fun fs hr => retN X2 hx (t := .boolean) Bd.returns (by simp) (hb hby d4_19) hr) ⟨rfl, N0, rfl⟩ (by decide) (by decide)
  exact (Rn.st (fun t k => castTop (ef_nS m a0) k) first_ : Rn p e below (s₁.setTop (entryFrame m #[(.ref a0)] 1)) (FnnS Z a0 h0 n0 s))
theorem ef_nA (m : MethodId) (x0 : Addr) : entryFrame m #[(.ref x0)] 1 = mkF m 0 #[.val (.ref x0)] [] := by first | (simp [entryFrame, mkF, argsToLocals, Value.category]; done) | rfl
def QnA (Z : State) (a0 : Addr) (h0 : Heap) (n0 : Nat) (vQ : Option Value) (hQ_ : Heap) (LQ : List Loc) : Prop := vQ = some (.int (0 : Int32)) ∧ Fr n0 LQ ∧ hQ_ = h0
def FnnA (Z : State) (a0 : Addr) (h0 : Heap) (n0 : Nat) (sQ : State) (oQ : Outcome) (UQ : State) : Prop := ∃ vQ LQ, oQ = .returned vQ ∧ QnA Z a0 h0 n0 vQ UQ.heap LQ ∧ FrameEnd sQ oQ UQ LQ ({ frames := 0, cells := 0, slots := 0, locals := 0 } : Room).cells ({ frames := 0, cells := 0, slots := 0, locals := 0 } : Room).slots
set_option maxRecDepth 65536 in
set_option maxHeartbeats 40000000 in
theorem rmnA (l : Launch) (Z : State) (aZ : Array Value) (hw : ∀ d ∈ tables_1, d.before aZ Z = true) (ws : List Jvm.Cond) (a0 : Addr) (h0 : Heap) (n0 : Nat) (Z0 : n0 ≤ h0.size) (E_a0 : Exa Z h0 a0 "java/util/ArrayList") :
    MetFree l (⟨"com/example/isomorph/isomorph/engine/Ordering", "isNumber", "(Ljava/lang/Object;)Z"⟩ : MethodName) (head1 (Jvm.Cond.code (⟨"com/example/isomorph/isomorph/engine/Ordering", "isNumber", "(Ljava/lang/Object;)Z"⟩ : MethodName) prog_126_method_8_code 1 (some .boolean) :: ws) ({ frames := 0, cells := 0, slots := 0, locals := 0 } : Room)) (fun aQ UQ => aQ = #[(.ref a0)] ∧ Z.Warmed39 UQ.vm ∧ UQ.heap = h0) (fun _ _ _ _ _ => True) (fun _ UQ oQ UR => ∃ vQ LQ, oQ = .returned vQ ∧ QnA Z a0 h0 n0 vQ UR.heap LQ ∧ FrameEnd UQ oQ UR LQ ({ frames := 0, cells := 0, slots := 0, locals := 0 } : Room).cells ({ frames := 0, cells := 0, slots := 0, locals := 0 } : Room).slots) := by
  refine MetFree.of_bodySF (plainFor_of_name pn_3) hisR ?_
  intro p e s m args below meth c s₁ Bd hml0 hP hK
  obtain ⟨rfl, hZ, hh⟩ := hP
  have hx := Bd.exec
  have hby := Bd.bytes
  have hml : c.maxLocals = 1 := hml0
  have hown : s.vm.findClass "com/example/isomorph/isomorph/engine/Ordering" = some m.cls := findClass_of_methodNamed Bd.named
  have hnm := (name_of_methodNamed Bd.named Bd.method).1
  have X0 : Stand p l e ({ frames := 0, cells := 0, slots := 0, locals := 0 } : Room) s m #[(.ref a0)] below meth c s₁ [] 0 0 := Stand.of_body Bd
  have e0 : s₁.heap = h0 := by rw [← hh, Bd.state]; rfl
  have N0 := Fr.nil n0
  have K0 : Keep h0 h0 [] := Keep.refl _ _
  have w_2 := hw _ (List.mem_of_getElem? (i := 2) rfl)
  have w_21 := hw _ (List.mem_of_getElem? (i := 21) rfl)
  have w_24 := hw _ (List.mem_of_getElem? (i := 24) rfl)
  have w_34 := hw _ (List.mem_of_getElem? (i := 34) rfl)
  have w_35 := hw _ (List.mem_of_getElem? (i := 35) rfl)
  have w_139 := hw _ (List.mem_of_getElem? (i := 139) rfl)
  have w_140 := hw _ (List.mem_of_getElem? (i := 140) rfl)
  have w_141 := hw _ (List.mem_of_getElem? (i := 141) rfl)
  have first_ : Rn p e below (s₁.setTop (mkF m 0 #[.val (.ref a0)] [])) (FnnA Z a0 h0 n0 s) := by
    generalize hG : (FnnA Z a0 h0 n0 s) = G
    refine R.aloadN X0 hx (hb hby d4_0) rfl rfl (pc' := 1) rfl ?_
    refine R.instNo X0 hx hZ hown w_21 e0 E_a0 (own_noS w_139 (own_nsS w_140 (own_nsS w_141 (own_ns0 w_34 w_2))) w_2) (hb hby d4_1) (pc' := 4) rfl ?_; intro T1 X1 e1
    refine R.ifNo X1 hx (hb hby d4_4) (teq (by decide : (0 : Int32) = (0 : Int32))).2 (pc' := 7) rfl ?_
    refine R.aloadN X1 hx (hb hby d4_7) rfl rfl (pc' := 8) rfl ?_
    refine R.instNo X1 hx hZ hown w_35 e1 E_a0 (own_noS w_139 (own_nsS w_140 (own_nsS w_141 (own_ns0 w_34 w_24))) w_24) (hb hby d4_8) (pc' := 11) rfl ?_; intro T2 X2 e2
    refine R.ifYes X2 hx (hb hby d4_11) (teq (by decide : (0 : Int32) = (0 : Int32))).1 (by decide) (pc' := 18) (by decide) ?_
    refine R.iconst X2 hx (hb hby d4_18) (v := (0 : Int32)) (by decide) (pc' := 19) rfl ?_
    rw [← hG]
    exact Rn.ret X2 (BodyLoose.notSynchronized Bd) (v := some (.int (0 : Int32))) (fun h => by rw [Bd.returns] at h; cases h) (Q := QnA Z a0 h0 n0) e2 (fun fs hr => retN X2 hx (t := .boolean) Bd.returns (by simp) (hb hby d4_19) hr) ⟨rfl, N0, rfl⟩ (by decide) (by decide)
  exact (Rn.st (fun t k => castTop (ef_nA m a0) k) first_ : Rn p e below (s₁.setTop (entryFrame m #[(.ref a0)] 1)) (FnnA Z a0 h0 n0 s))
theorem ef_nN (m : MethodId)  : entryFrame m #[.null] 1 = mkF m 0 #[.val .null] [] := by first | (simp [entryFrame, mkF, argsToLocals, Value.category]; done) | rfl
def QnN (Z : State)  (h0 : Heap) (n0 : Nat) (vQ : Option Value) (hQ_ : Heap) (LQ : List Loc) : Prop := vQ = some (.int (0 : Int32)) ∧ Fr n0 LQ ∧ hQ_ = h0
def FnnN (Z : State)  (h0 : Heap) (n0 : Nat) (sQ : State) (oQ : Outcome) (UQ : State) : Prop := ∃ vQ LQ, oQ = .returned vQ ∧ QnN Z  h0 n0 vQ UQ.heap LQ ∧ FrameEnd sQ oQ UQ LQ ({ frames := 0, cells := 0, slots := 0, locals := 0 } : Room).cells ({ frames := 0, cells := 0, slots := 0, locals := 0 } : Room).slots
set_option maxRecDepth 65536 in
set_option maxHeartbeats 40000000 in
theorem rmnN (l : Launch) (Z : State) (aZ : Array Value) (hw : ∀ d ∈ tables_1, d.before aZ Z = true) (ws : List Jvm.Cond)  (h0 : Heap) (n0 : Nat) (Z0 : n0 ≤ h0.size) :
    MetFree l (⟨"com/example/isomorph/isomorph/engine/Ordering", "isNumber", "(Ljava/lang/Object;)Z"⟩ : MethodName) (head1 (Jvm.Cond.code (⟨"com/example/isomorph/isomorph/engine/Ordering", "isNumber", "(Ljava/lang/Object;)Z"⟩ : MethodName) prog_126_method_8_code 1 (some .boolean) :: ws) ({ frames := 0, cells := 0, slots := 0, locals := 0 } : Room)) (fun aQ UQ => aQ = #[.null] ∧ Z.Warmed39 UQ.vm ∧ UQ.heap = h0) (fun _ _ _ _ _ => True) (fun _ UQ oQ UR => ∃ vQ LQ, oQ = .returned vQ ∧ QnN Z  h0 n0 vQ UR.heap LQ ∧ FrameEnd UQ oQ UR LQ ({ frames := 0, cells := 0, slots := 0, locals := 0 } : Room).cells ({ frames := 0, cells := 0, slots := 0, locals := 0 } : Room).slots) := by
  refine MetFree.of_bodySF (plainFor_of_name pn_3) hisR ?_
  intro p e s m args below meth c s₁ Bd hml0 hP hK
  obtain ⟨rfl, hZ, hh⟩ := hP
  have hx := Bd.exec
  have hby := Bd.bytes
  have hml : c.maxLocals = 1 := hml0
  have hown : s.vm.findClass "com/example/isomorph/isomorph/engine/Ordering" = some m.cls := findClass_of_methodNamed Bd.named
  have hnm := (name_of_methodNamed Bd.named Bd.method).1
  have X0 : Stand p l e ({ frames := 0, cells := 0, slots := 0, locals := 0 } : Room) s m #[.null] below meth c s₁ [] 0 0 := Stand.of_body Bd
  have e0 : s₁.heap = h0 := by rw [← hh, Bd.state]; rfl
  have N0 := Fr.nil n0
  have K0 : Keep h0 h0 [] := Keep.refl _ _
  have first_ : Rn p e below (s₁.setTop (mkF m 0 #[.val .null] [])) (FnnN Z  h0 n0 s) := by
    generalize hG : (FnnN Z  h0 n0 s) = G
    refine R.aloadN X0 hx (hb hby d4_0) rfl rfl (pc' := 1) rfl ?_
    refine Rn.st (fun t k => X0.instanceofNull hx (g := (mkF m 1 #[.val .null] [.null])) rfl rfl (hb hby d4_1) _ k) ?_
    show Rn p e below (s₁.setTop (mkF m 4 #[.val .null] [(.int (0 : Int32))])) G
    refine R.ifNo X0 hx (hb hby d4_4) (teq (by decide : (0 : Int32) = (0 : Int32))).2 (pc' := 7) rfl ?_
    refine R.aloadN X0 hx (hb hby d4_7) rfl rfl (pc' := 8) rfl ?_
    refine Rn.st (fun t k => X0.instanceofNull hx (g := (mkF m 8 #[.val .null] [.null])) rfl rfl (hb hby d4_8) _ k) ?_
    show Rn p e below (s₁.setTop (mkF m 11 #[.val .null] [(.int (0 : Int32))])) G
    refine R.ifYes X0 hx (hb hby d4_11) (teq (by decide : (0 : Int32) = (0 : Int32))).1 (by decide) (pc' := 18) (by decide) ?_
    refine R.iconst X0 hx (hb hby d4_18) (v := (0 : Int32)) (by decide) (pc' := 19) rfl ?_
    rw [← hG]
    exact Rn.ret X0 (BodyLoose.notSynchronized Bd) (v := some (.int (0 : Int32))) (fun h => by rw [Bd.returns] at h; cases h) (Q := QnN Z  h0 n0) e0 (fun fs hr => retN X0 hx (t := .boolean) Bd.returns (by simp) (hb hby d4_19) hr) ⟨rfl, N0, rfl⟩ (by decide) (by decide)
  exact (Rn.st (fun t k => castTop (ef_nN m ) k) first_ : Rn p e below (s₁.setTop (entryFrame m #[.null] 1)) (FnnN Z  h0 n0 s))
theorem d8_0 : decode jdk_18_method_1_code 0 = .ok (.aload_n 0, 1) := by decide +kernel
theorem d8_1 : decode jdk_18_method_1_code 1 = .ok (.invokespecial 1, 3) := by decide +kernel
theorem d8_4 : decode jdk_18_method_1_code 4 = .ok (.return_, 1) := by decide +kernel
theorem pn_4 : plainName "java/lang/Number" = true := by first | (simp [plainName, overriddenIn]; done) | decide +kernel
theorem ef_8 (m : MethodId) (x0 : Addr) : entryFrame m #[(.ref x0)] 1 = mkF m 0 #[.val (.ref x0)] [] := by first | (simp [entryFrame, mkF, argsToLocals, Value.category]; done) | rfl
def Q8 (Z : State) (a0 : Addr) (h0 : Heap) (n0 : Nat) (vQ : Option Value) (hQ_ : Heap) (LQ : List Loc) : Prop := vQ = none ∧ Fr n0 LQ ∧ hQ_ = h0
def Fn8 (Z : State) (a0 : Addr) (h0 : Heap) (n0 : Nat) (sQ : State) (oQ : Outcome) (UQ : State) : Prop := ∃ vQ LQ, oQ = .returned vQ ∧ Q8 Z a0 h0 n0 vQ UQ.heap LQ ∧ FrameEnd sQ oQ UQ LQ ({ frames := 1, cells := 0, slots := 0, locals := 12 } : Room).cells ({ frames := 1, cells := 0, slots := 0, locals := 12 } : Room).slots
set_option maxRecDepth 65536 in
set_option maxHeartbeats 40000000 in
theorem rm8 (l : Launch) (Z : State) (aZ : Array Value) (hw : ∀ d ∈ tables_1, d.before aZ Z = true) (ws : List Jvm.Cond) (a0 : Addr) (h0 : Heap) (n0 : Nat) (Z0 : n0 ≤ h0.size) :
    MetFree l (⟨"java/lang/Number", "<init>", "()V"⟩ : MethodName) (head1 (Jvm.Cond.code (⟨"java/lang/Number", "<init>", "()V"⟩ : MethodName) jdk_18_method_1_code 1 none :: ws) ({ frames := 1, cells := 0, slots := 0, locals := 12 } : Room)) (fun aQ UQ => aQ = #[(.ref a0)] ∧ Z.Warmed39 UQ.vm ∧ UQ.heap = h0) (fun _ _ _ _ _ => True) (fun _ UQ oQ UR => ∃ vQ LQ, oQ = .returned vQ ∧ Q8 Z a0 h0 n0 vQ UR.heap LQ ∧ FrameEnd UQ oQ UR LQ ({ frames := 1, cells := 0, slots := 0, locals := 12 } : Room).cells ({ frames := 1, cells := 0, slots := 0, locals := 12 } : Room).slots) := by
  refine MetFree.of_bodySF (plainFor_of_name pn_4) hisR ?_
  intro p e s m args below meth c s₁ Bd hml0 hP hK
  obtain ⟨rfl, hZ, hh⟩ := hP
  have hx := Bd.exec
  have hby := Bd.bytes
  have hml : c.maxLocals = 1 := hml0
  have hown : s.vm.findClass "java/lang/Number" = some m.cls := findClass_of_methodNamed Bd.named
  have hnm := (name_of_methodNamed Bd.named Bd.method).1
  have X0 : Stand p l e ({ frames := 1, cells := 0, slots := 0, locals := 12 } : Room) s m #[(.ref a0)] below meth c s₁ [] 0 0 := Stand.of_body Bd
  have e0 : s₁.heap = h0 := by rw [← hh, Bd.state]; rfl
  have N0 := Fr.nil n0
  have K0 : Keep h0 h0 [] := Keep.refl _ _
  have w_13 := hw _ (List.mem_of_getElem? (i := 13) rfl)
  have w_14 := hw _ (List.mem_of_getElem? (i := 14) rfl)
  have w_54 := hw _ (List.mem_of_getElem? (i := 54) rfl)
  have first_ : Rn p e below (s₁.setTop (mkF m 0 #[.val (.ref a0)] [])) (Fn8 Z a0 h0 n0 s) := by
    generalize hG : (Fn8 Z a0 h0 n0 s) = G
    refine R.aloadN X0 hx (hb hby d8_0) rfl rfl (pc' := 1) rfl ?_
    refine R.initO X0 hx hZ hown w_54 w_13 w_14 e0 (by rw [hml]; rfl) (hb hby d8_1) (pc' := 4) rfl (by decide) (W := 0) (Nat.le_of_eq rfl) (by decide) ?_; intro T1 X1 e1
    rw [← hG]
    exact Rn.ret X1 (BodyLoose.notSynchronized Bd) (v := none) (fun _ => rfl) (Q := Q8 Z a0 h0 n0) e1 (fun fs hr => X1.returnOut hx Bd.returns (hb hby d8_4) hr) ⟨rfl, N0, rfl⟩ (by decide) (by decide)
  exact (Rn.st (fun t k => castTop (ef_8 m a0) k) first_ : Rn p e below (s₁.setTop (entryFrame m #[(.ref a0)] 1)) (Fn8 Z a0 h0 n0 s))
theorem d7_0 : decode jdk_35_method_26_code 0 = .ok (.aload_n 0, 1) := by decide +kernel
theorem d7_1 : decode jdk_35_method_26_code 1 = .ok (.invokespecial 270, 3) := by decide +kernel
abbrev mY1 : MethodName := (⟨"java/lang/Number", "<init>", "()V"⟩ : MethodName)
theorem d7_4 : decode jdk_35_method_26_code 4 = .ok (.aload_n 0, 1) := by decide +kernel
theorem d7_5 : decode jdk_35_method_26_code 5 = .ok (.lload_n 1, 1) := by decide +kernel
theorem d7_6 : decode jdk_35_method_26_code 6 = .ok (.putfield 273, 3) := by decide +kernel
theorem d7_9 : decode jdk_35_method_26_code 9 = .ok (.return_, 1) := by decide +kernel
theorem pn_5 : plainName "java/lang/Long" = true := by first | (simp [plainName, overriddenIn]; done) | decide +kernel
theorem ef_7 (m : MethodId) (x0 : Addr) (x1 : Int64) : entryFrame m #[(.ref x0), (.long x1)] 3 = mkF m 0 #[.val (.ref x0), .val (.long x1), .second] [] := by first | (simp [entryFrame, mkF, argsToLocals, Value.category]; done) | rfl
def Q7 (Z : State) (a0 : Addr) (q1 : Int64) (h0 : Heap) (n0 : Nat) (vQ : Option Value) (hQ_ : Heap) (LQ : List Loc) : Prop := vQ = none ∧ Fr n0 LQ ∧ Keep h0 hQ_ [a0] ∧ (Exa Z hQ_ a0 "java/lang/Long")
def Fn7 (Z : State) (a0 : Addr) (q1 : Int64) (h0 : Heap) (n0 : Nat) (sQ : State) (oQ : Outcome) (UQ : State) : Prop := ∃ vQ LQ, oQ = .returned vQ ∧ Q7 Z a0 q1 h0 n0 vQ UQ.heap LQ ∧ FrameEnd sQ oQ UQ LQ ({ frames := 2, cells := 0, slots := 0, locals := 24 } : Room).cells ({ frames := 2, cells := 0, slots := 0, locals := 24 } : Room).slots
set_option maxRecDepth 65536 in
set_option maxHeartbeats 40000000 in
theorem rm7 (l : Launch) (Z : State) (aZ : Array Value) (hw : ∀ d ∈ tables_1, d.before aZ Z = true) (ws : List Jvm.Cond) (a0 : Addr) (q1 : Int64) (h0 : Heap) (n0 : Nat) (Z0 : n0 ≤ h0.size) (E_a0 : Exa Z h0 a0 "java/lang/Long") (F_value_a0 : Fld Z h0 a0 "java/lang/Long" "value" "J" (.long (0 : Int64))) (g_a0 : n0 ≤ a0) :
    MetFree l (⟨"java/lang/Long", "<init>", "(J)V"⟩ : MethodName) (head1 (Jvm.Cond.code (⟨"java/lang/Long", "<init>", "(J)V"⟩ : MethodName) jdk_35_method_26_code 3 none :: ws) ({ frames := 2, cells := 0, slots := 0, locals := 24 } : Room)) (fun aQ UQ => aQ = #[(.ref a0), (.long q1)] ∧ Z.Warmed39 UQ.vm ∧ UQ.heap = h0) (fun _ _ _ _ _ => True) (fun _ UQ oQ UR => ∃ vQ LQ, oQ = .returned vQ ∧ Q7 Z a0 q1 h0 n0 vQ UR.heap LQ ∧ FrameEnd UQ oQ UR LQ ({ frames := 2, cells := 0, slots := 0, locals := 24 } : Room).cells ({ frames := 2, cells := 0, slots := 0, locals := 24 } : Room).slots) := by
  refine MetFree.of_bodySF (plainFor_of_name pn_5) hisR ?_
  intro p e s m args below meth c s₁ Bd hml0 hP hK
  obtain ⟨rfl, hZ, hh⟩ := hP
  have hx := Bd.exec
  have hby := Bd.bytes
  have hml : c.maxLocals = 3 := hml0
  have hown : s.vm.findClass "java/lang/Long" = some m.cls := findClass_of_methodNamed Bd.named
  have hnm := (name_of_methodNamed Bd.named Bd.method).1
  have X0 : Stand p l e ({ frames := 2, cells := 0, slots := 0, locals := 24 } : Room) s m #[(.ref a0), (.long q1)] below meth c s₁ [] 0 0 := Stand.of_body Bd
  have e0 : s₁.heap = h0 := by rw [← hh, Bd.state]; rfl
  have N0 := Fr.nil n0
  have K0 : Keep h0 h0 [a0] := Keep.refl _ _
  have w_43 := hw _ (List.mem_of_getElem? (i := 43) rfl)
  have w_48 := hw _ (List.mem_of_getElem? (i := 48) rfl)
  have w_49 := hw _ (List.mem_of_getElem? (i := 49) rfl)
  have w_52 := hw _ (List.mem_of_getElem? (i := 52) rfl)
  have w_53 := hw _ (List.mem_of_getElem? (i := 53) rfl)
  have w_55 := hw _ (List.mem_of_getElem? (i := 55) rfl)
  have w_56 := hw _ (List.mem_of_getElem? (i := 56) rfl)
  have first_ : Rn p e below (s₁.setTop (mkF m 0 #[.val (.ref a0), .val (.long q1), .second] [])) (Fn7 Z a0 q1 h0 n0 s) := by
    generalize hG : (Fn7 Z a0 q1 h0 n0 s) = G
    refine R.aloadN X0 hx (hb hby d7_0) rfl rfl (pc' := 1) rfl ?_
    refine R.special X0 hx hZ (y := mY1) rfl hown w_48 w_49 w_52 w_53 (by decide) e0 (rm8 l Z aZ hw [] a0 h0 n0 Z0 ) (by decide) (W := 0) (Nat.le_of_eq rfl) (by decide) (by rw [hml]; rfl) (lenOf pd_0 rfl) rfl (hb hby d7_1) (pc' := 4) rfl (by decide) (by decide) ?_; intro v1 T1 L1 X1 hQ1
    obtain ⟨rfl, N1q, e1⟩ := hQ1
    have N1 := Fr.app N0 N1q
    refine R.aloadN X1 hx (hb hby d7_4) rfl rfl (pc' := 5) rfl ?_
    refine R.lloadN X1 hx (hb hby d7_5) rfl (pc' := 6) rfl ?_
    refine R.putF X1 hx hZ hown (host := "") (Or.inl w_55) Via.refl e1 F_value_a0 E_a0 (Or.inr ⟨w_56, rfl, hnm⟩) w_43 (ty := .long) (by decide) rfl rfl (hb hby d7_6) (pc' := 9) rfl ?_; intro T2 h2 X2 e2 W2
    have E_a0 := E_a0.wr W2
    have F_value_a0 : Fld Z h2 a0 "java/lang/Long" "value" "J" (.long q1) := F_value_a0.same W2
    have N2 := Fr.snoc X2 N1 g_a0
    have K2 : Keep h0 h2 [a0] := K0.wr W2 (Or.inl (List.mem_of_getElem? (i := 0) rfl))
    have Z2 : n0 ≤ h2.size := Nat.le_trans Z0 (Keep.of_wr W2).1
    rw [← hG]
    exact Rn.ret X2 (BodyLoose.notSynchronized Bd) (v := none) (fun _ => rfl) (Q := Q7 Z a0 q1 h0 n0) e2 (fun fs hr => X2.returnOut hx Bd.returns (hb hby d7_9) hr) ⟨rfl, N2, K2, E_a0⟩ (by decide) (by decide)
  exact (Rn.st (fun t k => castTop (ef_7 m a0 q1) k) first_ : Rn p e below (s₁.setTop (entryFrame m #[(.ref a0), (.long q1)] 3)) (Fn7 Z a0 q1 h0 n0 s))
theorem d6_0 : decode jdk_35_method_24_code 0 = .ok (.sipush 128, 3) := by decide +kernel
theorem d6_3 : decode jdk_35_method_24_code 3 = .ok (.istore_n 2, 1) := by decide +kernel
theorem d6_4 : decode jdk_35_method_24_code 4 = .ok (.lload_n 0, 1) := by decide +kernel
theorem d6_5 : decode jdk_35_method_24_code 5 = .ok (.ldc2_w 230, 3) := by decide +kernel
theorem d6_8 : decode jdk_35_method_24_code 8 = .ok (.lcmp, 1) := by decide +kernel
theorem d6_9 : decode jdk_35_method_24_code 9 = .ok (.ifCond .lt 22, 3) := by decide +kernel
theorem d6_31 : decode jdk_35_method_24_code 31 = .ok (.new 1, 3) := by decide +kernel
theorem d6_34 : decode jdk_35_method_24_code 34 = .ok (.dup, 1) := by decide +kernel
theorem d6_35 : decode jdk_35_method_24_code 35 = .ok (.lload_n 0, 1) := by decide +kernel
theorem d6_36 : decode jdk_35_method_24_code 36 = .ok (.invokespecial 240, 3) := by decide +kernel
theorem pd_1 : parseMethodDescriptor "(J)V" = some ⟨[.long], none⟩ := by decide +kernel
abbrev mY2 : MethodName := (⟨"java/lang/Long", "<init>", "(J)V"⟩ : MethodName)
theorem d6_39 : decode jdk_35_method_24_code 39 = .ok (.areturn, 1) := by decide +kernel
theorem d6_12 : decode jdk_35_method_24_code 12 = .ok (.lload_n 0, 1) := by decide +kernel
theorem d6_13 : decode jdk_35_method_24_code 13 = .ok (.ldc2_w 232, 3) := by decide +kernel
theorem d6_16 : decode jdk_35_method_24_code 16 = .ok (.lcmp, 1) := by decide +kernel
theorem d6_17 : decode jdk_35_method_24_code 17 = .ok (.ifCond .gt 14, 3) := by decide +kernel
theorem d6_20 : decode jdk_35_method_24_code 20 = .ok (.getstatic 234, 3) := by decide +kernel
theorem d6_23 : decode jdk_35_method_24_code 23 = .ok (.lload_n 0, 1) := by decide +kernel
theorem d6_24 : decode jdk_35_method_24_code 24 = .ok (.l2i, 1) := by decide +kernel
theorem d6_25 : decode jdk_35_method_24_code 25 = .ok (.sipush 128, 3) := by decide +kernel
theorem d6_28 : decode jdk_35_method_24_code 28 = .ok (.iadd, 1) := by decide +kernel
theorem d6_29 : decode jdk_35_method_24_code 29 = .ok (.aaload, 1) := by decide +kernel
theorem d6_30 : decode jdk_35_method_24_code 30 = .ok (.areturn, 1) := by decide +kernel
theorem ef_6 (m : MethodId) (x0 : Int64) : entryFrame m #[(.long x0)] 3 = mkF m 0 #[.val (.long x0), .second, .unset] [] := by first | (simp [entryFrame, mkF, argsToLocals, Value.category]; done) | rfl
def Q6 (Z : State) (q0 : Int64) (ca : Addr) (h0 : Heap) (n0 : Nat) (vQ : Option Value) (hQ_ : Heap) (LQ : List Loc) : Prop := ∃ b : Addr, vQ = some (.ref b) ∧ Fr n0 LQ ∧ Keep h0 hQ_ [] ∧ (Exa Z hQ_ b "java/lang/Long")
def Fn6 (Z : State) (q0 : Int64) (ca : Addr) (h0 : Heap) (n0 : Nat) (sQ : State) (oQ : Outcome) (UQ : State) : Prop := ∃ vQ LQ, oQ = .returned vQ ∧ Q6 Z q0 ca h0 n0 vQ UQ.heap LQ ∧ FrameEnd sQ oQ UQ LQ ({ frames := 3, cells := 1, slots := 1, locals := 39 } : Room).cells ({ frames := 3, cells := 1, slots := 1, locals := 39 } : Room).slots
set_option maxRecDepth 65536 in
set_option maxHeartbeats 40000000 in
theorem rm6 (l : Launch) (Z : State) (aZ : Array Value) (hw : ∀ d ∈ tables_1, d.before aZ Z = true) (ws : List Jvm.Cond) (q0 : Int64) (ca : Addr) (h0 : Heap) (n0 : Nat) (Z0 : n0 ≤ h0.size) (OL : Old Z n0 h0) (LC : own_BX Z "java/lang/Long$LongCache" "java/lang/Long" ca) :
    MetFree l (⟨"java/lang/Long", "valueOf", "(J)Ljava/lang/Long;"⟩ : MethodName) (head1 (Jvm.Cond.code (⟨"java/lang/Long", "valueOf", "(J)Ljava/lang/Long;"⟩ : MethodName) jdk_35_method_24_code 3 (some (.object "java/lang/Long")) :: ws) ({ frames := 3, cells := 1, slots := 1, locals := 39 } : Room)) (fun aQ UQ => aQ = #[(.long q0)] ∧ Z.Warmed39 UQ.vm ∧ UQ.heap = h0) (fun _ _ _ _ _ => True) (fun _ UQ oQ UR => ∃ vQ LQ, oQ = .returned vQ ∧ Q6 Z q0 ca h0 n0 vQ UR.heap LQ ∧ FrameEnd UQ oQ UR LQ ({ frames := 3, cells := 1, slots := 1, locals := 39 } : Room).cells ({ frames := 3, cells := 1, slots := 1, locals := 39 } : Room).slots) := by
  refine MetFree.of_bodySF (plainFor_of_name pn_5) hisR ?_
  intro p e s m args below meth c s₁ Bd hml0 hP hK
  obtain ⟨rfl, hZ, hh⟩ := hP
  have hx := Bd.exec
  have hby := Bd.bytes
  have hml : c.maxLocals = 3 := hml0
  have hown : s.vm.findClass "java/lang/Long" = some m.cls := findClass_of_methodNamed Bd.named
  have hnm := (name_of_methodNamed Bd.named Bd.method).1
  have X0 : Stand p l e ({ frames := 3, cells := 1, slots := 1, locals := 39 } : Room) s m #[(.long q0)] below meth c s₁ [] 0 0 := Stand.of_body Bd
  have e0 : s₁.heap = h0 := by rw [← hh, Bd.state]; rfl
  have N0 := Fr.nil n0
  have K0 : Keep h0 h0 [] := Keep.refl _ _
  have w_39 := hw _ (List.mem_of_getElem? (i := 39) rfl)
  have w_41 := hw _ (List.mem_of_getElem? (i := 41) rfl)
  have w_42 := hw _ (List.mem_of_getElem? (i := 42) rfl)
  have w_43 := hw _ (List.mem_of_getElem? (i := 43) rfl)
  have w_44 := hw _ (List.mem_of_getElem? (i := 44) rfl)
  have w_45 := hw _ (List.mem_of_getElem? (i := 45) rfl)
  have w_47 := hw _ (List.mem_of_getElem? (i := 47) rfl)
  have w_56 := hw _ (List.mem_of_getElem? (i := 56) rfl)
  have w_142 := hw _ (List.mem_of_getElem? (i := 142) rfl)
  have w_143 := hw _ (List.mem_of_getElem? (i := 143) rfl)
  have first_ : Rn p e below (s₁.setTop (mkF m 0 #[.val (.long q0), .second, .unset] [])) (Fn6 Z q0 ca h0 n0 s) := by
    generalize hG : (Fn6 Z q0 ca h0 n0 s) = G
    refine R.sipush X0 hx (hb hby d6_0) (v := (128 : Int32)) (by decide) (pc' := 3) rfl ?_
    refine R.istoreN X0 hx (hb hby d6_3) (L' := #[.val (.long q0), .second, .val (.int (128 : Int32))]) rfl (pc' := 4) rfl ?_
    refine R.lloadN X0 hx (hb hby d6_4) rfl (pc' := 5) rfl ?_
    refine R.ldc2J X0 hx hZ hown w_41 (hb hby d6_5) (pc' := 8) rfl ?_
    refine R.lcmp X0 hx (hb hby d6_8) (pc' := 9) rfl ?_
    by_cases hc9 : (lcmpW q0 (-128 : Int64)) < (0 : Int32)
    · refine R.ifYes X0 hx (hb hby d6_9) (tlt hc9).1 (by decide) (pc' := 31) (by decide) ?_
      refine R.newO X0 hx hZ hown w_42 w_43 w_39 e0 (hb hby d6_31) (pc' := 34) rfl (by decide) (by decide) ?_; intro T1 h1 b1 g1 X1 e1 E1 A1 D1
      have g_b1 : n0 ≤ b1 := Nat.le_trans Z0 (Nat.le_of_eq g1.symm)
      have sz_b1 : h0.size ≤ b1 := Nat.le_trans K0.1 (Nat.le_of_eq g1.symm)
      have K1 : Keep h0 h1 [] := K0.ext E1
      have Z1 : n0 ≤ h1.size := Nat.le_trans Z0 E1.1
      have OL := OL.ext E1
      have E_b1 := A1
      have F_value_b1 : Fld Z h1 b1 "java/lang/Long" "value" "J" (.long (0 : Int64)) := D1 (Or.inr w_56) (ty := .long) (by decide)
      refine R.dup X1 hx (hb hby d6_34) rfl (pc' := 35) rfl ?_
      refine R.lloadN X1 hx (hb hby d6_35) rfl (pc' := 36) rfl ?_
      refine R.special X1 hx hZ (y := mY2) rfl hown w_44 w_45 w_39 w_47 (by decide) e1 (rm7 l Z aZ hw [] b1 q0 h1 n0 Z1 E_b1 F_value_b1 g_b1) (by decide) (W := 1) (Nat.le_of_eq rfl) (by decide) (by rw [hml]; rfl) (lenOf pd_1 rfl) rfl (hb hby d6_36) (pc' := 39) rfl (by decide) (by decide) ?_; intro v2 T2 L2 X2 hQ2
      obtain ⟨rfl, N2q, Kc2, P2_0⟩ := hQ2
      have N2 := Fr.app N0 N2q
      generalize e2 : T2.heap = h2 at Kc2 P2_0
      have K2 : Keep h0 h2 [] := K1.trans Kc2 ((allS (Or.inr sz_b1) all0))
      have Z2 : n0 ≤ h2.size := Nat.le_trans Z1 Kc2.1
      have OL := OL.keep Kc2 (allS g_b1 all0)
      have E_b1 : Exa Z h2 b1 "java/lang/Long" := P2_0
      rw [← hG]
      exact Rn.ret X2 (BodyLoose.notSynchronized Bd) (v := some (.ref b1)) (fun h => by rw [Bd.returns] at h; cases h) (Q := Q6 Z q0 ca h0 n0) e2 (fun fs hr => retOut X2 hx (t := (.object "java/lang/Long")) Bd.returns rfl (Or.inr (Or.inr (Or.inr (Or.inr ⟨rfl, rfl, rfl⟩)))) (hb hby d6_39) hr) ⟨b1, rfl, N2, K2, E_b1⟩ (by decide) (by decide)
    · refine R.ifNo X0 hx (hb hby d6_9) (flt hc9).1 (pc' := 12) rfl ?_
      refine R.lloadN X0 hx (hb hby d6_12) rfl (pc' := 13) rfl ?_
      refine R.ldc2J X0 hx hZ hown w_142 (hb hby d6_13) (pc' := 16) rfl ?_
      refine R.lcmp X0 hx (hb hby d6_16) (pc' := 17) rfl ?_
      by_cases hc17 : (0 : Int32) < (lcmpW q0 (127 : Int64))
      · refine R.ifYes X0 hx (hb hby d6_17) (tlt hc17).2.2.1 (by decide) (pc' := 31) (by decide) ?_
        refine R.newO X0 hx hZ hown w_42 w_43 w_39 e0 (hb hby d6_31) (pc' := 34) rfl (by decide) (by decide) ?_; intro T3 h3 b3 g3 X3 e3 E3 A3 D3
        have g_b3 : n0 ≤ b3 := Nat.le_trans Z0 (Nat.le_of_eq g3.symm)
        have sz_b3 : h0.size ≤ b3 := Nat.le_trans K0.1 (Nat.le_of_eq g3.symm)
        have K3 : Keep h0 h3 [] := K0.ext E3
        have Z3 : n0 ≤ h3.size := Nat.le_trans Z0 E3.1
        have OL := OL.ext E3
        have E_b3 := A3
        have F_value_b3 : Fld Z h3 b3 "java/lang/Long" "value" "J" (.long (0 : Int64)) := D3 (Or.inr w_56) (ty := .long) (by decide)
        refine R.dup X3 hx (hb hby d6_34) rfl (pc' := 35) rfl ?_
        refine R.lloadN X3 hx (hb hby d6_35) rfl (pc' := 36) rfl ?_
        refine R.special X3 hx hZ (y := mY2) rfl hown w_44 w_45 w_39 w_47 (by decide) e3 (rm7 l Z aZ hw [] b3 q0 h3 n0 Z3 E_b3 F_value_b3 g_b3) (by decide) (W := 1) (Nat.le_of_eq rfl) (by decide) (by rw [hml]; rfl) (lenOf pd_1 rfl) rfl (hb hby d6_36) (pc' := 39) rfl (by decide) (by decide) ?_; intro v4 T4 L4 X4 hQ4
        obtain ⟨rfl, N4q, Kc4, P4_0⟩ := hQ4
        have N4 := Fr.app N0 N4q
        generalize e4 : T4.heap = h4 at Kc4 P4_0
        have K4 : Keep h0 h4 [] := K3.trans Kc4 ((allS (Or.inr sz_b3) all0))
        have Z4 : n0 ≤ h4.size := Nat.le_trans Z3 Kc4.1
        have OL := OL.keep Kc4 (allS g_b3 all0)
        have E_b3 : Exa Z h4 b3 "java/lang/Long" := P4_0
        rw [← hG]
        exact Rn.ret X4 (BodyLoose.notSynchronized Bd) (v := some (.ref b3)) (fun h => by rw [Bd.returns] at h; cases h) (Q := Q6 Z q0 ca h0 n0) e4 (fun fs hr => retOut X4 hx (t := (.object "java/lang/Long")) Bd.returns rfl (Or.inr (Or.inr (Or.inr (Or.inr ⟨rfl, rfl, rfl⟩)))) (hb hby d6_39) hr) ⟨b3, rfl, N4, K4, E_b3⟩ (by decide) (by decide)
      · refine R.ifNo X0 hx (hb hby d6_17) (flt hc17).2.2.1 (pc' := 20) rfl ?_
        have S_CA : Sta Z h0 "java/lang/Long$LongCache" "cache" "[Ljava/lang/Long;" (.ref ca) := LC.1.ext OL.2
        refine R.getS X0 hx hZ hown (host := "") (Or.inl w_143) Via.refl e0 S_CA (hb hby d6_20) (pc' := 23) rfl ?_; intro T5 X5 e5
        refine R.lloadN X5 hx (hb hby d6_23) rfl (pc' := 24) rfl ?_
        refine R.l2i X5 hx (hb hby d6_24) (pc' := 25) rfl ?_
        refine R.sipush X5 hx (hb hby d6_25) (v := (128 : Int32)) (by decide) (pc' := 28) rfl ?_
        refine R.iadd X5 hx (hb hby d6_28) rfl (pc' := 29) rfl ?_
        have tj := own_lidx hc9 hc17
        obtain ⟨cl, Ar0, hsz, hel⟩ := LC.2
        have Ar := Ar0.ext OL.2
        obtain ⟨b, hb_, Eb0⟩ := hel ((q0.toInt32) + (128 : Int32)) (by omega) (by omega)
        have E_b := Eb0.ext OL.2
        refine R.aaload X5 hx hZ e5 Ar rfl (own_inb hsz (by omega) (by omega)) hb_ (hb hby d6_29) (pc' := 30) rfl ?_
        rw [← hG]
        exact Rn.ret X5 (BodyLoose.notSynchronized Bd) (v := some (.ref b)) (fun h => by rw [Bd.returns] at h; cases h) (Q := Q6 Z q0 ca h0 n0) e5 (fun fs hr => retOut X5 hx (t := (.object "java/lang/Long")) Bd.returns rfl (Or.inr (Or.inr (Or.inr (Or.inr ⟨rfl, rfl, rfl⟩)))) (hb hby d6_30) hr) ⟨b, rfl, N0, K0, E_b⟩ (by decide) (by decide)
  exact (Rn.st (fun t k => castTop (ef_6 m q0) k) first_ : Rn p e below (s₁.setTop (entryFrame m #[(.long q0)] 3)) (Fn6 Z q0 ca h0 n0 s))
theorem d10_0 : decode jdk_43_method_3_code 0 = .ok (.iload_n 0, 1) := by decide +kernel
theorem d10_1 : decode jdk_43_method_3_code 1 = .ok (.sipush 255, 3) := by decide +kernel
theorem d10_4 : decode jdk_43_method_3_code 4 = .ok (.if_icmp .gt 7, 3) := by decide +kernel
theorem d10_7 : decode jdk_43_method_3_code 7 = .ok (.iconst 1, 1) := by decide +kernel
theorem d10_8 : decode jdk_43_method_3_code 8 = .ok (.goto 4, 3) := by decide +kernel
theorem d10_12 : decode jdk_43_method_3_code 12 = .ok (.ireturn, 1) := by decide +kernel
theorem pn_6 : plainName "java/lang/StringLatin1" = true := by first | (simp [plainName, overriddenIn]; done) | decide +kernel
theorem ef_10 (m : MethodId) (x0 : Int32) : entryFrame m #[(.int x0)] 1 = mkF m 0 #[.val (.int x0)] [] := by first | (simp [entryFrame, mkF, argsToLocals, Value.category]; done) | rfl
def Q10 (Z : State) (p0 : Int32) (h0 : Heap) (n0 : Nat) (vQ : Option Value) (hQ_ : Heap) (LQ : List Loc) : Prop := vQ = some (.int (1 : Int32)) ∧ Fr n0 LQ ∧ hQ_ = h0
def Fn10 (Z : State) (p0 : Int32) (h0 : Heap) (n0 : Nat) (sQ : State) (oQ : Outcome) (UQ : State) : Prop := ∃ vQ LQ, oQ = .returned vQ ∧ Q10 Z p0 h0 n0 vQ UQ.heap LQ ∧ FrameEnd sQ oQ UQ LQ ({ frames := 0, cells := 0, slots := 0, locals := 0 } : Room).cells ({ frames := 0, cells := 0, slots := 0, locals := 0 } : Room).slots
set_option maxRecDepth 65536 in
set_option maxHeartbeats 40000000 in
theorem rm10 (l : Launch) (Z : State) (aZ : Array Value) (hw : ∀ d ∈ tables_1, d.before aZ Z = true) (ws : List Jvm.Cond) (p0 : Int32) (h0 : Heap) (n0 : Nat) (Z0 : n0 ≤ h0.size) (hce : ¬ ((255 : Int32) < p0)) :
    MetFree l (⟨"java/lang/StringLatin1", "canEncode", "(C)Z"⟩ : MethodName) (head1 (Jvm.Cond.code (⟨"java/lang/StringLatin1", "canEncode", "(C)Z"⟩ : MethodName) jdk_43_method_3_code 1 (some .boolean) :: ws) ({ frames := 0, cells := 0, slots := 0, locals := 0 } : Room)) (fun aQ UQ => aQ = #[(.int p0)] ∧ Z.Warmed39 UQ.vm ∧ UQ.heap = h0) (fun _ _ _ _ _ => True) (fun _ UQ oQ UR => ∃ vQ LQ, oQ = .returned vQ ∧ Q10 Z p0 h0 n0 vQ UR.heap LQ ∧ FrameEnd UQ oQ UR LQ ({ frames := 0, cells := 0, slots := 0, locals := 0 } : Room).cells ({ frames := 0, cells := 0, slots := 0, locals := 0 } : Room).slots) := by
  refine MetFree.of_bodySF (plainFor_of_name pn_6) hisR ?_
  intro p e s m args below meth c s₁ Bd hml0 hP hK
  obtain ⟨rfl, hZ, hh⟩ := hP
  have hx := Bd.exec
  have hby := Bd.bytes
  have hml : c.maxLocals = 1 := hml0
  have hown : s.vm.findClass "java/lang/StringLatin1" = some m.cls := findClass_of_methodNamed Bd.named
  have hnm := (name_of_methodNamed Bd.named Bd.method).1
  have X0 : Stand p l e ({ frames := 0, cells := 0, slots := 0, locals := 0 } : Room) s m #[(.int p0)] below meth c s₁ [] 0 0 := Stand.of_body Bd
  have e0 : s₁.heap = h0 := by rw [← hh, Bd.state]; rfl
  have N0 := Fr.nil n0
  have K0 : Keep h0 h0 [] := Keep.refl _ _
  have first_ : Rn p e below (s₁.setTop (mkF m 0 #[.val (.int p0)] [])) (Fn10 Z p0 h0 n0 s) := by
    generalize hG : (Fn10 Z p0 h0 n0 s) = G
    refine R.iloadN X0 hx (hb hby d10_0) rfl (pc' := 1) rfl ?_
    refine R.sipush X0 hx (hb hby d10_1) (v := (255 : Int32)) (by decide) (pc' := 4) rfl ?_
    refine R.icmpNo X0 hx (hb hby d10_4) (flt (hce : ¬ ((255 : Int32) < p0))).2.2.1 (pc' := 7) rfl ?_
    refine R.iconst X0 hx (hb hby d10_7) (v := (1 : Int32)) (by decide) (pc' := 8) rfl ?_
    refine R.goto X0 hx (hb hby d10_8) (by decide) (pc' := 12) (by decide) ?_
    rw [← hG]
    exact Rn.ret X0 (BodyLoose.notSynchronized Bd) (v := some (.int (1 : Int32))) (fun h => by rw [Bd.returns] at h; cases h) (Q := Q10 Z p0 h0 n0) e0 (fun fs hr => retN X0 hx (t := .boolean) Bd.returns (by simp) (hb hby d10_12) hr) ⟨rfl, N0, rfl⟩ (by decide) (by decide)
  exact (Rn.st (fun t k => castTop (ef_10 m p0) k) first_ : Rn p e below (s₁.setTop (entryFrame m #[(.int p0)] 1)) (Fn10 Z p0 h0 n0 s))
theorem d11_0 : decode jdk_43_method_46_code 0 = .ok (.iconst 1, 1) := by decide +kernel
theorem d11_1 : decode jdk_43_method_46_code 1 = .ok (.newarray .byte, 2) := by decide +kernel
theorem d11_3 : decode jdk_43_method_46_code 3 = .ok (.dup, 1) := by decide +kernel
theorem d11_4 : decode jdk_43_method_46_code 4 = .ok (.iconst 0, 1) := by decide +kernel
theorem d11_5 : decode jdk_43_method_46_code 5 = .ok (.iload_n 0, 1) := by decide +kernel
theorem d11_6 : decode jdk_43_method_46_code 6 = .ok (.i2b, 1) := by decide +kernel
theorem d11_7 : decode jdk_43_method_46_code 7 = .ok (.bastore, 1) := by decide +kernel
theorem d11_8 : decode jdk_43_method_46_code 8 = .ok (.areturn, 1) := by decide +kernel
theorem ef_11 (m : MethodId) (x0 : Int32) : entryFrame m #[(.int x0)] 1 = mkF m 0 #[.val (.int x0)] [] := by first | (simp [entryFrame, mkF, argsToLocals, Value.category]; done) | rfl
def Q11 (Z : State) (p0 : Int32) (h0 : Heap) (n0 : Nat) (vQ : Option Value) (hQ_ : Heap) (LQ : List Loc) : Prop := ∃ b : Addr, vQ = some (.ref b) ∧ Fr n0 LQ ∧ Keep h0 hQ_ [] ∧ (h0.size ≤ b)
def Fn11 (Z : State) (p0 : Int32) (h0 : Heap) (n0 : Nat) (sQ : State) (oQ : Outcome) (UQ : State) : Prop := ∃ vQ LQ, oQ = .returned vQ ∧ Q11 Z p0 h0 n0 vQ UQ.heap LQ ∧ FrameEnd sQ oQ UQ LQ ({ frames := 0, cells := 1, slots := 1, locals := 0 } : Room).cells ({ frames := 0, cells := 1, slots := 1, locals := 0 } : Room).slots
set_option maxRecDepth 65536 in
set_option maxHeartbeats 40000000 in
theorem rm11 (l : Launch) (Z : State) (aZ : Array Value) (hw : ∀ d ∈ tables_1, d.before aZ Z = true) (ws : List Jvm.Cond) (p0 : Int32) (h0 : Heap) (n0 : Nat) (Z0 : n0 ≤ h0.size) :
    MetFree l (⟨"java/lang/StringLatin1", "toBytes", "(C)[B"⟩ : MethodName) (head1 (Jvm.Cond.code (⟨"java/lang/StringLatin1", "toBytes", "(C)[B"⟩ : MethodName) jdk_43_method_46_code 1 (some (.array .byte)) :: ws) ({ frames := 0, cells := 1, slots := 1, locals := 0 } : Room)) (fun aQ UQ => aQ = #[(.int p0)] ∧ Z.Warmed39 UQ.vm ∧ UQ.heap = h0) (fun _ _ _ _ _ => True) (fun _ UQ oQ UR => ∃ vQ LQ, oQ = .returned vQ ∧ Q11 Z p0 h0 n0 vQ UR.heap LQ ∧ FrameEnd UQ oQ UR LQ ({ frames := 0, cells := 1, slots := 1, locals := 0 } : Room).cells ({ frames := 0, cells := 1, slots := 1, locals := 0 } : Room).slots) := by
  refine MetFree.of_bodySF (plainFor_of_name pn_6) hisR ?_
  intro p e s m args below meth c s₁ Bd hml0 hP hK
  obtain ⟨rfl, hZ, hh⟩ := hP
  have hx := Bd.exec
  have hby := Bd.bytes
  have hml : c.maxLocals = 1 := hml0
  have hown : s.vm.findClass "java/lang/StringLatin1" = some m.cls := findClass_of_methodNamed Bd.named
  have hnm := (name_of_methodNamed Bd.named Bd.method).1
  have X0 : Stand p l e ({ frames := 0, cells := 1, slots := 1, locals := 0 } : Room) s m #[(.int p0)] below meth c s₁ [] 0 0 := Stand.of_body Bd
  have e0 : s₁.heap = h0 := by rw [← hh, Bd.state]; rfl
  have N0 := Fr.nil n0
  have K0 : Keep h0 h0 [] := Keep.refl _ _
  have w_73 := hw _ (List.mem_of_getElem? (i := 73) rfl)
  have first_ : Rn p e below (s₁.setTop (mkF m 0 #[.val (.int p0)] [])) (Fn11 Z p0 h0 n0 s) := by
    generalize hG : (Fn11 Z p0 h0 n0 s) = G
    refine R.iconst X0 hx (hb hby d11_0) (v := (1 : Int32)) (by decide) (pc' := 1) rfl ?_
    refine R.newP X0 hx hZ (ty := .byte) rfl w_73 e0 (by decide) (cap := 1) (by decide) (by decide) (ad := "[B") (by decide) (hb hby d11_1) (pc' := 3) rfl (by decide) (by decide) ?_; intro T1 h1 b1 k1 g1 X1 e1 E1 EE1 A1
    have g_b1 : n0 ≤ b1 := Nat.le_trans Z0 (Nat.le_of_eq g1.symm)
    have sz_b1 : h0.size ≤ b1 := Nat.le_trans K0.1 (Nat.le_of_eq g1.symm)
    have K1 : Keep h0 h1 [] := K0.ext E1
    have Z1 : n0 ≤ h1.size := Nat.le_trans Z0 E1.1
    have V_b1 : Arh Z h1 b1 k1 .byte (1 : Int32) [] [] (.int (0 : Int32)) := A1
    refine R.dup X1 hx (hb hby d11_3) rfl (pc' := 4) rfl ?_
    refine R.iconst X1 hx (hb hby d11_4) (v := (0 : Int32)) (by decide) (pc' := 5) rfl ?_
    refine R.iloadN X1 hx (hb hby d11_5) rfl (pc' := 6) rfl ?_
    refine R.i2b X1 hx (hb hby d11_6) (pc' := 7) rfl ?_
    refine R.bastoreB X1 hx hZ e1 V_b1 (⟨by decide, by decide⟩ : ¬ (0 : Int32) < 0 ∧ (0 : Int32) < (1 : Int32)) (hb hby d11_7) (pc' := 8) rfl ?_; intro T2 h2 X2 e2 W2 V2
    have N2 := Fr.snoc X2 N0 g_b1
    have K2 : Keep h0 h2 [] := K1.wr W2 (Or.inr sz_b1)
    have Z2 : n0 ≤ h2.size := Nat.le_trans Z1 (Keep.of_wr W2).1
    rw [← hG]
    exact Rn.ret X2 (BodyLoose.notSynchronized Bd) (v := some (.ref b1)) (fun h => by rw [Bd.returns] at h; cases h) (Q := Q11 Z p0 h0 n0) e2 (fun fs hr => retOut X2 hx (t := (.array .byte)) Bd.returns rfl (Or.inr (Or.inr (Or.inr (Or.inr ⟨rfl, rfl, rfl⟩)))) (hb hby d11_8) hr) ⟨b1, rfl, N2, K2, (sz_b1)⟩ (by decide) (by decide)
  exact (Rn.st (fun t k => castTop (ef_11 m p0) k) first_ : Rn p e below (s₁.setTop (entryFrame m #[(.int p0)] 1)) (Fn11 Z p0 h0 n0 s))
theorem d12_0 : decode jdk_42_method_151_code 0 = .ok (.aload_n 0, 1) := by decide +kernel
theorem d12_1 : decode jdk_42_method_151_code 1 = .ok (.invokespecial 1, 3) := by decide +kernel
theorem d12_4 : decode jdk_42_method_151_code 4 = .ok (.aload_n 0, 1) := by decide +kernel
theorem d12_5 : decode jdk_42_method_151_code 5 = .ok (.aload_n 1, 1) := by decide +kernel
theorem d12_6 : decode jdk_42_method_151_code 6 = .ok (.putfield 9, 3) := by decide +kernel
theorem d12_9 : decode jdk_42_method_151_code 9 = .ok (.aload_n 0, 1) := by decide +kernel
theorem d12_10 : decode jdk_42_method_151_code 10 = .ok (.iload_n 2, 1) := by decide +kernel
theorem d12_11 : decode jdk_42_method_151_code 11 = .ok (.putfield 15, 3) := by decide +kernel
theorem d12_14 : decode jdk_42_method_151_code 14 = .ok (.return_, 1) := by decide +kernel
theorem pn_7 : plainName "java/lang/String" = true := by first | (simp [plainName, overriddenIn]; done) | decide +kernel
theorem ef_12 (m : MethodId) (x0 : Addr) (x1 : Addr) : entryFrame m #[(.ref x0), (.ref x1), (.int (0 : Int32))] 3 = mkF m 0 #[.val (.ref x0), .val (.ref x1), .val (.int (0 : Int32))] [] := by first | (simp [entryFrame, mkF, argsToLocals, Value.category]; done) | rfl
def Q12 (Z : State) (a0 : Addr) (a1 : Addr) (h0 : Heap) (n0 : Nat) (vQ : Option Value) (hQ_ : Heap) (LQ : List Loc) : Prop := vQ = none ∧ Fr n0 LQ ∧ Keep h0 hQ_ [a0] ∧ (Exa Z hQ_ a0 "java/lang/String")
def Fn12 (Z : State) (a0 : Addr) (a1 : Addr) (h0 : Heap) (n0 : Nat) (sQ : State) (oQ : Outcome) (UQ : State) : Prop := ∃ vQ LQ, oQ = .returned vQ ∧ Q12 Z a0 a1 h0 n0 vQ UQ.heap LQ ∧ FrameEnd sQ oQ UQ LQ ({ frames := 1, cells := 0, slots := 0, locals := 12 } : Room).cells ({ frames := 1, cells := 0, slots := 0, locals := 12 } : Room).slots
set_option maxRecDepth 65536 in
set_option maxHeartbeats 40000000 in
theorem rm12 (l : Launch) (Z : State) (aZ : Array Value) (hw : ∀ d ∈ tables_1, d.before aZ Z = true) (ws : List Jvm.Cond) (a0 : Addr) (a1 : Addr) (h0 : Heap) (n0 : Nat) (Z0 : n0 ≤ h0.size) (E_a0 : Exa Z h0 a0 "java/lang/String") (F_value_a0 : Fld Z h0 a0 "java/lang/String" "value" "[B" .null) (F_coder_a0 : Fld Z h0 a0 "java/lang/String" "coder" "B" (.int (0 : Int32))) (g_a0 : n0 ≤ a0) :
    MetFree l (⟨"java/lang/String", "<init>", "([BB)V"⟩ : MethodName) (head1 (Jvm.Cond.code (⟨"java/lang/String", "<init>", "([BB)V"⟩ : MethodName) jdk_42_method_151_code 3 none :: ws) ({ frames := 1, cells := 0, slots := 0, locals := 12 } : Room)) (fun aQ UQ => aQ = #[(.ref a0), (.ref a1), (.int (0 : Int32))] ∧ Z.Warmed39 UQ.vm ∧ UQ.heap = h0) (fun _ _ _ _ _ => True) (fun _ UQ oQ UR => ∃ vQ LQ, oQ = .returned vQ ∧ Q12 Z a0 a1 h0 n0 vQ UR.heap LQ ∧ FrameEnd UQ oQ UR LQ ({ frames := 1, cells := 0, slots := 0, locals := 12 } : Room).cells ({ frames := 1, cells := 0, slots := 0, locals := 12 } : Room).slots) := by
  refine MetFree.of_bodySF (plainFor_of_name pn_7) hisR ?_
  intro p e s m args below meth c s₁ Bd hml0 hP hK
  obtain ⟨rfl, hZ, hh⟩ := hP
  have hx := Bd.exec
  have hby := Bd.bytes
  have hml : c.maxLocals = 3 := hml0
  have hown : s.vm.findClass "java/lang/String" = some m.cls := findClass_of_methodNamed Bd.named
  have hnm := (name_of_methodNamed Bd.named Bd.method).1
  have X0 : Stand p l e ({ frames := 1, cells := 0, slots := 0, locals := 12 } : Room) s m #[(.ref a0), (.ref a1), (.int (0 : Int32))] below meth c s₁ [] 0 0 := Stand.of_body Bd
  have e0 : s₁.heap = h0 := by rw [← hh, Bd.state]; rfl
  have N0 := Fr.nil n0
  have K0 : Keep h0 h0 [a0] := Keep.refl _ _
  have w_13 := hw _ (List.mem_of_getElem? (i := 13) rfl)
  have w_14 := hw _ (List.mem_of_getElem? (i := 14) rfl)
  have w_69 := hw _ (List.mem_of_getElem? (i := 69) rfl)
  have w_78 := hw _ (List.mem_of_getElem? (i := 78) rfl)
  have w_79 := hw _ (List.mem_of_getElem? (i := 79) rfl)
  have w_80 := hw _ (List.mem_of_getElem? (i := 80) rfl)
  have w_81 := hw _ (List.mem_of_getElem? (i := 81) rfl)
  have w_82 := hw _ (List.mem_of_getElem? (i := 82) rfl)
  have first_ : Rn p e below (s₁.setTop (mkF m 0 #[.val (.ref a0), .val (.ref a1), .val (.int (0 : Int32))] [])) (Fn12 Z a0 a1 h0 n0 s) := by
    generalize hG : (Fn12 Z a0 a1 h0 n0 s) = G
    refine R.aloadN X0 hx (hb hby d12_0) rfl rfl (pc' := 1) rfl ?_
    refine R.initO X0 hx hZ hown w_78 w_13 w_14 e0 (by rw [hml]; rfl) (hb hby d12_1) (pc' := 4) rfl (by decide) (W := 0) (Nat.le_of_eq rfl) (by decide) ?_; intro T1 X1 e1
    refine R.aloadN X1 hx (hb hby d12_4) rfl rfl (pc' := 5) rfl ?_
    refine R.aloadN X1 hx (hb hby d12_5) rfl rfl (pc' := 6) rfl ?_
    refine R.putF X1 hx hZ hown (host := "") (Or.inl w_79) Via.refl e1 F_value_a0 E_a0 (Or.inr ⟨w_80, rfl, hnm⟩) w_69 (ty := (.array .byte)) (by decide) rfl rfl (hb hby d12_6) (pc' := 9) rfl ?_; intro T2 h2 X2 e2 W2
    have E_a0 := E_a0.wr W2
    have F_coder_a0 := F_coder_a0.other W2 (Or.inr (slot_ne (Or.inr w_82) (Or.inr w_80) (by decide) (t := .byte) (t' := (.array .byte)) (by decide) (by decide)))
    have F_value_a0 : Fld Z h2 a0 "java/lang/String" "value" "[B" (.ref a1) := F_value_a0.same W2
    have N2 := Fr.snoc X2 N0 g_a0
    have K2 : Keep h0 h2 [a0] := K0.wr W2 (Or.inl (List.mem_of_getElem? (i := 0) rfl))
    have Z2 : n0 ≤ h2.size := Nat.le_trans Z0 (Keep.of_wr W2).1
    refine R.aloadN X2 hx (hb hby d12_9) rfl rfl (pc' := 10) rfl ?_
    refine R.iloadN X2 hx (hb hby d12_10) rfl (pc' := 11) rfl ?_
    obtain ⟨T3, h3, X3, e3, W3, st3⟩ := putFN X2 hx hZ hown w_81 Via.refl e2 F_coder_a0 E_a0 (Or.inr ⟨w_82, rfl, hnm⟩) w_69 (ty := .byte) (v' := (.int (0 : Int32))) (by decide) rfl rfl (g := (mkF m 11 #[.val (.ref a0), .val (.ref a1), .val (.int (0 : Int32))] [(.int (0 : Int32)), (.ref a0)])) rfl rfl (hb hby d12_11)
    have E_a0 := E_a0.wr W3
    have F_value_a0 := F_value_a0.other W3 (Or.inr (slot_ne (Or.inr w_80) (Or.inr w_82) (by decide) (t := (.array .byte)) (t' := .byte) (by decide) (by decide)))
    have F_coder_a0 : Fld Z h3 a0 "java/lang/String" "coder" "B" (.int (0 : Int32)) := F_coder_a0.same W3
    have N3 := Fr.snoc X3 N2 g_a0
    have K3 : Keep h0 h3 [a0] := K2.wr W3 (Or.inl (List.mem_of_getElem? (i := 0) rfl))
    have Z3 : n0 ≤ h3.size := Nat.le_trans Z2 (Keep.of_wr W3).1
    refine Rn.st st3 ?_
    show Rn p e below (T3.setTop (mkF m 14 #[.val (.ref a0), .val (.ref a1), .val (.int (0 : Int32))] [])) G
    rw [← hG]
    exact Rn.ret X3 (BodyLoose.notSynchronized Bd) (v := none) (fun _ => rfl) (Q := Q12 Z a0 a1 h0 n0) e3 (fun fs hr => X3.returnOut hx Bd.returns (hb hby d12_14) hr) ⟨rfl, N3, K3, E_a0⟩ (by decide) (by decide)
  exact (Rn.st (fun t k => castTop (ef_12 m a0 a1) k) first_ : Rn p e below (s₁.setTop (entryFrame m #[(.ref a0), (.ref a1), (.int (0 : Int32))] 3)) (Fn12 Z a0 a1 h0 n0 s))
theorem d9_0 : decode jdk_42_method_139_code 0 = .ok (.getstatic 38, 3) := by decide +kernel
theorem d9_3 : decode jdk_42_method_139_code 3 = .ok (.ifCond .eq 23, 3) := by decide +kernel
theorem d9_6 : decode jdk_42_method_139_code 6 = .ok (.iload_n 0, 1) := by decide +kernel
theorem d9_7 : decode jdk_42_method_139_code 7 = .ok (.invokestatic 1015, 3) := by decide +kernel
theorem pd_2 : parseMethodDescriptor "(C)Z" = some ⟨[.char], some .boolean⟩ := by decide +kernel
abbrev mY3 : MethodName := (⟨"java/lang/StringLatin1", "canEncode", "(C)Z"⟩ : MethodName)
theorem d9_10 : decode jdk_42_method_139_code 10 = .ok (.ifCond .eq 16, 3) := by decide +kernel
theorem d9_13 : decode jdk_42_method_139_code 13 = .ok (.new 10, 3) := by decide +kernel
theorem d9_16 : decode jdk_42_method_139_code 16 = .ok (.dup, 1) := by decide +kernel
theorem d9_17 : decode jdk_42_method_139_code 17 = .ok (.iload_n 0, 1) := by decide +kernel
theorem d9_18 : decode jdk_42_method_139_code 18 = .ok (.invokestatic 1018, 3) := by decide +kernel
theorem pd_3 : parseMethodDescriptor "(C)[B" = some ⟨[.char], some (.array .byte)⟩ := by decide +kernel
abbrev mY4 : MethodName := (⟨"java/lang/StringLatin1", "toBytes", "(C)[B"⟩ : MethodName)
theorem d9_21 : decode jdk_42_method_139_code 21 = .ok (.iconst 0, 1) := by decide +kernel
theorem d9_22 : decode jdk_42_method_139_code 22 = .ok (.invokespecial 209, 3) := by decide +kernel
theorem pd_4 : parseMethodDescriptor "([BB)V" = some ⟨[(.array .byte), .byte], none⟩ := by decide +kernel
abbrev mY5 : MethodName := (⟨"java/lang/String", "<init>", "([BB)V"⟩ : MethodName)
theorem d9_25 : decode jdk_42_method_139_code 25 = .ok (.areturn, 1) := by decide +kernel
theorem ef_9 (m : MethodId) (x0 : Int32) : entryFrame m #[(.int x0)] 1 = mkF m 0 #[.val (.int x0)] [] := by first | (simp [entryFrame, mkF, argsToLocals, Value.category]; done) | rfl
def Q9 (Z : State) (p0 : Int32) (cs : Int32) (h0 : Heap) (n0 : Nat) (vQ : Option Value) (hQ_ : Heap) (LQ : List Loc) : Prop := ∃ b : Addr, vQ = some (.ref b) ∧ Fr n0 LQ ∧ Keep h0 hQ_ [] ∧ (Exa Z hQ_ b "java/lang/String")
def Fn9 (Z : State) (p0 : Int32) (cs : Int32) (h0 : Heap) (n0 : Nat) (sQ : State) (oQ : Outcome) (UQ : State) : Prop := ∃ vQ LQ, oQ = .returned vQ ∧ Q9 Z p0 cs h0 n0 vQ UQ.heap LQ ∧ FrameEnd sQ oQ UQ LQ ({ frames := 2, cells := 2, slots := 5, locals := 27 } : Room).cells ({ frames := 2, cells := 2, slots := 5, locals := 27 } : Room).slots
set_option maxRecDepth 65536 in
set_option maxHeartbeats 40000000 in
theorem rm9 (l : Launch) (Z : State) (aZ : Array Value) (hw : ∀ d ∈ tables_1, d.before aZ Z = true) (ws : List Jvm.Cond) (p0 : Int32) (cs : Int32) (h0 : Heap) (n0 : Nat) (Z0 : n0 ≤ h0.size) (S_CS : Sta Z h0 "java/lang/String" "COMPACT_STRINGS" "Z" (.int cs)) (hcs : ¬ cs = (0 : Int32)) (hce : ¬ ((255 : Int32) < p0)) :
    MetFree l (⟨"java/lang/String", "valueOf", "(C)Ljava/lang/String;"⟩ : MethodName) (head1 (Jvm.Cond.code (⟨"java/lang/String", "valueOf", "(C)Ljava/lang/String;"⟩ : MethodName) jdk_42_method_139_code 1 (some (.object "java/lang/String")) :: ws) ({ frames := 2, cells := 2, slots := 5, locals := 27 } : Room)) (fun aQ UQ => aQ = #[(.int p0)] ∧ Z.Warmed39 UQ.vm ∧ UQ.heap = h0) (fun _ _ _ _ _ => True) (fun _ UQ oQ UR => ∃ vQ LQ, oQ = .returned vQ ∧ Q9 Z p0 cs h0 n0 vQ UR.heap LQ ∧ FrameEnd UQ oQ UR LQ ({ frames := 2, cells := 2, slots := 5, locals := 27 } : Room).cells ({ frames := 2, cells := 2, slots := 5, locals := 27 } : Room).slots) := by
  refine MetFree.of_bodySF (plainFor_of_name pn_7) hisR ?_
  intro p e s m args below meth c s₁ Bd hml0 hP hK
  obtain ⟨rfl, hZ, hh⟩ := hP
  have hx := Bd.exec
  have hby := Bd.bytes
  have hml : c.maxLocals = 1 := hml0
  have hown : s.vm.findClass "java/lang/String" = some m.cls := findClass_of_methodNamed Bd.named
  have hnm := (name_of_methodNamed Bd.named Bd.method).1
  have X0 : Stand p l e ({ frames := 2, cells := 2, slots := 5, locals := 27 } : Room) s m #[(.int p0)] below meth c s₁ [] 0 0 := Stand.of_body Bd
  have e0 : s₁.heap = h0 := by rw [← hh, Bd.state]; rfl
  have N0 := Fr.nil n0
  have K0 : Keep h0 h0 [] := Keep.refl _ _
  have w_61 := hw _ (List.mem_of_getElem? (i := 61) rfl)
  have w_63 := hw _ (List.mem_of_getElem? (i := 63) rfl)
  have w_64 := hw _ (List.mem_of_getElem? (i := 64) rfl)
  have w_65 := hw _ (List.mem_of_getElem? (i := 65) rfl)
  have w_66 := hw _ (List.mem_of_getElem? (i := 66) rfl)
  have w_67 := hw _ (List.mem_of_getElem? (i := 67) rfl)
  have w_68 := hw _ (List.mem_of_getElem? (i := 68) rfl)
  have w_69 := hw _ (List.mem_of_getElem? (i := 69) rfl)
  have w_70 := hw _ (List.mem_of_getElem? (i := 70) rfl)
  have w_71 := hw _ (List.mem_of_getElem? (i := 71) rfl)
  have w_72 := hw _ (List.mem_of_getElem? (i := 72) rfl)
  have w_74 := hw _ (List.mem_of_getElem? (i := 74) rfl)
  have w_75 := hw _ (List.mem_of_getElem? (i := 75) rfl)
  have w_77 := hw _ (List.mem_of_getElem? (i := 77) rfl)
  have w_80 := hw _ (List.mem_of_getElem? (i := 80) rfl)
  have w_82 := hw _ (List.mem_of_getElem? (i := 82) rfl)
  have first_ : Rn p e below (s₁.setTop (mkF m 0 #[.val (.int p0)] [])) (Fn9 Z p0 cs h0 n0 s) := by
    generalize hG : (Fn9 Z p0 cs h0 n0 s) = G
    refine R.getS X0 hx hZ hown (host := "") (Or.inl w_63) Via.refl e0 S_CS (hb hby d9_0) (pc' := 3) rfl ?_; intro T1 X1 e1
    refine R.ifNo X1 hx (hb hby d9_3) (feq (hcs : ¬ (cs = (0 : Int32)))).1 (pc' := 6) rfl ?_
    refine R.iloadN X1 hx (hb hby d9_6) rfl (pc' := 7) rfl ?_
    refine R.callS X1 hx hZ (y := mY3) hown w_64 w_65 w_66 w_67 (by decide) e1 (rm10 l Z aZ hw [] p0 h0 n0 Z0 (hce)) (by decide) (W := 0) (Nat.le_of_eq rfl) (by decide) (by rw [hml]; rfl) (lenOf pd_2 rfl) rfl (hb hby d9_7) (pc' := 10) rfl (by decide) (by decide) ?_; intro v2 T2 L2 X2 hQ2
    obtain ⟨rfl, N2q, e2⟩ := hQ2
    have N2 := Fr.app N0 N2q
    refine R.ifNo X2 hx (hb hby d9_10) (feq (by decide : ¬ ((1 : Int32) = (0 : Int32)))).1 (pc' := 13) rfl ?_
    refine R.newO X2 hx hZ hown w_68 w_69 w_61 e2 (hb hby d9_13) (pc' := 16) rfl (by decide) (by decide) ?_; intro T3 h3 b3 g3 X3 e3 E3 A3 D3
    have g_b3 : n0 ≤ b3 := Nat.le_trans Z0 (Nat.le_of_eq g3.symm)
    have sz_b3 : h0.size ≤ b3 := Nat.le_trans K0.1 (Nat.le_of_eq g3.symm)
    have K3 : Keep h0 h3 [] := K0.ext E3
    have Z3 : n0 ≤ h3.size := Nat.le_trans Z0 E3.1
    have S_CS := S_CS.ext E3
    have E_b3 := A3
    have F_value_b3 : Fld Z h3 b3 "java/lang/String" "value" "[B" .null := D3 (Or.inr w_80) (ty := (.array .byte)) (by decide)
    have F_coder_b3 : Fld Z h3 b3 "java/lang/String" "coder" "B" (.int (0 : Int32)) := D3 (Or.inr w_82) (ty := .byte) (by decide)
    refine R.dup X3 hx (hb hby d9_16) rfl (pc' := 17) rfl ?_
    refine R.iloadN X3 hx (hb hby d9_17) rfl (pc' := 18) rfl ?_
    refine R.callS X3 hx hZ (y := mY4) hown w_70 w_71 w_66 w_72 (by decide) e3 (rm11 l Z aZ hw [] p0 h3 n0 Z3 ) (by decide) (W := 2) (Nat.le_of_eq rfl) (by decide) (by rw [hml]; rfl) (lenOf pd_3 rfl) rfl (hb hby d9_18) (pc' := 21) rfl (by decide) (by decide) ?_; intro v4 T4 L4 X4 hQ4
    obtain ⟨b_4, rfl, N4q, Kc4, P4_0⟩ := hQ4
    have N4 := Fr.app N2 N4q
    generalize e4 : T4.heap = h4 at Kc4 P4_0
    have K4 : Keep h0 h4 [] := K3.trans Kc4 (all0)
    have Z4 : n0 ≤ h4.size := Nat.le_trans Z3 Kc4.1
    have ne_b3_b_4 : b3 ≠ b_4 := Nat.ne_of_lt (Nat.lt_of_lt_of_le E_b3.lt P4_0)
    have g_b_4 : n0 ≤ b_4 := Nat.le_trans Z3 P4_0
    have sz_b_4 : h0.size ≤ b_4 := Nat.le_trans K3.1 P4_0
    have S_CS := own_sta_keep S_CS Kc4 ns0
    have E_b3 := E_b3.keep Kc4
    have F_value_b3 := F_value_b3.keep Kc4 nin0
    have F_coder_b3 := F_coder_b3.keep Kc4 nin0
    have fr_4 := P4_0
    refine R.iconst X4 hx (hb hby d9_21) (v := (0 : Int32)) (by decide) (pc' := 22) rfl ?_
    refine R.special X4 hx hZ (y := mY5) rfl hown w_74 w_75 w_61 w_77 (by decide) e4 (rm12 l Z aZ hw [] b3 b_4 h4 n0 Z4 E_b3 F_value_b3 F_coder_b3 g_b3) (by decide) (W := 1) (Nat.le_of_eq rfl) (by decide) (by rw [hml]; rfl) (lenOf pd_4 rfl) rfl (hb hby d9_22) (pc' := 25) rfl (by decide) (by decide) ?_; intro v5 T5 L5 X5 hQ5
    obtain ⟨rfl, N5q, Kc5, P5_0⟩ := hQ5
    have N5 := Fr.app N4 N5q
    generalize e5 : T5.heap = h5 at Kc5 P5_0
    have K5 : Keep h0 h5 [] := K4.trans Kc5 ((allS (Or.inr sz_b3) all0))
    have Z5 : n0 ≤ h5.size := Nat.le_trans Z4 Kc5.1
    have S_CS := own_sta_keep S_CS Kc5 (nsS E_b3.nostat ns0)
    have E_b3 : Exa Z h5 b3 "java/lang/String" := P5_0
    rw [← hG]
    exact Rn.ret X5 (BodyLoose.notSynchronized Bd) (v := some (.ref b3)) (fun h => by rw [Bd.returns] at h; cases h) (Q := Q9 Z p0 cs h0 n0) e5 (fun fs hr => retOut X5 hx (t := (.object "java/lang/String")) Bd.returns rfl (Or.inr (Or.inr (Or.inr (Or.inr ⟨rfl, rfl, rfl⟩)))) (hb hby d9_25) hr) ⟨b3, rfl, N5, K5, E_b3⟩ (by decide) (by decide)
  exact (Rn.st (fun t k => castTop (ef_9 m p0) k) first_ : Rn p e below (s₁.setTop (entryFrame m #[(.int p0)] 1)) (Fn9 Z p0 cs h0 n0 s))
theorem d15_0 : decode jdk_22_method_1_code 0 = .ok (.aload_n 0, 1) := by decide +kernel
theorem d15_1 : decode jdk_22_method_1_code 1 = .ok (.invokespecial 1, 3) := by decide +kernel
theorem d15_4 : decode jdk_22_method_1_code 4 = .ok (.return_, 1) := by decide +kernel
theorem pn_8 : plainName "java/util/AbstractCollection" = true := by first | (simp [plainName, overriddenIn]; done) | decide +kernel
theorem ef_15 (m : MethodId) (x0 : Addr) : entryFrame m #[(.ref x0)] 1 = mkF m 0 #[.val (.ref x0)] [] := by first | (simp [entryFrame, mkF, argsToLocals, Value.category]; done) | rfl
def Q15 (Z : State) (a0 : Addr) (h0 : Heap) (n0 : Nat) (vQ : Option Value) (hQ_ : Heap) (LQ : List Loc) : Prop := vQ = none ∧ Fr n0 LQ ∧ hQ_ = h0
def Fn15 (Z : State) (a0 : Addr) (h0 : Heap) (n0 : Nat) (sQ : State) (oQ : Outcome) (UQ : State) : Prop := ∃ vQ LQ, oQ = .returned vQ ∧ Q15 Z a0 h0 n0 vQ UQ.heap LQ ∧ FrameEnd sQ oQ UQ LQ ({ frames := 1, cells := 0, slots := 0, locals := 12 } : Room).cells ({ frames := 1, cells := 0, slots := 0, locals := 12 } : Room).slots
set_option maxRecDepth 65536 in
set_option maxHeartbeats 40000000 in
theorem rm15 (l : Launch) (Z : State) (aZ : Array Value) (hw : ∀ d ∈ tables_1, d.before aZ Z = true) (ws : List Jvm.Cond) (a0 : Addr) (h0 : Heap) (n0 : Nat) (Z0 : n0 ≤ h0.size) :
    MetFree l (⟨"java/util/AbstractCollection", "<init>", "()V"⟩ : MethodName) (head1 (Jvm.Cond.code (⟨"java/util/AbstractCollection", "<init>", "()V"⟩ : MethodName) jdk_22_method_1_code 1 none :: ws) ({ frames := 1, cells := 0, slots := 0, locals := 12 } : Room)) (fun aQ UQ => aQ = #[(.ref a0)] ∧ Z.Warmed39 UQ.vm ∧ UQ.heap = h0) (fun _ _ _ _ _ => True) (fun _ UQ oQ UR => ∃ vQ LQ, oQ = .returned vQ ∧ Q15 Z a0 h0 n0 vQ UR.heap LQ ∧ FrameEnd UQ oQ UR LQ ({ frames := 1, cells := 0, slots := 0, locals := 12 } : Room).cells ({ frames := 1, cells := 0, slots := 0, locals := 12 } : Room).slots) := by
  refine MetFree.of_bodySF (plainFor_of_name pn_8) hisR ?_
  intro p e s m args below meth c s₁ Bd hml0 hP hK
  obtain ⟨rfl, hZ, hh⟩ := hP
  have hx := Bd.exec
  have hby := Bd.bytes
  have hml : c.maxLocals = 1 := hml0
  have hown : s.vm.findClass "java/util/AbstractCollection" = some m.cls := findClass_of_methodNamed Bd.named
  have hnm := (name_of_methodNamed Bd.named Bd.method).1
  have X0 : Stand p l e ({ frames := 1, cells := 0, slots := 0, locals := 12 } : Room) s m #[(.ref a0)] below meth c s₁ [] 0 0 := Stand.of_body Bd
  have e0 : s₁.heap = h0 := by rw [← hh, Bd.state]; rfl
  have N0 := Fr.nil n0
  have K0 : Keep h0 h0 [] := Keep.refl _ _
  have w_13 := hw _ (List.mem_of_getElem? (i := 13) rfl)
  have w_14 := hw _ (List.mem_of_getElem? (i := 14) rfl)
  have w_102 := hw _ (List.mem_of_getElem? (i := 102) rfl)
  have first_ : Rn p e below (s₁.setTop (mkF m 0 #[.val (.ref a0)] [])) (Fn15 Z a0 h0 n0 s) := by
    generalize hG : (Fn15 Z a0 h0 n0 s) = G
    refine R.aloadN X0 hx (hb hby d15_0) rfl rfl (pc' := 1) rfl ?_
    refine R.initO X0 hx hZ hown w_102 w_13 w_14 e0 (by rw [hml]; rfl) (hb hby d15_1) (pc' := 4) rfl (by decide) (W := 0) (Nat.le_of_eq rfl) (by decide) ?_; intro T1 X1 e1
    rw [← hG]
    exact Rn.ret X1 (BodyLoose.notSynchronized Bd) (v := none) (fun _ => rfl) (Q := Q15 Z a0 h0 n0) e1 (fun fs hr => X1.returnOut hx Bd.returns (hb hby d15_4) hr) ⟨rfl, N0, rfl⟩ (by decide) (by decide)
  exact (Rn.st (fun t k => castTop (ef_15 m a0) k) first_ : Rn p e below (s₁.setTop (entryFrame m #[(.ref a0)] 1)) (Fn15 Z a0 h0 n0 s))
theorem d14_0 : decode jdk_39_method_1_code 0 = .ok (.aload_n 0, 1) := by decide +kernel
theorem d14_1 : decode jdk_39_method_1_code 1 = .ok (.invokespecial 1, 3) := by decide +kernel
abbrev mY6 : MethodName := (⟨"java/util/AbstractCollection", "<init>", "()V"⟩ : MethodName)
theorem d14_4 : decode jdk_39_method_1_code 4 = .ok (.aload_n 0, 1) := by decide +kernel
theorem d14_5 : decode jdk_39_method_1_code 5 = .ok (.iconst 0, 1) := by decide +kernel
theorem d14_6 : decode jdk_39_method_1_code 6 = .ok (.putfield 7, 3) := by decide +kernel
theorem d14_9 : decode jdk_39_method_1_code 9 = .ok (.return_, 1) := by decide +kernel
theorem pn_9 : plainName "java/util/AbstractList" = true := by first | (simp [plainName, overriddenIn]; done) | decide +kernel
theorem ef_14 (m : MethodId) (x0 : Addr) : entryFrame m #[(.ref x0)] 1 = mkF m 0 #[.val (.ref x0)] [] := by first | (simp [entryFrame, mkF, argsToLocals, Value.category]; done) | rfl
def Q14 (Z : State) (a0 : Addr) (h0 : Heap) (n0 : Nat) (vQ : Option Value) (hQ_ : Heap) (LQ : List Loc) : Prop := vQ = none ∧ Fr n0 LQ ∧ Keep h0 hQ_ [a0] ∧ (Exa Z hQ_ a0 "java/util/ArrayList") ∧ (Fld Z hQ_ a0 "java/util/AbstractList" "modCount" "I" (.int (0 : Int32))) ∧ (Fld Z hQ_ a0 "java/util/ArrayList" "elementData" "[Ljava/lang/Object;" .null) ∧ (Fld Z hQ_ a0 "java/util/ArrayList" "size" "I" (.int (0 : Int32)))
def Fn14 (Z : State) (a0 : Addr) (h0 : Heap) (n0 : Nat) (sQ : State) (oQ : Outcome) (UQ : State) : Prop := ∃ vQ LQ, oQ = .returned vQ ∧ Q14 Z a0 h0 n0 vQ UQ.heap LQ ∧ FrameEnd sQ oQ UQ LQ ({ frames := 2, cells := 0, slots := 0, locals := 24 } : Room).cells ({ frames := 2, cells := 0, slots := 0, locals := 24 } : Room).slots
set_option maxRecDepth 65536 in
set_option maxHeartbeats 40000000 in
theorem rm14 (l : Launch) (Z : State) (aZ : Array Value) (hw : ∀ d ∈ tables_1, d.before aZ Z = true) (ws : List Jvm.Cond) (a0 : Addr) (h0 : Heap) (n0 : Nat) (Z0 : n0 ≤ h0.size) (E_a0 : Exa Z h0 a0 "java/util/ArrayList") (F_modCount_a0 : Fld Z h0 a0 "java/util/AbstractList" "modCount" "I" (.int (0 : Int32))) (F_elementData_a0 : Fld Z h0 a0 "java/util/ArrayList" "elementData" "[Ljava/lang/Object;" .null) (F_size_a0 : Fld Z h0 a0 "java/util/ArrayList" "size" "I" (.int (0 : Int32))) (g_a0 : n0 ≤ a0) :
    MetFree l (⟨"java/util/AbstractList", "<init>", "()V"⟩ : MethodName) (head1 (Jvm.Cond.code (⟨"java/util/AbstractList", "<init>", "()V"⟩ : MethodName) jdk_39_method_1_code 1 none :: ws) ({ frames := 2, cells := 0, slots := 0, locals := 24 } : Room)) (fun aQ UQ => aQ = #[(.ref a0)] ∧ Z.Warmed39 UQ.vm ∧ UQ.heap = h0) (fun _ _ _ _ _ => True) (fun _ UQ oQ UR => ∃ vQ LQ, oQ = .returned vQ ∧ Q14 Z a0 h0 n0 vQ UR.heap LQ ∧ FrameEnd UQ oQ UR LQ ({ frames := 2, cells := 0, slots := 0, locals := 24 } : Room).cells ({ frames := 2, cells := 0, slots := 0, locals := 24 } : Room).slots) := by
  refine MetFree.of_bodySF (plainFor_of_name pn_9) hisR ?_
  intro p e s m args below meth c s₁ Bd hml0 hP hK
  obtain ⟨rfl, hZ, hh⟩ := hP
  have hx := Bd.exec
  have hby := Bd.bytes
  have hml : c.maxLocals = 1 := hml0
  have hown : s.vm.findClass "java/util/AbstractList" = some m.cls := findClass_of_methodNamed Bd.named
  have hnm := (name_of_methodNamed Bd.named Bd.method).1
  have X0 : Stand p l e ({ frames := 2, cells := 0, slots := 0, locals := 24 } : Room) s m #[(.ref a0)] below meth c s₁ [] 0 0 := Stand.of_body Bd
  have e0 : s₁.heap = h0 := by rw [← hh, Bd.state]; rfl
  have N0 := Fr.nil n0
  have K0 : Keep h0 h0 [a0] := Keep.refl _ _
  have w_85 := hw _ (List.mem_of_getElem? (i := 85) rfl)
  have w_96 := hw _ (List.mem_of_getElem? (i := 96) rfl)
  have w_97 := hw _ (List.mem_of_getElem? (i := 97) rfl)
  have w_100 := hw _ (List.mem_of_getElem? (i := 100) rfl)
  have w_101 := hw _ (List.mem_of_getElem? (i := 101) rfl)
  have w_103 := hw _ (List.mem_of_getElem? (i := 103) rfl)
  have w_104 := hw _ (List.mem_of_getElem? (i := 104) rfl)
  have w_107 := hw _ (List.mem_of_getElem? (i := 107) rfl)
  have w_116 := hw _ (List.mem_of_getElem? (i := 116) rfl)
  have first_ : Rn p e below (s₁.setTop (mkF m 0 #[.val (.ref a0)] [])) (Fn14 Z a0 h0 n0 s) := by
    generalize hG : (Fn14 Z a0 h0 n0 s) = G
    refine R.aloadN X0 hx (hb hby d14_0) rfl rfl (pc' := 1) rfl ?_
    refine R.special X0 hx hZ (y := mY6) rfl hown w_96 w_97 w_100 w_101 (by decide) e0 (rm15 l Z aZ hw [] a0 h0 n0 Z0 ) (by decide) (W := 0) (Nat.le_of_eq rfl) (by decide) (by rw [hml]; rfl) (lenOf pd_0 rfl) rfl (hb hby d14_1) (pc' := 4) rfl (by decide) (by decide) ?_; intro v1 T1 L1 X1 hQ1
    obtain ⟨rfl, N1q, e1⟩ := hQ1
    have N1 := Fr.app N0 N1q
    refine R.aloadN X1 hx (hb hby d14_4) rfl rfl (pc' := 5) rfl ?_
    refine R.iconst X1 hx (hb hby d14_5) (v := (0 : Int32)) (by decide) (pc' := 6) rfl ?_
    refine R.putF X1 hx hZ hown (host := "") (Or.inl w_103) Via.refl e1 F_modCount_a0 E_a0 (Or.inl w_104) w_85 (ty := .int) (by decide) rfl rfl (hb hby d14_6) (pc' := 9) rfl ?_; intro T2 h2 X2 e2 W2
    have E_a0 := E_a0.wr W2
    have F_elementData_a0 := F_elementData_a0.other W2 (Or.inr (slot_ne (Or.inl w_107) (Or.inl w_104) (by decide) (t := (.array (.object "java/lang/Object"))) (t' := .int) (by decide) (by decide)))
    have F_size_a0 := F_size_a0.other W2 (Or.inr (slot_ne (Or.inl w_116) (Or.inl w_104) (by decide) (t := .int) (t' := .int) (by decide) (by decide)))
    have F_modCount_a0 : Fld Z h2 a0 "java/util/AbstractList" "modCount" "I" (.int (0 : Int32)) := F_modCount_a0.same W2
    have N2 := Fr.snoc X2 N1 g_a0
    have K2 : Keep h0 h2 [a0] := K0.wr W2 (Or.inl (List.mem_of_getElem? (i := 0) rfl))
    have Z2 : n0 ≤ h2.size := Nat.le_trans Z0 (Keep.of_wr W2).1
    rw [← hG]
    exact Rn.ret X2 (BodyLoose.notSynchronized Bd) (v := none) (fun _ => rfl) (Q := Q14 Z a0 h0 n0) e2 (fun fs hr => X2.returnOut hx Bd.returns (hb hby d14_9) hr) ⟨rfl, N2, K2, E_a0, F_modCount_a0, F_elementData_a0, F_size_a0⟩ (by decide) (by decide)
  exact (Rn.st (fun t k => castTop (ef_14 m a0) k) first_ : Rn p e below (s₁.setTop (entryFrame m #[(.ref a0)] 1)) (Fn14 Z a0 h0 n0 s))
theorem d13_0 : decode jdk_38_method_2_code 0 = .ok (.aload_n 0, 1) := by decide +kernel
theorem d13_1 : decode jdk_38_method_2_code 1 = .ok (.invokespecial 1, 3) := by decide +kernel
abbrev mY7 : MethodName := (⟨"java/util/AbstractList", "<init>", "()V"⟩ : MethodName)
theorem d13_4 : decode jdk_38_method_2_code 4 = .ok (.aload_n 0, 1) := by decide +kernel
theorem d13_5 : decode jdk_38_method_2_code 5 = .ok (.getstatic 39, 3) := by decide +kernel
theorem d13_8 : decode jdk_38_method_2_code 8 = .ok (.putfield 9, 3) := by decide +kernel
theorem d13_11 : decode jdk_38_method_2_code 11 = .ok (.return_, 1) := by decide +kernel
theorem pn_10 : plainName "java/util/ArrayList" = true := by first | (simp [plainName, overriddenIn]; done) | decide +kernel
theorem ef_13 (m : MethodId) (x0 : Addr) : entryFrame m #[(.ref x0)] 1 = mkF m 0 #[.val (.ref x0)] [] := by first | (simp [entryFrame, mkF, argsToLocals, Value.category]; done) | rfl
def Q13 (Z : State) (a0 : Addr) (de : Addr) (kd : ClassId) (h0 : Heap) (n0 : Nat) (vQ : Option Value) (hQ_ : Heap) (LQ : List Loc) : Prop := vQ = none ∧ Fr n0 LQ ∧ Keep h0 hQ_ [a0] ∧ (Exa Z hQ_ a0 "java/util/ArrayList") ∧ (Fld Z hQ_ a0 "java/util/AbstractList" "modCount" "I" (.int (0 : Int32))) ∧ (Fld Z hQ_ a0 "java/util/ArrayList" "elementData" "[Ljava/lang/Object;" (.ref de)) ∧ (Fld Z hQ_ a0 "java/util/ArrayList" "size" "I" (.int (0 : Int32)))
def Fn13 (Z : State) (a0 : Addr) (de : Addr) (kd : ClassId) (h0 : Heap) (n0 : Nat) (sQ : State) (oQ : Outcome) (UQ : State) : Prop := ∃ vQ LQ, oQ = .returned vQ ∧ Q13 Z a0 de kd h0 n0 vQ UQ.heap LQ ∧ FrameEnd sQ oQ UQ LQ ({ frames := 3, cells := 0, slots := 0, locals := 36 } : Room).cells ({ frames := 3, cells := 0, slots := 0, locals := 36 } : Room).slots
set_option maxRecDepth 65536 in
set_option maxHeartbeats 40000000 in
theorem rm13 (l : Launch) (Z : State) (aZ : Array Value) (hw : ∀ d ∈ tables_1, d.before aZ Z = true) (ws : List Jvm.Cond) (a0 : Addr) (de : Addr) (kd : ClassId) (h0 : Heap) (n0 : Nat) (Z0 : n0 ≤ h0.size) (E_a0 : Exa Z h0 a0 "java/util/ArrayList") (F_modCount_a0 : Fld Z h0 a0 "java/util/AbstractList" "modCount" "I" (.int (0 : Int32))) (F_elementData_a0 : Fld Z h0 a0 "java/util/ArrayList" "elementData" "[Ljava/lang/Object;" .null) (F_size_a0 : Fld Z h0 a0 "java/util/ArrayList" "size" "I" (.int (0 : Int32))) (g_a0 : n0 ≤ a0) (OL : Old Z n0 h0) (DE : own_DE Z de kd) :
    MetFree l (⟨"java/util/ArrayList", "<init>", "()V"⟩ : MethodName) (head1 (Jvm.Cond.code (⟨"java/util/ArrayList", "<init>", "()V"⟩ : MethodName) jdk_38_method_2_code 1 none :: ws) ({ frames := 3, cells := 0, slots := 0, locals := 36 } : Room)) (fun aQ UQ => aQ = #[(.ref a0)] ∧ Z.Warmed39 UQ.vm ∧ UQ.heap = h0) (fun _ _ _ _ _ => True) (fun _ UQ oQ UR => ∃ vQ LQ, oQ = .returned vQ ∧ Q13 Z a0 de kd h0 n0 vQ UR.heap LQ ∧ FrameEnd UQ oQ UR LQ ({ frames := 3, cells := 0, slots := 0, locals := 36 } : Room).cells ({ frames := 3, cells := 0, slots := 0, locals := 36 } : Room).slots) := by
  refine MetFree.of_bodySF (plainFor_of_name pn_10) hisR ?_
  intro p e s m args below meth c s₁ Bd hml0 hP hK
  obtain ⟨rfl, hZ, hh⟩ := hP
  have hx := Bd.exec
  have hby := Bd.bytes
  have hml : c.maxLocals = 1 := hml0
  have hown : s.vm.findClass "java/util/ArrayList" = some m.cls := findClass_of_methodNamed Bd.named
  have hnm := (name_of_methodNamed Bd.named Bd.method).1
  have X0 : Stand p l e ({ frames := 3, cells := 0, slots := 0, locals := 36 } : Room) s m #[(.ref a0)] below meth c s₁ [] 0 0 := Stand.of_body Bd
  have e0 : s₁.heap = h0 := by rw [← hh, Bd.state]; rfl
  have N0 := Fr.nil n0
  have K0 : Keep h0 h0 [a0] := Keep.refl _ _
  have w_85 := hw _ (List.mem_of_getElem? (i := 85) rfl)
  have w_90 := hw _ (List.mem_of_getElem? (i := 90) rfl)
  have w_91 := hw _ (List.mem_of_getElem? (i := 91) rfl)
  have w_94 := hw _ (List.mem_of_getElem? (i := 94) rfl)
  have w_95 := hw _ (List.mem_of_getElem? (i := 95) rfl)
  have w_104 := hw _ (List.mem_of_getElem? (i := 104) rfl)
  have w_105 := hw _ (List.mem_of_getElem? (i := 105) rfl)
  have w_106 := hw _ (List.mem_of_getElem? (i := 106) rfl)
  have w_107 := hw _ (List.mem_of_getElem? (i := 107) rfl)
  have w_116 := hw _ (List.mem_of_getElem? (i := 116) rfl)
  have first_ : Rn p e below (s₁.setTop (mkF m 0 #[.val (.ref a0)] [])) (Fn13 Z a0 de kd h0 n0 s) := by
    generalize hG : (Fn13 Z a0 de kd h0 n0 s) = G
    refine R.aloadN X0 hx (hb hby d13_0) rfl rfl (pc' := 1) rfl ?_
    refine R.special X0 hx hZ (y := mY7) rfl hown w_90 w_91 w_94 w_95 (by decide) e0 (rm14 l Z aZ hw [] a0 h0 n0 Z0 E_a0 F_modCount_a0 F_elementData_a0 F_size_a0 g_a0) (by decide) (W := 0) (Nat.le_of_eq rfl) (by decide) (by rw [hml]; rfl) (lenOf pd_0 rfl) rfl (hb hby d13_1) (pc' := 4) rfl (by decide) (by decide) ?_; intro v1 T1 L1 X1 hQ1
    obtain ⟨rfl, N1q, Kc1, P1_0, P1_1, P1_2, P1_3⟩ := hQ1
    have N1 := Fr.app N0 N1q
    generalize e1 : T1.heap = h1 at Kc1 P1_0 P1_1 P1_2 P1_3
    have K1 : Keep h0 h1 [a0] := K0.trans Kc1 ((allS (Or.inl (List.mem_of_getElem? (i := 0) rfl)) all0))
    have Z1 : n0 ≤ h1.size := Nat.le_trans Z0 Kc1.1
    have OL := OL.keep Kc1 (allS g_a0 all0)
    have E_a0 : Exa Z h1 a0 "java/util/ArrayList" := P1_0
    have F_modCount_a0 : Fld Z h1 a0 "java/util/AbstractList" "modCount" "I" (.int (0 : Int32)) := P1_1
    have F_elementData_a0 : Fld Z h1 a0 "java/util/ArrayList" "elementData" "[Ljava/lang/Object;" .null := P1_2
    have F_size_a0 : Fld Z h1 a0 "java/util/ArrayList" "size" "I" (.int (0 : Int32)) := P1_3
    refine R.aloadN X1 hx (hb hby d13_4) rfl rfl (pc' := 5) rfl ?_
    have S_DE := DE.1.ext OL.2
    refine R.getS X1 hx hZ hown (host := "") (Or.inl w_105) Via.refl e1 S_DE (hb hby d13_5) (pc' := 8) rfl ?_; intro T2 X2 e2
    refine R.putF X2 hx hZ hown (host := "") (Or.inl w_106) Via.refl e2 F_elementData_a0 E_a0 (Or.inl w_107) w_85 (ty := (.array (.object "java/lang/Object"))) (by decide) rfl rfl (hb hby d13_8) (pc' := 11) rfl ?_; intro T3 h3 X3 e3 W3
    have OL := OL.wr W3 g_a0
    have E_a0 := E_a0.wr W3
    have F_modCount_a0 := F_modCount_a0.other W3 (Or.inr (slot_ne (Or.inl w_104) (Or.inl w_107) (by decide) (t := .int) (t' := (.array (.object "java/lang/Object"))) (by decide) (by decide)))
    have F_size_a0 := F_size_a0.other W3 (Or.inr (slot_ne (Or.inl w_116) (Or.inl w_107) (by decide) (t := .int) (t' := (.array (.object "java/lang/Object"))) (by decide) (by decide)))
    have S_DE := S_DE.wr W3
    have F_elementData_a0 : Fld Z h3 a0 "java/util/ArrayList" "elementData" "[Ljava/lang/Object;" (.ref de) := F_elementData_a0.same W3
    have N3 := Fr.snoc X3 N1 g_a0
    have K3 : Keep h0 h3 [a0] := K1.wr W3 (Or.inl (List.mem_of_getElem? (i := 0) rfl))
    have Z3 : n0 ≤ h3.size := Nat.le_trans Z1 (Keep.of_wr W3).1
    rw [← hG]
    exact Rn.ret X3 (BodyLoose.notSynchronized Bd) (v := none) (fun _ => rfl) (Q := Q13 Z a0 de kd h0 n0) e3 (fun fs hr => X3.returnOut hx Bd.returns (hb hby d13_11) hr) ⟨rfl, N3, K3, E_a0, F_modCount_a0, F_elementData_a0, F_size_a0⟩ (by decide) (by decide)
  exact (Rn.st (fun t k => castTop (ef_13 m a0) k) first_ : Rn p e below (s₁.setTop (entryFrame m #[(.ref a0)] 1)) (Fn13 Z a0 de kd h0 n0 s))
theorem d20_0 : decode jdk_29_method_65_code 0 = .ok (.iload_n 0, 1) := by decide +kernel
theorem d20_1 : decode jdk_29_method_65_code 1 = .ok (.iload_n 1, 1) := by decide +kernel
theorem d20_2 : decode jdk_29_method_65_code 2 = .ok (.if_icmp .lt 7, 3) := by decide +kernel
theorem d20_5 : decode jdk_29_method_65_code 5 = .ok (.iload_n 0, 1) := by decide +kernel
theorem d20_6 : decode jdk_29_method_65_code 6 = .ok (.goto 4, 3) := by decide +kernel
theorem d20_10 : decode jdk_29_method_65_code 10 = .ok (.ireturn, 1) := by decide +kernel
theorem ef_mx (m : MethodId)  : entryFrame m #[(.int (10 : Int32)), (.int (1 : Int32))] 2 = mkF m 0 #[.val (.int (10 : Int32)), .val (.int (1 : Int32))] [] := by first | (simp [entryFrame, mkF, argsToLocals, Value.category]; done) | rfl
def Qmx (Z : State)  (h0 : Heap) (n0 : Nat) (vQ : Option Value) (hQ_ : Heap) (LQ : List Loc) : Prop := vQ = some (.int (10 : Int32)) ∧ Fr n0 LQ ∧ hQ_ = h0
def Fnmx (Z : State)  (h0 : Heap) (n0 : Nat) (sQ : State) (oQ : Outcome) (UQ : State) : Prop := ∃ vQ LQ, oQ = .returned vQ ∧ Qmx Z  h0 n0 vQ UQ.heap LQ ∧ FrameEnd sQ oQ UQ LQ ({ frames := 0, cells := 0, slots := 0, locals := 0 } : Room).cells ({ frames := 0, cells := 0, slots := 0, locals := 0 } : Room).slots
set_option maxRecDepth 65536 in
set_option maxHeartbeats 40000000 in
theorem rmmx (l : Launch) (Z : State) (aZ : Array Value) (hw : ∀ d ∈ tables_1, d.before aZ Z = true) (ws : List Jvm.Cond)  (h0 : Heap) (n0 : Nat) (Z0 : n0 ≤ h0.size) :
    MetFree l (⟨"java/lang/Math", "max", "(II)I"⟩ : MethodName) (head1 (Jvm.Cond.code (⟨"java/lang/Math", "max", "(II)I"⟩ : MethodName) jdk_29_method_65_code 2 (some .int) :: ws) ({ frames := 0, cells := 0, slots := 0, locals := 0 } : Room)) (fun aQ UQ => aQ = #[(.int (10 : Int32)), (.int (1 : Int32))] ∧ Z.Warmed39 UQ.vm ∧ UQ.heap = h0) (fun _ _ _ _ _ => True) (fun _ UQ oQ UR => ∃ vQ LQ, oQ = .returned vQ ∧ Qmx Z  h0 n0 vQ UR.heap LQ ∧ FrameEnd UQ oQ UR LQ ({ frames := 0, cells := 0, slots := 0, locals := 0 } : Room).cells ({ frames := 0, cells := 0, slots := 0, locals := 0 } : Room).slots) := by
  refine MetFree.of_bodySF (Jvm.Free.JP.mathPlain rfl (by decide +kernel)) hisR ?_
  intro p e s m args below meth c s₁ Bd hml0 hP hK
  obtain ⟨rfl, hZ, hh⟩ := hP
  have hx := Bd.exec
  have hby := Bd.bytes
  have hml : c.maxLocals = 2 := hml0
  have hown : s.vm.findClass "java/lang/Math" = some m.cls := findClass_of_methodNamed Bd.named
  have hnm := (name_of_methodNamed Bd.named Bd.method).1
  have X0 : Stand p l e ({ frames := 0, cells := 0, slots := 0, locals := 0 } : Room) s m #[(.int (10 : Int32)), (.int (1 : Int32))] below meth c s₁ [] 0 0 := Stand.of_body Bd
  have e0 : s₁.heap = h0 := by rw [← hh, Bd.state]; rfl
  have N0 := Fr.nil n0
  have K0 : Keep h0 h0 [] := Keep.refl _ _
  have first_ : Rn p e below (s₁.setTop (mkF m 0 #[.val (.int (10 : Int32)), .val (.int (1 : Int32))] [])) (Fnmx Z  h0 n0 s) := by
    generalize hG : (Fnmx Z  h0 n0 s) = G
    refine R.iloadN X0 hx (hb hby d20_0) rfl (pc' := 1) rfl ?_
    refine R.iloadN X0 hx (hb hby d20_1) rfl (pc' := 2) rfl ?_
    refine R.icmpNo X0 hx (hb hby d20_2) (flt (by decide : ¬ ((10 : Int32) < (1 : Int32)))).1 (pc' := 5) rfl ?_
    refine R.iloadN X0 hx (hb hby d20_5) rfl (pc' := 6) rfl ?_
    refine R.goto X0 hx (hb hby d20_6) (by decide) (pc' := 10) (by decide) ?_
    rw [← hG]
    exact Rn.ret X0 (BodyLoose.notSynchronized Bd) (v := some (.int (10 : Int32))) (fun h => by rw [Bd.returns] at h; cases h) (Q := Qmx Z  h0 n0) e0 (fun fs hr => retOut X0 hx (t := .int) Bd.returns rfl (Or.inl ⟨rfl, Or.inl rfl, _, rfl⟩) (hb hby d20_10) hr) ⟨rfl, N0, rfl⟩ (by decide) (by decide)
  exact (Rn.st (fun t k => castTop (ef_mx m ) k) first_ : Rn p e below (s₁.setTop (entryFrame m #[(.int (10 : Int32)), (.int (1 : Int32))] 2)) (Fnmx Z  h0 n0 s))
theorem d19_0 : decode jdk_38_method_6_code 0 = .ok (.aload_n 0, 1) := by decide +kernel
theorem d19_1 : decode jdk_38_method_6_code 1 = .ok (.getfield 9, 3) := by decide +kernel
theorem d19_4 : decode jdk_38_method_6_code 4 = .ok (.arraylength, 1) := by decide +kernel
theorem d19_5 : decode jdk_38_method_6_code 5 = .ok (.istore_n 2, 1) := by decide +kernel
theorem d19_6 : decode jdk_38_method_6_code 6 = .ok (.iload_n 2, 1) := by decide +kernel
theorem d19_7 : decode jdk_38_method_6_code 7 = .ok (.ifCond .gt 13, 3) := by decide +kernel
theorem d19_10 : decode jdk_38_method_6_code 10 = .ok (.aload_n 0, 1) := by decide +kernel
theorem d19_11 : decode jdk_38_method_6_code 11 = .ok (.getfield 9, 3) := by decide +kernel
theorem d19_14 : decode jdk_38_method_6_code 14 = .ok (.getstatic 39, 3) := by decide +kernel
theorem d19_17 : decode jdk_38_method_6_code 17 = .ok (.if_acmp .eq 28, 3) := by decide +kernel
theorem d19_45 : decode jdk_38_method_6_code 45 = .ok (.aload_n 0, 1) := by decide +kernel
theorem d19_46 : decode jdk_38_method_6_code 46 = .ok (.bipush 10, 2) := by decide +kernel
theorem d19_48 : decode jdk_38_method_6_code 48 = .ok (.iload_n 1, 1) := by decide +kernel
theorem d19_49 : decode jdk_38_method_6_code 49 = .ok (.invokestatic 79, 3) := by decide +kernel
theorem pd_5 : parseMethodDescriptor "(II)I" = some ⟨[.int, .int], some .int⟩ := by decide +kernel
abbrev mY8 : MethodName := (⟨"java/lang/Math", "max", "(II)I"⟩ : MethodName)
theorem d19_52 : decode jdk_38_method_6_code 52 = .ok (.anewarray 7, 3) := by decide +kernel
theorem d19_55 : decode jdk_38_method_6_code 55 = .ok (.dup_x1, 1) := by decide +kernel
theorem d19_56 : decode jdk_38_method_6_code 56 = .ok (.putfield 9, 3) := by decide +kernel
theorem d19_59 : decode jdk_38_method_6_code 59 = .ok (.areturn, 1) := by decide +kernel
theorem ef_gI (m : MethodId) (x0 : Addr) : entryFrame m #[(.ref x0), (.int (1 : Int32))] 4 = mkF m 0 #[.val (.ref x0), .val (.int (1 : Int32)), .unset, .unset] [] := by first | (simp [entryFrame, mkF, argsToLocals, Value.category]; done) | rfl
def QgI (Z : State) (a0 : Addr) (de : Addr) (kd : ClassId) (h0 : Heap) (n0 : Nat) (vQ : Option Value) (hQ_ : Heap) (LQ : List Loc) : Prop := ∃ b : Addr, vQ = some (.ref b) ∧ Fr n0 LQ ∧ Keep h0 hQ_ [a0] ∧ (h0.size ≤ b) ∧ (own_AR Z hQ_ b "java/lang/Object" 10) ∧ (Exa Z hQ_ a0 "java/util/ArrayList") ∧ (Fld Z hQ_ a0 "java/util/ArrayList" "size" "I" (.int (0 : Int32)))
def FngI (Z : State) (a0 : Addr) (de : Addr) (kd : ClassId) (h0 : Heap) (n0 : Nat) (sQ : State) (oQ : Outcome) (UQ : State) : Prop := ∃ vQ LQ, oQ = .returned vQ ∧ QgI Z a0 de kd h0 n0 vQ UQ.heap LQ ∧ FrameEnd sQ oQ UQ LQ ({ frames := 1, cells := 1, slots := 10, locals := 14 } : Room).cells ({ frames := 1, cells := 1, slots := 10, locals := 14 } : Room).slots
set_option maxRecDepth 65536 in
set_option maxHeartbeats 40000000 in
theorem rmgI (l : Launch) (Z : State) (aZ : Array Value) (hw : ∀ d ∈ tables_1, d.before aZ Z = true) (ws : List Jvm.Cond) (a0 : Addr) (de : Addr) (kd : ClassId) (h0 : Heap) (n0 : Nat) (Z0 : n0 ≤ h0.size) (E_a0 : Exa Z h0 a0 "java/util/ArrayList") (F_modCount_a0 : Fld Z h0 a0 "java/util/AbstractList" "modCount" "I" (.int (1 : Int32))) (F_elementData_a0 : Fld Z h0 a0 "java/util/ArrayList" "elementData" "[Ljava/lang/Object;" (.ref de)) (F_size_a0 : Fld Z h0 a0 "java/util/ArrayList" "size" "I" (.int (0 : Int32))) (g_a0 : n0 ≤ a0) (OL : Old Z n0 h0) (DE : own_DE Z de kd) :
    MetFree l (⟨"java/util/ArrayList", "grow", "(I)[Ljava/lang/Object;"⟩ : MethodName) (head1 (Jvm.Cond.code (⟨"java/util/ArrayList", "grow", "(I)[Ljava/lang/Object;"⟩ : MethodName) jdk_38_method_6_code 4 (some (.array (.object "java/lang/Object"))) :: ws) ({ frames := 1, cells := 1, slots := 10, locals := 14 } : Room)) (fun aQ UQ => aQ = #[(.ref a0), (.int (1 : Int32))] ∧ Z.Warmed39 UQ.vm ∧ UQ.heap = h0) (fun _ _ _ _ _ => True) (fun _ UQ oQ UR => ∃ vQ LQ, oQ = .returned vQ ∧ QgI Z a0 de kd h0 n0 vQ UR.heap LQ ∧ FrameEnd UQ oQ UR LQ ({ frames := 1, cells := 1, slots := 10, locals := 14 } : Room).cells ({ frames := 1, cells := 1, slots := 10, locals := 14 } : Room).slots) := by
  refine MetFree.of_bodySF (plainFor_of_name pn_10) hisR ?_
  intro p e s m args below meth c s₁ Bd hml0 hP hK
  obtain ⟨rfl, hZ, hh⟩ := hP
  have hx := Bd.exec
  have hby := Bd.bytes
  have hml : c.maxLocals = 4 := hml0
  have hown : s.vm.findClass "java/util/ArrayList" = some m.cls := findClass_of_methodNamed Bd.named
  have hnm := (name_of_methodNamed Bd.named Bd.method).1
  have X0 : Stand p l e ({ frames := 1, cells := 1, slots := 10, locals := 14 } : Room) s m #[(.ref a0), (.int (1 : Int32))] below meth c s₁ [] 0 0 := Stand.of_body Bd
  have e0 : s₁.heap = h0 := by rw [← hh, Bd.state]; rfl
  have N0 := Fr.nil n0
  have K0 : Keep h0 h0 [a0] := Keep.refl _ _
  have w_85 := hw _ (List.mem_of_getElem? (i := 85) rfl)
  have w_104 := hw _ (List.mem_of_getElem? (i := 104) rfl)
  have w_105 := hw _ (List.mem_of_getElem? (i := 105) rfl)
  have w_106 := hw _ (List.mem_of_getElem? (i := 106) rfl)
  have w_107 := hw _ (List.mem_of_getElem? (i := 107) rfl)
  have w_116 := hw _ (List.mem_of_getElem? (i := 116) rfl)
  have w_132 := hw _ (List.mem_of_getElem? (i := 132) rfl)
  have w_133 := hw _ (List.mem_of_getElem? (i := 133) rfl)
  have w_134 := hw _ (List.mem_of_getElem? (i := 134) rfl)
  have w_135 := hw _ (List.mem_of_getElem? (i := 135) rfl)
  have w_136 := hw _ (List.mem_of_getElem? (i := 136) rfl)
  have w_137 := hw _ (List.mem_of_getElem? (i := 137) rfl)
  have first_ : Rn p e below (s₁.setTop (mkF m 0 #[.val (.ref a0), .val (.int (1 : Int32)), .unset, .unset] [])) (FngI Z a0 de kd h0 n0 s) := by
    generalize hG : (FngI Z a0 de kd h0 n0 s) = G
    refine R.aloadN X0 hx (hb hby d19_0) rfl rfl (pc' := 1) rfl ?_
    refine R.getF X0 hx hZ hown (host := "") (Or.inl w_106) Via.refl e0 F_elementData_a0 (hb hby d19_1) (pc' := 4) rfl ?_; intro T1 X1 e1
    have V_de := DE.2.ext OL.2
    refine R.alen X1 hx hZ e1 V_de (hb hby d19_4) (pc' := 5) rfl ?_
    refine R.istoreN X1 hx (hb hby d19_5) (L' := #[.val (.ref a0), .val (.int (1 : Int32)), .val (.int (0 : Int32)), .unset]) rfl (pc' := 6) rfl ?_
    refine R.iloadN X1 hx (hb hby d19_6) rfl (pc' := 7) rfl ?_
    refine R.ifNo X1 hx (hb hby d19_7) (flt (by decide : ¬ ((0 : Int32) < (0 : Int32)))).2.2.1 (pc' := 10) rfl ?_
    refine R.aloadN X1 hx (hb hby d19_10) rfl rfl (pc' := 11) rfl ?_
    refine R.getF X1 hx hZ hown (host := "") (Or.inl w_106) Via.refl e1 F_elementData_a0 (hb hby d19_11) (pc' := 14) rfl ?_; intro T2 X2 e2
    have S_DE := DE.1.ext OL.2
    refine R.getS X2 hx hZ hown (host := "") (Or.inl w_105) Via.refl e2 S_DE (hb hby d19_14) (pc' := 17) rfl ?_; intro T3 X3 e3
    show Rn p e below (T3.setTop (mkF m 17 #[.val (.ref a0), .val (.int (1 : Int32)), .val (.int (0 : Int32)), .unset] [(.ref de), (.ref de)])) G
    refine Rn.st (fun t k => Jvm.RoadKit.acmp (g := (mkF m 17 #[.val (.ref a0), .val (.int (1 : Int32)), .val (.int (0 : Int32)), .unset] [(.ref de), (.ref de)])) X3 hx rfl rfl rfl (pc0 := 17) (pc' := 45) (same := true) rfl (hb hby d19_17) rfl (decide_eq_true rfl) (by decide) (by decide) k) ?_
    show Rn p e below (T3.setTop (mkF m 45 #[.val (.ref a0), .val (.int (1 : Int32)), .val (.int (0 : Int32)), .unset] [])) G
    refine R.aloadN X3 hx (hb hby d19_45) rfl rfl (pc' := 46) rfl ?_
    refine R.bipush X3 hx (hb hby d19_46) (v := (10 : Int32)) (by decide) (pc' := 48) rfl ?_
    refine R.iloadN X3 hx (hb hby d19_48) rfl (pc' := 49) rfl ?_
    refine R.callS X3 hx hZ (y := mY8) hown w_132 w_133 w_134 w_135 (by decide) e3 (rmmx l Z aZ hw []  h0 n0 Z0 ) (by decide) (W := 1) (Nat.le_of_eq rfl) (by decide) (by rw [hml]; rfl) (lenOf pd_5 rfl) rfl (hb hby d19_49) (pc' := 52) rfl (by decide) (by decide) ?_; intro v4 T4 L4 X4 hQ4
    obtain ⟨rfl, N4q, e4⟩ := hQ4
    have N4 := Fr.app N0 N4q
    refine R.newR X4 hx hZ hown w_136 w_137 e4 (n := (10 : Int32)) (by decide) (cap := 10) (by decide) (by decide) (hb hby d19_52) (pc' := 55) rfl (by decide) (by decide) ?_; intro T5 h5 b5 g5 X5 e5 E5 A5
    have g_b5 : n0 ≤ b5 := Nat.le_trans Z0 (Nat.le_of_eq g5.symm)
    have sz_b5 : h0.size ≤ b5 := Nat.le_trans K0.1 (Nat.le_of_eq g5.symm)
    have ne_a0_b5 : a0 ≠ b5 := Nat.ne_of_lt (Nat.lt_of_lt_of_le E_a0.lt (Nat.le_of_eq g5.symm))
    have K5 : Keep h0 h5 [a0] := K0.ext E5
    have Z5 : n0 ≤ h5.size := Nat.le_trans Z0 E5.1
    have E_a0 := E_a0.ext E5
    have F_modCount_a0 := F_modCount_a0.ext E5
    have F_elementData_a0 := F_elementData_a0.ext E5
    have F_size_a0 := F_size_a0.ext E5
    have OL := OL.ext E5
    have S_DE := S_DE.ext E5
    refine R.dupX1 X5 hx (hb hby d19_55) rfl rfl (pc' := 56) rfl ?_
    refine R.putF X5 hx hZ hown (host := "") (Or.inl w_106) Via.refl e5 F_elementData_a0 E_a0 (Or.inl w_107) w_85 (ty := (.array (.object "java/lang/Object"))) (by decide) rfl rfl (hb hby d19_56) (pc' := 59) rfl ?_; intro T6 h6 X6 e6 W6
    have E_a0 := E_a0.wr W6
    have F_modCount_a0 := F_modCount_a0.other W6 (Or.inr (slot_ne (Or.inl w_104) (Or.inl w_107) (by decide) (t := .int) (t' := (.array (.object "java/lang/Object"))) (by decide) (by decide)))
    have F_size_a0 := F_size_a0.other W6 (Or.inr (slot_ne (Or.inl w_116) (Or.inl w_107) (by decide) (t := .int) (t' := (.array (.object "java/lang/Object"))) (by decide) (by decide)))
    have OL := OL.wr W6 g_a0
    have S_DE := S_DE.wr W6
    have F_elementData_a0 : Fld Z h6 a0 "java/util/ArrayList" "elementData" "[Ljava/lang/Object;" (.ref b5) := F_elementData_a0.same W6
    have N6 := Fr.snoc X6 N4 g_a0
    have K6 : Keep h0 h6 [a0] := K5.wr W6 (Or.inl (List.mem_of_getElem? (i := 0) rfl))
    have Z6 : n0 ≤ h6.size := Nat.le_trans Z5 (Keep.of_wr W6).1
    have AR := A5.other W6 (Ne.symm ne_a0_b5)
    rw [← hG]
    exact Rn.ret X6 (BodyLoose.notSynchronized Bd) (v := some (.ref b5)) (fun h => by rw [Bd.returns] at h; cases h) (Q := QgI Z a0 de kd h0 n0) e6 (fun fs hr => retOut X6 hx (t := (.array (.object "java/lang/Object"))) Bd.returns rfl (Or.inr (Or.inr (Or.inr (Or.inr ⟨rfl, rfl, rfl⟩)))) (hb hby d19_59) hr) ⟨b5, rfl, N6, K6, (sz_b5), (AR), E_a0, F_size_a0⟩ (by decide) (by decide)
  exact (Rn.st (fun t k => castTop (ef_gI m a0) k) first_ : Rn p e below (s₁.setTop (entryFrame m #[(.ref a0), (.int (1 : Int32))] 4)) (FngI Z a0 de kd h0 n0 s))
theorem d18_0 : decode jdk_38_method_7_code 0 = .ok (.aload_n 0, 1) := by decide +kernel
theorem d18_1 : decode jdk_38_method_7_code 1 = .ok (.aload_n 0, 1) := by decide +kernel
theorem d18_2 : decode jdk_38_method_7_code 2 = .ok (.getfield 48, 3) := by decide +kernel
theorem d18_5 : decode jdk_38_method_7_code 5 = .ok (.iconst 1, 1) := by decide +kernel
theorem d18_6 : decode jdk_38_method_7_code 6 = .ok (.iadd, 1) := by decide +kernel
theorem d18_7 : decode jdk_38_method_7_code 7 = .ok (.invokevirtual 69, 3) := by decide +kernel
theorem pd_6 : parseMethodDescriptor "(I)[Ljava/lang/Object;" = some ⟨[.int], some (.array (.object "java/lang/Object"))⟩ := by decide +kernel
abbrev mY9 : MethodName := (⟨"java/util/ArrayList", "grow", "(I)[Ljava/lang/Object;"⟩ : MethodName)
theorem d18_10 : decode jdk_38_method_7_code 10 = .ok (.areturn, 1) := by decide +kernel
theorem ef_g0 (m : MethodId) (x0 : Addr) : entryFrame m #[(.ref x0)] 1 = mkF m 0 #[.val (.ref x0)] [] := by first | (simp [entryFrame, mkF, argsToLocals, Value.category]; done) | rfl
def Qg0 (Z : State) (a0 : Addr) (de : Addr) (kd : ClassId) (h0 : Heap) (n0 : Nat) (vQ : Option Value) (hQ_ : Heap) (LQ : List Loc) : Prop := ∃ b : Addr, vQ = some (.ref b) ∧ Fr n0 LQ ∧ Keep h0 hQ_ [a0] ∧ (h0.size ≤ b) ∧ (own_AR Z hQ_ b "java/lang/Object" 10) ∧ (Exa Z hQ_ a0 "java/util/ArrayList") ∧ (Fld Z hQ_ a0 "java/util/ArrayList" "size" "I" (.int (0 : Int32)))
def Fng0 (Z : State) (a0 : Addr) (de : Addr) (kd : ClassId) (h0 : Heap) (n0 : Nat) (sQ : State) (oQ : Outcome) (UQ : State) : Prop := ∃ vQ LQ, oQ = .returned vQ ∧ Qg0 Z a0 de kd h0 n0 vQ UQ.heap LQ ∧ FrameEnd sQ oQ UQ LQ ({ frames := 2, cells := 1, slots := 10, locals := 29 } : Room).cells ({ frames := 2, cells := 1, slots := 10, locals := 29 } : Room).slots
set_option maxRecDepth 65536 in
set_option maxHeartbeats 40000000 in
theorem rmg0 (l : Launch) (Z : State) (aZ : Array Value) (hw : ∀ d ∈ tables_1, d.before aZ Z = true) (ws : List Jvm.Cond) (a0 : Addr) (de : Addr) (kd : ClassId) (h0 : Heap) (n0 : Nat) (Z0 : n0 ≤ h0.size) (E_a0 : Exa Z h0 a0 "java/util/ArrayList") (F_modCount_a0 : Fld Z h0 a0 "java/util/AbstractList" "modCount" "I" (.int (1 : Int32))) (F_elementData_a0 : Fld Z h0 a0 "java/util/ArrayList" "elementData" "[Ljava/lang/Object;" (.ref de)) (F_size_a0 : Fld Z h0 a0 "java/util/ArrayList" "size" "I" (.int (0 : Int32))) (g_a0 : n0 ≤ a0) (OL : Old Z n0 h0) (DE : own_DE Z de kd) :
    MetFree l (⟨"java/util/ArrayList", "grow", "()[Ljava/lang/Object;"⟩ : MethodName) (head1 (Jvm.Cond.code (⟨"java/util/ArrayList", "grow", "()[Ljava/lang/Object;"⟩ : MethodName) jdk_38_method_7_code 1 (some (.array (.object "java/lang/Object"))) :: ws) ({ frames := 2, cells := 1, slots := 10, locals := 29 } : Room)) (fun aQ UQ => aQ = #[(.ref a0)] ∧ Z.Warmed39 UQ.vm ∧ UQ.heap = h0) (fun _ _ _ _ _ => True) (fun _ UQ oQ UR => ∃ vQ LQ, oQ = .returned vQ ∧ Qg0 Z a0 de kd h0 n0 vQ UR.heap LQ ∧ FrameEnd UQ oQ UR LQ ({ frames := 2, cells := 1, slots := 10, locals := 29 } : Room).cells ({ frames := 2, cells := 1, slots := 10, locals := 29 } : Room).slots) := by
  refine MetFree.of_bodySF (plainFor_of_name pn_10) hisR ?_
  intro p e s m args below meth c s₁ Bd hml0 hP hK
  obtain ⟨rfl, hZ, hh⟩ := hP
  have hx := Bd.exec
  have hby := Bd.bytes
  have hml : c.maxLocals = 1 := hml0
  have hown : s.vm.findClass "java/util/ArrayList" = some m.cls := findClass_of_methodNamed Bd.named
  have hnm := (name_of_methodNamed Bd.named Bd.method).1
  have X0 : Stand p l e ({ frames := 2, cells := 1, slots := 10, locals := 29 } : Room) s m #[(.ref a0)] below meth c s₁ [] 0 0 := Stand.of_body Bd
  have e0 : s₁.heap = h0 := by rw [← hh, Bd.state]; rfl
  have N0 := Fr.nil n0
  have K0 : Keep h0 h0 [a0] := Keep.refl _ _
  have w_86 := hw _ (List.mem_of_getElem? (i := 86) rfl)
  have w_115 := hw _ (List.mem_of_getElem? (i := 115) rfl)
  have w_127 := hw _ (List.mem_of_getElem? (i := 127) rfl)
  have w_128 := hw _ (List.mem_of_getElem? (i := 128) rfl)
  have w_129 := hw _ (List.mem_of_getElem? (i := 129) rfl)
  have w_130 := hw _ (List.mem_of_getElem? (i := 130) rfl)
  have w_131 := hw _ (List.mem_of_getElem? (i := 131) rfl)
  have first_ : Rn p e below (s₁.setTop (mkF m 0 #[.val (.ref a0)] [])) (Fng0 Z a0 de kd h0 n0 s) := by
    generalize hG : (Fng0 Z a0 de kd h0 n0 s) = G
    refine R.aloadN X0 hx (hb hby d18_0) rfl rfl (pc' := 1) rfl ?_
    refine R.aloadN X0 hx (hb hby d18_1) rfl rfl (pc' := 2) rfl ?_
    refine R.getF X0 hx hZ hown (host := "") (Or.inl w_115) Via.refl e0 F_size_a0 (hb hby d18_2) (pc' := 5) rfl ?_; intro T1 X1 e1
    refine R.iconst X1 hx (hb hby d18_5) (v := (1 : Int32)) (by decide) (pc' := 6) rfl ?_
    refine R.iadd X1 hx (hb hby d18_6) (v := (1 : Int32)) (by decide) (pc' := 7) rfl ?_
    refine R.privateV X1 hx hZ (y := mY9) hown w_127 w_128 w_130 w_129 w_86 w_131 (by decide) e1 E_a0 (rmgI l Z aZ hw [] a0 de kd h0 n0 Z0 E_a0 F_modCount_a0 F_elementData_a0 F_size_a0 g_a0 OL (DE)) (by decide) (W := 0) (Nat.le_of_eq rfl) (by decide) (by rw [hml]; rfl) (lenOf pd_6 rfl) rfl (hb hby d18_7) (pc' := 10) rfl (by decide) (by decide) ?_; intro v2 T2 L2 X2 hQ2
    obtain ⟨b_2, rfl, N2q, Kc2, P2_0, P2_1, P2_2, P2_3⟩ := hQ2
    have N2 := Fr.app N0 N2q
    generalize e2 : T2.heap = h2 at Kc2 P2_0 P2_1 P2_2 P2_3
    have K2 : Keep h0 h2 [a0] := K0.trans Kc2 ((allS (Or.inl (List.mem_of_getElem? (i := 0) rfl)) all0))
    have Z2 : n0 ≤ h2.size := Nat.le_trans Z0 Kc2.1
    have ne_a0_b_2 : a0 ≠ b_2 := Nat.ne_of_lt (Nat.lt_of_lt_of_le E_a0.lt P2_0)
    have g_b_2 : n0 ≤ b_2 := Nat.le_trans Z0 P2_0
    have sz_b_2 : h0.size ≤ b_2 := Nat.le_trans K0.1 P2_0
    have OL := OL.keep Kc2 (allS g_a0 all0)
    have fr_2 := P2_0
    have AR_2 := P2_1
    have E_a0 : Exa Z h2 a0 "java/util/ArrayList" := P2_2
    have F_size_a0 : Fld Z h2 a0 "java/util/ArrayList" "size" "I" (.int (0 : Int32)) := P2_3
    rw [← hG]
    exact Rn.ret X2 (BodyLoose.notSynchronized Bd) (v := some (.ref b_2)) (fun h => by rw [Bd.returns] at h; cases h) (Q := Qg0 Z a0 de kd h0 n0) e2 (fun fs hr => retOut X2 hx (t := (.array (.object "java/lang/Object"))) Bd.returns rfl (Or.inr (Or.inr (Or.inr (Or.inr ⟨rfl, rfl, rfl⟩)))) (hb hby d18_10) hr) ⟨b_2, rfl, N2, K2, (P2_0), (P2_1), E_a0, F_size_a0⟩ (by decide) (by decide)
  exact (Rn.st (fun t k => castTop (ef_g0 m a0) k) first_ : Rn p e below (s₁.setTop (entryFrame m #[(.ref a0)] 1)) (Fng0 Z a0 de kd h0 n0 s))
theorem d17_0 : decode jdk_38_method_24_code 0 = .ok (.iload_n 3, 1) := by decide +kernel
theorem d17_1 : decode jdk_38_method_24_code 1 = .ok (.aload_n 2, 1) := by decide +kernel
theorem d17_2 : decode jdk_38_method_24_code 2 = .ok (.arraylength, 1) := by decide +kernel
theorem d17_3 : decode jdk_38_method_24_code 3 = .ok (.if_icmp .ne 8, 3) := by decide +kernel
theorem d17_6 : decode jdk_38_method_24_code 6 = .ok (.aload_n 0, 1) := by decide +kernel
theorem d17_7 : decode jdk_38_method_24_code 7 = .ok (.invokevirtual 129, 3) := by decide +kernel
theorem pd_7 : parseMethodDescriptor "()[Ljava/lang/Object;" = some ⟨[], some (.array (.object "java/lang/Object"))⟩ := by decide +kernel
abbrev mY10 : MethodName := (⟨"java/util/ArrayList", "grow", "()[Ljava/lang/Object;"⟩ : MethodName)
theorem d17_10 : decode jdk_38_method_24_code 10 = .ok (.astore_n 2, 1) := by decide +kernel
theorem d17_11 : decode jdk_38_method_24_code 11 = .ok (.aload_n 2, 1) := by decide +kernel
theorem d17_12 : decode jdk_38_method_24_code 12 = .ok (.iload_n 3, 1) := by decide +kernel
theorem d17_13 : decode jdk_38_method_24_code 13 = .ok (.aload_n 1, 1) := by decide +kernel
theorem d17_14 : decode jdk_38_method_24_code 14 = .ok (.aastore, 1) := by decide +kernel
theorem d17_15 : decode jdk_38_method_24_code 15 = .ok (.aload_n 0, 1) := by decide +kernel
theorem d17_16 : decode jdk_38_method_24_code 16 = .ok (.iload_n 3, 1) := by decide +kernel
theorem d17_17 : decode jdk_38_method_24_code 17 = .ok (.iconst 1, 1) := by decide +kernel
theorem d17_18 : decode jdk_38_method_24_code 18 = .ok (.iadd, 1) := by decide +kernel
theorem d17_19 : decode jdk_38_method_24_code 19 = .ok (.putfield 48, 3) := by decide +kernel
theorem d17_22 : decode jdk_38_method_24_code 22 = .ok (.return_, 1) := by decide +kernel
theorem ef_a3 (m : MethodId) (x0 : Addr) (x1 : Addr) (x2 : Addr) : entryFrame m #[(.ref x0), (.ref x1), (.ref x2), (.int (0 : Int32))] 4 = mkF m 0 #[.val (.ref x0), .val (.ref x1), .val (.ref x2), .val (.int (0 : Int32))] [] := by first | (simp [entryFrame, mkF, argsToLocals, Value.category]; done) | rfl
def Qa3 (Z : State) (a0 : Addr) (a1 : Addr) (de : Addr) (kd : ClassId) (h0 : Heap) (n0 : Nat) (vQ : Option Value) (hQ_ : Heap) (LQ : List Loc) : Prop := vQ = none ∧ Fr n0 LQ ∧ Keep h0 hQ_ [a0] ∧ (Exa Z hQ_ a0 "java/util/ArrayList")
def Fna3 (Z : State) (a0 : Addr) (a1 : Addr) (de : Addr) (kd : ClassId) (h0 : Heap) (n0 : Nat) (sQ : State) (oQ : Outcome) (UQ : State) : Prop := ∃ vQ LQ, oQ = .returned vQ ∧ Qa3 Z a0 a1 de kd h0 n0 vQ UQ.heap LQ ∧ FrameEnd sQ oQ UQ LQ ({ frames := 3, cells := 1, slots := 10, locals := 41 } : Room).cells ({ frames := 3, cells := 1, slots := 10, locals := 41 } : Room).slots
set_option maxRecDepth 65536 in
set_option maxHeartbeats 40000000 in
theorem rma3 (l : Launch) (Z : State) (aZ : Array Value) (hw : ∀ d ∈ tables_1, d.before aZ Z = true) (ws : List Jvm.Cond) (a0 : Addr) (a1 : Addr) (de : Addr) (kd : ClassId) (h0 : Heap) (n0 : Nat) (Z0 : n0 ≤ h0.size) (E_a0 : Exa Z h0 a0 "java/util/ArrayList") (F_modCount_a0 : Fld Z h0 a0 "java/util/AbstractList" "modCount" "I" (.int (1 : Int32))) (F_elementData_a0 : Fld Z h0 a0 "java/util/ArrayList" "elementData" "[Ljava/lang/Object;" (.ref de)) (F_size_a0 : Fld Z h0 a0 "java/util/ArrayList" "size" "I" (.int (0 : Int32))) (g_a0 : n0 ≤ a0) (OL : Old Z n0 h0) (DE : own_DE Z de kd) (E_a1 : Exa Z h0 a1 "com/example/isomorph/isomorph/model/IntegerValue") :
    MetFree l (⟨"java/util/ArrayList", "add", "(Ljava/lang/Object;[Ljava/lang/Object;I)V"⟩ : MethodName) (head1 (Jvm.Cond.code (⟨"java/util/ArrayList", "add", "(Ljava/lang/Object;[Ljava/lang/Object;I)V"⟩ : MethodName) jdk_38_method_24_code 4 none :: ws) ({ frames := 3, cells := 1, slots := 10, locals := 41 } : Room)) (fun aQ UQ => aQ = #[(.ref a0), (.ref a1), (.ref de), (.int (0 : Int32))] ∧ Z.Warmed39 UQ.vm ∧ UQ.heap = h0) (fun _ _ _ _ _ => True) (fun _ UQ oQ UR => ∃ vQ LQ, oQ = .returned vQ ∧ Qa3 Z a0 a1 de kd h0 n0 vQ UR.heap LQ ∧ FrameEnd UQ oQ UR LQ ({ frames := 3, cells := 1, slots := 10, locals := 41 } : Room).cells ({ frames := 3, cells := 1, slots := 10, locals := 41 } : Room).slots) := by
  refine MetFree.of_bodySF (plainFor_of_name pn_10) hisR ?_
  intro p e s m args below meth c s₁ Bd hml0 hP hK
  obtain ⟨rfl, hZ, hh⟩ := hP
  have hx := Bd.exec
  have hby := Bd.bytes
  have hml : c.maxLocals = 4 := hml0
  have hown : s.vm.findClass "java/util/ArrayList" = some m.cls := findClass_of_methodNamed Bd.named
  have hnm := (name_of_methodNamed Bd.named Bd.method).1
  have X0 : Stand p l e ({ frames := 3, cells := 1, slots := 10, locals := 41 } : Room) s m #[(.ref a0), (.ref a1), (.ref de), (.int (0 : Int32))] below meth c s₁ [] 0 0 := Stand.of_body Bd
  have e0 : s₁.heap = h0 := by rw [← hh, Bd.state]; rfl
  have N0 := Fr.nil n0
  have K0 : Keep h0 h0 [a0] := Keep.refl _ _
  have w_85 := hw _ (List.mem_of_getElem? (i := 85) rfl)
  have w_86 := hw _ (List.mem_of_getElem? (i := 86) rfl)
  have w_115 := hw _ (List.mem_of_getElem? (i := 115) rfl)
  have w_116 := hw _ (List.mem_of_getElem? (i := 116) rfl)
  have w_122 := hw _ (List.mem_of_getElem? (i := 122) rfl)
  have w_123 := hw _ (List.mem_of_getElem? (i := 123) rfl)
  have w_124 := hw _ (List.mem_of_getElem? (i := 124) rfl)
  have w_125 := hw _ (List.mem_of_getElem? (i := 125) rfl)
  have w_126 := hw _ (List.mem_of_getElem? (i := 126) rfl)
  have w_138 := hw _ (List.mem_of_getElem? (i := 138) rfl)
  have first_ : Rn p e below (s₁.setTop (mkF m 0 #[.val (.ref a0), .val (.ref a1), .val (.ref de), .val (.int (0 : Int32))] [])) (Fna3 Z a0 a1 de kd h0 n0 s) := by
    generalize hG : (Fna3 Z a0 a1 de kd h0 n0 s) = G
    refine R.iloadN X0 hx (hb hby d17_0) rfl (pc' := 1) rfl ?_
    refine R.aloadN X0 hx (hb hby d17_1) rfl rfl (pc' := 2) rfl ?_
    have V_de := DE.2.ext OL.2
    refine R.alen X0 hx hZ e0 V_de (hb hby d17_2) (pc' := 3) rfl ?_
    refine R.icmpNo X0 hx (hb hby d17_3) (teq (by decide : (0 : Int32) = (0 : Int32))).2 (pc' := 6) rfl ?_
    refine R.aloadN X0 hx (hb hby d17_6) rfl rfl (pc' := 7) rfl ?_
    refine R.privateV X0 hx hZ (y := mY10) hown w_122 w_123 w_125 w_124 w_86 w_126 (by decide) e0 E_a0 (rmg0 l Z aZ hw [] a0 de kd h0 n0 Z0 E_a0 F_modCount_a0 F_elementData_a0 F_size_a0 g_a0 OL (DE)) (by decide) (W := 0) (Nat.le_of_eq rfl) (by decide) (by rw [hml]; rfl) (lenOf pd_7 rfl) rfl (hb hby d17_7) (pc' := 10) rfl (by decide) (by decide) ?_; intro v1 T1 L1 X1 hQ1
    obtain ⟨b_1, rfl, N1q, Kc1, P1_0, P1_1, P1_2, P1_3⟩ := hQ1
    have N1 := Fr.app N0 N1q
    generalize e1 : T1.heap = h1 at Kc1 P1_0 P1_1 P1_2 P1_3
    have K1 : Keep h0 h1 [a0] := K0.trans Kc1 ((allS (Or.inl (List.mem_of_getElem? (i := 0) rfl)) all0))
    have Z1 : n0 ≤ h1.size := Nat.le_trans Z0 Kc1.1
    have ne_a0_b_1 : a0 ≠ b_1 := Nat.ne_of_lt (Nat.lt_of_lt_of_le E_a0.lt P1_0)
    have ne_a1_b_1 : a1 ≠ b_1 := Nat.ne_of_lt (Nat.lt_of_lt_of_le E_a1.lt P1_0)
    have g_b_1 : n0 ≤ b_1 := Nat.le_trans Z0 P1_0
    have sz_b_1 : h0.size ≤ b_1 := Nat.le_trans K0.1 P1_0
    have OL := OL.keep Kc1 (allS g_a0 all0)
    have E_a1 := E_a1.keep Kc1
    have fr_1 := P1_0
    have AR_1 := P1_1
    have E_a0 : Exa Z h1 a0 "java/util/ArrayList" := P1_2
    have F_size_a0 : Fld Z h1 a0 "java/util/ArrayList" "size" "I" (.int (0 : Int32)) := P1_3
    refine R.astoreN X1 hx (hb hby d17_10) rfl (L' := #[.val (.ref a0), .val (.ref a1), .val (.ref b_1), .val (.int (0 : Int32))]) rfl (pc' := 11) rfl ?_
    refine R.aloadN X1 hx (hb hby d17_11) rfl rfl (pc' := 12) rfl ?_
    refine R.iloadN X1 hx (hb hby d17_12) rfl (pc' := 13) rfl ?_
    refine R.aloadN X1 hx (hb hby d17_13) rfl rfl (pc' := 14) rfl ?_
    refine R.aastoreO X1 hx hZ e1 P1_1 (Ins.of_exa E_a1 w_138) (by decide) (by decide) (hb hby d17_14) (pc' := 15) rfl ?_; intro T2 h2 X2 e2 W2
    have OL := OL.wr W2 g_b_1
    have E_a1 := E_a1.wr W2
    have E_a0 := E_a0.wr W2
    have F_size_a0 := F_size_a0.other W2 (Or.inl ne_a0_b_1)
    have N2 := Fr.snoc X2 N1 g_b_1
    have K2 : Keep h0 h2 [a0] := K1.wr W2 (Or.inr sz_b_1)
    have Z2 : n0 ≤ h2.size := Nat.le_trans Z1 (Keep.of_wr W2).1
    refine R.aloadN X2 hx (hb hby d17_15) rfl rfl (pc' := 16) rfl ?_
    refine R.iloadN X2 hx (hb hby d17_16) rfl (pc' := 17) rfl ?_
    refine R.iconst X2 hx (hb hby d17_17) (v := (1 : Int32)) (by decide) (pc' := 18) rfl ?_
    refine R.iadd X2 hx (hb hby d17_18) (v := (1 : Int32)) (by decide) (pc' := 19) rfl ?_
    refine R.putF X2 hx hZ hown (host := "") (Or.inl w_115) Via.refl e2 F_size_a0 E_a0 (Or.inl w_116) w_85 (ty := .int) (by decide) rfl rfl (hb hby d17_19) (pc' := 22) rfl ?_; intro T3 h3 X3 e3 W3
    have OL := OL.wr W3 g_a0
    have E_a1 := E_a1.wr W3
    have E_a0 := E_a0.wr W3
    have F_size_a0 : Fld Z h3 a0 "java/util/ArrayList" "size" "I" (.int (1 : Int32)) := F_size_a0.same W3
    have N3 := Fr.snoc X3 N2 g_a0
    have K3 : Keep h0 h3 [a0] := K2.wr W3 (Or.inl (List.mem_of_getElem? (i := 0) rfl))
    have Z3 : n0 ≤ h3.size := Nat.le_trans Z2 (Keep.of_wr W3).1
    rw [← hG]
    exact Rn.ret X3 (BodyLoose.notSynchronized Bd) (v := none) (fun _ => rfl) (Q := Qa3 Z a0 a1 de kd h0 n0) e3 (fun fs hr => X3.returnOut hx Bd.returns (hb hby d17_22) hr) ⟨rfl, N3, K3, E_a0⟩ (by decide) (by decide)
  exact (Rn.st (fun t k => castTop (ef_a3 m a0 a1 de) k) first_ : Rn p e below (s₁.setTop (entryFrame m #[(.ref a0), (.ref a1), (.ref de), (.int (0 : Int32))] 4)) (Fna3 Z a0 a1 de kd h0 n0 s))
theorem d16_0 : decode jdk_38_method_25_code 0 = .ok (.aload_n 0, 1) := by decide +kernel
theorem d16_1 : decode jdk_38_method_25_code 1 = .ok (.dup, 1) := by decide +kernel
theorem d16_2 : decode jdk_38_method_25_code 2 = .ok (.getfield 63, 3) := by decide +kernel
theorem d16_5 : decode jdk_38_method_25_code 5 = .ok (.iconst 1, 1) := by decide +kernel
theorem d16_6 : decode jdk_38_method_25_code 6 = .ok (.iadd, 1) := by decide +kernel
theorem d16_7 : decode jdk_38_method_25_code 7 = .ok (.putfield 63, 3) := by decide +kernel
theorem d16_10 : decode jdk_38_method_25_code 10 = .ok (.aload_n 0, 1) := by decide +kernel
theorem d16_11 : decode jdk_38_method_25_code 11 = .ok (.aload_n 1, 1) := by decide +kernel
theorem d16_12 : decode jdk_38_method_25_code 12 = .ok (.aload_n 0, 1) := by decide +kernel
theorem d16_13 : decode jdk_38_method_25_code 13 = .ok (.getfield 9, 3) := by decide +kernel
theorem d16_16 : decode jdk_38_method_25_code 16 = .ok (.aload_n 0, 1) := by decide +kernel
theorem d16_17 : decode jdk_38_method_25_code 17 = .ok (.getfield 48, 3) := by decide +kernel
theorem d16_20 : decode jdk_38_method_25_code 20 = .ok (.invokevirtual 131, 3) := by decide +kernel
theorem pd_8 : parseMethodDescriptor "(Ljava/lang/Object;[Ljava/lang/Object;I)V" = some ⟨[(.object "java/lang/Object"), (.array (.object "java/lang/Object")), .int], none⟩ := by decide +kernel
abbrev mY11 : MethodName := (⟨"java/util/ArrayList", "add", "(Ljava/lang/Object;[Ljava/lang/Object;I)V"⟩ : MethodName)
theorem d16_23 : decode jdk_38_method_25_code 23 = .ok (.iconst 1, 1) := by decide +kernel
theorem d16_24 : decode jdk_38_method_25_code 24 = .ok (.ireturn, 1) := by decide +kernel
theorem ef_a1_ (m : MethodId) (x0 : Addr) (x1 : Addr) : entryFrame m #[(.ref x0), (.ref x1)] 2 = mkF m 0 #[.val (.ref x0), .val (.ref x1)] [] := by first | (simp [entryFrame, mkF, argsToLocals, Value.category]; done) | rfl
def Qa1_ (Z : State) (a0 : Addr) (a1 : Addr) (de : Addr) (kd : ClassId) (h0 : Heap) (n0 : Nat) (vQ : Option Value) (hQ_ : Heap) (LQ : List Loc) : Prop := vQ = some (.int (1 : Int32)) ∧ Fr n0 LQ ∧ Keep h0 hQ_ [a0] ∧ (Exa Z hQ_ a0 "java/util/ArrayList")
def Fna1_ (Z : State) (a0 : Addr) (a1 : Addr) (de : Addr) (kd : ClassId) (h0 : Heap) (n0 : Nat) (sQ : State) (oQ : Outcome) (UQ : State) : Prop := ∃ vQ LQ, oQ = .returned vQ ∧ Qa1_ Z a0 a1 de kd h0 n0 vQ UQ.heap LQ ∧ FrameEnd sQ oQ UQ LQ ({ frames := 4, cells := 1, slots := 10, locals := 56 } : Room).cells ({ frames := 4, cells := 1, slots := 10, locals := 56 } : Room).slots
set_option maxRecDepth 65536 in
set_option maxHeartbeats 40000000 in
theorem rma1_ (l : Launch) (Z : State) (aZ : Array Value) (hw : ∀ d ∈ tables_1, d.before aZ Z = true) (ws : List Jvm.Cond) (a0 : Addr) (a1 : Addr) (de : Addr) (kd : ClassId) (h0 : Heap) (n0 : Nat) (Z0 : n0 ≤ h0.size) (E_a0 : Exa Z h0 a0 "java/util/ArrayList") (F_modCount_a0 : Fld Z h0 a0 "java/util/AbstractList" "modCount" "I" (.int (0 : Int32))) (F_elementData_a0 : Fld Z h0 a0 "java/util/ArrayList" "elementData" "[Ljava/lang/Object;" (.ref de)) (F_size_a0 : Fld Z h0 a0 "java/util/ArrayList" "size" "I" (.int (0 : Int32))) (g_a0 : n0 ≤ a0) (OL : Old Z n0 h0) (DE : own_DE Z de kd) (E_a1 : Exa Z h0 a1 "com/example/isomorph/isomorph/model/IntegerValue") :
    MetFree l (⟨"java/util/ArrayList", "add", "(Ljava/lang/Object;)Z"⟩ : MethodName) (head1 (Jvm.Cond.code (⟨"java/util/ArrayList", "add", "(Ljava/lang/Object;)Z"⟩ : MethodName) jdk_38_method_25_code 2 (some .boolean) :: ws) ({ frames := 4, cells := 1, slots := 10, locals := 56 } : Room)) (fun aQ UQ => aQ = #[(.ref a0), (.ref a1)] ∧ Z.Warmed39 UQ.vm ∧ UQ.heap = h0) (fun _ _ _ _ _ => True) (fun _ UQ oQ UR => ∃ vQ LQ, oQ = .returned vQ ∧ Qa1_ Z a0 a1 de kd h0 n0 vQ UR.heap LQ ∧ FrameEnd UQ oQ UR LQ ({ frames := 4, cells := 1, slots := 10, locals := 56 } : Room).cells ({ frames := 4, cells := 1, slots := 10, locals := 56 } : Room).slots) := by
  refine MetFree.of_bodySF (plainFor_of_name pn_10) hisR ?_
  intro p e s m args below meth c s₁ Bd hml0 hP hK
  obtain ⟨rfl, hZ, hh⟩ := hP
  have hx := Bd.exec
  have hby := Bd.bytes
  have hml : c.maxLocals = 2 := hml0
  have hown : s.vm.findClass "java/util/ArrayList" = some m.cls := findClass_of_methodNamed Bd.named
  have hnm := (name_of_methodNamed Bd.named Bd.method).1
  have X0 : Stand p l e ({ frames := 4, cells := 1, slots := 10, locals := 56 } : Room) s m #[(.ref a0), (.ref a1)] below meth c s₁ [] 0 0 := Stand.of_body Bd
  have e0 : s₁.heap = h0 := by rw [← hh, Bd.state]; rfl
  have N0 := Fr.nil n0
  have K0 : Keep h0 h0 [a0] := Keep.refl _ _
  have w_85 := hw _ (List.mem_of_getElem? (i := 85) rfl)
  have w_86 := hw _ (List.mem_of_getElem? (i := 86) rfl)
  have w_104 := hw _ (List.mem_of_getElem? (i := 104) rfl)
  have w_106 := hw _ (List.mem_of_getElem? (i := 106) rfl)
  have w_107 := hw _ (List.mem_of_getElem? (i := 107) rfl)
  have w_113 := hw _ (List.mem_of_getElem? (i := 113) rfl)
  have w_114 := hw _ (List.mem_of_getElem? (i := 114) rfl)
  have w_115 := hw _ (List.mem_of_getElem? (i := 115) rfl)
  have w_116 := hw _ (List.mem_of_getElem? (i := 116) rfl)
  have w_117 := hw _ (List.mem_of_getElem? (i := 117) rfl)
  have w_118 := hw _ (List.mem_of_getElem? (i := 118) rfl)
  have w_119 := hw _ (List.mem_of_getElem? (i := 119) rfl)
  have w_120 := hw _ (List.mem_of_getElem? (i := 120) rfl)
  have w_121 := hw _ (List.mem_of_getElem? (i := 121) rfl)
  have first_ : Rn p e below (s₁.setTop (mkF m 0 #[.val (.ref a0), .val (.ref a1)] [])) (Fna1_ Z a0 a1 de kd h0 n0 s) := by
    generalize hG : (Fna1_ Z a0 a1 de kd h0 n0 s) = G
    refine R.aloadN X0 hx (hb hby d16_0) rfl rfl (pc' := 1) rfl ?_
    refine R.dup X0 hx (hb hby d16_1) rfl (pc' := 2) rfl ?_
    refine R.getF X0 hx hZ hown (host := "") (Or.inl w_113) (Via.of w_114) e0 F_modCount_a0 (hb hby d16_2) (pc' := 5) rfl ?_; intro T1 X1 e1
    refine R.iconst X1 hx (hb hby d16_5) (v := (1 : Int32)) (by decide) (pc' := 6) rfl ?_
    refine R.iadd X1 hx (hb hby d16_6) (v := (1 : Int32)) (by decide) (pc' := 7) rfl ?_
    refine R.putF X1 hx hZ hown (host := "") (Or.inl w_113) (Via.of w_114) e1 F_modCount_a0 E_a0 (Or.inl w_104) w_85 (ty := .int) (by decide) rfl rfl (hb hby d16_7) (pc' := 10) rfl ?_; intro T2 h2 X2 e2 W2
    have E_a0 := E_a0.wr W2
    have F_elementData_a0 := F_elementData_a0.other W2 (Or.inr (slot_ne (Or.inl w_107) (Or.inl w_104) (by decide) (t := (.array (.object "java/lang/Object"))) (t' := .int) (by decide) (by decide)))
    have F_size_a0 := F_size_a0.other W2 (Or.inr (slot_ne (Or.inl w_116) (Or.inl w_104) (by decide) (t := .int) (t' := .int) (by decide) (by decide)))
    have OL := OL.wr W2 g_a0
    have E_a1 := E_a1.wr W2
    have F_modCount_a0 : Fld Z h2 a0 "java/util/AbstractList" "modCount" "I" (.int (1 : Int32)) := F_modCount_a0.same W2
    have N2 := Fr.snoc X2 N0 g_a0
    have K2 : Keep h0 h2 [a0] := K0.wr W2 (Or.inl (List.mem_of_getElem? (i := 0) rfl))
    have Z2 : n0 ≤ h2.size := Nat.le_trans Z0 (Keep.of_wr W2).1
    refine R.aloadN X2 hx (hb hby d16_10) rfl rfl (pc' := 11) rfl ?_
    refine R.aloadN X2 hx (hb hby d16_11) rfl rfl (pc' := 12) rfl ?_
    refine R.aloadN X2 hx (hb hby d16_12) rfl rfl (pc' := 13) rfl ?_
    refine R.getF X2 hx hZ hown (host := "") (Or.inl w_106) Via.refl e2 F_elementData_a0 (hb hby d16_13) (pc' := 16) rfl ?_; intro T3 X3 e3
    refine R.aloadN X3 hx (hb hby d16_16) rfl rfl (pc' := 17) rfl ?_
    refine R.getF X3 hx hZ hown (host := "") (Or.inl w_115) Via.refl e3 F_size_a0 (hb hby d16_17) (pc' := 20) rfl ?_; intro T4 X4 e4
    refine R.privateV X4 hx hZ (y := mY11) hown w_117 w_118 w_120 w_119 w_86 w_121 (by decide) e4 E_a0 (rma3 l Z aZ hw [] a0 a1 de kd h2 n0 Z2 E_a0 F_modCount_a0 F_elementData_a0 F_size_a0 g_a0 OL (DE) E_a1) (by decide) (W := 0) (Nat.le_of_eq rfl) (by decide) (by rw [hml]; rfl) (lenOf pd_8 rfl) rfl (hb hby d16_20) (pc' := 23) rfl (by decide) (by decide) ?_; intro v5 T5 L5 X5 hQ5
    obtain ⟨rfl, N5q, Kc5, P5_0⟩ := hQ5
    have N5 := Fr.app N2 N5q
    generalize e5 : T5.heap = h5 at Kc5 P5_0
    have K5 : Keep h0 h5 [a0] := K2.trans Kc5 ((allS (Or.inl (List.mem_of_getElem? (i := 0) rfl)) all0))
    have Z5 : n0 ≤ h5.size := Nat.le_trans Z2 Kc5.1
    have OL := OL.keep Kc5 (allS g_a0 all0)
    have E_a1 := E_a1.keep Kc5
    have E_a0 : Exa Z h5 a0 "java/util/ArrayList" := P5_0
    refine R.iconst X5 hx (hb hby d16_23) (v := (1 : Int32)) (by decide) (pc' := 24) rfl ?_
    rw [← hG]
    exact Rn.ret X5 (BodyLoose.notSynchronized Bd) (v := some (.int (1 : Int32))) (fun h => by rw [Bd.returns] at h; cases h) (Q := Qa1_ Z a0 a1 de kd h0 n0) e5 (fun fs hr => retN X5 hx (t := .boolean) Bd.returns (by simp) (hb hby d16_24) hr) ⟨rfl, N5, K5, E_a0⟩ (by decide) (by decide)
  exact (Rn.st (fun t k => castTop (ef_a1_ m a0 a1) k) first_ : Rn p e below (s₁.setTop (entryFrame m #[(.ref a0), (.ref a1)] 2)) (Fna1_ Z a0 a1 de kd h0 n0 s))
abbrev mY12 : MethodName := (⟨"com/example/isomorph/isomorph/model/IntegerValue", "<init>", "(J)V"⟩ : MethodName)
theorem pd_9 : parseMethodDescriptor "(Ljava/lang/Object;)Z" = some ⟨[(.object "java/lang/Object")], some .boolean⟩ := by decide +kernel
abbrev mY13 : MethodName := (⟨"com/example/isomorph/isomorph/engine/Ordering", "isNumber", "(Ljava/lang/Object;)Z"⟩ : MethodName)
theorem pd_10 : parseMethodDescriptor "(D)V" = some ⟨[.double], none⟩ := by decide +kernel
abbrev mY14 : MethodName := (⟨"com/example/isomorph/isomorph/model/FloatValue", "<init>", "(D)V"⟩ : MethodName)
theorem pd_11 : parseMethodDescriptor "(C)Ljava/lang/String;" = some ⟨[.char], some (.object "java/lang/String")⟩ := by decide +kernel
abbrev mY15 : MethodName := (⟨"java/lang/String", "valueOf", "(C)Ljava/lang/String;"⟩ : MethodName)
theorem pd_12 : parseMethodDescriptor "(J)Ljava/lang/Long;" = some ⟨[.long], some (.object "java/lang/Long")⟩ := by decide +kernel
abbrev mY16 : MethodName := (⟨"java/lang/Long", "valueOf", "(J)Ljava/lang/Long;"⟩ : MethodName)
abbrev mY17 : MethodName := (⟨"java/util/ArrayList", "<init>", "()V"⟩ : MethodName)
abbrev mY18 : MethodName := (⟨"java/util/ArrayList", "add", "(Ljava/lang/Object;)Z"⟩ : MethodName)
theorem pn_11 : plainName "com/example/isomorph/isomorph/engine/OrderingIsNumberPinLaw" = true := by first | (simp [plainName, overriddenIn]; done) | decide +kernel
theorem ef_0 (m : MethodId) (x0 : Int32) (x1 : Int64) (x2 : Int32) : entryFrame m #[(.int x0), (.long x1), (.int x2)] maxLocals = mkF m 0 #[.val (.int x0), .val (.long x1), .second, .val (.int x2), .unset, .unset, .unset, .unset] [] := by first | (simp [entryFrame, mkF, argsToLocals, Value.category, maxLocals]; done) | rfl
def Q0 (Z : State) (p0 : Int32) (q1 : Int64) (p2 : Int32) (de : Addr) (kd : ClassId) (ca : Addr) (cs : Int32) (h0 : Heap) (n0 : Nat) (vQ : Option Value) (hQ_ : Heap) (LQ : List Loc) : Prop := vQ = some (.int 1) ∧ Fr n0 LQ
def Fn0 (Z : State) (p0 : Int32) (q1 : Int64) (p2 : Int32) (de : Addr) (kd : ClassId) (ca : Addr) (cs : Int32) (h0 : Heap) (n0 : Nat) (sQ : State) (oQ : Outcome) (UQ : State) : Prop := ∃ vQ LQ, oQ = .returned vQ ∧ Q0 Z p0 q1 p2 de kd ca cs h0 n0 vQ UQ.heap LQ ∧ FrameEnd sQ oQ UQ LQ room_1.cells room_1.slots
set_option maxRecDepth 65536 in
set_option maxHeartbeats 40000000 in
theorem rm0 (l : Launch) (Z : State) (aZ : Array Value) (hw : ∀ d ∈ tables_1, d.before aZ Z = true) (ws : List Jvm.Cond) (p0 : Int32) (q1 : Int64) (p2 : Int32) (de : Addr) (kd : ClassId) (ca : Addr) (cs : Int32) (h0 : Heap) (n0 : Nat) (Z0 : n0 ≤ h0.size) (OL : Old Z n0 h0) (DE : own_DE Z de kd) (LC : own_BX Z "java/lang/Long$LongCache" "java/lang/Long" ca) (S_CS : Sta Z h0 "java/lang/String" "COMPACT_STRINGS" "Z" (.int cs)) (hcs : ¬ cs = (0 : Int32)) :
    MetFree l x (head1 (Jvm.Cond.code x code maxLocals ret :: ws) room_1) (fun aQ UQ => aQ = #[(.int p0), (.long q1), (.int p2)] ∧ Z.Warmed39 UQ.vm ∧ UQ.heap = h0) (fun _ _ _ _ _ => True) (fun _ UQ oQ UR => ∃ vQ LQ, oQ = .returned vQ ∧ Q0 Z p0 q1 p2 de kd ca cs h0 n0 vQ UR.heap LQ ∧ FrameEnd UQ oQ UR LQ room_1.cells room_1.slots) := by
  refine MetFree.of_bodySF (plainFor_of_name pn_11) hisR ?_
  intro p e s m args below meth c s₁ Bd hml0 hP hK
  obtain ⟨rfl, hZ, hh⟩ := hP
  have hx := Bd.exec
  have hby := Bd.bytes
  have hml : c.maxLocals = 8 := hml0
  have hown : s.vm.findClass "com/example/isomorph/isomorph/engine/OrderingIsNumberPinLaw" = some m.cls := findClass_of_methodNamed Bd.named
  have hnm := (name_of_methodNamed Bd.named Bd.method).1
  have X0 : Stand p l e room_1 s m #[(.int p0), (.long q1), (.int p2)] below meth c s₁ [] 0 0 := Stand.of_body Bd
  have e0 : s₁.heap = h0 := by rw [← hh, Bd.state]; rfl
  have N0 := Fr.nil n0
  have K0 : Keep h0 h0 [] := Keep.refl _ _
  have w_0 := hw _ (List.mem_of_getElem? (i := 0) rfl)
  have w_1 := hw _ (List.mem_of_getElem? (i := 1) rfl)
  have w_2 := hw _ (List.mem_of_getElem? (i := 2) rfl)
  have w_3 := hw _ (List.mem_of_getElem? (i := 3) rfl)
  have w_4 := hw _ (List.mem_of_getElem? (i := 4) rfl)
  have w_5 := hw _ (List.mem_of_getElem? (i := 5) rfl)
  have w_6 := hw _ (List.mem_of_getElem? (i := 6) rfl)
  have w_16 := hw _ (List.mem_of_getElem? (i := 16) rfl)
  have w_17 := hw _ (List.mem_of_getElem? (i := 17) rfl)
  have w_18 := hw _ (List.mem_of_getElem? (i := 18) rfl)
  have w_19 := hw _ (List.mem_of_getElem? (i := 19) rfl)
  have w_20 := hw _ (List.mem_of_getElem? (i := 20) rfl)
  have w_23 := hw _ (List.mem_of_getElem? (i := 23) rfl)
  have w_24 := hw _ (List.mem_of_getElem? (i := 24) rfl)
  have w_25 := hw _ (List.mem_of_getElem? (i := 25) rfl)
  have w_26 := hw _ (List.mem_of_getElem? (i := 26) rfl)
  have w_27 := hw _ (List.mem_of_getElem? (i := 27) rfl)
  have w_28 := hw _ (List.mem_of_getElem? (i := 28) rfl)
  have w_31 := hw _ (List.mem_of_getElem? (i := 31) rfl)
  have w_37 := hw _ (List.mem_of_getElem? (i := 37) rfl)
  have w_38 := hw _ (List.mem_of_getElem? (i := 38) rfl)
  have w_39 := hw _ (List.mem_of_getElem? (i := 39) rfl)
  have w_40 := hw _ (List.mem_of_getElem? (i := 40) rfl)
  have w_59 := hw _ (List.mem_of_getElem? (i := 59) rfl)
  have w_60 := hw _ (List.mem_of_getElem? (i := 60) rfl)
  have w_61 := hw _ (List.mem_of_getElem? (i := 61) rfl)
  have w_62 := hw _ (List.mem_of_getElem? (i := 62) rfl)
  have w_84 := hw _ (List.mem_of_getElem? (i := 84) rfl)
  have w_85 := hw _ (List.mem_of_getElem? (i := 85) rfl)
  have w_86 := hw _ (List.mem_of_getElem? (i := 86) rfl)
  have w_87 := hw _ (List.mem_of_getElem? (i := 87) rfl)
  have w_88 := hw _ (List.mem_of_getElem? (i := 88) rfl)
  have w_89 := hw _ (List.mem_of_getElem? (i := 89) rfl)
  have w_104 := hw _ (List.mem_of_getElem? (i := 104) rfl)
  have w_107 := hw _ (List.mem_of_getElem? (i := 107) rfl)
  have w_108 := hw _ (List.mem_of_getElem? (i := 108) rfl)
  have w_109 := hw _ (List.mem_of_getElem? (i := 109) rfl)
  have w_110 := hw _ (List.mem_of_getElem? (i := 110) rfl)
  have w_111 := hw _ (List.mem_of_getElem? (i := 111) rfl)
  have w_112 := hw _ (List.mem_of_getElem? (i := 112) rfl)
  have w_116 := hw _ (List.mem_of_getElem? (i := 116) rfl)
  have first_ : Rn p e below (s₁.setTop (mkF m 0 #[.val (.int p0), .val (.long q1), .second, .val (.int p2), .unset, .unset, .unset, .unset] [])) (Fn0 Z p0 q1 p2 de kd ca cs h0 n0 s) := by
    generalize hG : (Fn0 Z p0 q1 p2 de kd ca cs h0 n0 s) = G
    refine R.iloadN X0 hx (hb hby at_0) rfl (pc' := 1) rfl ?_
    refine R.ldcI X0 hx hZ hown w_0 (hb hby at_1) (pc' := 3) rfl ?_
    refine R.iand X0 hx (hb hby at_3) rfl (pc' := 4) rfl ?_
    refine R.bipush X0 hx (hb hby at_4) (v := (6 : Int32)) (by decide) (pc' := 6) rfl ?_
    refine R.irem X0 hx (hb hby at_6) (by decide : (6 : Int32) ≠ (0 : Int32)) (pc' := 7) rfl ?_
    show Rn p e below (s₁.setTop (mkF m 7 #[.val (.int p0), .val (.long q1), .second, .val (.int p2), .unset, .unset, .unset, .unset] [(.int ((p0 &&& (2147483647 : Int32)) % (6 : Int32)))])) G
    generalize hi1 : ((p0 &&& (2147483647 : Int32)) % (6 : Int32)) = i1
    refine R.istore X0 hx (hb hby at_7) (L' := #[.val (.int p0), .val (.long q1), .second, .val (.int p2), .val (.int i1), .unset, .unset, .unset]) rfl (pc' := 9) rfl ?_
    refine R.iload X0 hx (hb hby at_9) rfl (pc' := 11) rfl ?_
    by_cases hc11 : i1 = (0 : Int32)
    · refine R.ifNo X0 hx (hb hby at_11) (teq hc11).2 (pc' := 14) rfl ?_
      refine R.newO X0 hx hZ hown w_1 w_2 w_3 e0 (hb hby at_14) (pc' := 17) rfl (by decide) (by decide) ?_; intro T2 h2 b2 g2 X2 e2 E2 A2 D2
      have g_b2 : n0 ≤ b2 := Nat.le_trans Z0 (Nat.le_of_eq g2.symm)
      have sz_b2 : h0.size ≤ b2 := Nat.le_trans K0.1 (Nat.le_of_eq g2.symm)
      have K2 : Keep h0 h2 [] := K0.ext E2
      have Z2 : n0 ≤ h2.size := Nat.le_trans Z0 E2.1
      have OL := OL.ext E2
      have S_CS := S_CS.ext E2
      have E_b2 := A2
      have F_value_b2 : Fld Z h2 b2 "com/example/isomorph/isomorph/model/IntegerValue" "value" "J" (.long (0 : Int64)) := D2 (Or.inr w_16) (ty := .long) (by decide)
      refine R.dup X2 hx (hb hby at_17) rfl (pc' := 18) rfl ?_
      refine R.lloadN X2 hx (hb hby at_18) rfl (pc' := 19) rfl ?_
      refine R.special X2 hx hZ (y := mY12) rfl hown w_4 w_5 w_3 w_6 (by decide) e2 (rm1 l Z aZ hw [] b2 q1 h2 n0 Z2 E_b2 F_value_b2 g_b2) (by decide) (W := 1) (Nat.le_of_eq rfl) (by decide) (by rw [hml]; rfl) (lenOf pd_1 rfl) rfl (hb hby at_19) (pc' := 22) rfl (by decide) (by decide) ?_; intro v3 T3 L3 X3 hQ3
      obtain ⟨rfl, N3q, Kc3, P3_0⟩ := hQ3
      have N3 := Fr.app N0 N3q
      generalize e3 : T3.heap = h3 at Kc3 P3_0
      have K3 : Keep h0 h3 [] := K2.trans Kc3 ((allS (Or.inr sz_b2) all0))
      have Z3 : n0 ≤ h3.size := Nat.le_trans Z2 Kc3.1
      have S_CS := own_sta_keep S_CS Kc3 (nsS E_b2.nostat ns0)
      have OL := OL.keep Kc3 (allS g_b2 all0)
      have E_b2 : Exa Z h3 b2 "com/example/isomorph/isomorph/model/IntegerValue" := P3_0
      refine R.astore X3 hx (hb hby at_22) rfl (L' := #[.val (.int p0), .val (.long q1), .second, .val (.int p2), .val (.int i1), .val (.ref b2), .unset, .unset]) rfl (pc' := 24) rfl ?_
      refine R.iconst X3 hx (hb hby at_24) (v := (1 : Int32)) (by decide) (pc' := 25) rfl ?_
      refine R.istore X3 hx (hb hby at_25) (L' := #[.val (.int p0), .val (.long q1), .second, .val (.int p2), .val (.int i1), .val (.ref b2), .val (.int (1 : Int32)), .unset]) rfl (pc' := 27) rfl ?_
      refine R.goto X3 hx (hb hby at_27) (by decide) (pc' := 139) (by decide) ?_
      refine R.aload X3 hx (hb hby at_139) rfl rfl (pc' := 141) rfl ?_
      refine R.callS X3 hx hZ (y := mY13) hown w_17 w_18 w_19 w_20 (by decide) e3 (rmnI l Z aZ hw [] b2 h3 n0 Z3 E_b2) (by decide) (W := 0) (Nat.le_of_eq rfl) (by decide) (by rw [hml]; rfl) (lenOf pd_9 rfl) rfl (hb hby at_141) (pc' := 144) rfl (by decide) (by decide) ?_; intro v4 T4 L4 X4 hQ4
      obtain ⟨rfl, N4q, e4⟩ := hQ4
      have N4 := Fr.app N3 N4q
      refine R.iload X4 hx (hb hby at_144) rfl (pc' := 146) rfl ?_
      refine R.icmpNo X4 hx (hb hby at_146) (teq (by decide : (1 : Int32) = (1 : Int32))).2 (pc' := 149) rfl ?_
      refine R.iconst X4 hx (hb hby at_149) (v := (1 : Int32)) (by decide) (pc' := 150) rfl ?_
      refine R.goto X4 hx (hb hby at_150) (by decide) (pc' := 154) (by decide) ?_
      rw [← hG]
      exact Rn.ret X4 (BodyLoose.notSynchronized Bd) (v := some (.int (1 : Int32))) (fun h => by rw [Bd.returns] at h; cases h) (Q := Q0 Z p0 q1 p2 de kd ca cs h0 n0) e4 (fun fs hr => retN X4 hx (t := .boolean) Bd.returns (by simp) (hb hby at_154) hr) ⟨rfl, N4⟩ (by decide) (by decide)
    · refine R.ifYes X0 hx (hb hby at_11) (feq hc11).2 (by decide) (pc' := 30) (by decide) ?_
      refine R.iload X0 hx (hb hby at_30) rfl (pc' := 32) rfl ?_
      refine R.iconst X0 hx (hb hby at_32) (v := (1 : Int32)) (by decide) (pc' := 33) rfl ?_
      by_cases hc33 : i1 = (1 : Int32)
      · refine R.icmpNo X0 hx (hb hby at_33) (teq hc33).2 (pc' := 36) rfl ?_
        refine R.newO X0 hx hZ hown w_23 w_24 w_25 e0 (hb hby at_36) (pc' := 39) rfl (by decide) (by decide) ?_; intro T5 h5 b5 g5 X5 e5 E5 A5 D5
        have g_b5 : n0 ≤ b5 := Nat.le_trans Z0 (Nat.le_of_eq g5.symm)
        have sz_b5 : h0.size ≤ b5 := Nat.le_trans K0.1 (Nat.le_of_eq g5.symm)
        have K5 : Keep h0 h5 [] := K0.ext E5
        have Z5 : n0 ≤ h5.size := Nat.le_trans Z0 E5.1
        have OL := OL.ext E5
        have S_CS := S_CS.ext E5
        have E_b5 := A5
        have F_value_b5 : Fld Z h5 b5 "com/example/isomorph/isomorph/model/FloatValue" "value" "D" (.double (0 : UInt64)) := D5 (Or.inr w_31) (ty := .double) (by decide)
        refine R.dup X5 hx (hb hby at_39) rfl (pc' := 40) rfl ?_
        refine R.iloadN X5 hx (hb hby at_40) rfl (pc' := 41) rfl ?_
        refine R.i2d X5 hx (hb hby at_41) (pc' := 42) rfl ?_
        refine R.special X5 hx hZ (y := mY14) rfl hown w_26 w_27 w_25 w_28 (by decide) e5 (rm5 l Z aZ hw [] b5 (FP.i2d p2) h5 n0 Z5 E_b5 F_value_b5 g_b5) (by decide) (W := 1) (Nat.le_of_eq rfl) (by decide) (by rw [hml]; rfl) (lenOf pd_10 rfl) rfl (hb hby at_42) (pc' := 45) rfl (by decide) (by decide) ?_; intro v6 T6 L6 X6 hQ6
        obtain ⟨rfl, N6q, Kc6, P6_0⟩ := hQ6
        have N6 := Fr.app N0 N6q
        generalize e6 : T6.heap = h6 at Kc6 P6_0
        have K6 : Keep h0 h6 [] := K5.trans Kc6 ((allS (Or.inr sz_b5) all0))
        have Z6 : n0 ≤ h6.size := Nat.le_trans Z5 Kc6.1
        have S_CS := own_sta_keep S_CS Kc6 (nsS E_b5.nostat ns0)
        have OL := OL.keep Kc6 (allS g_b5 all0)
        have E_b5 : Exa Z h6 b5 "com/example/isomorph/isomorph/model/FloatValue" := P6_0
        refine R.astore X6 hx (hb hby at_45) rfl (L' := #[.val (.int p0), .val (.long q1), .second, .val (.int p2), .val (.int i1), .val (.ref b5), .unset, .unset]) rfl (pc' := 47) rfl ?_
        refine R.iconst X6 hx (hb hby at_47) (v := (1 : Int32)) (by decide) (pc' := 48) rfl ?_
        refine R.istore X6 hx (hb hby at_48) (L' := #[.val (.int p0), .val (.long q1), .second, .val (.int p2), .val (.int i1), .val (.ref b5), .val (.int (1 : Int32)), .unset]) rfl (pc' := 50) rfl ?_
        refine R.goto X6 hx (hb hby at_50) (by decide) (pc' := 139) (by decide) ?_
        refine R.aload X6 hx (hb hby at_139) rfl rfl (pc' := 141) rfl ?_
        refine R.callS X6 hx hZ (y := mY13) hown w_17 w_18 w_19 w_20 (by decide) e6 (rmnF l Z aZ hw [] b5 h6 n0 Z6 E_b5) (by decide) (W := 0) (Nat.le_of_eq rfl) (by decide) (by rw [hml]; rfl) (lenOf pd_9 rfl) rfl (hb hby at_141) (pc' := 144) rfl (by decide) (by decide) ?_; intro v7 T7 L7 X7 hQ7
        obtain ⟨rfl, N7q, e7⟩ := hQ7
        have N7 := Fr.app N6 N7q
        refine R.iload X7 hx (hb hby at_144) rfl (pc' := 146) rfl ?_
        refine R.icmpNo X7 hx (hb hby at_146) (teq (by decide : (1 : Int32) = (1 : Int32))).2 (pc' := 149) rfl ?_
        refine R.iconst X7 hx (hb hby at_149) (v := (1 : Int32)) (by decide) (pc' := 150) rfl ?_
        refine R.goto X7 hx (hb hby at_150) (by decide) (pc' := 154) (by decide) ?_
        rw [← hG]
        exact Rn.ret X7 (BodyLoose.notSynchronized Bd) (v := some (.int (1 : Int32))) (fun h => by rw [Bd.returns] at h; cases h) (Q := Q0 Z p0 q1 p2 de kd ca cs h0 n0) e7 (fun fs hr => retN X7 hx (t := .boolean) Bd.returns (by simp) (hb hby at_154) hr) ⟨rfl, N7⟩ (by decide) (by decide)
      · refine R.icmpYes X0 hx (hb hby at_33) (feq hc33).2 (by decide) (pc' := 53) (by decide) ?_
        refine R.iload X0 hx (hb hby at_53) rfl (pc' := 55) rfl ?_
        refine R.iconst X0 hx (hb hby at_55) (v := (2 : Int32)) (by decide) (pc' := 56) rfl ?_
        by_cases hc56 : i1 = (2 : Int32)
        · refine R.icmpNo X0 hx (hb hby at_56) (teq hc56).2 (pc' := 59) rfl ?_
          refine R.aconstNull X0 hx (hb hby at_59) (pc' := 60) rfl ?_
          refine R.astore X0 hx (hb hby at_60) rfl (L' := #[.val (.int p0), .val (.long q1), .second, .val (.int p2), .val (.int i1), .val .null, .unset, .unset]) rfl (pc' := 62) rfl ?_
          refine R.iconst X0 hx (hb hby at_62) (v := (0 : Int32)) (by decide) (pc' := 63) rfl ?_
          refine R.istore X0 hx (hb hby at_63) (L' := #[.val (.int p0), .val (.long q1), .second, .val (.int p2), .val (.int i1), .val .null, .val (.int (0 : Int32)), .unset]) rfl (pc' := 65) rfl ?_
          refine R.goto X0 hx (hb hby at_65) (by decide) (pc' := 139) (by decide) ?_
          refine R.aload X0 hx (hb hby at_139) rfl rfl (pc' := 141) rfl ?_
          refine R.callS X0 hx hZ (y := mY13) hown w_17 w_18 w_19 w_20 (by decide) e0 (rmnN l Z aZ hw []  h0 n0 Z0 ) (by decide) (W := 0) (Nat.le_of_eq rfl) (by decide) (by rw [hml]; rfl) (lenOf pd_9 rfl) rfl (hb hby at_141) (pc' := 144) rfl (by decide) (by decide) ?_; intro v8 T8 L8 X8 hQ8
          obtain ⟨rfl, N8q, e8⟩ := hQ8
          have N8 := Fr.app N0 N8q
          refine R.iload X8 hx (hb hby at_144) rfl (pc' := 146) rfl ?_
          refine R.icmpNo X8 hx (hb hby at_146) (teq (by decide : (0 : Int32) = (0 : Int32))).2 (pc' := 149) rfl ?_
          refine R.iconst X8 hx (hb hby at_149) (v := (1 : Int32)) (by decide) (pc' := 150) rfl ?_
          refine R.goto X8 hx (hb hby at_150) (by decide) (pc' := 154) (by decide) ?_
          rw [← hG]
          exact Rn.ret X8 (BodyLoose.notSynchronized Bd) (v := some (.int (1 : Int32))) (fun h => by rw [Bd.returns] at h; cases h) (Q := Q0 Z p0 q1 p2 de kd ca cs h0 n0) e8 (fun fs hr => retN X8 hx (t := .boolean) Bd.returns (by simp) (hb hby at_154) hr) ⟨rfl, N8⟩ (by decide) (by decide)
        · refine R.icmpYes X0 hx (hb hby at_56) (feq hc56).2 (by decide) (pc' := 68) (by decide) ?_
          refine R.iload X0 hx (hb hby at_68) rfl (pc' := 70) rfl ?_
          refine R.iconst X0 hx (hb hby at_70) (v := (3 : Int32)) (by decide) (pc' := 71) rfl ?_
          by_cases hc71 : i1 = (3 : Int32)
          · refine R.icmpNo X0 hx (hb hby at_71) (teq hc71).2 (pc' := 74) rfl ?_
            refine R.iloadN X0 hx (hb hby at_74) rfl (pc' := 75) rfl ?_
            refine R.sipush X0 hx (hb hby at_75) (v := (255 : Int32)) (by decide) (pc' := 78) rfl ?_
            refine R.iand X0 hx (hb hby at_78) rfl (pc' := 79) rfl ?_
            refine R.i2c X0 hx (hb hby at_79) (pc' := 80) rfl ?_
            refine R.callS X0 hx hZ (y := mY15) hown w_59 w_60 w_61 w_62 (by decide) e0 (rm9 l Z aZ hw [] ((p2 &&& (255 : Int32)).toUInt32.toUInt16.toUInt32.toInt32) cs h0 n0 Z0 S_CS (hcs) (own_ch _)) (by decide) (W := 0) (Nat.le_of_eq rfl) (by decide) (by rw [hml]; rfl) (lenOf pd_11 rfl) rfl (hb hby at_80) (pc' := 83) rfl (by decide) (by decide) ?_; intro v9 T9 L9 X9 hQ9
            obtain ⟨b_9, rfl, N9q, Kc9, P9_0⟩ := hQ9
            have N9 := Fr.app N0 N9q
            generalize e9 : T9.heap = h9 at Kc9 P9_0
            have K9 : Keep h0 h9 [] := K0.trans Kc9 (all0)
            have Z9 : n0 ≤ h9.size := Nat.le_trans Z0 Kc9.1
            have S_CS := own_sta_keep S_CS Kc9 ns0
            have OL := OL.keep Kc9 all0
            have E_b_9 : Exa Z h9 b_9 "java/lang/String" := P9_0
            refine R.astore X9 hx (hb hby at_83) rfl (L' := #[.val (.int p0), .val (.long q1), .second, .val (.int p2), .val (.int i1), .val (.ref b_9), .unset, .unset]) rfl (pc' := 85) rfl ?_
            refine R.iconst X9 hx (hb hby at_85) (v := (0 : Int32)) (by decide) (pc' := 86) rfl ?_
            refine R.istore X9 hx (hb hby at_86) (L' := #[.val (.int p0), .val (.long q1), .second, .val (.int p2), .val (.int i1), .val (.ref b_9), .val (.int (0 : Int32)), .unset]) rfl (pc' := 88) rfl ?_
            refine R.goto X9 hx (hb hby at_88) (by decide) (pc' := 139) (by decide) ?_
            refine R.aload X9 hx (hb hby at_139) rfl rfl (pc' := 141) rfl ?_
            refine R.callS X9 hx hZ (y := mY13) hown w_17 w_18 w_19 w_20 (by decide) e9 (rmnS l Z aZ hw [] b_9 h9 n0 Z9 E_b_9) (by decide) (W := 0) (Nat.le_of_eq rfl) (by decide) (by rw [hml]; rfl) (lenOf pd_9 rfl) rfl (hb hby at_141) (pc' := 144) rfl (by decide) (by decide) ?_; intro v10 T10 L10 X10 hQ10
            obtain ⟨rfl, N10q, e10⟩ := hQ10
            have N10 := Fr.app N9 N10q
            refine R.iload X10 hx (hb hby at_144) rfl (pc' := 146) rfl ?_
            refine R.icmpNo X10 hx (hb hby at_146) (teq (by decide : (0 : Int32) = (0 : Int32))).2 (pc' := 149) rfl ?_
            refine R.iconst X10 hx (hb hby at_149) (v := (1 : Int32)) (by decide) (pc' := 150) rfl ?_
            refine R.goto X10 hx (hb hby at_150) (by decide) (pc' := 154) (by decide) ?_
            rw [← hG]
            exact Rn.ret X10 (BodyLoose.notSynchronized Bd) (v := some (.int (1 : Int32))) (fun h => by rw [Bd.returns] at h; cases h) (Q := Q0 Z p0 q1 p2 de kd ca cs h0 n0) e10 (fun fs hr => retN X10 hx (t := .boolean) Bd.returns (by simp) (hb hby at_154) hr) ⟨rfl, N10⟩ (by decide) (by decide)
          · refine R.icmpYes X0 hx (hb hby at_71) (feq hc71).2 (by decide) (pc' := 91) (by decide) ?_
            refine R.iload X0 hx (hb hby at_91) rfl (pc' := 93) rfl ?_
            refine R.iconst X0 hx (hb hby at_93) (v := (4 : Int32)) (by decide) (pc' := 94) rfl ?_
            by_cases hc94 : i1 = (4 : Int32)
            · refine R.icmpNo X0 hx (hb hby at_94) (teq hc94).2 (pc' := 97) rfl ?_
              refine R.lloadN X0 hx (hb hby at_97) rfl (pc' := 98) rfl ?_
              refine R.callS X0 hx hZ (y := mY16) hown w_37 w_38 w_39 w_40 (by decide) e0 (rm6 l Z aZ hw [] q1 ca h0 n0 Z0 OL (LC)) (by decide) (W := 0) (Nat.le_of_eq rfl) (by decide) (by rw [hml]; rfl) (lenOf pd_12 rfl) rfl (hb hby at_98) (pc' := 101) rfl (by decide) (by decide) ?_; intro v11 T11 L11 X11 hQ11
              obtain ⟨b_11, rfl, N11q, Kc11, P11_0⟩ := hQ11
              have N11 := Fr.app N0 N11q
              generalize e11 : T11.heap = h11 at Kc11 P11_0
              have K11 : Keep h0 h11 [] := K0.trans Kc11 (all0)
              have Z11 : n0 ≤ h11.size := Nat.le_trans Z0 Kc11.1
              have S_CS := own_sta_keep S_CS Kc11 ns0
              have OL := OL.keep Kc11 all0
              have E_b_11 : Exa Z h11 b_11 "java/lang/Long" := P11_0
              refine R.astore X11 hx (hb hby at_101) rfl (L' := #[.val (.int p0), .val (.long q1), .second, .val (.int p2), .val (.int i1), .val (.ref b_11), .unset, .unset]) rfl (pc' := 103) rfl ?_
              refine R.iconst X11 hx (hb hby at_103) (v := (0 : Int32)) (by decide) (pc' := 104) rfl ?_
              refine R.istore X11 hx (hb hby at_104) (L' := #[.val (.int p0), .val (.long q1), .second, .val (.int p2), .val (.int i1), .val (.ref b_11), .val (.int (0 : Int32)), .unset]) rfl (pc' := 106) rfl ?_
              refine R.goto X11 hx (hb hby at_106) (by decide) (pc' := 139) (by decide) ?_
              refine R.aload X11 hx (hb hby at_139) rfl rfl (pc' := 141) rfl ?_
              refine R.callS X11 hx hZ (y := mY13) hown w_17 w_18 w_19 w_20 (by decide) e11 (rmnL l Z aZ hw [] b_11 h11 n0 Z11 E_b_11) (by decide) (W := 0) (Nat.le_of_eq rfl) (by decide) (by rw [hml]; rfl) (lenOf pd_9 rfl) rfl (hb hby at_141) (pc' := 144) rfl (by decide) (by decide) ?_; intro v12 T12 L12 X12 hQ12
              obtain ⟨rfl, N12q, e12⟩ := hQ12
              have N12 := Fr.app N11 N12q
              refine R.iload X12 hx (hb hby at_144) rfl (pc' := 146) rfl ?_
              refine R.icmpNo X12 hx (hb hby at_146) (teq (by decide : (0 : Int32) = (0 : Int32))).2 (pc' := 149) rfl ?_
              refine R.iconst X12 hx (hb hby at_149) (v := (1 : Int32)) (by decide) (pc' := 150) rfl ?_
              refine R.goto X12 hx (hb hby at_150) (by decide) (pc' := 154) (by decide) ?_
              rw [← hG]
              exact Rn.ret X12 (BodyLoose.notSynchronized Bd) (v := some (.int (1 : Int32))) (fun h => by rw [Bd.returns] at h; cases h) (Q := Q0 Z p0 q1 p2 de kd ca cs h0 n0) e12 (fun fs hr => retN X12 hx (t := .boolean) Bd.returns (by simp) (hb hby at_154) hr) ⟨rfl, N12⟩ (by decide) (by decide)
            · refine R.icmpYes X0 hx (hb hby at_94) (feq hc94).2 (by decide) (pc' := 109) (by decide) ?_
              refine R.newO X0 hx hZ hown w_84 w_85 w_86 e0 (hb hby at_109) (pc' := 112) rfl (by decide) (by decide) ?_; intro T13 h13 b13 g13 X13 e13 E13 A13 D13
              have g_b13 : n0 ≤ b13 := Nat.le_trans Z0 (Nat.le_of_eq g13.symm)
              have sz_b13 : h0.size ≤ b13 := Nat.le_trans K0.1 (Nat.le_of_eq g13.symm)
              have K13 : Keep h0 h13 [] := K0.ext E13
              have Z13 : n0 ≤ h13.size := Nat.le_trans Z0 E13.1
              have OL := OL.ext E13
              have S_CS := S_CS.ext E13
              have E_b13 := A13
              have F_modCount_b13 : Fld Z h13 b13 "java/util/AbstractList" "modCount" "I" (.int (0 : Int32)) := D13 (Or.inl w_104) (ty := .int) (by decide)
              have F_elementData_b13 : Fld Z h13 b13 "java/util/ArrayList" "elementData" "[Ljava/lang/Object;" .null := D13 (Or.inl w_107) (ty := (.array (.object "java/lang/Object"))) (by decide)
              have F_size_b13 : Fld Z h13 b13 "java/util/ArrayList" "size" "I" (.int (0 : Int32)) := D13 (Or.inl w_116) (ty := .int) (by decide)
              refine R.dup X13 hx (hb hby at_112) rfl (pc' := 113) rfl ?_
              refine R.special X13 hx hZ (y := mY17) rfl hown w_87 w_88 w_86 w_89 (by decide) e13 (rm13 l Z aZ hw [] b13 de kd h13 n0 Z13 E_b13 F_modCount_b13 F_elementData_b13 F_size_b13 g_b13 OL (DE)) (by decide) (W := 1) (Nat.le_of_eq rfl) (by decide) (by rw [hml]; rfl) (lenOf pd_0 rfl) rfl (hb hby at_113) (pc' := 116) rfl (by decide) (by decide) ?_; intro v14 T14 L14 X14 hQ14
              obtain ⟨rfl, N14q, Kc14, P14_0, P14_1, P14_2, P14_3⟩ := hQ14
              have N14 := Fr.app N0 N14q
              generalize e14 : T14.heap = h14 at Kc14 P14_0 P14_1 P14_2 P14_3
              have K14 : Keep h0 h14 [] := K13.trans Kc14 ((allS (Or.inr sz_b13) all0))
              have Z14 : n0 ≤ h14.size := Nat.le_trans Z13 Kc14.1
              have S_CS := own_sta_keep S_CS Kc14 (nsS E_b13.nostat ns0)
              have OL := OL.keep Kc14 (allS g_b13 all0)
              have E_b13 : Exa Z h14 b13 "java/util/ArrayList" := P14_0
              have F_modCount_b13 : Fld Z h14 b13 "java/util/AbstractList" "modCount" "I" (.int (0 : Int32)) := P14_1
              have F_elementData_b13 : Fld Z h14 b13 "java/util/ArrayList" "elementData" "[Ljava/lang/Object;" (.ref de) := P14_2
              have F_size_b13 : Fld Z h14 b13 "java/util/ArrayList" "size" "I" (.int (0 : Int32)) := P14_3
              refine R.astore X14 hx (hb hby at_116) rfl (L' := #[.val (.int p0), .val (.long q1), .second, .val (.int p2), .val (.int i1), .unset, .unset, .val (.ref b13)]) rfl (pc' := 118) rfl ?_
              refine R.aload X14 hx (hb hby at_118) rfl rfl (pc' := 120) rfl ?_
              refine R.newO X14 hx hZ hown w_1 w_2 w_3 e14 (hb hby at_120) (pc' := 123) rfl (by decide) (by decide) ?_; intro T15 h15 b15 g15 X15 e15 E15 A15 D15
              have g_b15 : n0 ≤ b15 := Nat.le_trans Z14 (Nat.le_of_eq g15.symm)
              have sz_b15 : h0.size ≤ b15 := Nat.le_trans K14.1 (Nat.le_of_eq g15.symm)
              have ne_b13_b15 : b13 ≠ b15 := Nat.ne_of_lt (Nat.lt_of_lt_of_le E_b13.lt (Nat.le_of_eq g15.symm))
              have K15 : Keep h0 h15 [] := K14.ext E15
              have Z15 : n0 ≤ h15.size := Nat.le_trans Z14 E15.1
              have OL := OL.ext E15
              have S_CS := S_CS.ext E15
              have E_b13 := E_b13.ext E15
              have F_modCount_b13 := F_modCount_b13.ext E15
              have F_elementData_b13 := F_elementData_b13.ext E15
              have F_size_b13 := F_size_b13.ext E15
              have E_b15 := A15
              have F_value_b15 : Fld Z h15 b15 "com/example/isomorph/isomorph/model/IntegerValue" "value" "J" (.long (0 : Int64)) := D15 (Or.inr w_16) (ty := .long) (by decide)
              refine R.dup X15 hx (hb hby at_123) rfl (pc' := 124) rfl ?_
              refine R.lloadN X15 hx (hb hby at_124) rfl (pc' := 125) rfl ?_
              refine R.special X15 hx hZ (y := mY12) rfl hown w_4 w_5 w_3 w_6 (by decide) e15 (rm1 l Z aZ hw [] b15 q1 h15 n0 Z15 E_b15 F_value_b15 g_b15) (by decide) (W := 2) (Nat.le_of_eq rfl) (by decide) (by rw [hml]; rfl) (lenOf pd_1 rfl) rfl (hb hby at_125) (pc' := 128) rfl (by decide) (by decide) ?_; intro v16 T16 L16 X16 hQ16
              obtain ⟨rfl, N16q, Kc16, P16_0⟩ := hQ16
              have N16 := Fr.app N14 N16q
              generalize e16 : T16.heap = h16 at Kc16 P16_0
              have K16 : Keep h0 h16 [] := K15.trans Kc16 ((allS (Or.inr sz_b15) all0))
              have Z16 : n0 ≤ h16.size := Nat.le_trans Z15 Kc16.1
              have S_CS := own_sta_keep S_CS Kc16 (nsS E_b15.nostat ns0)
              have OL := OL.keep Kc16 (allS g_b15 all0)
              have E_b13 := E_b13.keep Kc16
              have F_modCount_b13 := F_modCount_b13.keep Kc16 (ninS ne_b13_b15 nin0)
              have F_elementData_b13 := F_elementData_b13.keep Kc16 (ninS ne_b13_b15 nin0)
              have F_size_b13 := F_size_b13.keep Kc16 (ninS ne_b13_b15 nin0)
              have E_b15 : Exa Z h16 b15 "com/example/isomorph/isomorph/model/IntegerValue" := P16_0
              refine R.virtual X16 hx hZ (y := mY18) (z := mY18) hown w_108 w_109 (notFace_of_selects (args := #[]) (mvT hZ w_111)) w_111 w_110 w_86 w_112 (by decide) e16 E_b13 (rma1_ l Z aZ hw [] b13 b15 de kd h16 n0 Z16 E_b13 F_modCount_b13 F_elementData_b13 F_size_b13 g_b13 OL (DE) E_b15) (by decide) (W := 0) (Nat.le_of_eq rfl) (by decide) (by rw [hml]; rfl) (lenOf pd_9 rfl) rfl (hb hby at_128) (pc' := 131) rfl (by decide) (by decide) ?_; intro v17 T17 L17 X17 hQ17
              obtain ⟨rfl, N17q, Kc17, P17_0⟩ := hQ17
              have N17 := Fr.app N16 N17q
              generalize e17 : T17.heap = h17 at Kc17 P17_0
              have K17 : Keep h0 h17 [] := K16.trans Kc17 ((allS (Or.inr sz_b13) all0))
              have Z17 : n0 ≤ h17.size := Nat.le_trans Z16 Kc17.1
              have S_CS := own_sta_keep S_CS Kc17 (nsS E_b13.nostat ns0)
              have OL := OL.keep Kc17 (allS g_b13 all0)
              have E_b15 := E_b15.keep Kc17
              have E_b13 : Exa Z h17 b13 "java/util/ArrayList" := P17_0
              refine R.pop X17 hx (hb hby at_131) rfl (pc' := 132) rfl ?_
              refine R.aload X17 hx (hb hby at_132) rfl rfl (pc' := 134) rfl ?_
              refine R.astore X17 hx (hb hby at_134) rfl (L' := #[.val (.int p0), .val (.long q1), .second, .val (.int p2), .val (.int i1), .val (.ref b13), .unset, .val (.ref b13)]) rfl (pc' := 136) rfl ?_
              refine R.iconst X17 hx (hb hby at_136) (v := (0 : Int32)) (by decide) (pc' := 137) rfl ?_
              refine R.istore X17 hx (hb hby at_137) (L' := #[.val (.int p0), .val (.long q1), .second, .val (.int p2), .val (.int i1), .val (.ref b13), .val (.int (0 : Int32)), .val (.ref b13)]) rfl (pc' := 139) rfl ?_
              refine R.aload X17 hx (hb hby at_139) rfl rfl (pc' := 141) rfl ?_
              refine R.callS X17 hx hZ (y := mY13) hown w_17 w_18 w_19 w_20 (by decide) e17 (rmnA l Z aZ hw [] b13 h17 n0 Z17 E_b13) (by decide) (W := 0) (Nat.le_of_eq rfl) (by decide) (by rw [hml]; rfl) (lenOf pd_9 rfl) rfl (hb hby at_141) (pc' := 144) rfl (by decide) (by decide) ?_; intro v18 T18 L18 X18 hQ18
              obtain ⟨rfl, N18q, e18⟩ := hQ18
              have N18 := Fr.app N17 N18q
              refine R.iload X18 hx (hb hby at_144) rfl (pc' := 146) rfl ?_
              refine R.icmpNo X18 hx (hb hby at_146) (teq (by decide : (0 : Int32) = (0 : Int32))).2 (pc' := 149) rfl ?_
              refine R.iconst X18 hx (hb hby at_149) (v := (1 : Int32)) (by decide) (pc' := 150) rfl ?_
              refine R.goto X18 hx (hb hby at_150) (by decide) (pc' := 154) (by decide) ?_
              rw [← hG]
              exact Rn.ret X18 (BodyLoose.notSynchronized Bd) (v := some (.int (1 : Int32))) (fun h => by rw [Bd.returns] at h; cases h) (Q := Q0 Z p0 q1 p2 de kd ca cs h0 n0) e18 (fun fs hr => retN X18 hx (t := .boolean) Bd.returns (by simp) (hb hby at_154) hr) ⟨rfl, N18⟩ (by decide) (by decide)
  exact (Rn.st (fun t k => castTop (ef_0 m p0 q1 p2) k) first_ : Rn p e below (s₁.setTop (entryFrame m #[(.int p0), (.long q1), (.int p2)] maxLocals)) (Fn0 Z p0 q1 p2 de kd ca cs h0 n0 s))
set_option maxRecDepth 65536 in
set_option maxHeartbeats 40000000 in
theorem comes_1 {Post : Tables → Env → Array Value → State → Outcome → State → Prop} (hpost : ∀ tb e args s v u, (limb_1_1.after args s (.returned v) u = true ∧ limb_1_2.after args s (.returned v) u = true ∧ True) → FrameEnd s (.returned v) u (Jvm.fieldLocs frame_1_writes args s ++ Jvm.arrayLocs frame_1_arrays args s ++ Jvm.staticLocs frame_1_statics s) 16 128 → Post tb e args s (.returned v) u) :
    ArmFor flags0 classFile x code maxLocals ret World_1 tables_1 room_1 Calls_1 rest_1 Pre_1 Post := by
  intro l hfl _ _ p e ha hc hk s m args below hf hA hF happ hP
  obtain ⟨hcalls, hrest, hpre⟩ := hP
  obtain ⟨-, -, -, hnamed, -, -, -, hat⟩ := (Spec.applies_iff hf).mp happ
  obtain ⟨hg, hn⟩ := and_e (Cond.before_iff.mp (show (Jvm.Cond.and given_1 narrow_1).before args s = true from hpre))
  obtain ⟨g1, g2⟩ := and_e hg
  obtain ⟨g3, g4⟩ := and_e g2
  obtain ⟨g5, g6⟩ := and_e g4
  obtain ⟨w0, w1, w2, rfl⟩ : ∃ w0 w1 w2 : Value, args = #[w0, w1, w2] := by
    have hs : args.size = 3 := by simpa [Cond.value, given_1] using g1
    obtain ⟨L⟩ := args
    match L, hs with
    | [w0, w1, w2], _ => exact ⟨w0, w1, w2, rfl⟩
  have hw := fun d (hd : d ∈ tables_1) => atoms_spec (ws := Jvm.Cond.code x code maxLocals ret :: tables_1) hat d (List.mem_cons_of_mem _ hd)
  obtain ⟨hsets, hown0⟩ := atoms_of _ (rest_1_c_eq ▸ (show rest_1_c.before _ s = true from hrest))
  have hr0 := Cond.before_iff.mp hown0
  obtain ⟨de, kd, DE⟩ := own_de hsets (hw _ (List.mem_of_getElem? (i := 86) rfl))
  obtain ⟨ca, LC⟩ := own_lc hsets
  obtain ⟨cs, ecs⟩ := is_v (Cond.before_iff.mp (hsets _ (List.mem_of_getElem? (i := 1) rfl)))
  have S_CS : Sta s s.heap "java/lang/String" "COMPACT_STRINGS" "Z" (.int cs) := Sta.start ecs (Or.inl (hsets _ (List.mem_of_getElem? (i := 0) rfl)))
  have hcs : ¬ cs = (0 : Int32) := gotF (Cond.eq_ints ecs (Term.int_eval _)) (not_v (Cond.before_iff.mp (hsets _ (List.mem_of_getElem? (i := 2) rfl))))
  obtain ⟨i0, ei0⟩ := is_v g3
  obtain rfl : w0 = (.int i0) := Option.some.inj ei0
  obtain ⟨i1, ei1⟩ := isL_v g5
  obtain rfl : w1 = (.long i1) := Option.some.inj ei1
  obtain ⟨i2, ei2⟩ := is_v g6
  obtain rfl : w2 = (.int i2) := Option.some.inj ei2
  obtain ⟨n, o, h1, h2, h3, _, L, rfl, ⟨rfl, N⟩, hq⟩ := rm0 l s _ hw tables_1 i0 i1 i2 de kd ca cs s.heap s.heap.size (Nat.le_refl _) (Old.start s) DE LC S_CS hcs p e ha hc hk s m _ below hf ((Spec.applies_iff_loose hf).mp happ).1 ⟨rfl, State.Warmed39.refl s, rfl⟩ trivial
  refine ⟨n, _, h1, h2, h3, hpost _ _ _ _ _ _ ⟨Cond.after_iff.mpr rfl, Cond.after_iff.mpr (eq_i res_at (Term.int_eval (1)) rfl), trivial⟩ ⟨hq.1, hq.2.1, (hq.2.2.sift fun y hy => Or.inr (N y hy)).mono (by decide) (by decide)⟩⟩
theorem main_1_1 : Claimed_1_1 := comes_1 fun _ _ _ _ _ _ h hF => ⟨h.1, hF⟩
theorem main_1_2 : Claimed_1_2 := comes_1 fun _ _ _ _ _ _ h hF => ⟨h.2.1, hF⟩
end Jvm.Pilot.@@N@@
namespace Jvm.Pilot.@@N@@
open Jvm Jvm.ClassFile Sem Op Lib Jvm.Free Jvm.Stand Jvm.Pilot.@@N@@.Jvm.D
/-! MADE BY PROGRAM (witnessworld.py) out of the Statement's table words and the real class files: 35 classes; the members and pool entries that the words name. The judged class is class 1, her method 1. -/
namespace start1
open Jvm.ClassFile
def u (s : String) : CpInfo := .utf8 (stringToUtf16 s)
/-- a pool by its gaps: so many unusable entries, then the entry; so many at the end -/
def gap : Nat → List CpInfo → List CpInfo
  | 0, r => r
  | n + 1, r => .unusable :: gap n r
def poolList (es : List (Nat × CpInfo)) (last : Nat) : List CpInfo := es.foldr (fun e r => gap e.1 (e.2 :: r)) (gap last [])
def pool (es : List (Nat × CpInfo)) (last : Nat) : Array CpInfo := ⟨poolList es last⟩
def fileOf (pool : Array CpInfo) (this : Nat) (attrs : Array Attribute := #[]) (ms : Array MethodInfo := #[]) (fl : Nat := 33) (sup : Nat := 0) (ifs : Array Nat := #[]) (fds : Array FieldInfo := #[]) : ClassFile where
  minorVersion := 0
  majorVersion := 65
  constantPool := pool
  accessFlags := fl
  thisClass := this
  superClass := sup
  interfaces := ifs
  fields := fds
  methods := ms
  attributes := attrs
def plain (name : String) (sup : Option ClassId) : Class where
  name := name
  kind := .ordinary
  loader := none
  accessFlags := 33
  super := sup
  interfaces := #[]
  cf := none
  fields := #[]
  methods := #[]
  instanceTypes := #[]
  staticTypes := #[]
  resolved := #[]
  callSites := []
  init := .initialized
  statics := none
  mirror := none

def pool0 : Array CpInfo := pool [(5, u "<init>"), (0, u "()V"), (1, .class_ 10), (1, u "java/lang/Object")] 113

def k0c0 : Code := { maxStack := 0, maxLocals := 1, code := object_method_1_code, exceptionTable := #[], attributes := #[] }
def k0m0 : Method := { name := "<init>", desc := "()V", sig := { parameters := [], returnType := none }, accessFlags := 1, code := some k0c0 }
/-- java/lang/Object -/
def k0 : Class := { plain "java/lang/Object" none with
  accessFlags := 33
  interfaces := #[]
  cf := some (fileOf pool0 8 #[] #[{ accessFlags := 1, nameIndex := 5, descriptorIndex := 6, attributes := #[] }] 33 0 #[] #[])
  fields := #[]
  methods := #[k0m0]
  instanceTypes := #[]
  staticTypes := #[]
  resolved := Array.replicate 124 none
  statics := none }

def pool1 : Array CpInfo := pool [(2, .class_ 4), (0, .nameAndType 5 6), (0, u "java/lang/Object"), (0, u "<init>"), (0, u "()V"), (0, .integer 2147483647), (0, .class_ 9), (0, u "com/example/isomorph/isomorph/model/IntegerValue"), (0, .methodref 8 11), (0, .nameAndType 5 12), (0, u "(J)V"), (0, .class_ 14), (0, u "com/example/isomorph/isomorph/model/FloatValue"), (0, .methodref 13 16), (0, .nameAndType 5 17), (0, u "(D)V"), (0, .methodref 19 20), (0, .class_ 21), (0, .nameAndType 22 23), (0, u "java/lang/String"), (0, u "valueOf"), (0, u "(C)Ljava/lang/String;"), (0, .methodref 25 26), (0, .class_ 27), (0, .nameAndType 22 28), (0, u "java/lang/Long"), (0, u "(J)Ljava/lang/Long;"), (0, .class_ 30), (0, u "java/util/ArrayList"), (0, .methodref 29 3), (0, .methodref 29 33), (0, .nameAndType 34 35), (0, u "add"), (0, u "(Ljava/lang/Object;)Z"), (0, .methodref 37 38), (0, .class_ 39), (0, .nameAndType 40 35), (0, u "com/example/isomorph/isomorph/engine/Ordering"), (0, u "isNumber"), (0, .class_ 42), (0, u "com/example/isomorph/isomorph/engine/OrderingIsNumberPinLaw"), (2, u "law"), (0, u "(IJI)Z")] 3

def k1m0 : Method := { name := "<init>", desc := "()V", sig := { parameters := [], returnType := none }, accessFlags := 2, code := none }
def k1c1 : Code := { maxStack := 5, maxLocals := 8, code := code, exceptionTable := #[], attributes := #[] }
def k1m1 : Method := { name := "law", desc := "(IJI)Z", sig := { parameters := [.int, .long, .int], returnType := some .boolean }, accessFlags := 9, code := some k1c1 }
/-- com/example/isomorph/isomorph/engine/OrderingIsNumberPinLaw -/
def k1 : Class := { plain "com/example/isomorph/isomorph/engine/OrderingIsNumberPinLaw" (some 0) with
  accessFlags := 49
  interfaces := #[]
  cf := some (fileOf pool1 41 #[] #[{ accessFlags := 2, nameIndex := 5, descriptorIndex := 6, attributes := #[] }, { accessFlags := 9, nameIndex := 45, descriptorIndex := 46, attributes := #[] }] 49 2 #[] #[])
  fields := #[]
  methods := #[k1m0, k1m1]
  instanceTypes := #[]
  staticTypes := #[]
  resolved := Array.replicate 50 none
  statics := none }

def pool2 : Array CpInfo := pool [(1, .methodref 2 3), (0, .class_ 4), (0, .nameAndType 5 6), (0, u "java/lang/Object"), (0, u "<init>"), (0, u "()V"), (0, .class_ 8), (0, u "java/lang/Record")] 13

def k2c0 : Code := { maxStack := 1, maxLocals := 1, code := jdk_30_method_1_code, exceptionTable := #[], attributes := #[] }
def k2m0 : Method := { name := "<init>", desc := "()V", sig := { parameters := [], returnType := none }, accessFlags := 4, code := some k2c0 }
/-- java/lang/Record -/
def k2 : Class := { plain "java/lang/Record" (some 0) with
  accessFlags := 1057
  interfaces := #[]
  cf := some (fileOf pool2 7 #[] #[{ accessFlags := 4, nameIndex := 5, descriptorIndex := 6, attributes := #[] }] 1057 2 #[] #[])
  fields := #[]
  methods := #[k2m0]
  instanceTypes := #[]
  staticTypes := #[]
  resolved := Array.replicate 22 none
  statics := none }

def pool3 : Array CpInfo := pool [(1, .class_ 2), (0, u "com/example/isomorph/isomorph/model/Value"), (0, .class_ 4), (0, u "java/lang/Object")] 23

/-- com/example/isomorph/isomorph/model/Value -/
def k3 : Class := { plain "com/example/isomorph/isomorph/model/Value" (some 0) with
  accessFlags := 1537
  interfaces := #[]
  cf := some (fileOf pool3 1 #[] #[] 1537 3 #[] #[])
  fields := #[]
  methods := #[]
  instanceTypes := #[]
  staticTypes := #[]
  resolved := Array.replicate 28 none
  statics := none }

def pool4 : Array CpInfo := pool [(1, .methodref 2 3), (0, .class_ 4), (0, .nameAndType 5 6), (0, u "java/lang/Record"), (0, u "<init>"), (0, u "()V"), (0, .fieldref 8 9), (0, .class_ 10), (0, .nameAndType 11 12), (0, u "com/example/isomorph/isomorph/model/IntegerValue"), (0, u "value"), (0, u "J"), (12, .class_ 26), (0, u "com/example/isomorph/isomorph/model/Value"), (0, u "(J)V")] 26

def k4c0 : Code := { maxStack := 3, maxLocals := 3, code := prog_143_method_1_code, exceptionTable := #[], attributes := #[] }
def k4m0 : Method := { name := "<init>", desc := "(J)V", sig := { parameters := [.long], returnType := none }, accessFlags := 1, code := some k4c0 }
/-- com/example/isomorph/isomorph/model/IntegerValue -/
def k4 : Class := { plain "com/example/isomorph/isomorph/model/IntegerValue" (some 2) with
  accessFlags := 49
  interfaces := #[3]
  cf := some (fileOf pool4 8 #[] #[{ accessFlags := 1, nameIndex := 5, descriptorIndex := 27, attributes := #[] }] 49 2 #[25] #[{ accessFlags := 18, nameIndex := 11, descriptorIndex := 12, attributes := #[] }])
  fields := #[{ name := "value", type := .long, accessFlags := 18, slot := 0, constantValue := 0 }]
  methods := #[k4m0]
  instanceTypes := #[.long]
  staticTypes := #[]
  resolved := Array.replicate 54 none
  statics := none }

def pool5 : Array CpInfo := pool [(2, .class_ 4), (1, u "java/lang/Object"), (0, u "<init>"), (0, u "()V"), (1, .class_ 10), (1, u "com/example/isomorph/isomorph/engine/Ordering"), (0, u "isNumber"), (0, u "(Ljava/lang/Object;)Z"), (4, .class_ 19), (1, u "com/example/isomorph/isomorph/engine/Ordering$Comparison"), (164, .class_ 185), (0, u "com/example/isomorph/isomorph/model/IntegerValue"), (0, .class_ 187), (0, u "com/example/isomorph/isomorph/model/FloatValue"), (43, u "ORDER"), (0, u "Ljava/util/Comparator;"), (2, u "TWO_TO_THE_63"), (0, u "D")] 66

def k5m0 : Method := { name := "<init>", desc := "()V", sig := { parameters := [], returnType := none }, accessFlags := 2, code := none }
def k5c1 : Code := { maxStack := 1, maxLocals := 1, code := prog_126_method_8_code, exceptionTable := #[], attributes := #[] }
def k5m1 : Method := { name := "isNumber", desc := "(Ljava/lang/Object;)Z", sig := { parameters := [(.object "java/lang/Object")], returnType := some .boolean }, accessFlags := 8, code := some k5c1 }
/-- com/example/isomorph/isomorph/engine/Ordering -/
def k5 : Class := { plain "com/example/isomorph/isomorph/engine/Ordering" (some 0) with
  accessFlags := 48
  interfaces := #[]
  cf := some (fileOf pool5 8 #[.nestMembers #[17]] #[{ accessFlags := 2, nameIndex := 5, descriptorIndex := 6, attributes := #[] }, { accessFlags := 8, nameIndex := 11, descriptorIndex := 12, attributes := #[] }] 48 2 #[] #[{ accessFlags := 24, nameIndex := 231, descriptorIndex := 232, attributes := #[] }, { accessFlags := 26, nameIndex := 235, descriptorIndex := 236, attributes := #[] }])
  fields := #[{ name := "ORDER", type := (.object "java/util/Comparator"), accessFlags := 24, slot := 0, constantValue := 0 }, { name := "TWO_TO_THE_63", type := .double, accessFlags := 26, slot := 1, constantValue := 0 }]
  methods := #[k5m0, k5m1]
  instanceTypes := #[]
  staticTypes := #[(.object "java/util/Comparator"), .double]
  resolved := Array.replicate 303 none
  statics := none }

def pool6 : Array CpInfo := pool [(1, .methodref 2 3), (0, .class_ 4), (0, .nameAndType 5 6), (0, u "java/lang/Record"), (0, u "<init>"), (0, u "()V"), (0, .fieldref 8 9), (0, .class_ 10), (0, .nameAndType 11 12), (0, u "com/example/isomorph/isomorph/model/FloatValue"), (0, u "value"), (0, u "D"), (14, .class_ 28), (0, u "com/example/isomorph/isomorph/model/Value"), (0, u "(D)V")] 28

def k6c0 : Code := { maxStack := 3, maxLocals := 3, code := prog_136_method_1_code, exceptionTable := #[], attributes := #[] }
def k6m0 : Method := { name := "<init>", desc := "(D)V", sig := { parameters := [.double], returnType := none }, accessFlags := 1, code := some k6c0 }
/-- com/example/isomorph/isomorph/model/FloatValue -/
def k6 : Class := { plain "com/example/isomorph/isomorph/model/FloatValue" (some 2) with
  accessFlags := 49
  interfaces := #[3]
  cf := some (fileOf pool6 8 #[] #[{ accessFlags := 1, nameIndex := 5, descriptorIndex := 29, attributes := #[] }] 49 2 #[27] #[{ accessFlags := 18, nameIndex := 11, descriptorIndex := 12, attributes := #[] }])
  fields := #[{ name := "value", type := .double, accessFlags := 18, slot := 0, constantValue := 0 }]
  methods := #[k6m0]
  instanceTypes := #[.double]
  staticTypes := #[]
  resolved := Array.replicate 58 none
  statics := none }

def pool7 : Array CpInfo := pool [(1, .class_ 2), (0, u "java/io/Serializable"), (0, .class_ 4), (0, u "java/lang/Object")] 2

/-- java/io/Serializable -/
def k7 : Class := { plain "java/io/Serializable" (some 0) with
  accessFlags := 1537
  interfaces := #[]
  cf := some (fileOf pool7 1 #[] #[] 1537 3 #[] #[])
  fields := #[]
  methods := #[]
  instanceTypes := #[]
  staticTypes := #[]
  resolved := Array.replicate 7 none
  statics := none }

def pool8 : Array CpInfo := pool [(1, .methodref 2 3), (0, .class_ 4), (0, .nameAndType 5 6), (0, u "java/lang/Object"), (0, u "<init>"), (0, u "()V"), (1, .class_ 10), (1, u "java/lang/Number"), (2, .class_ 14), (0, u "java/io/Serializable"), (0, u "serialVersionUID"), (0, u "J")] 20

def k8c0 : Code := { maxStack := 1, maxLocals := 1, code := jdk_18_method_1_code, exceptionTable := #[], attributes := #[] }
def k8m0 : Method := { name := "<init>", desc := "()V", sig := { parameters := [], returnType := none }, accessFlags := 1, code := some k8c0 }
/-- java/lang/Number -/
def k8 : Class := { plain "java/lang/Number" (some 0) with
  accessFlags := 1057
  interfaces := #[7]
  cf := some (fileOf pool8 8 #[] #[{ accessFlags := 1, nameIndex := 5, descriptorIndex := 6, attributes := #[] }] 1057 2 #[13] #[{ accessFlags := 26, nameIndex := 15, descriptorIndex := 16, attributes := #[] }])
  fields := #[{ name := "serialVersionUID", type := .long, accessFlags := 26, slot := 0, constantValue := 0 }]
  methods := #[k8m0]
  instanceTypes := #[]
  staticTypes := #[.long]
  resolved := Array.replicate 37 none
  statics := none }

def pool9 : Array CpInfo := pool [(1, .class_ 2), (0, u "java/lang/Comparable"), (0, .class_ 4), (0, u "java/lang/Object")] 7

/-- java/lang/Comparable -/
def k9 : Class := { plain "java/lang/Comparable" (some 0) with
  accessFlags := 1537
  interfaces := #[]
  cf := some (fileOf pool9 1 #[] #[] 1537 3 #[] #[])
  fields := #[]
  methods := #[]
  instanceTypes := #[]
  staticTypes := #[]
  resolved := Array.replicate 12 none
  statics := none }

def pool10 : Array CpInfo := pool [(1, .class_ 2), (0, u "java/lang/constant/Constable"), (0, .class_ 4), (0, u "java/lang/Object")] 6

/-- java/lang/constant/Constable -/
def k10 : Class := { plain "java/lang/constant/Constable" (some 0) with
  accessFlags := 1537
  interfaces := #[]
  cf := some (fileOf pool10 1 #[] #[] 1537 3 #[] #[])
  fields := #[]
  methods := #[]
  instanceTypes := #[]
  staticTypes := #[]
  resolved := Array.replicate 11 none
  statics := none }

def pool11 : Array CpInfo := pool [(1, .class_ 2), (0, u "java/lang/constant/ConstantDesc"), (0, .class_ 4), (0, u "java/lang/Object")] 32

/-- java/lang/constant/ConstantDesc -/
def k11 : Class := { plain "java/lang/constant/ConstantDesc" (some 0) with
  accessFlags := 1537
  interfaces := #[]
  cf := some (fileOf pool11 1 #[] #[] 1537 3 #[] #[])
  fields := #[]
  methods := #[]
  instanceTypes := #[]
  staticTypes := #[]
  resolved := Array.replicate 37 none
  statics := none }

def pool12 : Array CpInfo := pool [(1, .class_ 2), (0, u "java/lang/Long"), (55, .nameAndType 59 60), (0, u "<init>"), (0, u "()V"), (24, u "valueOf"), (143, u "(J)Ljava/lang/Long;"), (0, .long 18446744073709551488), (1, .long 127), (1, .fieldref 235 236), (0, .class_ 237), (0, .nameAndType 238 239), (0, u "java/lang/Long$LongCache"), (0, u "cache"), (0, u "[Ljava/lang/Long;"), (0, .methodref 1 241), (0, .nameAndType 59 242), (0, u "(J)V"), (27, .methodref 271 58), (0, .class_ 272), (0, u "java/lang/Number"), (0, .fieldref 1 274), (0, .nameAndType 275 276), (0, u "value"), (0, u "J"), (84, u "TYPE"), (0, u "Ljava/lang/Class;"), (0, .class_ 364), (0, u "java/lang/Comparable"), (0, .class_ 366), (0, u "java/lang/constant/Constable"), (0, .class_ 368), (0, u "java/lang/constant/ConstantDesc"), (0, u "MIN_VALUE"), (1, u "MAX_VALUE"), (4, u "SIZE"), (0, u "I"), (1, u "BYTES"), (1, u "serialVersionUID")] 142

def k12c0 : Code := { maxStack := 4, maxLocals := 3, code := jdk_35_method_24_code, exceptionTable := #[], attributes := #[] }
def k12m0 : Method := { name := "valueOf", desc := "(J)Ljava/lang/Long;", sig := { parameters := [.long], returnType := some (.object "java/lang/Long") }, accessFlags := 9, code := some k12c0 }
def k12c1 : Code := { maxStack := 3, maxLocals := 3, code := jdk_35_method_26_code, exceptionTable := #[], attributes := #[] }
def k12m1 : Method := { name := "<init>", desc := "(J)V", sig := { parameters := [.long], returnType := none }, accessFlags := 1, code := some k12c1 }
/-- java/lang/Long -/
def k12 : Class := { plain "java/lang/Long" (some 8) with
  accessFlags := 49
  interfaces := #[9, 10, 11]
  cf := some (fileOf pool12 1 #[.nestMembers #[235]] #[{ accessFlags := 9, nameIndex := 85, descriptorIndex := 229, attributes := #[] }, { accessFlags := 1, nameIndex := 59, descriptorIndex := 242, attributes := #[] }] 49 271 #[363, 365, 367] #[{ accessFlags := 25, nameIndex := 369, descriptorIndex := 276, attributes := #[] }, { accessFlags := 25, nameIndex := 371, descriptorIndex := 276, attributes := #[] }, { accessFlags := 25, nameIndex := 361, descriptorIndex := 362, attributes := #[] }, { accessFlags := 18, nameIndex := 275, descriptorIndex := 276, attributes := #[] }, { accessFlags := 25, nameIndex := 376, descriptorIndex := 377, attributes := #[] }, { accessFlags := 25, nameIndex := 379, descriptorIndex := 377, attributes := #[] }, { accessFlags := 26, nameIndex := 381, descriptorIndex := 276, attributes := #[] }])
  fields := #[{ name := "MIN_VALUE", type := .long, accessFlags := 25, slot := 0, constantValue := 0 }, { name := "MAX_VALUE", type := .long, accessFlags := 25, slot := 1, constantValue := 0 }, { name := "TYPE", type := (.object "java/lang/Class"), accessFlags := 25, slot := 2, constantValue := 0 }, { name := "value", type := .long, accessFlags := 18, slot := 0, constantValue := 0 }, { name := "SIZE", type := .int, accessFlags := 25, slot := 3, constantValue := 0 }, { name := "BYTES", type := .int, accessFlags := 25, slot := 4, constantValue := 0 }, { name := "serialVersionUID", type := .long, accessFlags := 26, slot := 5, constantValue := 0 }]
  methods := #[k12m0, k12m1]
  instanceTypes := #[.long]
  staticTypes := #[.long, .long, (.object "java/lang/Class"), .int, .int, .long]
  resolved := Array.replicate 524 none
  statics := none }

def pool13 : Array CpInfo := pool [(2, .class_ 4), (1, u "java/lang/CharSequence"), (42, .class_ 48), (0, u "java/lang/CharSequence$1CodePointIterator"), (10, .class_ 60), (0, u "java/lang/CharSequence$1CharIterator"), (5, .class_ 67), (0, u "java/lang/Object")] 63

/-- java/lang/CharSequence -/
def k13 : Class := { plain "java/lang/CharSequence" (some 0) with
  accessFlags := 1537
  interfaces := #[]
  cf := some (fileOf pool13 2 #[.nestMembers #[47, 59]] #[] 1537 66 #[] #[])
  fields := #[]
  methods := #[]
  instanceTypes := #[]
  staticTypes := #[]
  resolved := Array.replicate 131 none
  statics := none }

def pool14 : Array CpInfo := pool [(1, .methodref 2 3), (0, .class_ 4), (0, .nameAndType 5 6), (0, u "java/lang/Object"), (0, u "<init>"), (0, u "()V"), (2, .fieldref 10 11), (0, .class_ 12), (0, .nameAndType 13 14), (0, u "java/lang/String"), (0, u "value"), (0, u "[B"), (0, .fieldref 10 16), (0, .nameAndType 17 18), (0, u "coder"), (0, u "B"), (2, u "hash"), (0, u "I"), (2, u "hashIsZero"), (0, u "Z"), (11, .fieldref 10 39), (0, .nameAndType 40 26), (0, u "COMPACT_STRINGS"), (12, u "toBytes"), (53, .class_ 109), (1, u "java/lang/StringLatin1"), (99, .methodref 10 210), (0, .nameAndType 5 211), (0, u "([BB)V"), (157, u "(C)Z"), (205, .class_ 576), (0, u "java/lang/CharSequence"), (22, u "CASE_INSENSITIVE_ORDER"), (0, u "Ljava/util/Comparator;"), (181, u "valueOf"), (0, u "(C)Ljava/lang/String;"), (231, .methodref 107 1016), (0, .nameAndType 1017 369), (0, u "canEncode"), (0, .methodref 107 1019), (0, .nameAndType 53 1020), (0, u "(C)[B"), (80, u "serialPersistentFields"), (0, u "[Ljava/io/ObjectStreamField;"), (0, .class_ 1104), (0, u "java/lang/String$CaseInsensitiveComparator"), (1, .class_ 1107), (0, u "java/io/Serializable"), (0, .class_ 1109), (0, u "java/lang/Comparable"), (0, .class_ 1111), (0, u "java/lang/constant/Constable"), (0, .class_ 1113), (0, u "java/lang/constant/ConstantDesc"), (2, u "serialVersionUID"), (0, u "J"), (3, u "REPL"), (0, u "C"), (2, u "LATIN1"), (1, u "UTF16")] 323

def k14m0 : Method := { name := "<init>", desc := "()V", sig := { parameters := [], returnType := none }, accessFlags := 1, code := none }
def k14c1 : Code := { maxStack := 4, maxLocals := 1, code := jdk_42_method_139_code, exceptionTable := #[], attributes := #[] }
def k14m1 : Method := { name := "valueOf", desc := "(C)Ljava/lang/String;", sig := { parameters := [.char], returnType := some (.object "java/lang/String") }, accessFlags := 9, code := some k14c1 }
def k14c2 : Code := { maxStack := 2, maxLocals := 3, code := jdk_42_method_151_code, exceptionTable := #[], attributes := #[] }
def k14m2 : Method := { name := "<init>", desc := "([BB)V", sig := { parameters := [(.array .byte), .byte], returnType := none }, accessFlags := 0, code := some k14c2 }
/-- java/lang/String -/
def k14 : Class := { plain "java/lang/String" (some 0) with
  accessFlags := 49
  interfaces := #[7, 9, 13, 10, 11]
  cf := some (fileOf pool14 10 #[.nestMembers #[1103]] #[{ accessFlags := 1, nameIndex := 5, descriptorIndex := 6, attributes := #[] }, { accessFlags := 9, nameIndex := 782, descriptorIndex := 783, attributes := #[] }, { accessFlags := 0, nameIndex := 5, descriptorIndex := 211, attributes := #[] }] 49 2 #[1106, 1108, 575, 1110, 1112] #[{ accessFlags := 18, nameIndex := 13, descriptorIndex := 14, attributes := #[] }, { accessFlags := 18, nameIndex := 17, descriptorIndex := 18, attributes := #[] }, { accessFlags := 2, nameIndex := 21, descriptorIndex := 22, attributes := #[] }, { accessFlags := 2, nameIndex := 25, descriptorIndex := 26, attributes := #[] }, { accessFlags := 26, nameIndex := 1116, descriptorIndex := 1117, attributes := #[] }, { accessFlags := 24, nameIndex := 40, descriptorIndex := 26, attributes := #[] }, { accessFlags := 26, nameIndex := 1101, descriptorIndex := 1102, attributes := #[] }, { accessFlags := 26, nameIndex := 1121, descriptorIndex := 1122, attributes := #[] }, { accessFlags := 25, nameIndex := 599, descriptorIndex := 600, attributes := #[] }, { accessFlags := 24, nameIndex := 1125, descriptorIndex := 18, attributes := #[] }, { accessFlags := 24, nameIndex := 1127, descriptorIndex := 18, attributes := #[] }])
  fields := #[{ name := "value", type := (.array .byte), accessFlags := 18, slot := 0, constantValue := 0 }, { name := "coder", type := .byte, accessFlags := 18, slot := 1, constantValue := 0 }, { name := "hash", type := .int, accessFlags := 2, slot := 2, constantValue := 0 }, { name := "hashIsZero", type := .boolean, accessFlags := 2, slot := 3, constantValue := 0 }, { name := "serialVersionUID", type := .long, accessFlags := 26, slot := 0, constantValue := 0 }, { name := "COMPACT_STRINGS", type := .boolean, accessFlags := 24, slot := 1, constantValue := 0 }, { name := "serialPersistentFields", type := (.array (.object "java/io/ObjectStreamField")), accessFlags := 26, slot := 2, constantValue := 0 }, { name := "REPL", type := .char, accessFlags := 26, slot := 3, constantValue := 0 }, { name := "CASE_INSENSITIVE_ORDER", type := (.object "java/util/Comparator"), accessFlags := 25, slot := 4, constantValue := 0 }, { name := "LATIN1", type := .byte, accessFlags := 24, slot := 5, constantValue := 0 }, { name := "UTF16", type := .byte, accessFlags := 24, slot := 6, constantValue := 0 }]
  methods := #[k14m0, k14m1, k14m2]
  instanceTypes := #[(.array .byte), .byte, .int, .boolean]
  staticTypes := #[.long, .boolean, (.array (.object "java/io/ObjectStreamField")), .char, (.object "java/util/Comparator"), .byte, .byte]
  resolved := Array.replicate 1451 none
  statics := some 0 }

def pool15 : Array CpInfo := pool [(4, .class_ 6), (1, u "java/lang/Object"), (0, u "<init>"), (0, u "()V"), (5, .class_ 16), (1, u "java/lang/StringLatin1"), (73, u "canEncode"), (14, u "(C)Z"), (15, u "$assertionsDisabled"), (0, u "Z"), (98, .class_ 223), (1, u "java/lang/StringLatin1$LinesSpliterator"), (156, u "toBytes"), (1, u "(C)[B"), (7, .class_ 391), (0, u "java/lang/StringLatin1$CharsSpliterator")] 3

def k15m0 : Method := { name := "<init>", desc := "()V", sig := { parameters := [], returnType := none }, accessFlags := 0, code := none }
def k15c1 : Code := { maxStack := 2, maxLocals := 1, code := jdk_43_method_3_code, exceptionTable := #[], attributes := #[] }
def k15m1 : Method := { name := "canEncode", desc := "(C)Z", sig := { parameters := [.char], returnType := some .boolean }, accessFlags := 9, code := some k15c1 }
def k15c2 : Code := { maxStack := 4, maxLocals := 1, code := jdk_43_method_46_code, exceptionTable := #[], attributes := #[] }
def k15m2 : Method := { name := "toBytes", desc := "(C)[B", sig := { parameters := [.char], returnType := some (.array .byte) }, accessFlags := 9, code := some k15c2 }
/-- java/lang/StringLatin1 -/
def k15 : Class := { plain "java/lang/StringLatin1" (some 0) with
  accessFlags := 48
  interfaces := #[]
  cf := some (fileOf pool15 14 #[.nestMembers #[390, 221]] #[{ accessFlags := 0, nameIndex := 7, descriptorIndex := 8, attributes := #[] }, { accessFlags := 9, nameIndex := 90, descriptorIndex := 105, attributes := #[] }, { accessFlags := 9, nameIndex := 380, descriptorIndex := 382, attributes := #[] }] 48 4 #[] #[{ accessFlags := 4120, nameIndex := 121, descriptorIndex := 122, attributes := #[] }])
  fields := #[{ name := "$assertionsDisabled", type := .boolean, accessFlags := 4120, slot := 0, constantValue := 0 }]
  methods := #[k15m0, k15m1, k15m2]
  instanceTypes := #[]
  staticTypes := #[.boolean]
  resolved := Array.replicate 395 none
  statics := none }

def pool16 : Array CpInfo := pool [(8, .class_ 10), (1, u "java/lang/Iterable"), (24, .class_ 36), (0, u "java/lang/Object")] 25

/-- java/lang/Iterable -/
def k16 : Class := { plain "java/lang/Iterable" (some 0) with
  accessFlags := 1537
  interfaces := #[]
  cf := some (fileOf pool16 8 #[] #[] 1537 35 #[] #[])
  fields := #[]
  methods := #[]
  instanceTypes := #[]
  staticTypes := #[]
  resolved := Array.replicate 62 none
  statics := none }

def pool17 : Array CpInfo := pool [(10, .class_ 12), (1, u "java/util/Collection"), (47, .class_ 61), (0, u "java/lang/Object"), (0, .class_ 63), (0, u "java/lang/Iterable")] 51

/-- java/util/Collection -/
def k17 : Class := { plain "java/util/Collection" (some 0) with
  accessFlags := 1537
  interfaces := #[16]
  cf := some (fileOf pool17 10 #[] #[] 1537 60 #[62] #[])
  fields := #[]
  methods := #[]
  instanceTypes := #[]
  staticTypes := #[]
  resolved := Array.replicate 115 none
  statics := none }

def pool18 : Array CpInfo := pool [(1, .methodref 2 3), (0, .class_ 4), (0, .nameAndType 5 6), (0, u "java/lang/Object"), (0, u "<init>"), (0, u "()V"), (1, .class_ 10), (1, u "java/util/AbstractCollection"), (66, .class_ 78), (0, u "java/util/Collection")] 81

def k18c0 : Code := { maxStack := 1, maxLocals := 1, code := jdk_22_method_1_code, exceptionTable := #[], attributes := #[] }
def k18m0 : Method := { name := "<init>", desc := "()V", sig := { parameters := [], returnType := none }, accessFlags := 4, code := some k18c0 }
/-- java/util/AbstractCollection -/
def k18 : Class := { plain "java/util/AbstractCollection" (some 0) with
  accessFlags := 1057
  interfaces := #[17]
  cf := some (fileOf pool18 8 #[] #[{ accessFlags := 4, nameIndex := 5, descriptorIndex := 6, attributes := #[] }] 1057 2 #[77] #[])
  fields := #[]
  methods := #[k18m0]
  instanceTypes := #[]
  staticTypes := #[]
  resolved := Array.replicate 160 none
  statics := none }

def pool19 : Array CpInfo := pool [(8, .class_ 10), (1, u "java/util/SequencedCollection"), (15, .class_ 27), (0, u "java/lang/Object"), (0, .class_ 29), (0, u "java/util/Collection")] 27

/-- java/util/SequencedCollection -/
def k19 : Class := { plain "java/util/SequencedCollection" (some 0) with
  accessFlags := 1537
  interfaces := #[17]
  cf := some (fileOf pool19 8 #[] #[] 1537 26 #[28] #[])
  fields := #[]
  methods := #[]
  instanceTypes := #[]
  staticTypes := #[]
  resolved := Array.replicate 57 none
  statics := none }

def pool20 : Array CpInfo := pool [(8, .class_ 10), (1, u "java/util/List"), (92, .class_ 104), (0, u "java/lang/Object"), (15, .class_ 121), (0, u "java/util/SequencedCollection")] 129

/-- java/util/List -/
def k20 : Class := { plain "java/util/List" (some 0) with
  accessFlags := 1537
  interfaces := #[19]
  cf := some (fileOf pool20 8 #[] #[] 1537 103 #[120] #[])
  fields := #[]
  methods := #[]
  instanceTypes := #[]
  staticTypes := #[]
  resolved := Array.replicate 251 none
  statics := none }

def pool21 : Array CpInfo := pool [(1, .methodref 2 3), (0, .class_ 4), (0, .nameAndType 5 6), (0, u "java/util/AbstractCollection"), (0, u "<init>"), (0, u "()V"), (0, .fieldref 8 9), (0, .class_ 10), (0, .nameAndType 11 12), (0, u "java/util/AbstractList"), (0, u "modCount"), (0, u "I"), (64, .class_ 78), (0, u "java/util/AbstractList$Itr"), (3, .class_ 83), (0, u "java/util/AbstractList$ListItr"), (9, .class_ 94), (0, u "java/util/AbstractList$RandomAccessSubList"), (3, .class_ 99), (0, u "java/util/AbstractList$SubList"), (33, .class_ 134), (0, u "java/util/List"), (73, .class_ 209), (0, u "java/util/AbstractList$SubList$1"), (0, .class_ 211), (0, u "java/util/AbstractList$RandomAccessSpliterator")] 6

def k21c0 : Code := { maxStack := 2, maxLocals := 1, code := jdk_39_method_1_code, exceptionTable := #[], attributes := #[] }
def k21m0 : Method := { name := "<init>", desc := "()V", sig := { parameters := [], returnType := none }, accessFlags := 4, code := some k21c0 }
/-- java/util/AbstractList -/
def k21 : Class := { plain "java/util/AbstractList" (some 18) with
  accessFlags := 1057
  interfaces := #[20]
  cf := some (fileOf pool21 8 #[.nestMembers #[93, 98, 208, 210, 82, 77]] #[{ accessFlags := 4, nameIndex := 5, descriptorIndex := 6, attributes := #[] }] 1057 2 #[133] #[{ accessFlags := 132, nameIndex := 11, descriptorIndex := 12, attributes := #[] }])
  fields := #[{ name := "modCount", type := .int, accessFlags := 132, slot := 0, constantValue := 0 }]
  methods := #[k21m0]
  instanceTypes := #[.int]
  staticTypes := #[]
  resolved := Array.replicate 218 none
  statics := none }

def pool22 : Array CpInfo := pool [(1, .class_ 2), (0, u "java/util/RandomAccess"), (0, .class_ 4), (0, u "java/lang/Object")] 2

/-- java/util/RandomAccess -/
def k22 : Class := { plain "java/util/RandomAccess" (some 0) with
  accessFlags := 1537
  interfaces := #[]
  cf := some (fileOf pool22 1 #[] #[] 1537 3 #[] #[])
  fields := #[]
  methods := #[]
  instanceTypes := #[]
  staticTypes := #[]
  resolved := Array.replicate 7 none
  statics := none }

def pool23 : Array CpInfo := pool [(1, .class_ 2), (0, u "java/lang/Cloneable"), (0, .class_ 4), (0, u "java/lang/Object")] 2

/-- java/lang/Cloneable -/
def k23 : Class := { plain "java/lang/Cloneable" (some 0) with
  accessFlags := 1537
  interfaces := #[]
  cf := some (fileOf pool23 1 #[] #[] 1537 3 #[] #[])
  fields := #[]
  methods := #[]
  instanceTypes := #[]
  staticTypes := #[]
  resolved := Array.replicate 7 none
  statics := none }

def pool24 : Array CpInfo := pool [(1, .methodref 2 3), (0, .class_ 4), (0, .nameAndType 5 6), (0, u "java/util/AbstractList"), (0, u "<init>"), (0, u "()V"), (0, .class_ 8), (0, u "java/lang/Object"), (0, .fieldref 10 11), (0, .class_ 12), (0, .nameAndType 13 14), (0, u "java/util/ArrayList"), (0, u "elementData"), (0, u "[Ljava/lang/Object;"), (2, u "EMPTY_ELEMENTDATA"), (21, .fieldref 10 40), (0, .nameAndType 41 14), (0, u "DEFAULTCAPACITY_EMPTY_ELEMENTDATA"), (5, u "()[Ljava/lang/Object;"), (0, .fieldref 10 49), (0, .nameAndType 50 51), (0, u "size"), (0, u "I"), (11, .fieldref 10 64), (0, .nameAndType 65 51), (0, u "modCount"), (3, .methodref 10 70), (0, .nameAndType 71 72), (0, u "grow"), (0, u "(I)[Ljava/lang/Object;"), (6, .methodref 80 81), (0, .class_ 82), (0, .nameAndType 83 84), (0, u "java/lang/Math"), (0, u "max"), (0, u "(II)I"), (11, u "(Ljava/lang/Object;)Z"), (32, .methodref 10 130), (0, .nameAndType 71 47), (0, .methodref 10 132), (0, .nameAndType 133 134), (0, u "add"), (0, u "(Ljava/lang/Object;[Ljava/lang/Object;I)V"), (13, .class_ 149), (0, u "java/util/List"), (112, .class_ 263), (0, u "java/util/ArrayList$ListItr"), (3, .class_ 268), (0, u "java/util/ArrayList$Itr"), (7, .class_ 277), (0, u "java/util/ArrayList$SubList"), (12, .class_ 291), (0, u "java/util/ArrayList$ArrayListSpliterator"), (37, .class_ 330), (0, u "java/util/RandomAccess"), (0, .class_ 332), (0, u "java/lang/Cloneable"), (0, .class_ 334), (0, u "java/io/Serializable"), (0, u "serialVersionUID"), (0, u "J"), (3, u "DEFAULT_CAPACITY"), (159, .class_ 501), (0, u "java/util/ArrayList$SubList$2"), (0, .class_ 503), (0, u "java/util/ArrayList$SubList$1")] 5

def k24c0 : Code := { maxStack := 2, maxLocals := 1, code := jdk_38_method_2_code, exceptionTable := #[], attributes := #[] }
def k24m0 : Method := { name := "<init>", desc := "()V", sig := { parameters := [], returnType := none }, accessFlags := 1, code := some k24c0 }
def k24c1 : Code := { maxStack := 4, maxLocals := 4, code := jdk_38_method_6_code, exceptionTable := #[], attributes := #[] }
def k24m1 : Method := { name := "grow", desc := "(I)[Ljava/lang/Object;", sig := { parameters := [.int], returnType := some (.array (.object "java/lang/Object")) }, accessFlags := 2, code := some k24c1 }
def k24c2 : Code := { maxStack := 3, maxLocals := 1, code := jdk_38_method_7_code, exceptionTable := #[], attributes := #[] }
def k24m2 : Method := { name := "grow", desc := "()[Ljava/lang/Object;", sig := { parameters := [], returnType := some (.array (.object "java/lang/Object")) }, accessFlags := 2, code := some k24c2 }
def k24c3 : Code := { maxStack := 3, maxLocals := 4, code := jdk_38_method_24_code, exceptionTable := #[], attributes := #[] }
def k24m3 : Method := { name := "add", desc := "(Ljava/lang/Object;[Ljava/lang/Object;I)V", sig := { parameters := [(.object "java/lang/Object"), (.array (.object "java/lang/Object")), .int], returnType := none }, accessFlags := 2, code := some k24c3 }
def k24c4 : Code := { maxStack := 4, maxLocals := 2, code := jdk_38_method_25_code, exceptionTable := #[], attributes := #[] }
def k24m4 : Method := { name := "add", desc := "(Ljava/lang/Object;)Z", sig := { parameters := [(.object "java/lang/Object")], returnType := some .boolean }, accessFlags := 1, code := some k24c4 }
/-- java/util/ArrayList -/
def k24 : Class := { plain "java/util/ArrayList" (some 21) with
  accessFlags := 33
  interfaces := #[20, 22, 23, 7]
  cf := some (fileOf pool24 10 #[.nestMembers #[290, 276, 500, 502, 262, 267]] #[{ accessFlags := 1, nameIndex := 5, descriptorIndex := 6, attributes := #[] }, { accessFlags := 2, nameIndex := 71, descriptorIndex := 72, attributes := #[] }, { accessFlags := 2, nameIndex := 71, descriptorIndex := 47, attributes := #[] }, { accessFlags := 2, nameIndex := 133, descriptorIndex := 134, attributes := #[] }, { accessFlags := 1, nameIndex := 133, descriptorIndex := 96, attributes := #[] }] 33 2 #[148, 329, 331, 333] #[{ accessFlags := 26, nameIndex := 335, descriptorIndex := 336, attributes := #[] }, { accessFlags := 26, nameIndex := 340, descriptorIndex := 51, attributes := #[] }, { accessFlags := 26, nameIndex := 17, descriptorIndex := 14, attributes := #[] }, { accessFlags := 26, nameIndex := 41, descriptorIndex := 14, attributes := #[] }, { accessFlags := 128, nameIndex := 13, descriptorIndex := 14, attributes := #[] }, { accessFlags := 2, nameIndex := 50, descriptorIndex := 51, attributes := #[] }])
  fields := #[{ name := "serialVersionUID", type := .long, accessFlags := 26, slot := 0, constantValue := 0 }, { name := "DEFAULT_CAPACITY", type := .int, accessFlags := 26, slot := 1, constantValue := 0 }, { name := "EMPTY_ELEMENTDATA", type := (.array (.object "java/lang/Object")), accessFlags := 26, slot := 2, constantValue := 0 }, { name := "DEFAULTCAPACITY_EMPTY_ELEMENTDATA", type := (.array (.object "java/lang/Object")), accessFlags := 26, slot := 3, constantValue := 0 }, { name := "elementData", type := (.array (.object "java/lang/Object")), accessFlags := 128, slot := 1, constantValue := 0 }, { name := "size", type := .int, accessFlags := 2, slot := 2, constantValue := 0 }]
  methods := #[k24m0, k24m1, k24m2, k24m3, k24m4]
  instanceTypes := #[.int, (.array (.object "java/lang/Object")), .int]
  staticTypes := #[.long, .int, (.array (.object "java/lang/Object")), (.array (.object "java/lang/Object"))]
  resolved := Array.replicate 509 none
  statics := some 1 }

def pool25 : Array CpInfo := pool [(1, .class_ 2), (0, u "java/lang/Math"), (1, .class_ 6), (1, u "java/lang/Object"), (0, u "<init>"), (0, u "()V"), (89, .class_ 100), (1, u "java/lang/Math$RandomNumberGeneratorHolder"), (71, u "negativeZeroFloatBits"), (0, u "J"), (2, u "negativeZeroDoubleBits"), (21, u "max"), (46, u "$assertionsDisabled"), (0, u "Z"), (88, u "(II)I"), (2, u "twoToTheDoubleScaleDown"), (0, u "D"), (4, u "twoToTheDoubleScaleUp"), (9, u "E"), (3, u "PI"), (2, u "TAU"), (2, u "DEGREES_TO_RADIANS"), (0, u "RADIANS_TO_DEGREES")] 94

def k25m0 : Method := { name := "<init>", desc := "()V", sig := { parameters := [], returnType := none }, accessFlags := 2, code := none }
def k25c1 : Code := { maxStack := 2, maxLocals := 2, code := jdk_29_method_65_code, exceptionTable := #[], attributes := #[] }
def k25m1 : Method := { name := "max", desc := "(II)I", sig := { parameters := [.int, .int], returnType := some .int }, accessFlags := 9, code := some k25c1 }
/-- java/lang/Math -/
def k25 : Class := { plain "java/lang/Math" (some 0) with
  accessFlags := 49
  interfaces := #[]
  cf := some (fileOf pool25 1 #[.nestMembers #[98]] #[{ accessFlags := 2, nameIndex := 7, descriptorIndex := 8, attributes := #[] }, { accessFlags := 9, nameIndex := 198, descriptorIndex := 335, attributes := #[] }] 49 4 #[] #[{ accessFlags := 25, nameIndex := 354, descriptorIndex := 339, attributes := #[] }, { accessFlags := 25, nameIndex := 358, descriptorIndex := 339, attributes := #[] }, { accessFlags := 25, nameIndex := 361, descriptorIndex := 339, attributes := #[] }, { accessFlags := 26, nameIndex := 364, descriptorIndex := 339, attributes := #[] }, { accessFlags := 26, nameIndex := 365, descriptorIndex := 339, attributes := #[] }, { accessFlags := 26, nameIndex := 172, descriptorIndex := 173, attributes := #[] }, { accessFlags := 26, nameIndex := 176, descriptorIndex := 173, attributes := #[] }, { accessFlags := 8, nameIndex := 344, descriptorIndex := 339, attributes := #[] }, { accessFlags := 8, nameIndex := 338, descriptorIndex := 339, attributes := #[] }, { accessFlags := 4120, nameIndex := 245, descriptorIndex := 246, attributes := #[] }])
  fields := #[{ name := "E", type := .double, accessFlags := 25, slot := 0, constantValue := 0 }, { name := "PI", type := .double, accessFlags := 25, slot := 1, constantValue := 0 }, { name := "TAU", type := .double, accessFlags := 25, slot := 2, constantValue := 0 }, { name := "DEGREES_TO_RADIANS", type := .double, accessFlags := 26, slot := 3, constantValue := 0 }, { name := "RADIANS_TO_DEGREES", type := .double, accessFlags := 26, slot := 4, constantValue := 0 }, { name := "negativeZeroFloatBits", type := .long, accessFlags := 26, slot := 5, constantValue := 0 }, { name := "negativeZeroDoubleBits", type := .long, accessFlags := 26, slot := 6, constantValue := 0 }, { name := "twoToTheDoubleScaleUp", type := .double, accessFlags := 8, slot := 7, constantValue := 0 }, { name := "twoToTheDoubleScaleDown", type := .double, accessFlags := 8, slot := 8, constantValue := 0 }, { name := "$assertionsDisabled", type := .boolean, accessFlags := 4120, slot := 9, constantValue := 0 }]
  methods := #[k25m0, k25m1]
  instanceTypes := #[]
  staticTypes := #[.double, .double, .double, .double, .double, .long, .long, .double, .double, .boolean]
  resolved := Array.replicate 460 none
  statics := none }

def pool26 : Array CpInfo := pool [(2, .class_ 4), (1, u "java/lang/Object"), (0, u "<init>"), (0, u "()V"), (0, .class_ 8), (0, u "java/lang/Long"), (7, .class_ 18), (1, u "java/lang/Long$LongCache"), (0, u "$assertionsDisabled"), (0, u "Z"), (8, u "archivedCache"), (0, u "[Ljava/lang/Long;"), (7, u "cache")] 24

def k26m0 : Method := { name := "<init>", desc := "()V", sig := { parameters := [], returnType := none }, accessFlags := 2, code := none }
/-- java/lang/Long$LongCache -/
def k26 : Class := { plain "java/lang/Long$LongCache" (some 0) with
  accessFlags := 48
  interfaces := #[]
  cf := some (fileOf pool26 16 #[.nestHost 7] #[{ accessFlags := 2, nameIndex := 5, descriptorIndex := 6, attributes := #[] }] 48 2 #[] #[{ accessFlags := 24, nameIndex := 38, descriptorIndex := 30, attributes := #[] }, { accessFlags := 8, nameIndex := 29, descriptorIndex := 30, attributes := #[] }, { accessFlags := 4120, nameIndex := 19, descriptorIndex := 20, attributes := #[] }])
  fields := #[{ name := "cache", type := (.array (.object "java/lang/Long")), accessFlags := 24, slot := 0, constantValue := 0 }, { name := "archivedCache", type := (.array (.object "java/lang/Long")), accessFlags := 8, slot := 1, constantValue := 0 }, { name := "$assertionsDisabled", type := .boolean, accessFlags := 4120, slot := 2, constantValue := 0 }]
  methods := #[k26m0]
  instanceTypes := #[]
  staticTypes := #[(.array (.object "java/lang/Long")), (.array (.object "java/lang/Long")), .boolean]
  resolved := Array.replicate 63 none
  statics := some 2 }

def pool27 : Array CpInfo := pool [(2, .class_ 4), (1, u "java/lang/Object"), (0, u "<init>"), (0, u "()V"), (17, .class_ 26), (1, u "jdk/internal/util/Preconditions"), (28, .class_ 56), (0, u "jdk/internal/util/Preconditions$4"), (57, .class_ 115), (0, u "jdk/internal/util/Preconditions$1"), (7, u "SIOOBE_FORMATTER"), (0, u "Ljava/util/function/BiFunction;"), (0, .class_ 126), (0, u "jdk/internal/util/Preconditions$2"), (3, u "AIOOBE_FORMATTER"), (0, .class_ 132), (0, u "jdk/internal/util/Preconditions$3"), (3, u "IOOBE_FORMATTER")] 57

def k27m0 : Method := { name := "<init>", desc := "()V", sig := { parameters := [], returnType := none }, accessFlags := 1, code := none }
/-- jdk/internal/util/Preconditions -/
def k27 : Class := { plain "jdk/internal/util/Preconditions" (some 0) with
  accessFlags := 33
  interfaces := #[]
  cf := some (fileOf pool27 24 #[.nestMembers #[55, 131, 125, 114]] #[{ accessFlags := 1, nameIndex := 5, descriptorIndex := 6, attributes := #[] }] 33 2 #[] #[{ accessFlags := 25, nameIndex := 123, descriptorIndex := 124, attributes := #[] }, { accessFlags := 25, nameIndex := 130, descriptorIndex := 124, attributes := #[] }, { accessFlags := 25, nameIndex := 136, descriptorIndex := 124, attributes := #[] }])
  fields := #[{ name := "SIOOBE_FORMATTER", type := (.object "java/util/function/BiFunction"), accessFlags := 25, slot := 0, constantValue := 0 }, { name := "AIOOBE_FORMATTER", type := (.object "java/util/function/BiFunction"), accessFlags := 25, slot := 1, constantValue := 0 }, { name := "IOOBE_FORMATTER", type := (.object "java/util/function/BiFunction"), accessFlags := 25, slot := 2, constantValue := 0 }]
  methods := #[k27m0]
  instanceTypes := #[]
  staticTypes := #[(.object "java/util/function/BiFunction"), (.object "java/util/function/BiFunction"), (.object "java/util/function/BiFunction")]
  resolved := Array.replicate 194 none
  statics := some 3 }

def pool28 : Array CpInfo := pool [(9, u "<init>"), (6, .class_ 18), (1, u "java/lang/Object"), (0, u "()V"), (1, .class_ 23), (1, u "jdk/internal/util/ArraysSupport"), (0, u "LOG2_ARRAY_LONG_INDEX_SCALE"), (0, u "I"), (2, u "U"), (0, u "Ljdk/internal/misc/Unsafe;"), (8, u "BIG_ENDIAN"), (0, u "Z"), (8, u "LOG2_BYTE_BIT_SIZE"), (4, u "LOG2_ARRAY_INT_INDEX_SCALE"), (54, u "JLA"), (0, u "Ljdk/internal/access/JavaLangAccess;"), (11, u "LOG2_ARRAY_BOOLEAN_INDEX_SCALE"), (9, u "LOG2_ARRAY_BYTE_INDEX_SCALE"), (5, u "LOG2_ARRAY_CHAR_INDEX_SCALE"), (5, u "LOG2_ARRAY_SHORT_INDEX_SCALE"), (18, u "LOG2_ARRAY_FLOAT_INDEX_SCALE"), (24, u "LOG2_ARRAY_DOUBLE_INDEX_SCALE"), (89, u "T_BOOLEAN"), (2, u "T_CHAR"), (1, u "T_FLOAT"), (1, u "T_DOUBLE"), (1, u "T_BYTE"), (1, u "T_SHORT"), (1, u "T_INT"), (1, u "T_LONG"), (1, u "SOFT_MAX_ARRAY_LENGTH")] 83

def k28m0 : Method := { name := "<init>", desc := "()V", sig := { parameters := [], returnType := none }, accessFlags := 2, code := none }
/-- jdk/internal/util/ArraysSupport -/
def k28 : Class := { plain "jdk/internal/util/ArraysSupport" (some 0) with
  accessFlags := 33
  interfaces := #[]
  cf := some (fileOf pool28 21 #[] #[{ accessFlags := 2, nameIndex := 9, descriptorIndex := 19, attributes := #[] }] 33 16 #[] #[{ accessFlags := 24, nameIndex := 28, descriptorIndex := 29, attributes := #[] }, { accessFlags := 26, nameIndex := 38, descriptorIndex := 39, attributes := #[] }, { accessFlags := 25, nameIndex := 121, descriptorIndex := 25, attributes := #[] }, { accessFlags := 25, nameIndex := 131, descriptorIndex := 25, attributes := #[] }, { accessFlags := 25, nameIndex := 137, descriptorIndex := 25, attributes := #[] }, { accessFlags := 25, nameIndex := 143, descriptorIndex := 25, attributes := #[] }, { accessFlags := 25, nameIndex := 53, descriptorIndex := 25, attributes := #[] }, { accessFlags := 25, nameIndex := 24, descriptorIndex := 25, attributes := #[] }, { accessFlags := 25, nameIndex := 162, descriptorIndex := 25, attributes := #[] }, { accessFlags := 25, nameIndex := 187, descriptorIndex := 25, attributes := #[] }, { accessFlags := 26, nameIndex := 48, descriptorIndex := 25, attributes := #[] }, { accessFlags := 25, nameIndex := 277, descriptorIndex := 25, attributes := #[] }, { accessFlags := 25, nameIndex := 280, descriptorIndex := 25, attributes := #[] }, { accessFlags := 25, nameIndex := 282, descriptorIndex := 25, attributes := #[] }, { accessFlags := 25, nameIndex := 284, descriptorIndex := 25, attributes := #[] }, { accessFlags := 25, nameIndex := 286, descriptorIndex := 25, attributes := #[] }, { accessFlags := 25, nameIndex := 288, descriptorIndex := 25, attributes := #[] }, { accessFlags := 25, nameIndex := 290, descriptorIndex := 25, attributes := #[] }, { accessFlags := 25, nameIndex := 292, descriptorIndex := 25, attributes := #[] }, { accessFlags := 26, nameIndex := 108, descriptorIndex := 109, attributes := #[] }, { accessFlags := 25, nameIndex := 294, descriptorIndex := 25, attributes := #[] }])
  fields := #[{ name := "U", type := (.object "jdk/internal/misc/Unsafe"), accessFlags := 24, slot := 0, constantValue := 0 }, { name := "BIG_ENDIAN", type := .boolean, accessFlags := 26, slot := 1, constantValue := 0 }, { name := "LOG2_ARRAY_BOOLEAN_INDEX_SCALE", type := .int, accessFlags := 25, slot := 2, constantValue := 0 }, { name := "LOG2_ARRAY_BYTE_INDEX_SCALE", type := .int, accessFlags := 25, slot := 3, constantValue := 0 }, { name := "LOG2_ARRAY_CHAR_INDEX_SCALE", type := .int, accessFlags := 25, slot := 4, constantValue := 0 }, { name := "LOG2_ARRAY_SHORT_INDEX_SCALE", type := .int, accessFlags := 25, slot := 5, constantValue := 0 }, { name := "LOG2_ARRAY_INT_INDEX_SCALE", type := .int, accessFlags := 25, slot := 6, constantValue := 0 }, { name := "LOG2_ARRAY_LONG_INDEX_SCALE", type := .int, accessFlags := 25, slot := 7, constantValue := 0 }, { name := "LOG2_ARRAY_FLOAT_INDEX_SCALE", type := .int, accessFlags := 25, slot := 8, constantValue := 0 }, { name := "LOG2_ARRAY_DOUBLE_INDEX_SCALE", type := .int, accessFlags := 25, slot := 9, constantValue := 0 }, { name := "LOG2_BYTE_BIT_SIZE", type := .int, accessFlags := 26, slot := 10, constantValue := 0 }, { name := "T_BOOLEAN", type := .int, accessFlags := 25, slot := 11, constantValue := 0 }, { name := "T_CHAR", type := .int, accessFlags := 25, slot := 12, constantValue := 0 }, { name := "T_FLOAT", type := .int, accessFlags := 25, slot := 13, constantValue := 0 }, { name := "T_DOUBLE", type := .int, accessFlags := 25, slot := 14, constantValue := 0 }, { name := "T_BYTE", type := .int, accessFlags := 25, slot := 15, constantValue := 0 }, { name := "T_SHORT", type := .int, accessFlags := 25, slot := 16, constantValue := 0 }, { name := "T_INT", type := .int, accessFlags := 25, slot := 17, constantValue := 0 }, { name := "T_LONG", type := .int, accessFlags := 25, slot := 18, constantValue := 0 }, { name := "JLA", type := (.object "jdk/internal/access/JavaLangAccess"), accessFlags := 26, slot := 19, constantValue := 0 }, { name := "SOFT_MAX_ARRAY_LENGTH", type := .int, accessFlags := 25, slot := 20, constantValue := 0 }]
  methods := #[k28m0]
  instanceTypes := #[]
  staticTypes := #[(.object "jdk/internal/misc/Unsafe"), .boolean, .int, .int, .int, .int, .int, .int, .int, .int, .int, .int, .int, .int, .int, .int, .int, .int, .int, (.object "jdk/internal/access/JavaLangAccess"), .int]
  resolved := Array.replicate 378 none
  statics := none }

/-- the primitive byte -/
def k29 : Class := { plain "byte" none with kind := .primitive 'B', accessFlags := 0x411 }
/-- [B -/
def k30 : Class := { plain "[B" (some 0) with kind := .array 29 .byte, interfaces := #[23, 7], accessFlags := 1041 }

/-- the primitive int -/
def k31 : Class := { plain "int" none with kind := .primitive 'I', accessFlags := 0x411 }
/-- [I -/
def k32 : Class := { plain "[I" (some 0) with kind := .array 31 .int, interfaces := #[23, 7], accessFlags := 1041 }

/-- [Ljava/lang/Long; -/
def k33 : Class := { plain "[Ljava/lang/Long;" (some 0) with kind := .array 12 (.object "java/lang/Long"), interfaces := #[23, 7], accessFlags := 1041 }

/-- [Ljava/lang/Object; -/
def k34 : Class := { plain "[Ljava/lang/Object;" (some 0) with kind := .array 0 (.object "java/lang/Object"), interfaces := #[23, 7], accessFlags := 1041 }

def heap : Heap := #[{ cls := 14, slots := #[.long 0, .int 1, .null, .int 0, .null, .int 0, .int 0], vm := .statics 14 },
  { cls := 24, slots := #[.long 0, .int 0, .ref 261, .ref 262], vm := .statics 24 },
  { cls := 26, slots := #[.ref 4, .null, .int 0], vm := .statics 26 },
  { cls := 27, slots := #[.null, .null, .null], vm := .statics 27 },
  { cls := 33, slots := #[.ref 5, .ref 6, .ref 7, .ref 8, .ref 9, .ref 10, .ref 11, .ref 12, .ref 13, .ref 14, .ref 15, .ref 16, .ref 17, .ref 18, .ref 19, .ref 20, .ref 21, .ref 22, .ref 23, .ref 24, .ref 25, .ref 26, .ref 27, .ref 28, .ref 29, .ref 30, .ref 31, .ref 32, .ref 33, .ref 34, .ref 35, .ref 36, .ref 37, .ref 38, .ref 39, .ref 40, .ref 41, .ref 42, .ref 43, .ref 44, .ref 45, .ref 46, .ref 47, .ref 48, .ref 49, .ref 50, .ref 51, .ref 52, .ref 53, .ref 54, .ref 55, .ref 56, .ref 57, .ref 58, .ref 59, .ref 60, .ref 61, .ref 62, .ref 63, .ref 64, .ref 65, .ref 66, .ref 67, .ref 68, .ref 69, .ref 70, .ref 71, .ref 72, .ref 73, .ref 74, .ref 75, .ref 76, .ref 77, .ref 78, .ref 79, .ref 80, .ref 81, .ref 82, .ref 83, .ref 84, .ref 85, .ref 86, .ref 87, .ref 88, .ref 89, .ref 90, .ref 91, .ref 92, .ref 93, .ref 94, .ref 95, .ref 96, .ref 97, .ref 98, .ref 99, .ref 100, .ref 101, .ref 102, .ref 103, .ref 104, .ref 105, .ref 106, .ref 107, .ref 108, .ref 109, .ref 110, .ref 111, .ref 112, .ref 113, .ref 114, .ref 115, .ref 116, .ref 117, .ref 118, .ref 119, .ref 120, .ref 121, .ref 122, .ref 123, .ref 124, .ref 125, .ref 126, .ref 127, .ref 128, .ref 129, .ref 130, .ref 131, .ref 132, .ref 133, .ref 134, .ref 135, .ref 136, .ref 137, .ref 138, .ref 139, .ref 140, .ref 141, .ref 142, .ref 143, .ref 144, .ref 145, .ref 146, .ref 147, .ref 148, .ref 149, .ref 150, .ref 151, .ref 152, .ref 153, .ref 154, .ref 155, .ref 156, .ref 157, .ref 158, .ref 159, .ref 160, .ref 161, .ref 162, .ref 163, .ref 164, .ref 165, .ref 166, .ref 167, .ref 168, .ref 169, .ref 170, .ref 171, .ref 172, .ref 173, .ref 174, .ref 175, .ref 176, .ref 177, .ref 178, .ref 179, .ref 180, .ref 181, .ref 182, .ref 183, .ref 184, .ref 185, .ref 186, .ref 187, .ref 188, .ref 189, .ref 190, .ref 191, .ref 192, .ref 193, .ref 194, .ref 195, .ref 196, .ref 197, .ref 198, .ref 199, .ref 200, .ref 201, .ref 202, .ref 203, .ref 204, .ref 205, .ref 206, .ref 207, .ref 208, .ref 209, .ref 210, .ref 211, .ref 212, .ref 213, .ref 214, .ref 215, .ref 216, .ref 217, .ref 218, .ref 219, .ref 220, .ref 221, .ref 222, .ref 223, .ref 224, .ref 225, .ref 226, .ref 227, .ref 228, .ref 229, .ref 230, .ref 231, .ref 232, .ref 233, .ref 234, .ref 235, .ref 236, .ref 237, .ref 238, .ref 239, .ref 240, .ref 241, .ref 242, .ref 243, .ref 244, .ref 245, .ref 246, .ref 247, .ref 248, .ref 249, .ref 250, .ref 251, .ref 252, .ref 253, .ref 254, .ref 255, .ref 256, .ref 257, .ref 258, .ref 259, .ref 260], vm := .none },
  { cls := 12, slots := #[.long (-128)], vm := .none },
  { cls := 12, slots := #[.long (-127)], vm := .none },
  { cls := 12, slots := #[.long (-126)], vm := .none },
  { cls := 12, slots := #[.long (-125)], vm := .none },
  { cls := 12, slots := #[.long (-124)], vm := .none },
  { cls := 12, slots := #[.long (-123)], vm := .none },
  { cls := 12, slots := #[.long (-122)], vm := .none },
  { cls := 12, slots := #[.long (-121)], vm := .none },
  { cls := 12, slots := #[.long (-120)], vm := .none },
  { cls := 12, slots := #[.long (-119)], vm := .none },
  { cls := 12, slots := #[.long (-118)], vm := .none },
  { cls := 12, slots := #[.long (-117)], vm := .none },
  { cls := 12, slots := #[.long (-116)], vm := .none },
  { cls := 12, slots := #[.long (-115)], vm := .none },
  { cls := 12, slots := #[.long (-114)], vm := .none },
  { cls := 12, slots := #[.long (-113)], vm := .none },
  { cls := 12, slots := #[.long (-112)], vm := .none },
  { cls := 12, slots := #[.long (-111)], vm := .none },
  { cls := 12, slots := #[.long (-110)], vm := .none },
  { cls := 12, slots := #[.long (-109)], vm := .none },
  { cls := 12, slots := #[.long (-108)], vm := .none },
  { cls := 12, slots := #[.long (-107)], vm := .none },
  { cls := 12, slots := #[.long (-106)], vm := .none },
  { cls := 12, slots := #[.long (-105)], vm := .none },
  { cls := 12, slots := #[.long (-104)], vm := .none },
  { cls := 12, slots := #[.long (-103)], vm := .none },
  { cls := 12, slots := #[.long (-102)], vm := .none },
  { cls := 12, slots := #[.long (-101)], vm := .none },
  { cls := 12, slots := #[.long (-100)], vm := .none },
  { cls := 12, slots := #[.long (-99)], vm := .none },
  { cls := 12, slots := #[.long (-98)], vm := .none },
  { cls := 12, slots := #[.long (-97)], vm := .none },
  { cls := 12, slots := #[.long (-96)], vm := .none },
  { cls := 12, slots := #[.long (-95)], vm := .none },
  { cls := 12, slots := #[.long (-94)], vm := .none },
  { cls := 12, slots := #[.long (-93)], vm := .none },
  { cls := 12, slots := #[.long (-92)], vm := .none },
  { cls := 12, slots := #[.long (-91)], vm := .none },
  { cls := 12, slots := #[.long (-90)], vm := .none },
  { cls := 12, slots := #[.long (-89)], vm := .none },
  { cls := 12, slots := #[.long (-88)], vm := .none },
  { cls := 12, slots := #[.long (-87)], vm := .none },
  { cls := 12, slots := #[.long (-86)], vm := .none },
  { cls := 12, slots := #[.long (-85)], vm := .none },
  { cls := 12, slots := #[.long (-84)], vm := .none },
  { cls := 12, slots := #[.long (-83)], vm := .none },
  { cls := 12, slots := #[.long (-82)], vm := .none },
  { cls := 12, slots := #[.long (-81)], vm := .none },
  { cls := 12, slots := #[.long (-80)], vm := .none },
  { cls := 12, slots := #[.long (-79)], vm := .none },
  { cls := 12, slots := #[.long (-78)], vm := .none },
  { cls := 12, slots := #[.long (-77)], vm := .none },
  { cls := 12, slots := #[.long (-76)], vm := .none },
  { cls := 12, slots := #[.long (-75)], vm := .none },
  { cls := 12, slots := #[.long (-74)], vm := .none },
  { cls := 12, slots := #[.long (-73)], vm := .none },
  { cls := 12, slots := #[.long (-72)], vm := .none },
  { cls := 12, slots := #[.long (-71)], vm := .none },
  { cls := 12, slots := #[.long (-70)], vm := .none },
  { cls := 12, slots := #[.long (-69)], vm := .none },
  { cls := 12, slots := #[.long (-68)], vm := .none },
  { cls := 12, slots := #[.long (-67)], vm := .none },
  { cls := 12, slots := #[.long (-66)], vm := .none },
  { cls := 12, slots := #[.long (-65)], vm := .none },
  { cls := 12, slots := #[.long (-64)], vm := .none },
  { cls := 12, slots := #[.long (-63)], vm := .none },
  { cls := 12, slots := #[.long (-62)], vm := .none },
  { cls := 12, slots := #[.long (-61)], vm := .none },
  { cls := 12, slots := #[.long (-60)], vm := .none },
  { cls := 12, slots := #[.long (-59)], vm := .none },
  { cls := 12, slots := #[.long (-58)], vm := .none },
  { cls := 12, slots := #[.long (-57)], vm := .none },
  { cls := 12, slots := #[.long (-56)], vm := .none },
  { cls := 12, slots := #[.long (-55)], vm := .none },
  { cls := 12, slots := #[.long (-54)], vm := .none },
  { cls := 12, slots := #[.long (-53)], vm := .none },
  { cls := 12, slots := #[.long (-52)], vm := .none },
  { cls := 12, slots := #[.long (-51)], vm := .none },
  { cls := 12, slots := #[.long (-50)], vm := .none },
  { cls := 12, slots := #[.long (-49)], vm := .none },
  { cls := 12, slots := #[.long (-48)], vm := .none },
  { cls := 12, slots := #[.long (-47)], vm := .none },
  { cls := 12, slots := #[.long (-46)], vm := .none },
  { cls := 12, slots := #[.long (-45)], vm := .none },
  { cls := 12, slots := #[.long (-44)], vm := .none },
  { cls := 12, slots := #[.long (-43)], vm := .none },
  { cls := 12, slots := #[.long (-42)], vm := .none },
  { cls := 12, slots := #[.long (-41)], vm := .none },
  { cls := 12, slots := #[.long (-40)], vm := .none },
  { cls := 12, slots := #[.long (-39)], vm := .none },
  { cls := 12, slots := #[.long (-38)], vm := .none },
  { cls := 12, slots := #[.long (-37)], vm := .none },
  { cls := 12, slots := #[.long (-36)], vm := .none },
  { cls := 12, slots := #[.long (-35)], vm := .none },
  { cls := 12, slots := #[.long (-34)], vm := .none },
  { cls := 12, slots := #[.long (-33)], vm := .none },
  { cls := 12, slots := #[.long (-32)], vm := .none },
  { cls := 12, slots := #[.long (-31)], vm := .none },
  { cls := 12, slots := #[.long (-30)], vm := .none },
  { cls := 12, slots := #[.long (-29)], vm := .none },
  { cls := 12, slots := #[.long (-28)], vm := .none },
  { cls := 12, slots := #[.long (-27)], vm := .none },
  { cls := 12, slots := #[.long (-26)], vm := .none },
  { cls := 12, slots := #[.long (-25)], vm := .none },
  { cls := 12, slots := #[.long (-24)], vm := .none },
  { cls := 12, slots := #[.long (-23)], vm := .none },
  { cls := 12, slots := #[.long (-22)], vm := .none },
  { cls := 12, slots := #[.long (-21)], vm := .none },
  { cls := 12, slots := #[.long (-20)], vm := .none },
  { cls := 12, slots := #[.long (-19)], vm := .none },
  { cls := 12, slots := #[.long (-18)], vm := .none },
  { cls := 12, slots := #[.long (-17)], vm := .none },
  { cls := 12, slots := #[.long (-16)], vm := .none },
  { cls := 12, slots := #[.long (-15)], vm := .none },
  { cls := 12, slots := #[.long (-14)], vm := .none },
  { cls := 12, slots := #[.long (-13)], vm := .none },
  { cls := 12, slots := #[.long (-12)], vm := .none },
  { cls := 12, slots := #[.long (-11)], vm := .none },
  { cls := 12, slots := #[.long (-10)], vm := .none },
  { cls := 12, slots := #[.long (-9)], vm := .none },
  { cls := 12, slots := #[.long (-8)], vm := .none },
  { cls := 12, slots := #[.long (-7)], vm := .none },
  { cls := 12, slots := #[.long (-6)], vm := .none },
  { cls := 12, slots := #[.long (-5)], vm := .none },
  { cls := 12, slots := #[.long (-4)], vm := .none },
  { cls := 12, slots := #[.long (-3)], vm := .none },
  { cls := 12, slots := #[.long (-2)], vm := .none },
  { cls := 12, slots := #[.long (-1)], vm := .none },
  { cls := 12, slots := #[.long 0], vm := .none },
  { cls := 12, slots := #[.long 1], vm := .none },
  { cls := 12, slots := #[.long 2], vm := .none },
  { cls := 12, slots := #[.long 3], vm := .none },
  { cls := 12, slots := #[.long 4], vm := .none },
  { cls := 12, slots := #[.long 5], vm := .none },
  { cls := 12, slots := #[.long 6], vm := .none },
  { cls := 12, slots := #[.long 7], vm := .none },
  { cls := 12, slots := #[.long 8], vm := .none },
  { cls := 12, slots := #[.long 9], vm := .none },
  { cls := 12, slots := #[.long 10], vm := .none },
  { cls := 12, slots := #[.long 11], vm := .none },
  { cls := 12, slots := #[.long 12], vm := .none },
  { cls := 12, slots := #[.long 13], vm := .none },
  { cls := 12, slots := #[.long 14], vm := .none },
  { cls := 12, slots := #[.long 15], vm := .none },
  { cls := 12, slots := #[.long 16], vm := .none },
  { cls := 12, slots := #[.long 17], vm := .none },
  { cls := 12, slots := #[.long 18], vm := .none },
  { cls := 12, slots := #[.long 19], vm := .none },
  { cls := 12, slots := #[.long 20], vm := .none },
  { cls := 12, slots := #[.long 21], vm := .none },
  { cls := 12, slots := #[.long 22], vm := .none },
  { cls := 12, slots := #[.long 23], vm := .none },
  { cls := 12, slots := #[.long 24], vm := .none },
  { cls := 12, slots := #[.long 25], vm := .none },
  { cls := 12, slots := #[.long 26], vm := .none },
  { cls := 12, slots := #[.long 27], vm := .none },
  { cls := 12, slots := #[.long 28], vm := .none },
  { cls := 12, slots := #[.long 29], vm := .none },
  { cls := 12, slots := #[.long 30], vm := .none },
  { cls := 12, slots := #[.long 31], vm := .none },
  { cls := 12, slots := #[.long 32], vm := .none },
  { cls := 12, slots := #[.long 33], vm := .none },
  { cls := 12, slots := #[.long 34], vm := .none },
  { cls := 12, slots := #[.long 35], vm := .none },
  { cls := 12, slots := #[.long 36], vm := .none },
  { cls := 12, slots := #[.long 37], vm := .none },
  { cls := 12, slots := #[.long 38], vm := .none },
  { cls := 12, slots := #[.long 39], vm := .none },
  { cls := 12, slots := #[.long 40], vm := .none },
  { cls := 12, slots := #[.long 41], vm := .none },
  { cls := 12, slots := #[.long 42], vm := .none },
  { cls := 12, slots := #[.long 43], vm := .none },
  { cls := 12, slots := #[.long 44], vm := .none },
  { cls := 12, slots := #[.long 45], vm := .none },
  { cls := 12, slots := #[.long 46], vm := .none },
  { cls := 12, slots := #[.long 47], vm := .none },
  { cls := 12, slots := #[.long 48], vm := .none },
  { cls := 12, slots := #[.long 49], vm := .none },
  { cls := 12, slots := #[.long 50], vm := .none },
  { cls := 12, slots := #[.long 51], vm := .none },
  { cls := 12, slots := #[.long 52], vm := .none },
  { cls := 12, slots := #[.long 53], vm := .none },
  { cls := 12, slots := #[.long 54], vm := .none },
  { cls := 12, slots := #[.long 55], vm := .none },
  { cls := 12, slots := #[.long 56], vm := .none },
  { cls := 12, slots := #[.long 57], vm := .none },
  { cls := 12, slots := #[.long 58], vm := .none },
  { cls := 12, slots := #[.long 59], vm := .none },
  { cls := 12, slots := #[.long 60], vm := .none },
  { cls := 12, slots := #[.long 61], vm := .none },
  { cls := 12, slots := #[.long 62], vm := .none },
  { cls := 12, slots := #[.long 63], vm := .none },
  { cls := 12, slots := #[.long 64], vm := .none },
  { cls := 12, slots := #[.long 65], vm := .none },
  { cls := 12, slots := #[.long 66], vm := .none },
  { cls := 12, slots := #[.long 67], vm := .none },
  { cls := 12, slots := #[.long 68], vm := .none },
  { cls := 12, slots := #[.long 69], vm := .none },
  { cls := 12, slots := #[.long 70], vm := .none },
  { cls := 12, slots := #[.long 71], vm := .none },
  { cls := 12, slots := #[.long 72], vm := .none },
  { cls := 12, slots := #[.long 73], vm := .none },
  { cls := 12, slots := #[.long 74], vm := .none },
  { cls := 12, slots := #[.long 75], vm := .none },
  { cls := 12, slots := #[.long 76], vm := .none },
  { cls := 12, slots := #[.long 77], vm := .none },
  { cls := 12, slots := #[.long 78], vm := .none },
  { cls := 12, slots := #[.long 79], vm := .none },
  { cls := 12, slots := #[.long 80], vm := .none },
  { cls := 12, slots := #[.long 81], vm := .none },
  { cls := 12, slots := #[.long 82], vm := .none },
  { cls := 12, slots := #[.long 83], vm := .none },
  { cls := 12, slots := #[.long 84], vm := .none },
  { cls := 12, slots := #[.long 85], vm := .none },
  { cls := 12, slots := #[.long 86], vm := .none },
  { cls := 12, slots := #[.long 87], vm := .none },
  { cls := 12, slots := #[.long 88], vm := .none },
  { cls := 12, slots := #[.long 89], vm := .none },
  { cls := 12, slots := #[.long 90], vm := .none },
  { cls := 12, slots := #[.long 91], vm := .none },
  { cls := 12, slots := #[.long 92], vm := .none },
  { cls := 12, slots := #[.long 93], vm := .none },
  { cls := 12, slots := #[.long 94], vm := .none },
  { cls := 12, slots := #[.long 95], vm := .none },
  { cls := 12, slots := #[.long 96], vm := .none },
  { cls := 12, slots := #[.long 97], vm := .none },
  { cls := 12, slots := #[.long 98], vm := .none },
  { cls := 12, slots := #[.long 99], vm := .none },
  { cls := 12, slots := #[.long 100], vm := .none },
  { cls := 12, slots := #[.long 101], vm := .none },
  { cls := 12, slots := #[.long 102], vm := .none },
  { cls := 12, slots := #[.long 103], vm := .none },
  { cls := 12, slots := #[.long 104], vm := .none },
  { cls := 12, slots := #[.long 105], vm := .none },
  { cls := 12, slots := #[.long 106], vm := .none },
  { cls := 12, slots := #[.long 107], vm := .none },
  { cls := 12, slots := #[.long 108], vm := .none },
  { cls := 12, slots := #[.long 109], vm := .none },
  { cls := 12, slots := #[.long 110], vm := .none },
  { cls := 12, slots := #[.long 111], vm := .none },
  { cls := 12, slots := #[.long 112], vm := .none },
  { cls := 12, slots := #[.long 113], vm := .none },
  { cls := 12, slots := #[.long 114], vm := .none },
  { cls := 12, slots := #[.long 115], vm := .none },
  { cls := 12, slots := #[.long 116], vm := .none },
  { cls := 12, slots := #[.long 117], vm := .none },
  { cls := 12, slots := #[.long 118], vm := .none },
  { cls := 12, slots := #[.long 119], vm := .none },
  { cls := 12, slots := #[.long 120], vm := .none },
  { cls := 12, slots := #[.long 121], vm := .none },
  { cls := 12, slots := #[.long 122], vm := .none },
  { cls := 12, slots := #[.long 123], vm := .none },
  { cls := 12, slots := #[.long 124], vm := .none },
  { cls := 12, slots := #[.long 125], vm := .none },
  { cls := 12, slots := #[.long 126], vm := .none },
  { cls := 12, slots := #[.long 127], vm := .none },
  { cls := 34, slots := #[], vm := .none },
  { cls := 34, slots := #[], vm := .none }]
def classes : Array Class := #[k0, k1, k2, k3, k4, k5, k6, k7, k8, k9, k10, k11, k12, k13, k14, k15, k16, k17, k18, k19, k20, k21, k22, k23, k24, k25, k26, k27, k28, k29, k30, k31, k32, k33, k34]
def interned : List (Array UInt16 × Addr) := []
def slotsUsed : Nat := 529
def theMethod : MethodId := ⟨1, 1⟩
def args0 : Array Value := #[.int 5, .long 7, .int 5]
def aboutOver (below : List Frame) : State where
  vm := { classes := classes, interned := interned.toArray }
  heap := heap
  slotsUsed := slotsUsed
  threads := #[{ frames := .invoking theMethod args0 :: below }]
def below0 : List Frame := [.native { method := ⟨0, 0⟩, args := #[] }]
def about1 : State := aboutOver below0
def p0 : Program := .bare "" "" ""
def e0 : Env := launch0.env 0 0 0
theorem w_frames : about1.frames = Frame.invoking theMethod args0 :: below0 := rfl
set_option maxRecDepth 65536 in
theorem w_args : argsFit about1.vm theMethod args0 = true := by decide +kernel
set_option maxRecDepth 65536 in
theorem w_heap : heapFits about1 = true := by decide +kernel
set_option maxRecDepth 65536 in
theorem w_runnable : about1.curStatus? = some .runnable := by decide +kernel
set_option maxRecDepth 65536 in
theorem w_alone : about1.alone = true := by decide +kernel
set_option maxRecDepth 65536 in
theorem w_named : about1.methodNamed? x = some theMethod := by decide +kernel
set_option maxRecDepth 65536 in
theorem w_hears : about1.hears theMethod below0 = true := by decide +kernel
set_option maxRecDepth 65536 in
theorem w_ripe : about1.ripe theMethod args0 below0 = true := by decide +kernel
theorem w_running : about1.status = .running := rfl
set_option maxRecDepth 65536 in
theorem w_room : about1.hasRoom e0.platform room_1 = true :=
  launch0.hasRoom_least _ room_1 (by decide +kernel) (by decide +kernel) (by decide +kernel) (by decide +kernel) (by decide +kernel) (by decide +kernel)
theorem allAtoms_all (ts : List Jvm.Cond) (a : Array Jvm.Value) (st : Jvm.State) : (allAtoms ts).before a st = ts.all (fun c => c.before a st) := by
  induction ts with
  | nil => rfl
  | cons c t ih =>
    show (Jvm.Cond.and c (allAtoms t)).before a st = _
    rw [Jvm.Cond.before_and, ih, List.all_cons]
def words1 : List Jvm.Cond := Jvm.Cond.code x code maxLocals ret :: tables_1
/-- a 'code' word, met by the world's own term for the bytes: nothing is compared byte by byte -/
theorem code_word {y : MethodName} {bytes : ByteArray} {mx : Nat} {rt : Option FieldType} {a : Array Value} {s : State} {m : MethodId} {meth : Method} {c : Code} (h1 : s.methodNamed? y = some m) (h2 : s.vm.method? m = some meth) (h3 : meth.code = some c) (h4 : c.code = bytes)
    (h5 : (c.maxLocals == mx && c.exceptionTable.isEmpty && decide (c.maxStack ≤ mostOperands) && decide (meth.sig.returnType = rt) && !meth.locks && decide (parseMethodDescriptor y.desc = some meth.sig)) = true) : (Jvm.Cond.code y bytes mx rt).before a s = true := by
  simp only [Bool.and_eq_true, beq_iff_eq, Bool.not_eq_true', decide_eq_true_eq] at h5
  obtain ⟨⟨⟨⟨⟨g1, g2⟩, g3⟩, g4⟩, g5⟩, g6⟩ := h5
  simp [Cond.before, Cond.holds, Cond.value, h1, h2, h3, h4, g1, g2, g3, g4, g5, g6]
def isCode : Jvm.Cond → Bool
  | .code _ _ _ _ => true
  | _ => false
theorem all_split {L : List Jvm.Cond} {P : Jvm.Cond → Bool} (h1 : L.all (fun c => isCode c || P c) = true) (h2 : ∀ c ∈ L.filter isCode, P c = true) : L.all P = true := by
  refine List.all_eq_true.mpr fun c hc => ?_
  have h := List.all_eq_true.mp h1 c hc
  rcases Bool.eq_false_or_eq_true (isCode c) with hi | hi
  · exact h2 c (List.mem_filter.mpr ⟨hc, hi⟩)
  · simpa [hi] using h
set_option maxRecDepth 65536 in
theorem w_c0 : (Jvm.Cond.code x code maxLocals ret).before args0 about1 = true := code_word (m := ⟨1, 1⟩) (meth := k1m1) (c := k1c1) (by decide +kernel) rfl rfl rfl (by decide +kernel)
set_option maxRecDepth 65536 in
theorem w_c1 : (Jvm.Cond.code ({ cls := "com/example/isomorph/isomorph/model/IntegerValue", name := "<init>", desc := "(J)V" } : Jvm.MethodName) prog_143_method_1_code (3 : Nat) (Option.none : Option Jvm.ClassFile.FieldType)).before args0 about1 = true := code_word (m := ⟨4, 0⟩) (meth := k4m0) (c := k4c0) (by decide +kernel) rfl rfl rfl (by decide +kernel)
set_option maxRecDepth 65536 in
theorem w_c2 : (Jvm.Cond.code ({ cls := "java/lang/Record", name := "<init>", desc := "()V" } : Jvm.MethodName) jdk_30_method_1_code (1 : Nat) (Option.none : Option Jvm.ClassFile.FieldType)).before args0 about1 = true := code_word (m := ⟨2, 0⟩) (meth := k2m0) (c := k2c0) (by decide +kernel) rfl rfl rfl (by decide +kernel)
set_option maxRecDepth 65536 in
theorem w_c3 : (Jvm.Cond.code ({ cls := "java/lang/Object", name := "<init>", desc := "()V" } : Jvm.MethodName) object_method_1_code (1 : Nat) (Option.none : Option Jvm.ClassFile.FieldType)).before args0 about1 = true := code_word (m := ⟨0, 0⟩) (meth := k0m0) (c := k0c0) (by decide +kernel) rfl rfl rfl (by decide +kernel)
set_option maxRecDepth 65536 in
theorem w_c4 : (Jvm.Cond.code ({ cls := "com/example/isomorph/isomorph/engine/Ordering", name := "isNumber", desc := "(Ljava/lang/Object;)Z" } : Jvm.MethodName) prog_126_method_8_code (1 : Nat) (Option.some Jvm.ClassFile.FieldType.boolean)).before args0 about1 = true := code_word (m := ⟨5, 1⟩) (meth := k5m1) (c := k5c1) (by decide +kernel) rfl rfl rfl (by decide +kernel)
set_option maxRecDepth 65536 in
theorem w_c5 : (Jvm.Cond.code ({ cls := "com/example/isomorph/isomorph/model/FloatValue", name := "<init>", desc := "(D)V" } : Jvm.MethodName) prog_136_method_1_code (3 : Nat) (Option.none : Option Jvm.ClassFile.FieldType)).before args0 about1 = true := code_word (m := ⟨6, 0⟩) (meth := k6m0) (c := k6c0) (by decide +kernel) rfl rfl rfl (by decide +kernel)
set_option maxRecDepth 65536 in
theorem w_c6 : (Jvm.Cond.code ({ cls := "java/lang/Long", name := "valueOf", desc := "(J)Ljava/lang/Long;" } : Jvm.MethodName) jdk_35_method_24_code (3 : Nat) (Option.some (Jvm.ClassFile.FieldType.object "java/lang/Long"))).before args0 about1 = true := code_word (m := ⟨12, 0⟩) (meth := k12m0) (c := k12c0) (by decide +kernel) rfl rfl rfl (by decide +kernel)
set_option maxRecDepth 65536 in
theorem w_c7 : (Jvm.Cond.code ({ cls := "java/lang/Long", name := "<init>", desc := "(J)V" } : Jvm.MethodName) jdk_35_method_26_code (3 : Nat) (Option.none : Option Jvm.ClassFile.FieldType)).before args0 about1 = true := code_word (m := ⟨12, 1⟩) (meth := k12m1) (c := k12c1) (by decide +kernel) rfl rfl rfl (by decide +kernel)
set_option maxRecDepth 65536 in
theorem w_c8 : (Jvm.Cond.code ({ cls := "java/lang/Number", name := "<init>", desc := "()V" } : Jvm.MethodName) jdk_18_method_1_code (1 : Nat) (Option.none : Option Jvm.ClassFile.FieldType)).before args0 about1 = true := code_word (m := ⟨8, 0⟩) (meth := k8m0) (c := k8c0) (by decide +kernel) rfl rfl rfl (by decide +kernel)
set_option maxRecDepth 65536 in
theorem w_c9 : (Jvm.Cond.code ({ cls := "java/lang/String", name := "valueOf", desc := "(C)Ljava/lang/String;" } : Jvm.MethodName) jdk_42_method_139_code (1 : Nat) (Option.some (Jvm.ClassFile.FieldType.object "java/lang/String"))).before args0 about1 = true := code_word (m := ⟨14, 1⟩) (meth := k14m1) (c := k14c1) (by decide +kernel) rfl rfl rfl (by decide +kernel)
set_option maxRecDepth 65536 in
theorem w_c10 : (Jvm.Cond.code ({ cls := "java/lang/StringLatin1", name := "canEncode", desc := "(C)Z" } : Jvm.MethodName) jdk_43_method_3_code (1 : Nat) (Option.some Jvm.ClassFile.FieldType.boolean)).before args0 about1 = true := code_word (m := ⟨15, 1⟩) (meth := k15m1) (c := k15c1) (by decide +kernel) rfl rfl rfl (by decide +kernel)
set_option maxRecDepth 65536 in
theorem w_c11 : (Jvm.Cond.code ({ cls := "java/lang/StringLatin1", name := "toBytes", desc := "(C)[B" } : Jvm.MethodName) jdk_43_method_46_code (1 : Nat) (Option.some (Jvm.ClassFile.FieldType.array Jvm.ClassFile.FieldType.byte))).before args0 about1 = true := code_word (m := ⟨15, 2⟩) (meth := k15m2) (c := k15c2) (by decide +kernel) rfl rfl rfl (by decide +kernel)
set_option maxRecDepth 65536 in
theorem w_c12 : (Jvm.Cond.code ({ cls := "java/lang/String", name := "<init>", desc := "([BB)V" } : Jvm.MethodName) jdk_42_method_151_code (3 : Nat) (Option.none : Option Jvm.ClassFile.FieldType)).before args0 about1 = true := code_word (m := ⟨14, 2⟩) (meth := k14m2) (c := k14c2) (by decide +kernel) rfl rfl rfl (by decide +kernel)
set_option maxRecDepth 65536 in
theorem w_c13 : (Jvm.Cond.code ({ cls := "java/util/ArrayList", name := "<init>", desc := "()V" } : Jvm.MethodName) jdk_38_method_2_code (1 : Nat) (Option.none : Option Jvm.ClassFile.FieldType)).before args0 about1 = true := code_word (m := ⟨24, 0⟩) (meth := k24m0) (c := k24c0) (by decide +kernel) rfl rfl rfl (by decide +kernel)
set_option maxRecDepth 65536 in
theorem w_c14 : (Jvm.Cond.code ({ cls := "java/util/AbstractList", name := "<init>", desc := "()V" } : Jvm.MethodName) jdk_39_method_1_code (1 : Nat) (Option.none : Option Jvm.ClassFile.FieldType)).before args0 about1 = true := code_word (m := ⟨21, 0⟩) (meth := k21m0) (c := k21c0) (by decide +kernel) rfl rfl rfl (by decide +kernel)
set_option maxRecDepth 65536 in
theorem w_c15 : (Jvm.Cond.code ({ cls := "java/util/AbstractCollection", name := "<init>", desc := "()V" } : Jvm.MethodName) jdk_22_method_1_code (1 : Nat) (Option.none : Option Jvm.ClassFile.FieldType)).before args0 about1 = true := code_word (m := ⟨18, 0⟩) (meth := k18m0) (c := k18c0) (by decide +kernel) rfl rfl rfl (by decide +kernel)
set_option maxRecDepth 65536 in
theorem w_c16 : (Jvm.Cond.code ({ cls := "java/util/ArrayList", name := "add", desc := "(Ljava/lang/Object;)Z" } : Jvm.MethodName) jdk_38_method_25_code (2 : Nat) (Option.some Jvm.ClassFile.FieldType.boolean)).before args0 about1 = true := code_word (m := ⟨24, 4⟩) (meth := k24m4) (c := k24c4) (by decide +kernel) rfl rfl rfl (by decide +kernel)
set_option maxRecDepth 65536 in
theorem w_c17 : (Jvm.Cond.code ({ cls := "java/util/ArrayList", name := "add", desc := "(Ljava/lang/Object;[Ljava/lang/Object;I)V" } : Jvm.MethodName) jdk_38_method_24_code (4 : Nat) (Option.none : Option Jvm.ClassFile.FieldType)).before args0 about1 = true := code_word (m := ⟨24, 3⟩) (meth := k24m3) (c := k24c3) (by decide +kernel) rfl rfl rfl (by decide +kernel)
set_option maxRecDepth 65536 in
theorem w_c18 : (Jvm.Cond.code ({ cls := "java/util/ArrayList", name := "grow", desc := "()[Ljava/lang/Object;" } : Jvm.MethodName) jdk_38_method_7_code (1 : Nat) (Option.some (Jvm.ClassFile.FieldType.array (Jvm.ClassFile.FieldType.object "java/lang/Object")))).before args0 about1 = true := code_word (m := ⟨24, 2⟩) (meth := k24m2) (c := k24c2) (by decide +kernel) rfl rfl rfl (by decide +kernel)
set_option maxRecDepth 65536 in
theorem w_c19 : (Jvm.Cond.code ({ cls := "java/util/ArrayList", name := "grow", desc := "(I)[Ljava/lang/Object;" } : Jvm.MethodName) jdk_38_method_6_code (4 : Nat) (Option.some (Jvm.ClassFile.FieldType.array (Jvm.ClassFile.FieldType.object "java/lang/Object")))).before args0 about1 = true := code_word (m := ⟨24, 1⟩) (meth := k24m1) (c := k24c1) (by decide +kernel) rfl rfl rfl (by decide +kernel)
set_option maxRecDepth 65536 in
theorem w_c20 : (Jvm.Cond.code ({ cls := "java/lang/Math", name := "max", desc := "(II)I" } : Jvm.MethodName) jdk_29_method_65_code (2 : Nat) (Option.some Jvm.ClassFile.FieldType.int)).before args0 about1 = true := code_word (m := ⟨25, 1⟩) (meth := k25m1) (c := k25c1) (by decide +kernel) rfl rfl rfl (by decide +kernel)
def codes1 : List Jvm.Cond := [Jvm.Cond.code x code maxLocals ret, Jvm.Cond.code ({ cls := "com/example/isomorph/isomorph/model/IntegerValue", name := "<init>", desc := "(J)V" } : Jvm.MethodName) prog_143_method_1_code (3 : Nat) (Option.none : Option Jvm.ClassFile.FieldType), Jvm.Cond.code ({ cls := "java/lang/Record", name := "<init>", desc := "()V" } : Jvm.MethodName) jdk_30_method_1_code (1 : Nat) (Option.none : Option Jvm.ClassFile.FieldType), Jvm.Cond.code ({ cls := "java/lang/Object", name := "<init>", desc := "()V" } : Jvm.MethodName) object_method_1_code (1 : Nat) (Option.none : Option Jvm.ClassFile.FieldType), Jvm.Cond.code ({ cls := "com/example/isomorph/isomorph/engine/Ordering", name := "isNumber", desc := "(Ljava/lang/Object;)Z" } : Jvm.MethodName) prog_126_method_8_code (1 : Nat) (Option.some Jvm.ClassFile.FieldType.boolean), Jvm.Cond.code ({ cls := "com/example/isomorph/isomorph/model/FloatValue", name := "<init>", desc := "(D)V" } : Jvm.MethodName) prog_136_method_1_code (3 : Nat) (Option.none : Option Jvm.ClassFile.FieldType), Jvm.Cond.code ({ cls := "java/lang/Long", name := "valueOf", desc := "(J)Ljava/lang/Long;" } : Jvm.MethodName) jdk_35_method_24_code (3 : Nat) (Option.some (Jvm.ClassFile.FieldType.object "java/lang/Long")), Jvm.Cond.code ({ cls := "java/lang/Long", name := "<init>", desc := "(J)V" } : Jvm.MethodName) jdk_35_method_26_code (3 : Nat) (Option.none : Option Jvm.ClassFile.FieldType), Jvm.Cond.code ({ cls := "java/lang/Number", name := "<init>", desc := "()V" } : Jvm.MethodName) jdk_18_method_1_code (1 : Nat) (Option.none : Option Jvm.ClassFile.FieldType), Jvm.Cond.code ({ cls := "java/lang/String", name := "valueOf", desc := "(C)Ljava/lang/String;" } : Jvm.MethodName) jdk_42_method_139_code (1 : Nat) (Option.some (Jvm.ClassFile.FieldType.object "java/lang/String")), Jvm.Cond.code ({ cls := "java/lang/StringLatin1", name := "canEncode", desc := "(C)Z" } : Jvm.MethodName) jdk_43_method_3_code (1 : Nat) (Option.some Jvm.ClassFile.FieldType.boolean), Jvm.Cond.code ({ cls := "java/lang/StringLatin1", name := "toBytes", desc := "(C)[B" } : Jvm.MethodName) jdk_43_method_46_code (1 : Nat) (Option.some (Jvm.ClassFile.FieldType.array Jvm.ClassFile.FieldType.byte)), Jvm.Cond.code ({ cls := "java/lang/String", name := "<init>", desc := "([BB)V" } : Jvm.MethodName) jdk_42_method_151_code (3 : Nat) (Option.none : Option Jvm.ClassFile.FieldType), Jvm.Cond.code ({ cls := "java/util/ArrayList", name := "<init>", desc := "()V" } : Jvm.MethodName) jdk_38_method_2_code (1 : Nat) (Option.none : Option Jvm.ClassFile.FieldType), Jvm.Cond.code ({ cls := "java/util/AbstractList", name := "<init>", desc := "()V" } : Jvm.MethodName) jdk_39_method_1_code (1 : Nat) (Option.none : Option Jvm.ClassFile.FieldType), Jvm.Cond.code ({ cls := "java/util/AbstractCollection", name := "<init>", desc := "()V" } : Jvm.MethodName) jdk_22_method_1_code (1 : Nat) (Option.none : Option Jvm.ClassFile.FieldType), Jvm.Cond.code ({ cls := "java/util/ArrayList", name := "add", desc := "(Ljava/lang/Object;)Z" } : Jvm.MethodName) jdk_38_method_25_code (2 : Nat) (Option.some Jvm.ClassFile.FieldType.boolean), Jvm.Cond.code ({ cls := "java/util/ArrayList", name := "add", desc := "(Ljava/lang/Object;[Ljava/lang/Object;I)V" } : Jvm.MethodName) jdk_38_method_24_code (4 : Nat) (Option.none : Option Jvm.ClassFile.FieldType), Jvm.Cond.code ({ cls := "java/util/ArrayList", name := "grow", desc := "()[Ljava/lang/Object;" } : Jvm.MethodName) jdk_38_method_7_code (1 : Nat) (Option.some (Jvm.ClassFile.FieldType.array (Jvm.ClassFile.FieldType.object "java/lang/Object"))), Jvm.Cond.code ({ cls := "java/util/ArrayList", name := "grow", desc := "(I)[Ljava/lang/Object;" } : Jvm.MethodName) jdk_38_method_6_code (4 : Nat) (Option.some (Jvm.ClassFile.FieldType.array (Jvm.ClassFile.FieldType.object "java/lang/Object"))), Jvm.Cond.code ({ cls := "java/lang/Math", name := "max", desc := "(II)I" } : Jvm.MethodName) jdk_29_method_65_code (2 : Nat) (Option.some Jvm.ClassFile.FieldType.int)]
set_option maxRecDepth 65536 in
theorem codes_eq : words1.filter isCode = codes1 := rfl
theorem w_codes : ∀ c ∈ words1.filter isCode, c.before args0 about1 = true := by
  rw [codes_eq]
  intro c hc
  simp only [codes1, List.mem_cons, List.not_mem_nil, or_false] at hc
  rcases hc with rfl | rfl | rfl | rfl | rfl | rfl | rfl | rfl | rfl | rfl | rfl | rfl | rfl | rfl | rfl | rfl | rfl | rfl | rfl | rfl | rfl
  · exact w_c0
  · exact w_c1
  · exact w_c2
  · exact w_c3
  · exact w_c4
  · exact w_c5
  · exact w_c6
  · exact w_c7
  · exact w_c8
  · exact w_c9
  · exact w_c10
  · exact w_c11
  · exact w_c12
  · exact w_c13
  · exact w_c14
  · exact w_c15
  · exact w_c16
  · exact w_c17
  · exact w_c18
  · exact w_c19
  · exact w_c20
set_option maxRecDepth 65536 in
theorem w_t1 : (words1.take 24).all (fun c => isCode c || c.before args0 about1) = true := by decide +kernel
set_option maxRecDepth 65536 in
theorem w_t2 : ((words1.drop 24).take 24).all (fun c => isCode c || c.before args0 about1) = true := by decide +kernel
set_option maxRecDepth 65536 in
theorem w_t3 : (((words1.drop 24).drop 24).take 24).all (fun c => isCode c || c.before args0 about1) = true := by decide +kernel
set_option maxRecDepth 65536 in
theorem w_t4 : ((((words1.drop 24).drop 24).drop 24).take 24).all (fun c => isCode c || c.before args0 about1) = true := by decide +kernel
set_option maxRecDepth 65536 in
theorem w_t5 : (((((words1.drop 24).drop 24).drop 24).drop 24).take 24).all (fun c => isCode c || c.before args0 about1) = true := by decide +kernel
set_option maxRecDepth 65536 in
theorem w_t6 : ((((((words1.drop 24).drop 24).drop 24).drop 24).drop 24).take 24).all (fun c => isCode c || c.before args0 about1) = true := by decide +kernel
set_option maxRecDepth 65536 in
theorem w_t7 : ((((((words1.drop 24).drop 24).drop 24).drop 24).drop 24).drop 24).all (fun c => isCode c || c.before args0 about1) = true := by decide +kernel
theorem w_tables : (allAtoms (Jvm.Cond.code x code maxLocals ret :: tables_1)).before args0 about1 = true := by
  rw [allAtoms_all]
  show words1.all (fun c => c.before args0 about1) = true
  refine all_split ?_ w_codes
  rw [← List.take_append_drop 24 words1, List.all_append, w_t1, ← List.take_append_drop 24 (words1.drop 24), List.all_append, w_t2, ← List.take_append_drop 24 ((words1.drop 24).drop 24), List.all_append, w_t3, ← List.take_append_drop 24 (((words1.drop 24).drop 24).drop 24), List.all_append, w_t4, ← List.take_append_drop 24 ((((words1.drop 24).drop 24).drop 24).drop 24), List.all_append, w_t5, ← List.take_append_drop 24 (((((words1.drop 24).drop 24).drop 24).drop 24).drop 24), List.all_append, w_t6, w_t7]
  rfl
set_option maxRecDepth 65536 in
theorem w_rest : rest_1_c.before args0 about1 = true := by decide +kernel
set_option maxRecDepth 65536 in
theorem w_case : (Jvm.Cond.and given_1 narrow_1).before args0 about1 = true := by decide +kernel
theorem w_applies : (headSpec (Jvm.Cond.code x code maxLocals ret :: tables_1) room_1).applies x e0.platform about1 = true :=
  (Spec.applies_iff w_frames).mpr ⟨w_running, w_runnable, w_alone, w_named, w_hears, w_ripe, w_room, w_tables⟩
theorem atStart : AtStart classFile x code maxLocals ret World_1 tables_1 room_1 Calls_1 rest_1 Pre_1 launch0 p0 e0 about1 theMethod args0 below0 :=
  ⟨lists_1, trivial, launch0.admits_env _ _ _, launch0.least_env, fairChoices_fair.cas, fairChoices_fair.clock, w_frames, w_args, w_heap, w_applies, trivial, w_rest, w_case⟩
end start1
theorem witness_1 : WitnessClaimed_1 := ⟨start1.p0, start1.e0, start1.about1, start1.theMethod, start1.args0, start1.below0, start1.atStart⟩
end Jvm.Pilot.@@N@@

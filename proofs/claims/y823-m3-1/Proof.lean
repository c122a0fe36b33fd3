import JvmDerived
import JvmDerived.Pilot.@@N@@Statement
import JvmDerived.Pilot.@@N@@Code
set_option linter.unusedVariables false
set_option linter.unusedSimpArgs false
namespace Jvm.Pilot.@@N@@
section OwnFP
open Jvm.FP Jvm.FP.Core Jvm.Free.Fl
/-- what x stands for, in units of the least double -/
def own_zv (x : UInt64) : Int := zval b64 (val64 x)
/-- x is finite and stands for a / 2^k -/
def Dy (x : UInt64) (a : Int) (k : Nat) : Prop := DFin x ∧ own_zv x * ((2 ^ k : Nat) : Int) = a * (one64 : Int)
theorem Dy.nn {x : UInt64} {a : Int} {k : Nat} (h : Dy x a k) : NoNaN64 x := (fin64_core.mpr h.1).noNaN
theorem own_pp (k : Nat) : (0 : Int) < ((2 ^ k : Nat) : Int) := Int.natCast_pos.mpr (Nat.two_pow_pos k)
theorem own_up : (0 : Int) < (one64 : Int) := Int.natCast_pos.mpr one64_pos
theorem own_signed_abs (a : Int) : signed (decide (a < 0)) a.natAbs = a := by
  unfold signed
  by_cases h : a < 0
  · simp [h]; omega
  · simp [h]; omega
theorem own_datum (a : Int) (n : Nat) (ha : a.natAbs < 2 ^ 53) (hn : n ≤ 1074) : ∃ V : Datum, Core.fits b64 V ∧ V ≠ .nan ∧ zval b64 V = a * ((2 ^ n : Nat) : Int) := by
  have hq : b64.qmin = -1074 := qmin_b64
  have hqx : b64.qmax = 971 := by decide
  obtain ⟨c', q', hr, hu⟩ := round_exact good_b64 (decide (a < 0)) (c := a.natAbs) (q := (n : Int) - 1074) ha (by rw [hq]; omega) (by rw [hqx]; omega)
  have hV := round_fits good_b64 (.fin (decide (a < 0)) a.natAbs ((n : Int) - 1074))
  rw [hr] at hV
  refine ⟨_, hV, by simp, ?_⟩
  show signed (decide (a < 0)) (inUnits c' q' b64.qmin) = _
  rw [hu]
  unfold inUnits
  rw [signed_mul, own_signed_abs, hq, show (((n : Int) - 1074) - -1074).toNat = n by omega]
theorem own_notinf {a : Int} {n : Nat} {t : Bool} (ha : a.natAbs < 2 ^ 53) (hn : n ≤ 1074) : ¬ zval b64 (.inf t) = a * ((2 ^ n : Nat) : Int) := by
  intro e
  have q := congrArg Int.natAbs e
  rw [show zval b64 (.inf t) = signed t (b64.tails * 2 ^ (b64.exps - 2)) from rfl, natAbs_signed, Int.natAbs_mul, Int.natAbs_natCast] at q
  have l1 : a.natAbs * 2 ^ n < 2 ^ 53 * 2 ^ 1074 := Nat.mul_lt_mul_of_lt_of_le ha (Nat.pow_le_pow_right (by decide) hn) (Nat.two_pow_pos _)
  have l2 : 2 ^ 53 * 2 ^ 1074 < b64.tails * 2 ^ (b64.exps - 2) := by
    rw [tails_b64, show b64.exps - 2 = 2046 by decide, ← Nat.pow_add, ← Nat.pow_add]
    exact Nat.pow_lt_pow_right (by decide) (by decide)
  exact Nat.lt_irrefl _ (Nat.lt_trans l2 (by rw [q]; exact l1))
theorem own_round {s : Bool} {c : Nat} {q e0 a : Int} {k : Nat} (ha : a.natAbs < 2 ^ 53) (hk : k ≤ 1074) (h0 : e0 ≤ -1074) (h0e : e0 ≤ q)
    (h : signed s (inUnits c q e0) * ((2 ^ k : Nat) : Int) = a * ((2 ^ (-e0).toNat : Nat) : Int)) :
    (∃ s' c' q', round b64 (.fin s c q) = .fin s' c' q') ∧ zval b64 (round b64 (.fin s c q)) * ((2 ^ k : Nat) : Int) = a * (one64 : Int) := by
  have hq : b64.qmin = -1074 := qmin_b64
  obtain ⟨V, hV, hVn, hz⟩ := own_datum a (1074 - k) ha (by omega)
  have hs : zval b64 V * ((2 ^ (b64.qmin - e0).toNat : Nat) : Int) = signed s (inUnits c q e0) := by
    apply Int.eq_of_mul_eq_mul_right (a := ((2 ^ k : Nat) : Int)) (Int.ne_of_gt (own_pp k))
    rw [h, hz, hq, Int.mul_assoc, Int.mul_assoc, ← Int.natCast_mul, ← Int.natCast_mul, ← Nat.pow_add, ← Nat.pow_add]
    rw [show 1074 - k + ((-1074 - e0).toNat + k) = (-e0).toNat by omega]
  have le := zval_round_le good_b64 (s := s) (c := c) (q := q) (e0 := e0) hV hVn (by rw [hq]; exact h0) h0e (by rw [hs]; exact Int.le_refl _)
  have ge := zval_round_ge good_b64 (s := s) (c := c) (q := q) (e0 := e0) hV hVn (by rw [hq]; exact h0) h0e (by rw [hs]; exact Int.le_refl _)
  have e : zval b64 (round b64 (.fin s c q)) = a * ((2 ^ (1074 - k) : Nat) : Int) := by rw [← hz]; exact Int.le_antisymm le ge
  refine ⟨?_, by rw [e, Int.mul_assoc, ← Int.natCast_mul, ← Nat.pow_add, show 1074 - k + k = 1074 by omega]; rfl⟩
  cases hc : round b64 (.fin s c q) with
  | nan => exact absurd hc (roundRatio_ne_nan _ _ _ _ _)
  | fin s' c' q' => exact ⟨_, _, _, rfl⟩
  | inf t => rw [hc] at e; exact absurd e (own_notinf ha (by omega))
theorem Dy.add {x y : UInt64} {a b : Int} {k : Nat} (hx : Dy x a k) (hy : Dy y b k) (h : (a + b).natAbs < 2 ^ 53) (hk : k ≤ 1074) : Dy (FP.dadd x y) (a + b) k := by
  obtain ⟨⟨s, c, q, ex⟩, zx⟩ := hx
  obtain ⟨⟨t, d, r, ey⟩, zy⟩ := hy
  have fx := val64_fits x
  have fy := val64_fits y
  unfold own_zv at zx zy
  rw [ex] at fx zx
  rw [ey] at fy zy
  obtain ⟨sg, n, e, hs, he, hv⟩ := sum_units fx fy
  have hd : val64 (FP.dadd x y) = round b64 (.fin sg n e) := by rw [show FP.dadd x y = Core.dadd x y from rfl, val64_dadd, ex, ey, hs]
  obtain ⟨⟨s', c', q', h1⟩, h2⟩ := own_round (s := sg) (c := n) (q := e) (e0 := b64.qmin) (a := a + b) (k := k) h hk (Int.le_of_eq qmin_b64) he (by rw [hv, Int.add_mul, zx, zy, ← Int.add_mul, pow_qmin64])
  exact ⟨⟨s', c', q', hd.trans h1⟩, by unfold own_zv; rw [hd]; exact h2⟩
theorem Dy.sub {x y : UInt64} {a b : Int} {k : Nat} (hx : Dy x a k) (hy : Dy y b k) (h : (a - b).natAbs < 2 ^ 53) (hk : k ≤ 1074) : Dy (FP.dsub x y) (a - b) k := by
  obtain ⟨⟨s, c, q, ex⟩, zx⟩ := hx
  obtain ⟨⟨t, d, r, ey⟩, zy⟩ := hy
  have fx := val64_fits x
  have fy := negate_fits (val64_fits y)
  have zn := zval_negate b64 (val64 y)
  unfold own_zv at zx zy
  rw [ex] at fx zx
  rw [ey] at fy zy zn
  have fy' : Core.fits b64 (.fin (!t) d r) := fy
  have zn' : zval b64 (.fin (!t) d r) = -zval b64 (.fin t d r) := zn
  obtain ⟨sg, n, e, hs, he, hv⟩ := sum_units fx fy'
  have hd : val64 (FP.dsub x y) = round b64 (.fin sg n e) := by
    rw [show FP.dsub x y = Core.dsub x y from rfl, val64_dsub, ex, ey]
    exact congrArg (round b64) hs
  obtain ⟨⟨s', c', q', h1⟩, h2⟩ := own_round (s := sg) (c := n) (q := e) (e0 := b64.qmin) (a := a - b) (k := k) h hk (Int.le_of_eq qmin_b64) he (by rw [hv, zn', Int.add_mul, Int.neg_mul, zx, zy, ← Int.sub_eq_add_neg, ← Int.sub_mul, pow_qmin64])
  exact ⟨⟨s', c', q', hd.trans h1⟩, by unfold own_zv; rw [hd]; exact h2⟩
theorem own_two_qmin : 2 ^ (-(2 * b64.qmin)).toNat = one64 * one64 := by
  rw [show (-(2 * b64.qmin)).toNat = (-b64.qmin).toNat + (-b64.qmin).toNat by rw [qmin_b64]; decide, Nat.pow_add, pow_qmin64]
theorem Dy.mul {x y : UInt64} {a b : Int} {k j : Nat} (hx : Dy x a k) (hy : Dy y b j) (h : (a * b).natAbs < 2 ^ 53) (hk : k + j ≤ 1074) : Dy (FP.dmul x y) (a * b) (k + j) := by
  obtain ⟨⟨s, c, q, ex⟩, zx⟩ := hx
  obtain ⟨⟨t, d, r, ey⟩, zy⟩ := hy
  have fx := val64_fits x
  have fy := val64_fits y
  unfold own_zv at zx zy
  rw [ex] at fx zx
  rw [ey] at fy zy
  obtain ⟨hp, he, hv⟩ := product_units fx fy
  have hd : val64 (FP.dmul x y) = round b64 (.fin (s != t) (c * d) (q + r)) := by rw [show FP.dmul x y = Core.dmul x y from rfl, val64_dmul, ex, ey, hp]
  have hg : signed (s != t) (inUnits (c * d) (q + r) (2 * b64.qmin)) = zval b64 (.fin s c q) * zval b64 (.fin t d r) := by rw [hv, signed_xor]; rfl
  obtain ⟨⟨s', c', q', h1⟩, h2⟩ := own_round (s := s != t) (c := c * d) (q := q + r) (e0 := 2 * b64.qmin) (a := a * b) (k := k + j) h hk (by rw [qmin_b64]; decide) he (by
    rw [hg, own_two_qmin, Nat.pow_add, Int.natCast_mul, Int.natCast_mul]
    rw [show ∀ A B P Q : Int, A * B * (P * Q) = (A * P) * (B * Q) from fun A B P Q => by ac_rfl, zx, zy]
    exact (fun A B P : Int => by ac_rfl : ∀ A B P : Int, A * P * (B * P) = A * B * (P * P)) _ _ _)
  exact ⟨⟨s', c', q', hd.trans h1⟩, by unfold own_zv; rw [hd]; exact h2⟩
theorem own_units {c : Nat} {q r e0 : Int} (hq : b64.qmin ≤ q) (hr : b64.qmin ≤ r) (h1 : e0 ≤ q - r) (h2 : e0 ≤ b64.qmin) :
    inUnits c (q - r) e0 * 2 ^ (r - b64.qmin).toNat = inUnits c q b64.qmin * one64 * 2 ^ (b64.qmin - e0).toNat := by
  unfold inUnits one64
  rw [qmin_b64] at *
  rw [Nat.mul_assoc, ← Nat.pow_add, Nat.mul_assoc, Nat.mul_assoc, ← Nat.pow_add, ← Nat.pow_add]
  rw [show (q - r - e0).toNat + (r - -1074).toNat = (q - -1074).toNat + (1074 + (-1074 - e0).toNat) by omega]
theorem own_ddiv {x y : UInt64} {s t : Bool} {c d : Nat} {q r : Int} (ex : val64 x = .fin s c q) (ey : val64 y = .fin t d r) (hd : d ≠ 0) : val64 (FP.ddiv x y) = roundRatio b64 (s != t) c d (q - r) := by
  rw [show FP.ddiv x y = Core.ddiv x y from rfl, val64_ddiv, ex, ey]
  simp [quotient, hd]
theorem own_div_le {x y : UInt64} {s t : Bool} {c d : Nat} {q r : Int} (ex : val64 x = .fin s c q) (ey : val64 y = .fin t d r) (hd : d ≠ 0) {V : Datum} (hV : Core.fits b64 V) (hn : V ≠ .nan)
    (h : zmag b64 (val64 x) * one64 ≤ zmag b64 V * zmag b64 (val64 y)) : zmag b64 (val64 (FP.ddiv x y)) ≤ zmag b64 V := by
  have fx := val64_fits x
  have fy := val64_fits y
  rw [ex] at fx h
  rw [ey] at fy h
  rw [own_ddiv ex ey hd]
  refine zmag_roundRatio_le good_b64 (e0 := min (q - r) b64.qmin) (Nat.pos_of_ne_zero hd) hV hn (Int.min_le_right _ _) (Int.min_le_left _ _) ?_
  refine Nat.le_of_mul_le_mul_right (c := 2 ^ (r - b64.qmin).toNat) ?_ (Nat.two_pow_pos _)
  rw [own_units fx.2.1 fy.2.1 (Int.min_le_left _ _) (Int.min_le_right _ _)]
  refine Nat.le_trans (Nat.mul_le_mul_right _ h) (Nat.le_of_eq ?_)
  show zmag b64 V * inUnits d r b64.qmin * _ = _
  unfold inUnits
  exact (fun A B P Q : Nat => by ac_rfl : ∀ A B P Q : Nat, A * (B * P) * Q = A * Q * B * P) _ _ _ _
theorem own_div_ge {x y : UInt64} {s t : Bool} {c d : Nat} {q r : Int} (ex : val64 x = .fin s c q) (ey : val64 y = .fin t d r) (hd : d ≠ 0) {V : Datum} (hV : Core.fits b64 V)
    (h : zmag b64 V * zmag b64 (val64 y) ≤ zmag b64 (val64 x) * one64) : zmag b64 V ≤ zmag b64 (val64 (FP.ddiv x y)) := by
  have fx := val64_fits x
  have fy := val64_fits y
  rw [ex] at fx h
  rw [ey] at fy h
  rw [own_ddiv ex ey hd]
  refine zmag_roundRatio_ge good_b64 (e0 := min (q - r) b64.qmin) (Nat.pos_of_ne_zero hd) hV (Int.min_le_right _ _) (Int.min_le_left _ _) ?_
  refine Nat.le_of_mul_le_mul_right (c := 2 ^ (r - b64.qmin).toNat) ?_ (Nat.two_pow_pos _)
  rw [own_units fx.2.1 fy.2.1 (Int.min_le_left _ _) (Int.min_le_right _ _)]
  refine Nat.le_trans (Nat.le_of_eq ?_) (Nat.mul_le_mul_right _ h)
  show _ = zmag b64 V * inUnits d r b64.qmin * _
  unfold inUnits
  exact (fun A B P Q : Nat => by ac_rfl : ∀ A B P Q : Nat, A * Q * B * P = A * (B * P) * Q) _ _ _ _
theorem own_zval_abs (d : Datum) : (zval b64 d).natAbs = zmag b64 d := by unfold zval; exact natAbs_signed _ _
theorem Dy.div {x y : UInt64} {a b m : Int} {k j n : Nat} (hx : Dy x a k) (hy : Dy y b j) (hb : b ≠ 0) (hm : m.natAbs < 2 ^ 53) (hn : n ≤ 1074)
    (h : a * ((2 ^ j : Nat) : Int) * ((2 ^ n : Nat) : Int) = m * b * ((2 ^ k : Nat) : Int)) : Dy (FP.ddiv x y) m n := by
  obtain ⟨⟨s, c, q, ex⟩, zx⟩ := hx
  obtain ⟨⟨t, d, r, ey⟩, zy⟩ := hy
  unfold own_zv at zx zy
  obtain ⟨V, hV, hVn, hz⟩ := own_datum m (1074 - n) hm (by omega)
  have hzn : zval b64 V * ((2 ^ n : Nat) : Int) = m * (one64 : Int) := by rw [hz, Int.mul_assoc, ← Int.natCast_mul, ← Nat.pow_add, show 1074 - n + n = 1074 by omega]; rfl
  have hyn : zval b64 (val64 y) ≠ 0 := fun e => by
    rw [e, Int.zero_mul] at zy
    rcases Int.mul_eq_zero.mp zy.symm with q | q
    · exact hb q
    · exact absurd q (Int.ne_of_gt own_up)
  have hd : d ≠ 0 := fun e => by
    subst e
    rw [ey] at hyn
    exact hyn (by show signed t (inUnits 0 r b64.qmin) = 0; unfold inUnits; rw [Nat.zero_mul, signed_zero])
  have key : zval b64 V * zval b64 (val64 y) = zval b64 (val64 x) * (one64 : Int) := by
    have e1 : (zval b64 V * zval b64 (val64 y)) * (((2 ^ n : Nat) : Int) * ((2 ^ j : Nat) : Int) * ((2 ^ k : Nat) : Int)) = (zval b64 (val64 x) * (one64 : Int)) * (((2 ^ n : Nat) : Int) * ((2 ^ j : Nat) : Int) * ((2 ^ k : Nat) : Int)) := by
      rw [(fun A B P Q R : Int => by ac_rfl : ∀ A B P Q R : Int, A * B * (P * Q * R) = (A * P) * (B * Q) * R), hzn, zy,
        (fun A B P Q R : Int => by ac_rfl : ∀ A B P Q R : Int, A * B * (P * Q * R) = (A * R) * (B * P * Q)) (zval b64 (val64 x)), zx,
        (fun M B U K : Int => by ac_rfl : ∀ M B U K : Int, M * U * (B * U) * K = (M * B * K) * (U * U)), ← h]
      exact (fun A U P Q : Int => by ac_rfl : ∀ A U P Q : Int, A * Q * P * (U * U) = A * U * (U * P * Q)) _ _ _ _
    exact Int.eq_of_mul_eq_mul_right (Int.ne_of_gt (Int.mul_pos (Int.mul_pos (own_pp n) (own_pp j)) (own_pp k))) e1
  have kn : zmag b64 V * zmag b64 (val64 y) = zmag b64 (val64 x) * one64 := by
    have q := congrArg Int.natAbs key
    rw [Int.natAbs_mul, Int.natAbs_mul, own_zval_abs, own_zval_abs, own_zval_abs, Int.natAbs_natCast] at q
    exact q
  have le := own_div_le ex ey hd hV hVn (Nat.le_of_eq kn.symm)
  have ge := own_div_ge ex ey hd hV (Nat.le_of_eq kn)
  have em : zmag b64 (val64 (FP.ddiv x y)) = zmag b64 V := Nat.le_antisymm le ge
  have er := own_ddiv ex ey hd
  have es : sgn (val64 (FP.ddiv x y)) = (s != t) := by rw [er, sgn_roundRatio]
  have prod : zval b64 (val64 (FP.ddiv x y)) * zval b64 (val64 y) = zval b64 (val64 x) * (one64 : Int) := by
    unfold zval
    rw [es, em, ← signed_xor, kn, signed_mul, ex, ey]
    show signed ((s != t) != t) _ * _ = signed s _ * _
    rw [show ((s != t) != t) = s by cases s <;> cases t <;> rfl]
  have eq : zval b64 (val64 (FP.ddiv x y)) = zval b64 V := Int.eq_of_mul_eq_mul_right hyn (prod.trans key.symm)
  refine ⟨?_, by unfold own_zv; rw [eq]; exact hzn⟩
  cases hc : val64 (FP.ddiv x y) with
  | nan => exact absurd (er.symm.trans hc) (roundRatio_ne_nan _ _ _ _ _)
  | fin s' c' q' => exact ⟨_, _, _, hc⟩
  | inf t => rw [hc, hz] at eq; exact absurd eq (own_notinf hm (by omega))
theorem own_ofInt {x : UInt64} {i : Int} (hx : val64 x = round b64 (ofInt i)) (h : i.natAbs < 2 ^ 53) : Dy x i 0 := by
  obtain ⟨⟨s', c', q', h1⟩, h2⟩ := own_round (s := decide (i < 0)) (c := i.natAbs) (q := 0) (e0 := b64.qmin) (a := i) (k := 0) h (by decide) (Int.le_of_eq qmin_b64) (by rw [qmin_b64]; decide) (by
    unfold inUnits
    rw [signed_mul, own_signed_abs, show (0 - b64.qmin) = -b64.qmin by omega, pow_qmin64]; simp)
  exact ⟨⟨s', c', q', hx.trans h1⟩, by unfold own_zv; rw [hx]; exact h2⟩
theorem Dy.i2d (v : Int32) : Dy (FP.i2d v) v.toInt 0 := own_ofInt (val64_i2d v) (by have h1 := Int32.toInt_lt v; have h2 := Int32.le_toInt v; omega)
theorem Dy.l2d {v : Int64} (h : v.toInt.natAbs < 2 ^ 53) : Dy (FP.l2d v) v.toInt 0 := own_ofInt (val64_l2d v) h
theorem Dy.lit {x : UInt64} {a : Int} {k : Nat} (s : Bool) (c : Nat) (q : Int) (h : val64 x = .fin s c q) (h2 : signed s (inUnits c q b64.qmin) * ((2 ^ k : Nat) : Int) = a * (one64 : Int)) : Dy x a k :=
  ⟨⟨s, c, q, h⟩, by unfold own_zv; rw [h]; exact h2⟩
theorem Dy.up {x : UInt64} {a : Int} {k : Nat} (i : Nat) (h : Dy x a k) : Dy x (a * ((2 ^ i : Nat) : Int)) (k + i) :=
  ⟨h.1, by rw [Nat.pow_add, Int.natCast_mul, ← Int.mul_assoc, h.2]; exact (fun A B C : Int => by ac_rfl : ∀ A B C : Int, A * B * C = A * C * B) _ _ _⟩
theorem Dy.cast {x : UInt64} {a b : Int} {k j : Nat} (h : Dy x a k) (e : a = b) (e2 : k = j) : Dy x b j := e ▸ e2 ▸ h
/-- the int that dcmpl and dcmpg push for two numbers -/
def own_ci (a b : Int) : Int32 := if a < b then -1 else if a = b then 0 else 1
theorem own_ci_lt {a b : Int} : own_ci a b < 0 ↔ a < b := by unfold own_ci; split <;> (try split) <;> simp_all <;> omega
theorem own_ci_gt {a b : Int} : 0 < own_ci a b ↔ b < a := by unfold own_ci; split <;> (try split) <;> simp_all <;> omega
theorem own_ci_eq {a b : Int} : own_ci a b = 0 ↔ a = b := by unfold own_ci; split <;> (try split) <;> simp_all <;> omega
theorem own_dcmp {x y : UInt64} (hx : DFin x) (hy : DFin y) : FP.dcmp x y = some (compare (own_zv x) (own_zv y)) := by
  obtain ⟨s, c, q, ex⟩ := hx
  obtain ⟨t, d, r, ey⟩ := hy
  exact order_zval good_b64 (val64_fits x) (val64_fits y) (fun e => by cases ex.symm.trans e) (fun e => by cases ey.symm.trans e)
theorem Dy.dcmp {x y : UInt64} {a b : Int} {k : Nat} (hx : Dy x a k) (hy : Dy y b k) : FP.dcmp x y = some (compare a b) := by
  rw [own_dcmp hx.1 hy.1]
  congr 1
  refine compare_congr ?_ ?_
  · rw [← Int.mul_lt_mul_right (own_pp k), hx.2, hy.2, Int.mul_lt_mul_right own_up]
  · constructor
    · intro e
      have q := hx.2
      rw [e, hy.2] at q
      exact (Int.eq_of_mul_eq_mul_right (Int.ne_of_gt own_up) q).symm
    · intro e
      have q := hx.2
      rw [e, ← hy.2] at q
      exact Int.eq_of_mul_eq_mul_right (Int.ne_of_gt (own_pp k)) q
theorem Dy.cmp {x y : UInt64} {a b : Int} {k : Nat} (hx : Dy x a k) (hy : Dy y b k) (o : Jvm.ClassFile.CmpOp) : Jvm.Op.cmpValue (FP.dcmp x y) o = own_ci a b := by
  rw [hx.dcmp hy]
  unfold own_ci
  show Jvm.Op.cmpValue (some (compareOfLessAndEq a b)) o = _
  unfold compareOfLessAndEq
  by_cases h1 : a < b
  · simp [h1]; cases o <;> rfl
  · by_cases h2 : a = b
    · simp [h2]; cases o <;> rfl
    · simp [h1, h2]; cases o <;> rfl
end OwnFP
end Jvm.Pilot.@@N@@
namespace Jvm.Pilot.@@N@@
open Jvm Jvm.ClassFile Sem Op Lib Jvm.Free Jvm.Stand Jvm.LawKit Jvm.RoadKit Jvm.Free.Fl Bundle Jvm.Pilot.@@N@@.Jvm.D
/-- the run from A ends, and what it leaves meets F -/
def Rn (p : Program) (e : Env) (below : List Frame) (A : State) (F : Outcome → State → Prop) : Prop := ∃ s₂ o, Steps p.tables e below A s₂ ∧ s₂.status = .running ∧ Ended s₂ below o ∧ F o s₂
theorem Rn.st {p : Program} {e : Env} {below : List Frame} {A B : State} {F : Outcome → State → Prop} (h : ∀ t, Steps p.tables e below B t → Steps p.tables e below A t) (r : Rn p e below B F) : Rn p e below A F := by
  obtain ⟨s₂, o, h1, h2⟩ := r
  exact ⟨s₂, o, h _ h1, h2⟩
theorem Rn.ret {p : Program} {l : Launch} {e : Env} {R : Room} {s : State} {m : MethodId} {args : Array Value} {below : List Frame} {meth : Method} {c : Code} {T : State} {locs : List Loc} {cells slots k n : Nat} {A : State} {h : Heap}
    (X : Stand p l e R s m args below meth c T locs cells slots) (hlk : meth.locks = false) {v : Option Value} (hv : meth.sig.returnType = none → v = none) {Q : Option Value → Heap → List Loc → Prop} (eT : T.heap = h)
    (last : ∀ fs, (∀ (f : JFrame) (acts : List Action), f.method = m → f.locked = none → f.entered = [] → (doReturn e (T.setTop f) acts v).1 = T.setFrames fs) → Steps p.tables e below A (T.setFrames fs))
    (q : Q v h locs) (hc : cells ≤ k) (hs : slots ≤ n) : Rn p e below A (fun o U' => ∃ v L, o = .returned v ∧ Q v U'.heap L ∧ FrameEnd s o U' L k n) := by
  obtain ⟨fs, hr, hrun, hended, hW, hsame⟩ := X.leave hv hlk
  refine ⟨_, _, last fs hr, hrun, hended, _, _, rfl, ?_, ⟨_, rfl⟩, hW, hsame.mono hc hs⟩
  show Q v T.heap locs
  rw [eT]; exact q
theorem own_sta_keep {Z : State} {h h' : Heap} {C n d : String} {w : Value} {ws : List Addr} (F : Sta Z h C n d w) (K : Keep h h' ws) (q : ∀ x ∈ ws, ∀ cell : Cell, h[x]? = some cell → cell.vm.isStatics = false) : Sta Z h' C n d w := by
  obtain ⟨cf, i, k, f, st, cell, h1, h2, h3, h4, h5, h6, h7⟩ := F
  refine ⟨cf, i, k, f, st, cell, h1, h2, h3, h4, K.2.1 st cell h5 (fun hm => ?_), h6, h7⟩
  have e := q st hm cell h5
  rw [h6] at e
  exact absurd e (by decide)
theorem own_wadd (a b : Int32) : (a.toInt64 + b.toInt64).toInt = a.toInt + b.toInt := by
  have h1 := Int32.toInt_lt a; have h2 := Int32.le_toInt a; have h3 := Int32.toInt_lt b; have h4 := Int32.le_toInt b
  rw [Int64.toInt_add, Int32.toInt_toInt64, Int32.toInt_toInt64, Int.bmod_eq_of_le (by omega) (by omega)]
theorem own_mulL {a b : Int64} (h : (a.toInt * b.toInt).natAbs < 9223372036854775808) : (a * b).toInt = a.toInt * b.toInt := by
  rw [Int64.toInt_mul, Int.bmod_eq_of_le (by omega) (by omega)]
theorem own_addL {a b : Int64} (h : (a.toInt + b.toInt).natAbs < 9223372036854775808) : (a + b).toInt = a.toInt + b.toInt := by
  rw [Int64.toInt_add, Int.bmod_eq_of_le (by omega) (by omega)]
theorem own_subI {a b : Int32} (h : -2147483648 ≤ a.toInt - b.toInt ∧ a.toInt - b.toInt < 2147483648) : (a - b).toInt = a.toInt - b.toInt := by
  rw [Int32.toInt_sub, Int.bmod_eq_of_le (by omega) (by omega)]
theorem own_addI {a b : Int32} (h : -2147483648 ≤ a.toInt + b.toInt ∧ a.toInt + b.toInt < 2147483648) : (a + b).toInt = a.toInt + b.toInt := by
  rw [Int32.toInt_add, Int.bmod_eq_of_le (by omega) (by omega)]
theorem own_mulI {a b : Int32} (h : (a.toInt * b.toInt).natAbs < 2147483648) : (a * b).toInt = a.toInt * b.toInt := by
  rw [Int32.toInt_mul, Int.bmod_eq_of_le (by omega) (by omega)]
theorem own_masked {a r m : Int32} {d : Int} (hm : 0 ≤ m.toInt) (hd : 0 < d) {k : Int32} (hk : k.toInt = d) (h : (a &&& m) % k = r) : 0 ≤ r.toInt ∧ r.toInt < d := by
  have q := c_and a m hm
  have t := (c_irem (a &&& m) k d hk).1 q.1
  rw [h] at t
  rw [t]
  exact ⟨Int.emod_nonneg _ (Int.ne_of_gt hd), Int.emod_lt_of_pos _ hd⟩
theorem own_eqI {a b : Int32} (h : a.toInt = b.toInt) : a = b := Int32.toInt_inj.mp h
theorem own_neI {a b : Int32} (h : ¬ a.toInt = b.toInt) : ¬ a = b := fun q => h (congrArg Int32.toInt q)
theorem own_bd {j n : Int32} (h : 0 ≤ j.toInt ∧ j.toInt < n.toInt) : ¬ j < 0 ∧ j < n := by
  constructor
  · rw [Int32.lt_iff_toInt_lt]; have : (0 : Int32).toInt = 0 := by decide
    omega
  · rw [Int32.lt_iff_toInt_lt]; exact h.2
theorem own_getH_nil (dv : Value) (n : Nat) : getH [] [] dv n = dv := by simp [getH]
theorem own_pb {a b : Int} {A B : Nat} (ha : a.natAbs ≤ A) (hb : b.natAbs ≤ B) : (a * b).natAbs ≤ A * B := by rw [Int.natAbs_mul]; exact Nat.mul_le_mul ha hb
theorem own_b (a : Int32) : -2147483648 ≤ a.toInt ∧ a.toInt < 2147483648 := ⟨Int32.le_toInt a, Int32.toInt_lt a⟩
theorem own_wsub (a b : Int32) : (a.toInt64 - b.toInt64).toInt = a.toInt - b.toInt := by
  have h1 := Int32.toInt_lt a; have h2 := Int32.le_toInt a; have h3 := Int32.toInt_lt b; have h4 := Int32.le_toInt b
  rw [Int64.toInt_sub, Int32.toInt_toInt64, Int32.toInt_toInt64, Int.bmod_eq_of_le (by omega) (by omega)]
section RSteps
variable {p : Program} {l : Launch} {e : Env} {R : Room} {s : State} {m : MethodId} {args : Array Value} {below : List Frame} {meth : Method} {c : Code} {T : State} {locs : List Loc} {cells slots : Nat} {G : Outcome → State → Prop} {L L' : Array Slot} {S : List Value} {pc pc' : Nat}
theorem R.iloadN (X : Stand p l e R s m args below meth c T locs cells slots) (hx : p.tables.exec = Jvm.exec) {k : Fin 4} {v : Int32} (hd : decode c.code pc = .ok (.iload_n k, 1)) (hl : L[k.val]? = some (.val (.int v))) (hp : pc + 1 = pc') (r : Rn p e below (T.setTop (mkF m pc' L (.int v :: S))) G) : Rn p e below (T.setTop (mkF m pc L (S))) G := by
  subst hp; exact Rn.st (fun t q => XS.iloadN X.here hx rfl hd hl q) r
theorem R.iload (X : Stand p l e R s m args below meth c T locs cells slots) (hx : p.tables.exec = Jvm.exec) {k : Nat} {v : Int32} (hd : decode c.code pc = .ok (.iload k, 2)) (hl : L[k]? = some (.val (.int v))) (hp : pc + 2 = pc') (r : Rn p e below (T.setTop (mkF m pc' L (.int v :: S))) G) : Rn p e below (T.setTop (mkF m pc L (S))) G := by
  subst hp; exact Rn.st (fun t q => XS.iload X.here hx rfl hd hl q) r
theorem R.istoreN (X : Stand p l e R s m args below meth c T locs cells slots) (hx : p.tables.exec = Jvm.exec) {k : Fin 4} {v : Int32} (hd : decode c.code pc = .ok (.istore_n k, 1)) (hl : storeLocals L k.val (.int v) = some L') (hp : pc + 1 = pc') (r : Rn p e below (T.setTop (mkF m pc' L' (S))) G) : Rn p e below (T.setTop (mkF m pc L (.int v :: S))) G := by
  subst hp; exact Rn.st (fun t q => XS.istoreN X.here hx rfl hd rfl hl q) r
theorem R.istore (X : Stand p l e R s m args below meth c T locs cells slots) (hx : p.tables.exec = Jvm.exec) {k : Nat} {v : Int32} (hd : decode c.code pc = .ok (.istore k, 2)) (hl : storeLocals L k (.int v) = some L') (hp : pc + 2 = pc') (r : Rn p e below (T.setTop (mkF m pc' L' (S))) G) : Rn p e below (T.setTop (mkF m pc L (.int v :: S))) G := by
  subst hp; exact Rn.st (fun t q => XS.istore X.here hx rfl hd rfl hl q) r
theorem R.lloadN (X : Stand p l e R s m args below meth c T locs cells slots) (hx : p.tables.exec = Jvm.exec) {k : Fin 4} {v : Int64} (hd : decode c.code pc = .ok (.lload_n k, 1)) (hl : L[k.val]? = some (.val (.long v))) (hp : pc + 1 = pc') (r : Rn p e below (T.setTop (mkF m pc' L (.long v :: S))) G) : Rn p e below (T.setTop (mkF m pc L (S))) G := by
  subst hp; exact Rn.st (fun t q => XS.lloadN X.here hx rfl hd hl q) r
theorem R.lload (X : Stand p l e R s m args below meth c T locs cells slots) (hx : p.tables.exec = Jvm.exec) {k : Nat} {v : Int64} (hd : decode c.code pc = .ok (.lload k, 2)) (hl : L[k]? = some (.val (.long v))) (hp : pc + 2 = pc') (r : Rn p e below (T.setTop (mkF m pc' L (.long v :: S))) G) : Rn p e below (T.setTop (mkF m pc L (S))) G := by
  subst hp; exact Rn.st (fun t q => XS.lload X.here hx rfl hd hl q) r
theorem R.lstoreN (X : Stand p l e R s m args below meth c T locs cells slots) (hx : p.tables.exec = Jvm.exec) {k : Fin 4} {v : Int64} (hd : decode c.code pc = .ok (.lstore_n k, 1)) (hl : storeLocals L k.val (.long v) = some L') (hp : pc + 1 = pc') (r : Rn p e below (T.setTop (mkF m pc' L' (S))) G) : Rn p e below (T.setTop (mkF m pc L (.long v :: S))) G := by
  subst hp; exact Rn.st (fun t q => XS.lstoreN X.here hx rfl hd rfl hl q) r
theorem R.lstore (X : Stand p l e R s m args below meth c T locs cells slots) (hx : p.tables.exec = Jvm.exec) {k : Nat} {v : Int64} (hd : decode c.code pc = .ok (.lstore k, 2)) (hl : storeLocals L k (.long v) = some L') (hp : pc + 2 = pc') (r : Rn p e below (T.setTop (mkF m pc' L' (S))) G) : Rn p e below (T.setTop (mkF m pc L (.long v :: S))) G := by
  subst hp; exact Rn.st (fun t q => XS.lstore X.here hx rfl hd rfl hl q) r
theorem R.dloadN (X : Stand p l e R s m args below meth c T locs cells slots) (hx : p.tables.exec = Jvm.exec) {k : Fin 4} {v : UInt64} (hd : decode c.code pc = .ok (.dload_n k, 1)) (hl : L[k.val]? = some (.val (.double v))) (hp : pc + 1 = pc') (r : Rn p e below (T.setTop (mkF m pc' L (.double v :: S))) G) : Rn p e below (T.setTop (mkF m pc L (S))) G := by
  subst hp; exact Rn.st (fun t q => XS.dloadN X.here hx rfl hd hl q) r
theorem R.dload (X : Stand p l e R s m args below meth c T locs cells slots) (hx : p.tables.exec = Jvm.exec) {k : Nat} {v : UInt64} (hd : decode c.code pc = .ok (.dload k, 2)) (hl : L[k]? = some (.val (.double v))) (hp : pc + 2 = pc') (r : Rn p e below (T.setTop (mkF m pc' L (.double v :: S))) G) : Rn p e below (T.setTop (mkF m pc L (S))) G := by
  subst hp; exact Rn.st (fun t q => XS.dload X.here hx rfl hd hl q) r
theorem R.dstoreN (X : Stand p l e R s m args below meth c T locs cells slots) (hx : p.tables.exec = Jvm.exec) {k : Fin 4} {v : UInt64} (hd : decode c.code pc = .ok (.dstore_n k, 1)) (hl : storeLocals L k.val (.double v) = some L') (hp : pc + 1 = pc') (r : Rn p e below (T.setTop (mkF m pc' L' (S))) G) : Rn p e below (T.setTop (mkF m pc L (.double v :: S))) G := by
  subst hp; exact Rn.st (fun t q => XS.dstoreN X.here hx rfl hd rfl hl q) r
theorem R.dstore (X : Stand p l e R s m args below meth c T locs cells slots) (hx : p.tables.exec = Jvm.exec) {k : Nat} {v : UInt64} (hd : decode c.code pc = .ok (.dstore k, 2)) (hl : storeLocals L k (.double v) = some L') (hp : pc + 2 = pc') (r : Rn p e below (T.setTop (mkF m pc' L' (S))) G) : Rn p e below (T.setTop (mkF m pc L (.double v :: S))) G := by
  subst hp; exact Rn.st (fun t q => XS.dstore X.here hx rfl hd rfl hl q) r
theorem R.aloadN (X : Stand p l e R s m args below meth c T locs cells slots) (hx : p.tables.exec = Jvm.exec) {k : Fin 4} {v : Value} (hd : decode c.code pc = .ok (.aload_n k, 1)) (hl : L[k.val]? = some (.val v)) (hv : v.isRef = true) (hp : pc + 1 = pc') (r : Rn p e below (T.setTop (mkF m pc' L (v :: S))) G) : Rn p e below (T.setTop (mkF m pc L (S))) G := by
  subst hp; exact Rn.st (fun t q => XS.aloadN X.here hx rfl hd hl hv q) r
theorem R.aload (X : Stand p l e R s m args below meth c T locs cells slots) (hx : p.tables.exec = Jvm.exec) {k : Nat} {v : Value} (hd : decode c.code pc = .ok (.aload k, 2)) (hl : L[k]? = some (.val v)) (hv : v.isRef = true) (hp : pc + 2 = pc') (r : Rn p e below (T.setTop (mkF m pc' L (v :: S))) G) : Rn p e below (T.setTop (mkF m pc L (S))) G := by
  subst hp; exact Rn.st (fun t q => XS.aload X.here hx rfl hd hl hv q) r
theorem R.astoreN (X : Stand p l e R s m args below meth c T locs cells slots) (hx : p.tables.exec = Jvm.exec) {k : Fin 4} {v : Value} (hd : decode c.code pc = .ok (.astore_n k, 1)) (hv : v.isRef = true) (hl : storeLocals L k.val v = some L') (hp : pc + 1 = pc') (r : Rn p e below (T.setTop (mkF m pc' L' (S))) G) : Rn p e below (T.setTop (mkF m pc L (v :: S))) G := by
  subst hp; exact Rn.st (fun t q => XS.astoreN X.here hx rfl hd rfl hv hl q) r
theorem R.astore (X : Stand p l e R s m args below meth c T locs cells slots) (hx : p.tables.exec = Jvm.exec) {k : Nat} {v : Value} (hd : decode c.code pc = .ok (.astore k, 2)) (hv : v.isRef = true) (hl : storeLocals L k v = some L') (hp : pc + 2 = pc') (r : Rn p e below (T.setTop (mkF m pc' L' (S))) G) : Rn p e below (T.setTop (mkF m pc L (v :: S))) G := by
  subst hp; exact Rn.st (fun t q => XS.astore X.here hx rfl hd rfl hv hl q) r
theorem R.iconst (X : Stand p l e R s m args below meth c T locs cells slots) (hx : p.tables.exec = Jvm.exec) {i : Int} {v : Int32} (hd : decode c.code pc = .ok (.iconst i, 1)) (hv : Int32.ofInt i = v) (hp : pc + 1 = pc') (r : Rn p e below (T.setTop (mkF m pc' L (.int v :: S))) G) : Rn p e below (T.setTop (mkF m pc L (S))) G := by
  subst hp hv; exact Rn.st (fun t q => XS.iconst X.here hx rfl hd q) r
theorem R.bipush (X : Stand p l e R s m args below meth c T locs cells slots) (hx : p.tables.exec = Jvm.exec) {i : Int} {v : Int32} (hd : decode c.code pc = .ok (.bipush i, 2)) (hv : (Int8.ofInt i).toInt32 = v) (hp : pc + 2 = pc') (r : Rn p e below (T.setTop (mkF m pc' L (.int v :: S))) G) : Rn p e below (T.setTop (mkF m pc L (S))) G := by
  subst hp hv; exact Rn.st (fun t q => XS.bipush X.here hx rfl hd q) r
theorem R.sipush (X : Stand p l e R s m args below meth c T locs cells slots) (hx : p.tables.exec = Jvm.exec) {i : Int} {v : Int32} (hd : decode c.code pc = .ok (.sipush i, 3)) (hv : (Int16.ofInt i).toInt32 = v) (hp : pc + 3 = pc') (r : Rn p e below (T.setTop (mkF m pc' L (.int v :: S))) G) : Rn p e below (T.setTop (mkF m pc L (S))) G := by
  subst hp hv; exact Rn.st (fun t q => XS.sipush X.here hx rfl hd q) r
theorem R.lconst (X : Stand p l e R s m args below meth c T locs cells slots) (hx : p.tables.exec = Jvm.exec) {i : Fin 2} {v : Int64} (hd : decode c.code pc = .ok (.lconst i, 1)) (hv : Int64.ofNat i = v) (hp : pc + 1 = pc') (r : Rn p e below (T.setTop (mkF m pc' L (.long v :: S))) G) : Rn p e below (T.setTop (mkF m pc L (S))) G := by
  subst hp hv; exact Rn.st (fun t q => XS.lconst X.here hx rfl hd q) r
theorem R.dconst0 (X : Stand p l e R s m args below meth c T locs cells slots) (hx : p.tables.exec = Jvm.exec)  (hd : decode c.code pc = .ok (.dconst 0, 1)) (hp : pc + 1 = pc') (r : Rn p e below (T.setTop (mkF m pc' L (.double FP.dconst0 :: S))) G) : Rn p e below (T.setTop (mkF m pc L (S))) G := by
  subst hp; exact Rn.st (fun t q => XS.dconst0 X.here hx rfl hd rfl q) r
theorem R.dconst1 (X : Stand p l e R s m args below meth c T locs cells slots) (hx : p.tables.exec = Jvm.exec)  (hd : decode c.code pc = .ok (.dconst 1, 1)) (hp : pc + 1 = pc') (r : Rn p e below (T.setTop (mkF m pc' L (.double FP.dconst1 :: S))) G) : Rn p e below (T.setTop (mkF m pc L (S))) G := by
  subst hp; exact Rn.st (fun t q => XS.dconst1 X.here hx rfl hd rfl q) r
theorem R.aconstNull (X : Stand p l e R s m args below meth c T locs cells slots) (hx : p.tables.exec = Jvm.exec)  (hd : decode c.code pc = .ok (.aconst_null, 1)) (hp : pc + 1 = pc') (r : Rn p e below (T.setTop (mkF m pc' L (.null :: S))) G) : Rn p e below (T.setTop (mkF m pc L (S))) G := by
  subst hp; exact Rn.st (fun t q => XS.aconstNull X.here hx rfl hd q) r
theorem R.iadd (X : Stand p l e R s m args below meth c T locs cells slots) (hx : p.tables.exec = Jvm.exec) {x y v : Int32} (hd : decode c.code pc = .ok (.iadd, 1)) (hv : x + y = v) (hp : pc + 1 = pc') (r : Rn p e below (T.setTop (mkF m pc' L (.int v :: S))) G) : Rn p e below (T.setTop (mkF m pc L (.int y :: .int x :: S))) G := by
  subst hp hv; exact Rn.st (fun t q => XS.iadd X.here hx rfl hd rfl q) r
theorem R.ladd (X : Stand p l e R s m args below meth c T locs cells slots) (hx : p.tables.exec = Jvm.exec) {x y v : Int64} (hd : decode c.code pc = .ok (.ladd, 1)) (hv : x + y = v) (hp : pc + 1 = pc') (r : Rn p e below (T.setTop (mkF m pc' L (.long v :: S))) G) : Rn p e below (T.setTop (mkF m pc L (.long y :: .long x :: S))) G := by
  subst hp hv; exact Rn.st (fun t q => XS.ladd X.here hx rfl hd rfl q) r
theorem R.isub (X : Stand p l e R s m args below meth c T locs cells slots) (hx : p.tables.exec = Jvm.exec) {x y v : Int32} (hd : decode c.code pc = .ok (.isub, 1)) (hv : x - y = v) (hp : pc + 1 = pc') (r : Rn p e below (T.setTop (mkF m pc' L (.int v :: S))) G) : Rn p e below (T.setTop (mkF m pc L (.int y :: .int x :: S))) G := by
  subst hp hv; exact Rn.st (fun t q => XS.isub X.here hx rfl hd rfl q) r
theorem R.lsub (X : Stand p l e R s m args below meth c T locs cells slots) (hx : p.tables.exec = Jvm.exec) {x y v : Int64} (hd : decode c.code pc = .ok (.lsub, 1)) (hv : x - y = v) (hp : pc + 1 = pc') (r : Rn p e below (T.setTop (mkF m pc' L (.long v :: S))) G) : Rn p e below (T.setTop (mkF m pc L (.long y :: .long x :: S))) G := by
  subst hp hv; exact Rn.st (fun t q => XS.lsub X.here hx rfl hd rfl q) r
theorem R.imul (X : Stand p l e R s m args below meth c T locs cells slots) (hx : p.tables.exec = Jvm.exec) {x y v : Int32} (hd : decode c.code pc = .ok (.imul, 1)) (hv : x * y = v) (hp : pc + 1 = pc') (r : Rn p e below (T.setTop (mkF m pc' L (.int v :: S))) G) : Rn p e below (T.setTop (mkF m pc L (.int y :: .int x :: S))) G := by
  subst hp hv; exact Rn.st (fun t q => XS.imul X.here hx rfl hd rfl q) r
theorem R.lmul (X : Stand p l e R s m args below meth c T locs cells slots) (hx : p.tables.exec = Jvm.exec) {x y v : Int64} (hd : decode c.code pc = .ok (.lmul, 1)) (hv : x * y = v) (hp : pc + 1 = pc') (r : Rn p e below (T.setTop (mkF m pc' L (.long v :: S))) G) : Rn p e below (T.setTop (mkF m pc L (.long y :: .long x :: S))) G := by
  subst hp hv; exact Rn.st (fun t q => XS.lmul X.here hx rfl hd rfl q) r
theorem R.iand (X : Stand p l e R s m args below meth c T locs cells slots) (hx : p.tables.exec = Jvm.exec) {x y v : Int32} (hd : decode c.code pc = .ok (.iand, 1)) (hv : x &&& y = v) (hp : pc + 1 = pc') (r : Rn p e below (T.setTop (mkF m pc' L (.int v :: S))) G) : Rn p e below (T.setTop (mkF m pc L (.int y :: .int x :: S))) G := by
  subst hp hv; exact Rn.st (fun t q => XS.iand X.here hx rfl hd rfl q) r
theorem R.land (X : Stand p l e R s m args below meth c T locs cells slots) (hx : p.tables.exec = Jvm.exec) {x y v : Int64} (hd : decode c.code pc = .ok (.land, 1)) (hv : x &&& y = v) (hp : pc + 1 = pc') (r : Rn p e below (T.setTop (mkF m pc' L (.long v :: S))) G) : Rn p e below (T.setTop (mkF m pc L (.long y :: .long x :: S))) G := by
  subst hp hv; exact Rn.st (fun t q => XS.land X.here hx rfl hd rfl q) r
theorem R.ior (X : Stand p l e R s m args below meth c T locs cells slots) (hx : p.tables.exec = Jvm.exec) {x y v : Int32} (hd : decode c.code pc = .ok (.ior, 1)) (hv : x ||| y = v) (hp : pc + 1 = pc') (r : Rn p e below (T.setTop (mkF m pc' L (.int v :: S))) G) : Rn p e below (T.setTop (mkF m pc L (.int y :: .int x :: S))) G := by
  subst hp hv; exact Rn.st (fun t q => XS.ior X.here hx rfl hd rfl q) r
theorem R.lor (X : Stand p l e R s m args below meth c T locs cells slots) (hx : p.tables.exec = Jvm.exec) {x y v : Int64} (hd : decode c.code pc = .ok (.lor, 1)) (hv : x ||| y = v) (hp : pc + 1 = pc') (r : Rn p e below (T.setTop (mkF m pc' L (.long v :: S))) G) : Rn p e below (T.setTop (mkF m pc L (.long y :: .long x :: S))) G := by
  subst hp hv; exact Rn.st (fun t q => XS.lor X.here hx rfl hd rfl q) r
theorem R.ixor (X : Stand p l e R s m args below meth c T locs cells slots) (hx : p.tables.exec = Jvm.exec) {x y v : Int32} (hd : decode c.code pc = .ok (.ixor, 1)) (hv : x ^^^ y = v) (hp : pc + 1 = pc') (r : Rn p e below (T.setTop (mkF m pc' L (.int v :: S))) G) : Rn p e below (T.setTop (mkF m pc L (.int y :: .int x :: S))) G := by
  subst hp hv; exact Rn.st (fun t q => XS.ixor X.here hx rfl hd rfl q) r
theorem R.lxor (X : Stand p l e R s m args below meth c T locs cells slots) (hx : p.tables.exec = Jvm.exec) {x y v : Int64} (hd : decode c.code pc = .ok (.lxor, 1)) (hv : x ^^^ y = v) (hp : pc + 1 = pc') (r : Rn p e below (T.setTop (mkF m pc' L (.long v :: S))) G) : Rn p e below (T.setTop (mkF m pc L (.long y :: .long x :: S))) G := by
  subst hp hv; exact Rn.st (fun t q => XS.lxor X.here hx rfl hd rfl q) r
theorem R.ineg (X : Stand p l e R s m args below meth c T locs cells slots) (hx : p.tables.exec = Jvm.exec) {x : Int32} (hd : decode c.code pc = .ok (.ineg, 1)) (hp : pc + 1 = pc') (r : Rn p e below (T.setTop (mkF m pc' L (.int (-x) :: S))) G) : Rn p e below (T.setTop (mkF m pc L (.int x :: S))) G := by
  subst hp; exact Rn.st (fun t q => XS.ineg X.here hx rfl hd rfl q) r
theorem R.lneg (X : Stand p l e R s m args below meth c T locs cells slots) (hx : p.tables.exec = Jvm.exec) {x : Int64} (hd : decode c.code pc = .ok (.lneg, 1)) (hp : pc + 1 = pc') (r : Rn p e below (T.setTop (mkF m pc' L (.long (-x) :: S))) G) : Rn p e below (T.setTop (mkF m pc L (.long x :: S))) G := by
  subst hp; exact Rn.st (fun t q => XS.lneg X.here hx rfl hd rfl q) r
theorem R.i2l (X : Stand p l e R s m args below meth c T locs cells slots) (hx : p.tables.exec = Jvm.exec) {x : Int32} (hd : decode c.code pc = .ok (.i2l, 1)) (hp : pc + 1 = pc') (r : Rn p e below (T.setTop (mkF m pc' L (.long (x.toInt64) :: S))) G) : Rn p e below (T.setTop (mkF m pc L (.int x :: S))) G := by
  subst hp; exact Rn.st (fun t q => XS.i2l X.here hx rfl hd rfl q) r
theorem R.l2i (X : Stand p l e R s m args below meth c T locs cells slots) (hx : p.tables.exec = Jvm.exec) {x : Int64} (hd : decode c.code pc = .ok (.l2i, 1)) (hp : pc + 1 = pc') (r : Rn p e below (T.setTop (mkF m pc' L (.int (x.toInt32) :: S))) G) : Rn p e below (T.setTop (mkF m pc L (.long x :: S))) G := by
  subst hp; exact Rn.st (fun t q => XS.l2i X.here hx rfl hd rfl q) r
theorem R.i2b (X : Stand p l e R s m args below meth c T locs cells slots) (hx : p.tables.exec = Jvm.exec) {x : Int32} (hd : decode c.code pc = .ok (.i2b, 1)) (hp : pc + 1 = pc') (r : Rn p e below (T.setTop (mkF m pc' L (.int (x.toInt8.toInt32) :: S))) G) : Rn p e below (T.setTop (mkF m pc L (.int x :: S))) G := by
  subst hp; exact Rn.st (fun t q => XS.i2b X.here hx rfl hd rfl q) r
theorem R.i2s (X : Stand p l e R s m args below meth c T locs cells slots) (hx : p.tables.exec = Jvm.exec) {x : Int32} (hd : decode c.code pc = .ok (.i2s, 1)) (hp : pc + 1 = pc') (r : Rn p e below (T.setTop (mkF m pc' L (.int (x.toInt16.toInt32) :: S))) G) : Rn p e below (T.setTop (mkF m pc L (.int x :: S))) G := by
  subst hp; exact Rn.st (fun t q => XS.i2s X.here hx rfl hd rfl q) r
theorem R.i2c (X : Stand p l e R s m args below meth c T locs cells slots) (hx : p.tables.exec = Jvm.exec) {x : Int32} (hd : decode c.code pc = .ok (.i2c, 1)) (hp : pc + 1 = pc') (r : Rn p e below (T.setTop (mkF m pc' L (.int (x.toUInt32.toUInt16.toUInt32.toInt32) :: S))) G) : Rn p e below (T.setTop (mkF m pc L (.int x :: S))) G := by
  subst hp; exact Rn.st (fun t q => XS.i2c X.here hx rfl hd rfl q) r
theorem R.ishl (X : Stand p l e R s m args below meth c T locs cells slots) (hx : p.tables.exec = Jvm.exec) {x : Int32} {y : Int32} (hd : decode c.code pc = .ok (.ishl, 1)) (hp : pc + 1 = pc') (r : Rn p e below (T.setTop (mkF m pc' L (.int (x <<< (y &&& 31)) :: S))) G) : Rn p e below (T.setTop (mkF m pc L (.int y :: .int x :: S))) G := by
  subst hp; exact Rn.st (fun t q => XS.ishl X.here hx rfl hd rfl q) r
theorem R.ishr (X : Stand p l e R s m args below meth c T locs cells slots) (hx : p.tables.exec = Jvm.exec) {x : Int32} {y : Int32} (hd : decode c.code pc = .ok (.ishr, 1)) (hp : pc + 1 = pc') (r : Rn p e below (T.setTop (mkF m pc' L (.int (x >>> (y &&& 31)) :: S))) G) : Rn p e below (T.setTop (mkF m pc L (.int y :: .int x :: S))) G := by
  subst hp; exact Rn.st (fun t q => XS.ishr X.here hx rfl hd rfl q) r
theorem R.iushr (X : Stand p l e R s m args below meth c T locs cells slots) (hx : p.tables.exec = Jvm.exec) {x : Int32} {y : Int32} (hd : decode c.code pc = .ok (.iushr, 1)) (hp : pc + 1 = pc') (r : Rn p e below (T.setTop (mkF m pc' L (.int ((x.toUInt32 >>> (y &&& 31).toUInt32).toInt32) :: S))) G) : Rn p e below (T.setTop (mkF m pc L (.int y :: .int x :: S))) G := by
  subst hp; exact Rn.st (fun t q => XS.iushr X.here hx rfl hd rfl q) r
theorem R.lshl (X : Stand p l e R s m args below meth c T locs cells slots) (hx : p.tables.exec = Jvm.exec) {x : Int64} {y : Int32} (hd : decode c.code pc = .ok (.lshl, 1)) (hp : pc + 1 = pc') (r : Rn p e below (T.setTop (mkF m pc' L (.long (x <<< (y &&& 63).toInt64) :: S))) G) : Rn p e below (T.setTop (mkF m pc L (.int y :: .long x :: S))) G := by
  subst hp; exact Rn.st (fun t q => XS.lshl X.here hx rfl hd rfl q) r
theorem R.lshr (X : Stand p l e R s m args below meth c T locs cells slots) (hx : p.tables.exec = Jvm.exec) {x : Int64} {y : Int32} (hd : decode c.code pc = .ok (.lshr, 1)) (hp : pc + 1 = pc') (r : Rn p e below (T.setTop (mkF m pc' L (.long (x >>> (y &&& 63).toInt64) :: S))) G) : Rn p e below (T.setTop (mkF m pc L (.int y :: .long x :: S))) G := by
  subst hp; exact Rn.st (fun t q => XS.lshr X.here hx rfl hd rfl q) r
theorem R.lcmp (X : Stand p l e R s m args below meth c T locs cells slots) (hx : p.tables.exec = Jvm.exec) {x y : Int64} (hd : decode c.code pc = .ok (.lcmp, 1)) (hp : pc + 1 = pc') (r : Rn p e below (T.setTop (mkF m pc' L (.int (lcmpW x y) :: S))) G) : Rn p e below (T.setTop (mkF m pc L (.long y :: .long x :: S))) G := by
  subst hp; exact Rn.st (fun t q => XS.lcmp X.here hx rfl hd rfl q) r
theorem R.idiv (X : Stand p l e R s m args below meth c T locs cells slots) (hx : p.tables.exec = Jvm.exec) {x y : Int32} (hd : decode c.code pc = .ok (.idiv, 1)) (hy : y ≠ 0) (hp : pc + 1 = pc') (r : Rn p e below (T.setTop (mkF m pc' L (.int (x / y) :: S))) G) : Rn p e below (T.setTop (mkF m pc L (.int y :: .int x :: S))) G := by
  subst hp; exact Rn.st (fun t q => XS.idiv X.here hx rfl hd rfl hy q) r
theorem R.irem (X : Stand p l e R s m args below meth c T locs cells slots) (hx : p.tables.exec = Jvm.exec) {x y : Int32} (hd : decode c.code pc = .ok (.irem, 1)) (hy : y ≠ 0) (hp : pc + 1 = pc') (r : Rn p e below (T.setTop (mkF m pc' L (.int (x % y) :: S))) G) : Rn p e below (T.setTop (mkF m pc L (.int y :: .int x :: S))) G := by
  subst hp; exact Rn.st (fun t q => iremM X hx rfl hd rfl hy q) r
theorem R.ldiv (X : Stand p l e R s m args below meth c T locs cells slots) (hx : p.tables.exec = Jvm.exec) {x y : Int64} (hd : decode c.code pc = .ok (.ldiv, 1)) (hy : y ≠ 0) (hp : pc + 1 = pc') (r : Rn p e below (T.setTop (mkF m pc' L (.long (x / y) :: S))) G) : Rn p e below (T.setTop (mkF m pc L (.long y :: .long x :: S))) G := by
  subst hp; exact Rn.st (fun t q => XS.ldiv X.here hx rfl hd rfl hy q) r
theorem R.lrem (X : Stand p l e R s m args below meth c T locs cells slots) (hx : p.tables.exec = Jvm.exec) {x y : Int64} (hd : decode c.code pc = .ok (.lrem, 1)) (hy : y ≠ 0) (hp : pc + 1 = pc') (r : Rn p e below (T.setTop (mkF m pc' L (.long (x - (x / y) * y) :: S))) G) : Rn p e below (T.setTop (mkF m pc L (.long y :: .long x :: S))) G := by
  subst hp; exact Rn.st (fun t q => XS.lrem X.here hx rfl hd rfl hy q) r
theorem R.i2d (X : Stand p l e R s m args below meth c T locs cells slots) (hx : p.tables.exec = Jvm.exec) {x : Int32} (hd : decode c.code pc = .ok (.i2d, 1)) (hp : pc + 1 = pc') (r : Rn p e below (T.setTop (mkF m pc' L (.double (FP.i2d x) :: S))) G) : Rn p e below (T.setTop (mkF m pc L (.int x :: S))) G := by
  subst hp; exact Rn.st (fun t q => XS.i2dS X.here hx rfl hd rfl rfl q) r
theorem R.l2d (X : Stand p l e R s m args below meth c T locs cells slots) (hx : p.tables.exec = Jvm.exec) {x : Int64} (hd : decode c.code pc = .ok (.l2d, 1)) (hp : pc + 1 = pc') (r : Rn p e below (T.setTop (mkF m pc' L (.double (FP.l2d x) :: S))) G) : Rn p e below (T.setTop (mkF m pc L (.long x :: S))) G := by
  subst hp; exact Rn.st (fun t q => XS.l2dS X.here hx rfl hd rfl rfl q) r
theorem R.d2i (X : Stand p l e R s m args below meth c T locs cells slots) (hx : p.tables.exec = Jvm.exec) {x : UInt64} (hd : decode c.code pc = .ok (.d2i, 1)) (hp : pc + 1 = pc') (r : Rn p e below (T.setTop (mkF m pc' L (.int (FP.d2i x) :: S))) G) : Rn p e below (T.setTop (mkF m pc L (.double x :: S))) G := by
  subst hp; exact Rn.st (fun t q => XS.d2iS X.here hx rfl hd rfl rfl q) r
theorem R.d2l (X : Stand p l e R s m args below meth c T locs cells slots) (hx : p.tables.exec = Jvm.exec) {x : UInt64} (hd : decode c.code pc = .ok (.d2l, 1)) (hp : pc + 1 = pc') (r : Rn p e below (T.setTop (mkF m pc' L (.long (FP.d2l x) :: S))) G) : Rn p e below (T.setTop (mkF m pc L (.double x :: S))) G := by
  subst hp; exact Rn.st (fun t q => XS.d2lS X.here hx rfl hd rfl rfl q) r
theorem R.dadd (X : Stand p l e R s m args below meth c T locs cells slots) (hx : p.tables.exec = Jvm.exec) {x y : UInt64} (hd : decode c.code pc = .ok (.dadd, 1)) (hn : NoNaN64 (FP.dadd x y)) (hp : pc + 1 = pc') (r : Rn p e below (T.setTop (mkF m pc' L (.double (FP.dadd x y) :: S))) G) : Rn p e below (T.setTop (mkF m pc L (.double y :: .double x :: S))) G := by
  subst hp; exact Rn.st (fun t q => XS.daddS X.here hx rfl hd rfl hn rfl q) r
theorem R.dsub (X : Stand p l e R s m args below meth c T locs cells slots) (hx : p.tables.exec = Jvm.exec) {x y : UInt64} (hd : decode c.code pc = .ok (.dsub, 1)) (hn : NoNaN64 (FP.dsub x y)) (hp : pc + 1 = pc') (r : Rn p e below (T.setTop (mkF m pc' L (.double (FP.dsub x y) :: S))) G) : Rn p e below (T.setTop (mkF m pc L (.double y :: .double x :: S))) G := by
  subst hp; exact Rn.st (fun t q => XS.dsubS X.here hx rfl hd rfl hn rfl q) r
theorem R.dmul (X : Stand p l e R s m args below meth c T locs cells slots) (hx : p.tables.exec = Jvm.exec) {x y : UInt64} (hd : decode c.code pc = .ok (.dmul, 1)) (hn : NoNaN64 (FP.dmul x y)) (hp : pc + 1 = pc') (r : Rn p e below (T.setTop (mkF m pc' L (.double (FP.dmul x y) :: S))) G) : Rn p e below (T.setTop (mkF m pc L (.double y :: .double x :: S))) G := by
  subst hp; exact Rn.st (fun t q => XS.dmulS X.here hx rfl hd rfl hn rfl q) r
theorem R.ddiv (X : Stand p l e R s m args below meth c T locs cells slots) (hx : p.tables.exec = Jvm.exec) {x y : UInt64} (hd : decode c.code pc = .ok (.ddiv, 1)) (hn : NoNaN64 (FP.ddiv x y)) (hp : pc + 1 = pc') (r : Rn p e below (T.setTop (mkF m pc' L (.double (FP.ddiv x y) :: S))) G) : Rn p e below (T.setTop (mkF m pc L (.double y :: .double x :: S))) G := by
  subst hp; exact Rn.st (fun t q => XS.ddivS X.here hx rfl hd rfl hn rfl q) r
theorem R.dneg (X : Stand p l e R s m args below meth c T locs cells slots) (hx : p.tables.exec = Jvm.exec) {x : UInt64} (hd : decode c.code pc = .ok (.dneg, 1)) (hp : pc + 1 = pc') (r : Rn p e below (T.setTop (mkF m pc' L (.double (FP.dneg x) :: S))) G) : Rn p e below (T.setTop (mkF m pc L (.double x :: S))) G := by
  subst hp; exact Rn.st (fun t q => XS.dnegS X.here hx rfl hd rfl rfl q) r
theorem R.dcmp (X : Stand p l e R s m args below meth c T locs cells slots) (hx : p.tables.exec = Jvm.exec) {o : CmpOp} {x y : UInt64} {v : Int32} (hd : decode c.code pc = .ok (.dcmp o, 1)) (hv : cmpValue (FP.dcmp x y) o = v) (hp : pc + 1 = pc') (r : Rn p e below (T.setTop (mkF m pc' L (.int v :: S))) G) : Rn p e below (T.setTop (mkF m pc L (.double y :: .double x :: S))) G := by
  subst hp; exact Rn.st (fun t q => XS.dcmpS X.here hx rfl hd rfl hv q) r
theorem R.iinc (X : Stand p l e R s m args below meth c T locs cells slots) (hx : p.tables.exec = Jvm.exec) {k : Nat} {cst : Int} {x : Int32} (hd : decode c.code pc = .ok (.iinc k cst, 3)) (hl : L[k]? = some (.val (.int x))) (hl' : storeLocals L k (.int (x + Int32.ofInt cst)) = some L') (hp : pc + 3 = pc') (r : Rn p e below (T.setTop (mkF m pc' L' (S))) G) : Rn p e below (T.setTop (mkF m pc L (S))) G := by
  subst hp; exact Rn.st (fun t q => XS.iinc X.here hx rfl hd hl hl' q) r
theorem R.dup (X : Stand p l e R s m args below meth c T locs cells slots) (hx : p.tables.exec = Jvm.exec) {x : Value} (hd : decode c.code pc = .ok (.dup, 1)) (hc : x.category = 1) (hp : pc + 1 = pc') (r : Rn p e below (T.setTop (mkF m pc' L (x :: x :: S))) G) : Rn p e below (T.setTop (mkF m pc L (x :: S))) G := by
  subst hp; exact Rn.st (fun t q => XS.dup X.here hx rfl hd rfl hc q) r
theorem R.dupX1 (X : Stand p l e R s m args below meth c T locs cells slots) (hx : p.tables.exec = Jvm.exec) {x y : Value} (hd : decode c.code pc = .ok (.dup_x1, 1)) (hc : x.category = 1) (hc' : y.category = 1) (hp : pc + 1 = pc') (r : Rn p e below (T.setTop (mkF m pc' L (x :: y :: x :: S))) G) : Rn p e below (T.setTop (mkF m pc L (x :: y :: S))) G := by
  subst hp; exact Rn.st (fun t q => XS.dupX1 X.here hx rfl hd rfl hc hc' q) r
theorem R.dup2 (X : Stand p l e R s m args below meth c T locs cells slots) (hx : p.tables.exec = Jvm.exec) {x y : Value} (hd : decode c.code pc = .ok (.dup2, 1)) (hc : x.category = 1) (hc' : y.category = 1) (hp : pc + 1 = pc') (r : Rn p e below (T.setTop (mkF m pc' L (x :: y :: x :: y :: S))) G) : Rn p e below (T.setTop (mkF m pc L (x :: y :: S))) G := by
  subst hp; exact Rn.st (fun t q => Jvm.Free.XT.dup2 X.here hx rfl hd rfl hc hc' q) r
theorem R.pop (X : Stand p l e R s m args below meth c T locs cells slots) (hx : p.tables.exec = Jvm.exec) {x : Value} (hd : decode c.code pc = .ok (.pop, 1)) (hc : x.category = 1) (hp : pc + 1 = pc') (r : Rn p e below (T.setTop (mkF m pc' L (S))) G) : Rn p e below (T.setTop (mkF m pc L (x :: S))) G := by
  subst hp; exact Rn.st (fun t q => XS.pop X.here hx rfl hd rfl hc q) r
theorem R.ifYes (X : Stand p l e R s m args below meth c T locs cells slots) (hx : p.tables.exec = Jvm.exec) {cd : ClassFile.Cond} {x : Int32} {o : Int} (hd : decode c.code pc = .ok (.ifCond cd o, 3)) (hc : if_icmp.holds cd x 0 = true) (ho : 0 ≤ (pc : Int) + o) (hp : ((pc : Int) + o).toNat = pc') (r : Rn p e below (T.setTop (mkF m pc' L S)) G) : Rn p e below (T.setTop (mkF m pc L (.int x :: S))) G :=
  Rn.st (fun t q => XS.ifYes X.here hx rfl rfl hd rfl ((if0 _ _).trans hc) ho hp q) r
theorem R.ifNo (X : Stand p l e R s m args below meth c T locs cells slots) (hx : p.tables.exec = Jvm.exec) {cd : ClassFile.Cond} {x : Int32} {o : Int} (hd : decode c.code pc = .ok (.ifCond cd o, 3)) (hc : if_icmp.holds cd x 0 = false) (hp : pc + 3 = pc') (r : Rn p e below (T.setTop (mkF m pc' L (S))) G) : Rn p e below (T.setTop (mkF m pc L (.int x :: S))) G := by
  subst hp; exact Rn.st (fun t q => XS.ifNo X.here hx rfl hd rfl ((if0 _ _).trans hc) q) r
theorem R.icmpYes (X : Stand p l e R s m args below meth c T locs cells slots) (hx : p.tables.exec = Jvm.exec) {cd : ClassFile.Cond} {x y : Int32} {o : Int} (hd : decode c.code pc = .ok (.if_icmp cd o, 3)) (hc : if_icmp.holds cd x y = true) (ho : 0 ≤ (pc : Int) + o) (hp : ((pc : Int) + o).toNat = pc') (r : Rn p e below (T.setTop (mkF m pc' L S)) G) : Rn p e below (T.setTop (mkF m pc L (.int y :: .int x :: S))) G :=
  Rn.st (fun t q => XS.icmpYes X.here hx rfl rfl hd rfl hc ho hp q) r
theorem R.icmpNo (X : Stand p l e R s m args below meth c T locs cells slots) (hx : p.tables.exec = Jvm.exec) {cd : ClassFile.Cond} {x y : Int32} {o : Int} (hd : decode c.code pc = .ok (.if_icmp cd o, 3)) (hc : if_icmp.holds cd x y = false) (hp : pc + 3 = pc') (r : Rn p e below (T.setTop (mkF m pc' L (S))) G) : Rn p e below (T.setTop (mkF m pc L (.int y :: .int x :: S))) G := by
  subst hp; exact Rn.st (fun t q => XS.icmpNo X.here hx rfl hd rfl hc q) r
theorem R.goto (X : Stand p l e R s m args below meth c T locs cells slots) (hx : p.tables.exec = Jvm.exec)  {o : Int} (hd : decode c.code pc = .ok (.goto o, 3)) (ho : 0 ≤ (pc : Int) + o) (hp : ((pc : Int) + o).toNat = pc') (r : Rn p e below (T.setTop (mkF m pc' L S)) G) : Rn p e below (T.setTop (mkF m pc L (S))) G :=
  Rn.st (fun t q => XS.goto X.here hx rfl rfl hd ho hp q) r
theorem R.ifnullYes (X : Stand p l e R s m args below meth c T locs cells slots) (hx : p.tables.exec = Jvm.exec)  {o : Int} (hd : decode c.code pc = .ok (.ifnull o, 3)) (ho : 0 ≤ (pc : Int) + o) (hp : ((pc : Int) + o).toNat = pc') (r : Rn p e below (T.setTop (mkF m pc' L S)) G) : Rn p e below (T.setTop (mkF m pc L (.null :: S))) G :=
  Rn.st (fun t q => XS.ifnullYes X.here hx rfl rfl hd rfl ho hp q) r
theorem R.ifnullNo (X : Stand p l e R s m args below meth c T locs cells slots) (hx : p.tables.exec = Jvm.exec) {b : Addr} {o : Int} (hd : decode c.code pc = .ok (.ifnull o, 3)) (hp : pc + 3 = pc') (r : Rn p e below (T.setTop (mkF m pc' L (S))) G) : Rn p e below (T.setTop (mkF m pc L (.ref b :: S))) G := by
  subst hp; exact Rn.st (fun t q => XS.ifnullNo X.here hx rfl hd rfl q) r
theorem R.ifnonnullYes (X : Stand p l e R s m args below meth c T locs cells slots) (hx : p.tables.exec = Jvm.exec) {b : Addr} {o : Int} (hd : decode c.code pc = .ok (.ifnonnull o, 3)) (ho : 0 ≤ (pc : Int) + o) (hp : ((pc : Int) + o).toNat = pc') (r : Rn p e below (T.setTop (mkF m pc' L S)) G) : Rn p e below (T.setTop (mkF m pc L (.ref b :: S))) G :=
  Rn.st (fun t q => XS.ifnonnullYes X.here hx rfl rfl hd rfl ho hp q) r
theorem R.ifnonnullNo (X : Stand p l e R s m args below meth c T locs cells slots) (hx : p.tables.exec = Jvm.exec)  {o : Int} (hd : decode c.code pc = .ok (.ifnonnull o, 3)) (hp : pc + 3 = pc') (r : Rn p e below (T.setTop (mkF m pc' L (S))) G) : Rn p e below (T.setTop (mkF m pc L (.null :: S))) G := by
  subst hp; exact Rn.st (fun t q => XS.ifnonnullNo X.here hx rfl hd rfl q) r
end RSteps
section RBig
variable {p : Program} {l : Launch} {e : Env} {R : Room} {s : State} {m : MethodId} {args : Array Value} {below : List Frame} {meth : Method} {c : Code} {T : State} {locs : List Loc} {cells slots : Nat} {G : Outcome → State → Prop} {L L' : Array Slot} {S : List Value} {pc pc' : Nat} {Z : State} {a0 : Array Value} {h : Heap} {a : Addr} {own : String} {index : Nat}
theorem R.getF (X : Stand p l e R s m args below meth c T locs cells slots) (hx : p.tables.exec = Jvm.exec) (hZ : Z.Warmed39 s.vm) {R0 O n d host : String} (hown : s.vm.findClass own = some m.cls) (w : (Jvm.Cond.fieldLink own index R0 n d).before a0 Z = true ∨ (Jvm.Cond.fieldLinkNest own index R0 n d host).before a0 Z = true) (via : Via Z R0 O n d) (eT : T.heap = h) {v : Value} (F : Fld Z h a O n d v)
    (hd : decode c.code pc = .ok (.getfield index, 3)) (hp : pc + 3 = pc') (K : ∀ T', Stand p l e R s m args below meth c T' locs cells slots → T'.heap = h → Rn p e below (T'.setTop (mkF m pc' L (v :: S))) G) : Rn p e below (T.setTop (mkF m pc L (.ref a :: S))) G := by
  subst hp
  obtain ⟨T', X', e', st⟩ := getF X hx hZ hown w via eT F (g := mkF m pc L (.ref a :: S)) rfl rfl hd
  exact Rn.st st (K T' X' e')
theorem R.getS (X : Stand p l e R s m args below meth c T locs cells slots) (hx : p.tables.exec = Jvm.exec) (hZ : Z.Warmed39 s.vm) {R0 O n d host : String} (hown : s.vm.findClass own = some m.cls) (w : (Jvm.Cond.fieldLink own index R0 n d).before a0 Z = true ∨ (Jvm.Cond.fieldLinkNest own index R0 n d host).before a0 Z = true) (via : Via Z R0 O n d) (eT : T.heap = h) {v : Value} (F : Sta Z h O n d v)
    (hd : decode c.code pc = .ok (.getstatic index, 3)) (hp : pc + 3 = pc') (K : ∀ T', Stand p l e R s m args below meth c T' locs cells slots → T'.heap = h → Rn p e below (T'.setTop (mkF m pc' L (v :: S))) G) : Rn p e below (T.setTop (mkF m pc L S)) G := by
  subst hp
  obtain ⟨T', X', e', st⟩ := getS2 X hx hZ hown w via eT F (g := mkF m pc L S) rfl hd
  exact Rn.st st (K T' X' e')
theorem R.putF (X : Stand p l e R s m args below meth c T locs cells slots) (hx : p.tables.exec = Jvm.exec) (hZ : Z.Warmed39 s.vm) {R0 O n d host C : String} {kk : Nat} {ty : FieldType} (hown : s.vm.findClass own = some m.cls) (w : (Jvm.Cond.fieldLink own index R0 n d).before a0 Z = true ∨ (Jvm.Cond.fieldLinkNest own index R0 n d host).before a0 Z = true) (via : Via Z R0 O n d) (eT : T.heap = h) {v old : Value} (F : Fld Z h a O n d old) (E : Exa Z h a C)
    (Ly : (Jvm.Cond.lays C O n d).before a0 Z = true ∨ ((Jvm.Cond.laysFinal C O n d).before a0 Z = true ∧ own = O ∧ meth.name = "<init>")) (wi : (Jvm.Cond.instantiable C kk).before a0 Z = true) (hty : parseFieldDescriptor d = some ty) (hn : narrow ty v = v) (hf : fits ty v = true)
    (hd : decode c.code pc = .ok (.putfield index, 3)) (hp : pc + 3 = pc') (K : ∀ T' h', Stand p l e R s m args below meth c T' (locs ++ [⟨a, Jvm.RoadKit.slotOf Z O n d⟩]) cells slots → T'.heap = h' → Wr h h' a (Jvm.RoadKit.slotOf Z O n d) v → Rn p e below (T'.setTop (mkF m pc' L S)) G) : Rn p e below (T.setTop (mkF m pc L (v :: .ref a :: S))) G := by
  subst hp
  obtain ⟨T', h', X', e', W', st⟩ := putF X hx hZ hown w via eT F E Ly wi hty hn hf (g := mkF m pc L (v :: .ref a :: S)) rfl rfl hd
  exact Rn.st st (K T' h' X' e' W')
theorem R.newO (X : Stand p l e R s m args below meth c T locs cells slots) (hx : p.tables.exec = Jvm.exec) (hZ : Z.Warmed39 s.vm) {C : String} {n : Nat} (hown : s.vm.findClass own = some m.cls) (w : (Jvm.Cond.classLink own index C).before a0 Z = true) (wi : (Jvm.Cond.instantiable C n).before a0 Z = true) (wz : (Jvm.Cond.initialized C).before a0 Z = true) (eT : T.heap = h)
    (hd : decode c.code pc = .ok (.new index, 3)) (hp : pc + 3 = pc') (hc : cells + 1 ≤ R.cells) (hl : slots + n ≤ R.slots)
    (K : ∀ T' h' b, b = h.size → Stand p l e R s m args below meth c T' locs (cells + 1) (slots + n) → T'.heap = h' → Ext h h' → Exa Z h' b C → (∀ {O nm d : String} {ty : FieldType}, Laid Z a0 C O nm d → parseFieldDescriptor d = some ty → Fld Z h' b O nm d (defaultValue ty)) → Rn p e below (T'.setTop (mkF m pc' L (.ref b :: S))) G) : Rn p e below (T.setTop (mkF m pc L S)) G := by
  subst hp
  obtain ⟨T', h', X', e', E', A', D', -, st⟩ := newO X hx hZ hown w wi wz eT (g := mkF m pc L S) rfl hd hc hl
  exact Rn.st st (K T' h' _ rfl X' e' E' A' D')
theorem R.newP (X : Stand p l e R s m args below meth c T locs cells slots) (hx : p.tables.exec = Jvm.exec) (hZ : Z.Warmed39 s.vm) {aty : ArrayType} {ty : FieldType} (hty : newarray.typeOf aty = ty) (w : (Jvm.Cond.arrayClass ty).before a0 Z = true) (eT : T.heap = h) {n : Int32} (hn : ¬ n < 0) {cap : Nat} (hcap : n.toNatClampNeg ≤ cap) (hb : cap * 8 ≤ 536870912) {ad : String} (had : "[" ++ ty.toString = ad)
    (hd : decode c.code pc = .ok (.newarray aty, 2)) (hp : pc + 2 = pc') (hc : cells + 1 ≤ R.cells) (hl : slots + cap ≤ R.slots)
    (K : ∀ T' h' b k, b = h.size → Stand p l e R s m args below meth c T' locs (cells + 1) (slots + cap) → T'.heap = h' → Ext h h' → Exa Z h' b ad → Arh Z h' b k ty n [] [] (defaultValue ty) → Rn p e below (T'.setTop (mkF m pc' L (.ref b :: S))) G) : Rn p e below (T.setTop (mkF m pc L (.int n :: S))) G := by
  subst hp hty
  obtain ⟨T', h', k, X', e', E', A', EE, st⟩ := newPE X hx hZ w eT (g := mkF m pc L (.int n :: S)) rfl hd rfl hn hcap hb hc hl had
  exact Rn.st st (K T' h' _ k rfl X' e' E' EE (Arv.new A' hn).arh)
section Arr
variable {k : ClassId} {z : Int32} {hs : List (Int32 × Value)} {vs : List Value} {dv : Value} {j : Int32}
theorem R.alen (X : Stand p l e R s m args below meth c T locs cells slots) (hx : p.tables.exec = Jvm.exec) (hZ : Z.Warmed39 s.vm) (eT : T.heap = h) {ty : FieldType} (F : Arh Z h a k ty z hs vs dv) (hd : decode c.code pc = .ok (.arraylength, 1)) (hp : pc + 1 = pc') (r : Rn p e below (T.setTop (mkF m pc' L (.int z :: S))) G) : Rn p e below (T.setTop (mkF m pc L (.ref a :: S))) G := by
  subst hp
  obtain ⟨cl, Ar, qA, SA, NA, HA, GA⟩ := F
  exact Rn.st (fun t q => X.arraylength hx (by rw [eT]; exact Ar.1) (State.isArrayOf_alike hZ.alike Ar.2.1) (g := mkF m pc L (.ref a :: S)) rfl rfl hd _ (by rw [len_of SA NA]; exact q)) r
theorem R.daload (X : Stand p l e R s m args below meth c T locs cells slots) (hx : p.tables.exec = Jvm.exec) (hZ : Z.Warmed39 s.vm) (eT : T.heap = h) (F : Arh Z h a k .double z hs vs dv) (hb : ¬ j < 0 ∧ j < z) {v : Value} (hv : getH hs vs dv j.toNatClampNeg = v) (hd : decode c.code pc = .ok (.daload, 1)) (hp : pc + 1 = pc') (r : Rn p e below (T.setTop (mkF m pc' L (v :: S))) G) : Rn p e below (T.setTop (mkF m pc L (.int j :: .ref a :: S))) G := by
  subst hp
  obtain ⟨cl, Ar, qA, SA, NA, HA, GA⟩ := F
  have hin := inb_of SA hb
  exact Rn.st (fun t q => X.daload hx (by rw [eT]; exact Ar.1) (State.isArrayOf_alike hZ.alike Ar.2.1) Ar.2.2 hin (atH HA hin hv) (g := mkF m pc L (.int j :: .ref a :: S)) rfl rfl hd _ q) r
theorem R.iaload (X : Stand p l e R s m args below meth c T locs cells slots) (hx : p.tables.exec = Jvm.exec) (hZ : Z.Warmed39 s.vm) (eT : T.heap = h) (F : Arh Z h a k .int z hs vs dv) (hb : ¬ j < 0 ∧ j < z) {v : Value} (hv : getH hs vs dv j.toNatClampNeg = v) (hd : decode c.code pc = .ok (.iaload, 1)) (hp : pc + 1 = pc') (r : Rn p e below (T.setTop (mkF m pc' L (v :: S))) G) : Rn p e below (T.setTop (mkF m pc L (.int j :: .ref a :: S))) G := by
  subst hp
  obtain ⟨cl, Ar, qA, SA, NA, HA, GA⟩ := F
  have hin := inb_of SA hb
  exact Rn.st (fun t q => X.iaload hx (by rw [eT]; exact Ar.1) (State.isArrayOf_alike hZ.alike Ar.2.1) Ar.2.2 hin (atH HA hin hv) (g := mkF m pc L (.int j :: .ref a :: S)) rfl rfl hd _ q) r
theorem R.baloadZ (X : Stand p l e R s m args below meth c T locs cells slots) (hx : p.tables.exec = Jvm.exec) (hZ : Z.Warmed39 s.vm) (eT : T.heap = h) (F : Arh Z h a k .boolean z hs vs dv) (hb : ¬ j < 0 ∧ j < z) {v : Value} (hv : getH hs vs dv j.toNatClampNeg = v) (hd : decode c.code pc = .ok (.baload, 1)) (hp : pc + 1 = pc') (r : Rn p e below (T.setTop (mkF m pc' L (v :: S))) G) : Rn p e below (T.setTop (mkF m pc L (.int j :: .ref a :: S))) G := by
  subst hp
  obtain ⟨cl, Ar, qA, SA, NA, HA, GA⟩ := F
  have hin := inb_of SA hb
  exact Rn.st (fun t q => X.baloadBooleans hx (by rw [eT]; exact Ar.1) (State.isArrayOf_alike hZ.alike Ar.2.1) Ar.2.2 hin (atH HA hin hv) (g := mkF m pc L (.int j :: .ref a :: S)) rfl rfl hd _ q) r
theorem R.dastore (X : Stand p l e R s m args below meth c T locs cells slots) (hx : p.tables.exec = Jvm.exec) (hZ : Z.Warmed39 s.vm) (eT : T.heap = h) (F : Arh Z h a k .double z hs vs dv) (hb : ¬ j < 0 ∧ j < z) {x : UInt64} (hd : decode c.code pc = .ok (.dastore, 1)) (hp : pc + 1 = pc')
    (K : ∀ T' h', Stand p l e R s m args below meth c T' (locs ++ [⟨a, j.toNatClampNeg⟩]) cells slots → T'.heap = h' → Wr h h' a j.toNatClampNeg (.double x) → Arh Z h' a k .double z ((j, .double x) :: hs) vs dv → Rn p e below (T'.setTop (mkF m pc' L S)) G) : Rn p e below (T.setTop (mkF m pc L (.double x :: .int j :: .ref a :: S))) G := by
  subst hp
  obtain ⟨cl, Ar, qA, SA, NA, HA, GA⟩ := F
  have hin := inb_of SA hb
  obtain ⟨T', h', X', e', W', st⟩ := stD X hx hZ eT Ar (j := j) hin (g := mkF m pc L (.double x :: .int j :: .ref a :: S)) rfl rfl hd
  exact Rn.st st (K T' h' X' e' W' (Arh.push Ar qA SA NA HA GA rfl W' hin))
theorem R.iastore (X : Stand p l e R s m args below meth c T locs cells slots) (hx : p.tables.exec = Jvm.exec) (hZ : Z.Warmed39 s.vm) (eT : T.heap = h) (F : Arh Z h a k .int z hs vs dv) (hb : ¬ j < 0 ∧ j < z) {x : Int32} (hd : decode c.code pc = .ok (.iastore, 1)) (hp : pc + 1 = pc')
    (K : ∀ T' h', Stand p l e R s m args below meth c T' (locs ++ [⟨a, j.toNatClampNeg⟩]) cells slots → T'.heap = h' → Wr h h' a j.toNatClampNeg (.int x) → Arh Z h' a k .int z ((j, .int x) :: hs) vs dv → Rn p e below (T'.setTop (mkF m pc' L S)) G) : Rn p e below (T.setTop (mkF m pc L (.int x :: .int j :: .ref a :: S))) G := by
  subst hp
  obtain ⟨cl, Ar, qA, SA, NA, HA, GA⟩ := F
  have hin := inb_of SA hb
  obtain ⟨T', h', X', e', W', st⟩ := stI X hx hZ eT Ar (j := j) hin (g := mkF m pc L (.int x :: .int j :: .ref a :: S)) rfl rfl hd
  exact Rn.st st (K T' h' X' e' W' (Arh.push Ar qA SA NA HA GA rfl W' hin))
theorem R.bastoreZ (X : Stand p l e R s m args below meth c T locs cells slots) (hx : p.tables.exec = Jvm.exec) (hZ : Z.Warmed39 s.vm) (eT : T.heap = h) (F : Arh Z h a k .boolean z hs vs dv) (hb : ¬ j < 0 ∧ j < z) {x : Int32} (hn : nar .boolean x = x) (hd : decode c.code pc = .ok (.bastore, 1)) (hp : pc + 1 = pc')
    (K : ∀ T' h', Stand p l e R s m args below meth c T' (locs ++ [⟨a, j.toNatClampNeg⟩]) cells slots → T'.heap = h' → Wr h h' a j.toNatClampNeg (.int x) → Arh Z h' a k .boolean z ((j, .int x) :: hs) vs dv → Rn p e below (T'.setTop (mkF m pc' L S)) G) : Rn p e below (T.setTop (mkF m pc L (.int x :: .int j :: .ref a :: S))) G := by
  subst hp
  obtain ⟨cl, Ar, qA, SA, NA, HA, GA⟩ := F
  have hin := inb_of SA hb
  obtain ⟨T', h', X', e', W', st⟩ := stZ X hx hZ eT Ar (j := j) hin (g := mkF m pc L (.int x :: .int j :: .ref a :: S)) rfl rfl hd
  rw [hn] at W'
  exact Rn.st st (K T' h' X' e' W' (Arh.push Ar qA SA NA HA GA (by have q := fits_nar_bool x; rw [hn] at q; exact q) W' hin))
end Arr
theorem R.ldc2D (X : Stand p l e R s m args below meth c T locs cells slots) (hx : p.tables.exec = Jvm.exec) (hZ : Z.Warmed39 s.vm) {b : UInt64} (hown : s.vm.findClass own = some m.cls) (w : (Jvm.Cond.constantDouble own index b).before a0 Z = true) (hd : decode c.code pc = .ok (.ldc2_w index, 3)) (hp : pc + 3 = pc') (r : Rn p e below (T.setTop (mkF m pc' L (.double b :: S))) G) : Rn p e below (T.setTop (mkF m pc L S)) G := by
  subst hp; exact Rn.st (fun t q => X.ldc2DoubleC hx hown (mvT hZ w) (g := mkF m pc L S) rfl hd _ q) r
theorem R.ldc2J (X : Stand p l e R s m args below meth c T locs cells slots) (hx : p.tables.exec = Jvm.exec) (hZ : Z.Warmed39 s.vm) {b : Int64} (hown : s.vm.findClass own = some m.cls) (w : (Jvm.Cond.constantLong own index b).before a0 Z = true) (hd : decode c.code pc = .ok (.ldc2_w index, 3)) (hp : pc + 3 = pc') (r : Rn p e below (T.setTop (mkF m pc' L (.long b :: S))) G) : Rn p e below (T.setTop (mkF m pc L S)) G := by
  subst hp; exact Rn.st (fun t q => X.ldc2Long hx hown (mvT hZ w) (g := mkF m pc L S) rfl hd _ q) r
theorem R.ldcI (X : Stand p l e R s m args below meth c T locs cells slots) (hx : p.tables.exec = Jvm.exec) (hZ : Z.Warmed39 s.vm) {b : Int32} (hown : s.vm.findClass own = some m.cls) (w : (Jvm.Cond.constant own index b).before a0 Z = true) (hd : decode c.code pc = .ok (.ldc index, 2)) (hp : pc + 2 = pc') (r : Rn p e below (T.setTop (mkF m pc' L (.int b :: S))) G) : Rn p e below (T.setTop (mkF m pc L S)) G := by
  subst hp; exact Rn.st (fun t q => X.ldcInt hx hown (mvT hZ w) (g := mkF m pc L S) rfl hd _ q) r
theorem R.castY (X : Stand p l e R s m args below meth c T locs cells slots) (hx : p.tables.exec = Jvm.exec) (hZ : Z.Warmed39 s.vm) {C : String} (hown : s.vm.findClass own = some m.cls) (w : (Jvm.Cond.classLink own index C).before a0 Z = true) (eT : T.heap = h) (F : Ins Z h a C true) (hd : decode c.code pc = .ok (.checkcast index, 3)) (hp : pc + 3 = pc')
    (K : ∀ T', Stand p l e R s m args below meth c T' locs cells slots → T'.heap = h → Rn p e below (T'.setTop (mkF m pc' L (.ref a :: S))) G) : Rn p e below (T.setTop (mkF m pc L (.ref a :: S))) G := by
  subst hp
  obtain ⟨T', X', e', st⟩ := castY X hx hZ hown w eT F (g := mkF m pc L (.ref a :: S)) rfl rfl hd
  exact Rn.st st (K T' X' e')
theorem R.instY (X : Stand p l e R s m args below meth c T locs cells slots) (hx : p.tables.exec = Jvm.exec) (hZ : Z.Warmed39 s.vm) {C : String} (hown : s.vm.findClass own = some m.cls) (w : (Jvm.Cond.classLink own index C).before a0 Z = true) (eT : T.heap = h) (F : Ins Z h a C true) (hd : decode c.code pc = .ok (.instanceof index, 3)) (hp : pc + 3 = pc')
    (K : ∀ T', Stand p l e R s m args below meth c T' locs cells slots → T'.heap = h → Rn p e below (T'.setTop (mkF m pc' L (.int 1 :: S))) G) : Rn p e below (T.setTop (mkF m pc L (.ref a :: S))) G := by
  subst hp
  obtain ⟨T', X', e', st⟩ := instY X hx hZ hown w eT F (g := mkF m pc L (.ref a :: S)) rfl rfl hd
  exact Rn.st st (K T' X' e')
theorem R.instNo (X : Stand p l e R s m args below meth c T locs cells slots) (hx : p.tables.exec = Jvm.exec) (hZ : Z.Warmed39 s.vm) {C C' : String} (hown : s.vm.findClass own = some m.cls) (w : (Jvm.Cond.classLink own index C').before a0 Z = true) (eT : T.heap = h) (E : Exa Z h a C) (F : ∃ c t, Z.vm.findClass C = some c ∧ Z.vm.findClass C' = some t ∧ Z.vm.assignable c t = false) (hd : decode c.code pc = .ok (.instanceof index, 3)) (hp : pc + 3 = pc')
    (K : ∀ T', Stand p l e R s m args below meth c T' locs cells slots → T'.heap = h → Rn p e below (T'.setTop (mkF m pc' L (.int 0 :: S))) G) : Rn p e below (T.setTop (mkF m pc L (.ref a :: S))) G := by
  subst hp
  obtain ⟨T', X', e', st⟩ := instNo X hx hZ hown w eT E F (g := mkF m pc L (.ref a :: S)) rfl rfl hd
  exact Rn.st st (K T' X' e')
theorem R.initO (X : Stand p l e R s m args below meth c T locs cells slots) (hx : p.tables.exec = Jvm.exec) (hZ : Z.Warmed39 s.vm) (hown : s.vm.findClass own = some m.cls) (w1 : (Jvm.Cond.methodLink own index Lib.objectInit).before a0 Z = true) (w2 : (Jvm.Cond.instanceMethod Lib.objectInit).before a0 Z = true) (w3 : (Jvm.Cond.code Lib.objectInit ⟨#[0xb1]⟩ 1 none).before a0 Z = true) (eT : T.heap = h) (hsize : L.size = c.maxLocals)
    (hd : decode c.code pc = .ok (.invokespecial index, 3)) (hp : pc + 3 = pc') (hf : 1 ≤ R.frames) {W : Nat} (hW : (S.map fun v => v.category).sum ≤ W) (hl : W + 12 ≤ R.locals)
    (K : ∀ T', Stand p l e R s m args below meth c T' locs cells slots → T'.heap = h → Rn p e below (T'.setTop (mkF m pc' L S)) G) : Rn p e below (T.setTop (mkF m pc L (.ref a :: S))) G := by
  subst hp
  obtain ⟨T', X', e', st⟩ := initO X hx hZ hown w1 w2 w3 eT (g := mkF m pc L (.ref a :: S)) rfl hsize rfl hd hf (W := W) (by show 2 * 0 + _ ≤ W; rw [Nat.mul_zero, Nat.zero_add]; exact hW) hl
  exact Rn.st st (K T' X' e')
section Calls
variable {y : MethodName} {bytes : ByteArray} {maxL : Nat} {ret : Option FieldType} {rm : Room} {as' : List Value} {Q : Option Value → Heap → List Loc → Prop} {S0 : List Value} {W : Nat}
theorem R.callS (X : Stand p l e R s m args below meth c T locs cells slots) (hx : p.tables.exec = Jvm.exec) (hZ : Z.Warmed39 s.vm) (hown : s.vm.findClass own = some m.cls) (w1 : (Jvm.Cond.methodLink own index y).before a0 Z = true) (w2 : (Jvm.Cond.static y).before a0 Z = true) (w3 : (Jvm.Cond.initialized y.cls).before a0 Z = true) (w4 : (Jvm.Cond.code y bytes maxL ret).before a0 Z = true) (hy : y.cls ≠ "java/lang/invoke/MethodHandle" ∧ y.cls ≠ "java/lang/invoke/VarHandle") (eT : T.heap = h)
    (hM : MetFree l y (head1 [Jvm.Cond.code y bytes maxL ret] rm) (fun a U => a = as'.toArray ∧ Z.Warmed39 U.vm ∧ U.heap = h) (fun _ _ _ _ _ => True) (fun _ U o U' => ∃ v L, o = .returned v ∧ Q v U'.heap L ∧ FrameEnd U o U' L rm.cells rm.slots))
    (hf : rm.frames + 1 ≤ R.frames) (hW : (S.map fun v => v.category).sum ≤ W) (hl : W + (maxL + 11) + rm.locals ≤ R.locals) (hsize : L.size = c.maxLocals) (hlen : ∀ sig, parseMethodDescriptor y.desc = some sig → as'.length = sig.parameters.length) (hst : S0 = as'.reverse ++ S) (hd : decode c.code pc = .ok (.invokestatic index, 3)) (hp : pc + 3 = pc') (hc : cells + rm.cells ≤ R.cells) (hs : slots + rm.slots ≤ R.slots)
    (K : ∀ v T' L1, Stand p l e R s m args below meth c T' (locs ++ L1) (cells + rm.cells) (slots + rm.slots) → Q v T'.heap L1 → Rn p e below (T'.setTop (mkF m pc' L (v.toList ++ S))) G) : Rn p e below (T.setTop (mkF m pc L S0)) G := by
  subst hp
  obtain ⟨v, vm1, ⟨T', L2, k', n'⟩, -, X', ⟨Lc, hQ, l1, y1, z1⟩, st⟩ := Jvm.LawKit.callS X hx (y := y) hown (mvT hZ w1) (mvT hZ w2) (mvT hZ w3) (mvT hZ w4) hy (backOf (W := W) hM hZ w4 w3 hf hl) (g := mkF m pc L S0) rfl hsize (argsL := as') (rest := S) hlen hst (by show 2 * 0 + _ ≤ W; rw [Nat.mul_zero, Nat.zero_add]; exact hW) hd (fun _ _ => ⟨rfl, eT, hc, hs⟩)
  dsimp only [Pt.U, Pt.locs, Pt.cells, Pt.slots] at X' l1 y1 z1 st hQ
  subst l1 y1 z1
  exact Rn.st st (K v T' Lc X' hQ)
theorem R.special (X : Stand p l e R s m args below meth c T locs cells slots) (hx : p.tables.exec = Jvm.exec) (hZ : Z.Warmed39 s.vm) (hy1 : y.name = "<init>") (hown : s.vm.findClass own = some m.cls) (w1 : (Jvm.Cond.methodLink own index y).before a0 Z = true) (w2 : (Jvm.Cond.instanceMethod y).before a0 Z = true) (w3 : (Jvm.Cond.initialized y.cls).before a0 Z = true) (w4 : (Jvm.Cond.code y bytes maxL none).before a0 Z = true) (hy : y.cls ≠ "java/lang/invoke/MethodHandle" ∧ y.cls ≠ "java/lang/invoke/VarHandle") (eT : T.heap = h)
    (hM : MetFree l y (head1 [Jvm.Cond.code y bytes maxL none] rm) (fun u U => u = (.ref a :: as').toArray ∧ Z.Warmed39 U.vm ∧ U.heap = h) (fun _ _ _ _ _ => True) (fun _ U o U' => ∃ v L, o = .returned v ∧ Q v U'.heap L ∧ FrameEnd U o U' L rm.cells rm.slots))
    (hf : rm.frames + 1 ≤ R.frames) (hW : (S.map fun v => v.category).sum ≤ W) (hl : W + (maxL + 11) + rm.locals ≤ R.locals) (hsize : L.size = c.maxLocals) (hlen : ∀ sig, parseMethodDescriptor y.desc = some sig → as'.length = sig.parameters.length) (hst : S0 = as'.reverse ++ .ref a :: S) (hd : decode c.code pc = .ok (.invokespecial index, 3)) (hp : pc + 3 = pc') (hc : cells + rm.cells ≤ R.cells) (hs : slots + rm.slots ≤ R.slots)
    (K : ∀ v T' L1, Stand p l e R s m args below meth c T' (locs ++ L1) (cells + rm.cells) (slots + rm.slots) → Q v T'.heap L1 → Rn p e below (T'.setTop (mkF m pc' L (v.toList ++ S))) G) : Rn p e below (T.setTop (mkF m pc L S0)) G := by
  subst hp
  obtain ⟨v, vm1, ⟨T', L2, k', n'⟩, -, X', ⟨Lc, hQ, l1, y1, z1⟩, st⟩ := X.specialBack hx (y := y) hy1 hown (mvT hZ w1) (mvT hZ w2) (mvT hZ w4) hy (backOf (W := W) hM hZ w4 w3 hf hl) (g := mkF m pc L S0) rfl hsize (Steps.refl _) (a := a) (argsL := as') (rest := S) hlen hst (by show 2 * 0 + _ ≤ W; rw [Nat.mul_zero, Nat.zero_add]; exact hW) hd (fun _ _ => ⟨rfl, eT, hc, hs⟩)
  dsimp only [Pt.U, Pt.locs, Pt.cells, Pt.slots] at X' l1 y1 z1 st hQ
  subst l1 y1 z1
  exact Rn.st (fun t q => st.trans q) (K v T' Lc X' hQ)
theorem R.virtual (X : Stand p l e R s m args below meth c T locs cells slots) (hx : p.tables.exec = Jvm.exec) (hZ : Z.Warmed39 s.vm) {C : String} {z : MethodName} (hown : s.vm.findClass own = some m.cls) (w1 : (Jvm.Cond.methodLink own index y).before a0 Z = true) (w2 : (Jvm.Cond.declares y).before a0 Z = true) (hnf : NotFace s y) (w5 : (Jvm.Cond.selects C y z).before a0 Z = true) (w6 : (Jvm.Cond.instanceMethod z).before a0 Z = true) (w3 : (Jvm.Cond.initialized z.cls).before a0 Z = true) (w4 : (Jvm.Cond.code z bytes maxL ret).before a0 Z = true) (hy : y.cls ≠ "java/lang/invoke/MethodHandle" ∧ y.cls ≠ "java/lang/invoke/VarHandle") (eT : T.heap = h) (E : Exa Z h a C)
    (hM : MetFree l z (head1 [Jvm.Cond.code z bytes maxL ret] rm) (fun u U => u = (.ref a :: as').toArray ∧ Z.Warmed39 U.vm ∧ U.heap = h) (fun _ _ _ _ _ => True) (fun _ U o U' => ∃ v L, o = .returned v ∧ Q v U'.heap L ∧ FrameEnd U o U' L rm.cells rm.slots))
    (hf : rm.frames + 1 ≤ R.frames) (hW : (S.map fun v => v.category).sum ≤ W) (hl : W + (maxL + 11) + rm.locals ≤ R.locals) (hsize : L.size = c.maxLocals) (hlen : ∀ sig, parseMethodDescriptor y.desc = some sig → as'.length = sig.parameters.length) (hst : S0 = as'.reverse ++ .ref a :: S) (hd : decode c.code pc = .ok (.invokevirtual index, 3)) (hp : pc + 3 = pc') (hc : cells + rm.cells ≤ R.cells) (hs : slots + rm.slots ≤ R.slots)
    (K : ∀ v T' L1, Stand p l e R s m args below meth c T' (locs ++ L1) (cells + rm.cells) (slots + rm.slots) → Q v T'.heap L1 → Rn p e below (T'.setTop (mkF m pc' L (v.toList ++ S))) G) : Rn p e below (T.setTop (mkF m pc L S0)) G := by
  subst hp
  obtain ⟨cq, kq, qa, qb, qc⟩ := isOf hZ eT E
  obtain ⟨v, vm1, ⟨T', L2, k', n'⟩, -, X', ⟨Lc, hQ, l1, y1, z1⟩, st⟩ := X.virtualBack hx (y := y) (z := z) hown (mvT hZ w1) (mvT hZ w2) hnf (mvT hZ w5) (mvT hZ w6) hy (backOf (W := W) hM hZ w4 w3 hf hl) qa qc (g := mkF m pc L S0) rfl hsize (Steps.refl _) (argsL := as') (rest := S) hlen hst (by show 2 * 0 + _ ≤ W; rw [Nat.mul_zero, Nat.zero_add]; exact hW) hd (fun _ _ => ⟨rfl, eT, hc, hs⟩)
  dsimp only [Pt.U, Pt.locs, Pt.cells, Pt.slots] at X' l1 y1 z1 st hQ
  subst l1 y1 z1
  exact Rn.st (fun t q => st.trans q) (K v T' Lc X' hQ)
end Calls
end RBig
/-- the i-th of three -/
def own_sel (A B D : UInt64) (i : Int32) : UInt64 := if i = 0 then A else if i = 1 then B else D
/-- what stands at j -/
def own_w (lag : Int32) (A B D : UInt64) (j : Int32) : UInt64 := if j = (0 : Int32) then FP.dconst1 else if (j % lag) = (0 : Int32) then own_sel A B D (j / lag - (1 : Int32)) else (0 : UInt64)
theorem own_sel_nn {A B D : UInt64} {i : Int32} (a : NoNaN64 A) (b : NoNaN64 B) (d : NoNaN64 D) : NoNaN64 (own_sel A B D i) := by unfold own_sel; split; exact a; split; exact b; exact d
theorem own_nn0 : NoNaN64 (0 : UInt64) := by unfold NoNaN64; decide
theorem own_nn1 : NoNaN64 FP.dconst1 := by unfold NoNaN64; decide
theorem own_lnz {l : Int32} (h : 1 ≤ l.toInt) : l ≠ (0 : Int32) := fun e => by rw [e] at h; exact absurd h (by decide)
theorem own_nneg {n : Int32} (h : 0 ≤ n.toInt) : ¬ n < 0 := by
  rw [Int32.lt_iff_toInt_lt]
  have : (0 : Int32).toInt = 0 := by decide
  omega
theorem own_mk {k p : Int32} {d : Int} (hk : k.toInt = d) (hd : 0 ≤ d ∧ d ≤ 3) (hl : 1 ≤ p.toInt ∧ p.toInt ≤ 4) : (k * p).toInt = d * p.toInt := by
  rw [own_mulI] <;> rw [hk]
  have := own_pb (show d.natAbs ≤ 3 by omega) (show p.toInt.natAbs ≤ 4 by omega)
  omega
theorem own_zt {k p : Int32} {d : Int} (hk : k.toInt = d) (hd : 0 ≤ d ∧ d ≤ 3) (hl : 1 ≤ p.toInt ∧ p.toInt ≤ 4) : ((k * p) + (1 : Int32)).toInt = d * p.toInt + 1 := by
  have q := own_mk hk hd hl
  have e1 : (1 : Int32).toInt = 1 := by decide
  have := own_pb (show d.natAbs ≤ 3 by omega) (show p.toInt.natAbs ≤ 4 by omega)
  rw [own_addI] <;> rw [q, e1]
  omega
theorem own_int32 {i : Int32} {n : Int} (h : i.toInt = n) : i = Int32.ofInt n := by rw [← h, Int32.ofInt_toInt]
theorem own_lag {p : Int32} (hl : 1 ≤ p.toInt ∧ p.toInt ≤ 4) : p = 1 ∨ p = 2 ∨ p = 3 ∨ p = 4 := by
  have : p.toInt = 1 ∨ p.toInt = 2 ∨ p.toInt = 3 ∨ p.toInt = 4 := by omega
  rcases this with h | h | h | h
  · exact Or.inl (own_int32 h)
  · exact Or.inr (Or.inl (own_int32 h))
  · exact Or.inr (Or.inr (Or.inl (own_int32 h)))
  · exact Or.inr (Or.inr (Or.inr (own_int32 h)))
theorem own_idx {j l q z : Int32} (hl : 1 ≤ l.toInt ∧ l.toInt ≤ 4) (hj : 0 ≤ j.toInt ∧ j.toInt ≤ 12) (hz : z.toInt ≤ 3 * l.toInt + 1) (hlt : j.toInt < z.toInt) (hne : ¬ j = (0 : Int32)) (hm : (j % l) = (0 : Int32)) (hq : (j / l) = q) : 0 ≤ (q - (1 : Int32)).toInt ∧ (q - (1 : Int32)).toInt < 3 := by
  have e1 : (1 : Int32).toInt = 1 := by decide
  have hne' : j.toInt ≠ 0 := fun e => hne (Int32.toInt_inj.mp (e.trans (by decide)))
  have t := (c_irem j l l.toInt rfl).1 hj.1
  rw [hm] at t
  have d := (c_idiv j l l.toInt rfl (by rcases own_lag hl with rfl | rfl | rfl | rfl <;> decide)).1 hj.1
  rw [hq] at d
  have t0 : (0 : Int32).toInt = 0 := by decide
  have k : 1 ≤ q.toInt ∧ q.toInt ≤ 3 := by
    rcases own_lag hl with rfl | rfl | rfl | rfl
    · rw [show (1 : Int32).toInt = 1 by decide] at *; omega
    · rw [show (2 : Int32).toInt = 2 by decide] at *; omega
    · rw [show (3 : Int32).toInt = 3 by decide] at *; omega
    · rw [show (4 : Int32).toInt = 4 by decide] at *; omega
  rw [own_subI] <;> rw [e1] <;> omega
theorem own_n3 {a r : Int32} (h : (a &&& (3 : Int32)) = r) : 0 ≤ r.toInt ∧ r.toInt ≤ 3 := by rw [← h]; exact c_and a 3 (by decide)
theorem own_lg {a r : Int32} (h : ((a &&& (3 : Int32)) + (1 : Int32)) = r) : 1 ≤ r.toInt ∧ r.toInt ≤ 4 := by
  have b := c_and a (3 : Int32) (by decide)
  have e3 : (3 : Int32).toInt = 3 := by decide
  have e1 : (1 : Int32).toInt = 1 := by decide
  rw [← h, own_addI] <;> rw [e1] <;> omega
theorem own_isn {r k : Int32} (h : r.toInt = k.toInt) : r = k := Int32.toInt_inj.mp h
theorem own_rd0 {p : Int32} {A B D : UInt64} (hl : 1 ≤ p.toInt ∧ p.toInt ≤ 4) : ∀ j : Int32, 0 ≤ j.toInt → j.toInt < (((0 : Int32) * p) + (1 : Int32)).toInt → getH [((0 : Int32), (.double FP.dconst1))] [] (.double (0 : UInt64)) j.toNatClampNeg = (.double (own_w p A B D j)) := by
  intro j h0 h1
  rw [own_zt (d := 0) (by decide) (by omega) hl] at h1
  rcases own_lag hl with rfl | rfl | rfl | rfl
  · rw [show (1 : Int32).toInt = 1 by decide] at h1
    have hd : j.toInt = 0 := by omega
    cases own_int32 hd; rfl
  · rw [show (2 : Int32).toInt = 2 by decide] at h1
    have hd : j.toInt = 0 := by omega
    cases own_int32 hd; rfl
  · rw [show (3 : Int32).toInt = 3 by decide] at h1
    have hd : j.toInt = 0 := by omega
    cases own_int32 hd; rfl
  · rw [show (4 : Int32).toInt = 4 by decide] at h1
    have hd : j.toInt = 0 := by omega
    cases own_int32 hd; rfl
theorem own_rd1 {p : Int32} {A B D : UInt64} (hl : 1 ≤ p.toInt ∧ p.toInt ≤ 4) : ∀ j : Int32, 0 ≤ j.toInt → j.toInt < (((1 : Int32) * p) + (1 : Int32)).toInt → getH [(((1 : Int32) * p), (.double A)), ((0 : Int32), (.double FP.dconst1))] [] (.double (0 : UInt64)) j.toNatClampNeg = (.double (own_w p A B D j)) := by
  intro j h0 h1
  rw [own_zt (d := 1) (by decide) (by omega) hl] at h1
  rcases own_lag hl with rfl | rfl | rfl | rfl
  · rw [show (1 : Int32).toInt = 1 by decide] at h1
    have hd : j.toInt = 0 ∨ j.toInt = 1 := by omega
    rcases hd with q | q
    · cases own_int32 q; rfl
    · cases own_int32 q; rfl
  · rw [show (2 : Int32).toInt = 2 by decide] at h1
    have hd : j.toInt = 0 ∨ j.toInt = 1 ∨ j.toInt = 2 := by omega
    rcases hd with q | q | q
    · cases own_int32 q; rfl
    · cases own_int32 q; rfl
    · cases own_int32 q; rfl
  · rw [show (3 : Int32).toInt = 3 by decide] at h1
    have hd : j.toInt = 0 ∨ j.toInt = 1 ∨ j.toInt = 2 ∨ j.toInt = 3 := by omega
    rcases hd with q | q | q | q
    · cases own_int32 q; rfl
    · cases own_int32 q; rfl
    · cases own_int32 q; rfl
    · cases own_int32 q; rfl
  · rw [show (4 : Int32).toInt = 4 by decide] at h1
    have hd : j.toInt = 0 ∨ j.toInt = 1 ∨ j.toInt = 2 ∨ j.toInt = 3 ∨ j.toInt = 4 := by omega
    rcases hd with q | q | q | q | q
    · cases own_int32 q; rfl
    · cases own_int32 q; rfl
    · cases own_int32 q; rfl
    · cases own_int32 q; rfl
    · cases own_int32 q; rfl
theorem own_rd2 {p : Int32} {A B D : UInt64} (hl : 1 ≤ p.toInt ∧ p.toInt ≤ 4) : ∀ j : Int32, 0 ≤ j.toInt → j.toInt < (((2 : Int32) * p) + (1 : Int32)).toInt → getH [(((2 : Int32) * p), (.double B)), (((1 : Int32) * p), (.double A)), ((0 : Int32), (.double FP.dconst1))] [] (.double (0 : UInt64)) j.toNatClampNeg = (.double (own_w p A B D j)) := by
  intro j h0 h1
  rw [own_zt (d := 2) (by decide) (by omega) hl] at h1
  rcases own_lag hl with rfl | rfl | rfl | rfl
  · rw [show (1 : Int32).toInt = 1 by decide] at h1
    have hd : j.toInt = 0 ∨ j.toInt = 1 ∨ j.toInt = 2 := by omega
    rcases hd with q | q | q
    · cases own_int32 q; rfl
    · cases own_int32 q; rfl
    · cases own_int32 q; rfl
  · rw [show (2 : Int32).toInt = 2 by decide] at h1
    have hd : j.toInt = 0 ∨ j.toInt = 1 ∨ j.toInt = 2 ∨ j.toInt = 3 ∨ j.toInt = 4 := by omega
    rcases hd with q | q | q | q | q
    · cases own_int32 q; rfl
    · cases own_int32 q; rfl
    · cases own_int32 q; rfl
    · cases own_int32 q; rfl
    · cases own_int32 q; rfl
  · rw [show (3 : Int32).toInt = 3 by decide] at h1
    have hd : j.toInt = 0 ∨ j.toInt = 1 ∨ j.toInt = 2 ∨ j.toInt = 3 ∨ j.toInt = 4 ∨ j.toInt = 5 ∨ j.toInt = 6 := by omega
    rcases hd with q | q | q | q | q | q | q
    · cases own_int32 q; rfl
    · cases own_int32 q; rfl
    · cases own_int32 q; rfl
    · cases own_int32 q; rfl
    · cases own_int32 q; rfl
    · cases own_int32 q; rfl
    · cases own_int32 q; rfl
  · rw [show (4 : Int32).toInt = 4 by decide] at h1
    have hd : j.toInt = 0 ∨ j.toInt = 1 ∨ j.toInt = 2 ∨ j.toInt = 3 ∨ j.toInt = 4 ∨ j.toInt = 5 ∨ j.toInt = 6 ∨ j.toInt = 7 ∨ j.toInt = 8 := by omega
    rcases hd with q | q | q | q | q | q | q | q | q
    · cases own_int32 q; rfl
    · cases own_int32 q; rfl
    · cases own_int32 q; rfl
    · cases own_int32 q; rfl
    · cases own_int32 q; rfl
    · cases own_int32 q; rfl
    · cases own_int32 q; rfl
    · cases own_int32 q; rfl
    · cases own_int32 q; rfl
theorem own_rd3 {p : Int32} {A B D : UInt64} (hl : 1 ≤ p.toInt ∧ p.toInt ≤ 4) : ∀ j : Int32, 0 ≤ j.toInt → j.toInt < (((3 : Int32) * p) + (1 : Int32)).toInt → getH [(((3 : Int32) * p), (.double D)), (((2 : Int32) * p), (.double B)), (((1 : Int32) * p), (.double A)), ((0 : Int32), (.double FP.dconst1))] [] (.double (0 : UInt64)) j.toNatClampNeg = (.double (own_w p A B D j)) := by
  intro j h0 h1
  rw [own_zt (d := 3) (by decide) (by omega) hl] at h1
  rcases own_lag hl with rfl | rfl | rfl | rfl
  · rw [show (1 : Int32).toInt = 1 by decide] at h1
    have hd : j.toInt = 0 ∨ j.toInt = 1 ∨ j.toInt = 2 ∨ j.toInt = 3 := by omega
    rcases hd with q | q | q | q
    · cases own_int32 q; rfl
    · cases own_int32 q; rfl
    · cases own_int32 q; rfl
    · cases own_int32 q; rfl
  · rw [show (2 : Int32).toInt = 2 by decide] at h1
    have hd : j.toInt = 0 ∨ j.toInt = 1 ∨ j.toInt = 2 ∨ j.toInt = 3 ∨ j.toInt = 4 ∨ j.toInt = 5 ∨ j.toInt = 6 := by omega
    rcases hd with q | q | q | q | q | q | q
    · cases own_int32 q; rfl
    · cases own_int32 q; rfl
    · cases own_int32 q; rfl
    · cases own_int32 q; rfl
    · cases own_int32 q; rfl
    · cases own_int32 q; rfl
    · cases own_int32 q; rfl
  · rw [show (3 : Int32).toInt = 3 by decide] at h1
    have hd : j.toInt = 0 ∨ j.toInt = 1 ∨ j.toInt = 2 ∨ j.toInt = 3 ∨ j.toInt = 4 ∨ j.toInt = 5 ∨ j.toInt = 6 ∨ j.toInt = 7 ∨ j.toInt = 8 ∨ j.toInt = 9 := by omega
    rcases hd with q | q | q | q | q | q | q | q | q | q
    · cases own_int32 q; rfl
    · cases own_int32 q; rfl
    · cases own_int32 q; rfl
    · cases own_int32 q; rfl
    · cases own_int32 q; rfl
    · cases own_int32 q; rfl
    · cases own_int32 q; rfl
    · cases own_int32 q; rfl
    · cases own_int32 q; rfl
    · cases own_int32 q; rfl
  · rw [show (4 : Int32).toInt = 4 by decide] at h1
    have hd : j.toInt = 0 ∨ j.toInt = 1 ∨ j.toInt = 2 ∨ j.toInt = 3 ∨ j.toInt = 4 ∨ j.toInt = 5 ∨ j.toInt = 6 ∨ j.toInt = 7 ∨ j.toInt = 8 ∨ j.toInt = 9 ∨ j.toInt = 10 ∨ j.toInt = 11 ∨ j.toInt = 12 := by omega
    rcases hd with q | q | q | q | q | q | q | q | q | q | q | q | q
    · cases own_int32 q; rfl
    · cases own_int32 q; rfl
    · cases own_int32 q; rfl
    · cases own_int32 q; rfl
    · cases own_int32 q; rfl
    · cases own_int32 q; rfl
    · cases own_int32 q; rfl
    · cases own_int32 q; rfl
    · cases own_int32 q; rfl
    · cases own_int32 q; rfl
    · cases own_int32 q; rfl
    · cases own_int32 q; rfl
    · cases own_int32 q; rfl
theorem own_rdA {A B D : UInt64} : ∀ i : Int32, 0 ≤ i.toInt → i.toInt < 3 → getH [((2 : Int32), (.double D)), ((1 : Int32), (.double B)), ((0 : Int32), (.double A))] [] (.double (0 : UInt64)) i.toNatClampNeg = (.double (own_sel A B D i)) := by
  intro i h0 h1
  have hd : i.toInt = 0 ∨ i.toInt = 1 ∨ i.toInt = 2 := by omega
  rcases hd with q | q | q
  · cases own_int32 q; rfl
  · cases own_int32 q; rfl
  · cases own_int32 q; rfl
theorem d1_0 : decode prog_10_method_2_code 0 = .ok (.aload_n 0, 1) := by decide +kernel
theorem d1_1 : decode prog_10_method_2_code 1 = .ok (.arraylength, 1) := by decide +kernel
theorem d1_2 : decode prog_10_method_2_code 2 = .ok (.iload_n 1, 1) := by decide +kernel
theorem d1_3 : decode prog_10_method_2_code 3 = .ok (.imul, 1) := by decide +kernel
theorem d1_4 : decode prog_10_method_2_code 4 = .ok (.iconst 1, 1) := by decide +kernel
theorem d1_5 : decode prog_10_method_2_code 5 = .ok (.iadd, 1) := by decide +kernel
theorem d1_6 : decode prog_10_method_2_code 6 = .ok (.newarray .double, 2) := by decide +kernel
theorem d1_8 : decode prog_10_method_2_code 8 = .ok (.astore_n 2, 1) := by decide +kernel
theorem d1_9 : decode prog_10_method_2_code 9 = .ok (.aload_n 2, 1) := by decide +kernel
theorem d1_10 : decode prog_10_method_2_code 10 = .ok (.iconst 0, 1) := by decide +kernel
theorem d1_11 : decode prog_10_method_2_code 11 = .ok (.dconst 1, 1) := by decide +kernel
theorem d1_12 : decode prog_10_method_2_code 12 = .ok (.dastore, 1) := by decide +kernel
theorem d1_13 : decode prog_10_method_2_code 13 = .ok (.iconst 0, 1) := by decide +kernel
theorem d1_14 : decode prog_10_method_2_code 14 = .ok (.istore_n 3, 1) := by decide +kernel
theorem d1_15 : decode prog_10_method_2_code 15 = .ok (.iload_n 3, 1) := by decide +kernel
theorem d1_16 : decode prog_10_method_2_code 16 = .ok (.aload_n 0, 1) := by decide +kernel
theorem d1_17 : decode prog_10_method_2_code 17 = .ok (.arraylength, 1) := by decide +kernel
theorem d1_18 : decode prog_10_method_2_code 18 = .ok (.if_icmp .ge 19, 3) := by decide +kernel
theorem d1_37 : decode prog_10_method_2_code 37 = .ok (.aload_n 2, 1) := by decide +kernel
theorem d1_38 : decode prog_10_method_2_code 38 = .ok (.areturn, 1) := by decide +kernel
theorem pn_0 : plainName "com/example/deseason/deseason/arima/Polynomials" = true := by first | (simp [plainName, overriddenIn]; done) | decide +kernel
theorem ef_wl0 (m : MethodId) (x0 : Addr) (x1 : Int32) : entryFrame m #[(.ref x0), (.int x1)] 4 = mkF m 0 #[.val (.ref x0), .val (.int x1), .unset, .unset] [] := by first | (simp [entryFrame, mkF, argsToLocals, Value.category]; done) | rfl
def Qwl0 (Z : State) (a0 : Addr) (p1 : Int32) (ka : ClassId) (h0 : Heap) (n0 : Nat) (vQ : Option Value) (hQ_ : Heap) (LQ : List Loc) : Prop := ∃ r : Addr, ∃ kr : ClassId, vQ = some (.ref r) ∧ Fr n0 LQ ∧ Keep h0 hQ_ [] ∧ (h0.size ≤ r) ∧ (Arh Z hQ_ r kr .double (((0 : Int32) * p1) + (1 : Int32)) [((0 : Int32), (.double FP.dconst1))] [] (.double (0 : UInt64)))
def Fnwl0 (Z : State) (a0 : Addr) (p1 : Int32) (ka : ClassId) (h0 : Heap) (n0 : Nat) (sQ : State) (oQ : Outcome) (UQ : State) : Prop := ∃ vQ LQ, oQ = .returned vQ ∧ Qwl0 Z a0 p1 ka h0 n0 vQ UQ.heap LQ ∧ FrameEnd sQ oQ UQ LQ ({ frames := 0, cells := 1, slots := 13, locals := 0 } : Room).cells ({ frames := 0, cells := 1, slots := 13, locals := 0 } : Room).slots
set_option maxRecDepth 65536 in
set_option maxHeartbeats 40000000 in
theorem rmwl0 (l : Launch) (Z : State) (aZ : Array Value) (hw : ∀ d ∈ tables_1, d.before aZ Z = true) (ws : List Jvm.Cond) (a0 : Addr) (p1 : Int32) (ka : ClassId) (h0 : Heap) (n0 : Nat) (Z0 : n0 ≤ h0.size) (V_a0 : Arh Z h0 a0 ka .double (0 : Int32) [] [] (.double (0 : UInt64))) (hl : 1 ≤ p1.toInt ∧ p1.toInt ≤ 4) :
    MetFree l (⟨"com/example/deseason/deseason/arima/Polynomials", "withLeadingOne", "([DI)[D"⟩ : MethodName) (head1 (Jvm.Cond.code (⟨"com/example/deseason/deseason/arima/Polynomials", "withLeadingOne", "([DI)[D"⟩ : MethodName) prog_10_method_2_code 4 (some (.array .double)) :: ws) ({ frames := 0, cells := 1, slots := 13, locals := 0 } : Room)) (fun aQ UQ => aQ = #[(.ref a0), (.int p1)] ∧ Z.Warmed39 UQ.vm ∧ UQ.heap = h0) (fun _ _ _ _ _ => True) (fun _ UQ oQ UR => ∃ vQ LQ, oQ = .returned vQ ∧ Qwl0 Z a0 p1 ka h0 n0 vQ UR.heap LQ ∧ FrameEnd UQ oQ UR LQ ({ frames := 0, cells := 1, slots := 13, locals := 0 } : Room).cells ({ frames := 0, cells := 1, slots := 13, locals := 0 } : Room).slots) := by
  refine MetFree.of_bodySF (plainFor_of_name pn_0) hisR ?_
  intro p e s m args below meth c s₁ Bd hml0 hP hK
  obtain ⟨rfl, hZ, hh⟩ := hP
  have hx := Bd.exec
  have hby := Bd.bytes
  have hml : c.maxLocals = 4 := hml0
  have hown : s.vm.findClass "com/example/deseason/deseason/arima/Polynomials" = some m.cls := findClass_of_methodNamed Bd.named
  have hnm := (name_of_methodNamed Bd.named Bd.method).1
  have X0 : Stand p l e ({ frames := 0, cells := 1, slots := 13, locals := 0 } : Room) s m #[(.ref a0), (.int p1)] below meth c s₁ [] 0 0 := Stand.of_body Bd
  have e0 : s₁.heap = h0 := by rw [← hh, Bd.state]; rfl
  have N0 := Fr.nil n0
  have K0 : Keep h0 h0 [] := Keep.refl _ _
  have w_0 := hw _ (List.mem_of_getElem? (i := 0) rfl)
  have first_ : Rn p e below (s₁.setTop (mkF m 0 #[.val (.ref a0), .val (.int p1), .unset, .unset] [])) (Fnwl0 Z a0 p1 ka h0 n0 s) := by
    generalize hG : (Fnwl0 Z a0 p1 ka h0 n0 s) = G
    have zt : (((0 : Int32) * p1) + (1 : Int32)).toInt = 0 * p1.toInt + 1 := own_zt (by decide) (by omega) hl
    refine R.aloadN X0 hx (hb hby d1_0) rfl rfl (pc' := 1) rfl ?_
    refine R.alen X0 hx hZ e0 V_a0 (hb hby d1_1) (pc' := 2) rfl ?_
    refine R.iloadN X0 hx (hb hby d1_2) rfl (pc' := 3) rfl ?_
    refine R.imul X0 hx (hb hby d1_3) rfl (pc' := 4) rfl ?_
    refine R.iconst X0 hx (hb hby d1_4) (v := (1 : Int32)) (by decide) (pc' := 5) rfl ?_
    refine R.iadd X0 hx (hb hby d1_5) rfl (pc' := 6) rfl ?_
    refine R.newP X0 hx hZ (ty := .double) rfl w_0 e0 (own_nneg (by omega)) (cap := 13) (show (((0 : Int32) * p1) + (1 : Int32)).toInt.toNat ≤ 13 by omega) (by decide) (ad := "[D") (by decide) (hb hby d1_6) (pc' := 8) rfl (by decide) (by decide) ?_; intro T1 h1 b1 k1 g1 X1 e1 E1 EE1 A1
    have g_b1 : n0 ≤ b1 := Nat.le_trans Z0 (Nat.le_of_eq g1.symm)
    have sz_b1 : h0.size ≤ b1 := Nat.le_trans K0.1 (Nat.le_of_eq g1.symm)
    have ne_a0_b1 : a0 ≠ b1 := Nat.ne_of_lt (Nat.lt_of_lt_of_le V_a0.lt (Nat.le_of_eq g1.symm))
    have K1 : Keep h0 h1 [] := K0.ext E1
    have Z1 : n0 ≤ h1.size := Nat.le_trans Z0 E1.1
    have V_a0 := V_a0.ext E1
    have V_b1 : Arh Z h1 b1 k1 .double (((0 : Int32) * p1) + (1 : Int32)) [] [] (.double (0 : UInt64)) := A1
    refine R.astoreN X1 hx (hb hby d1_8) rfl (L' := #[.val (.ref a0), .val (.int p1), .val (.ref b1), .unset]) rfl (pc' := 9) rfl ?_
    refine R.aloadN X1 hx (hb hby d1_9) rfl rfl (pc' := 10) rfl ?_
    refine R.iconst X1 hx (hb hby d1_10) (v := (0 : Int32)) (by decide) (pc' := 11) rfl ?_
    refine R.dconst1 X1 hx (hb hby d1_11) (pc' := 12) rfl ?_
    refine R.dastore X1 hx hZ e1 V_b1 (own_bd (show (0 : Int) ≤ 0 ∧ (0 : Int) < ((((0 : Int32) * p1) + (1 : Int32))).toInt by omega) : ¬ (0 : Int32) < 0 ∧ (0 : Int32) < (((0 : Int32) * p1) + (1 : Int32))) (hb hby d1_12) (pc' := 13) rfl ?_; intro T2 h2 X2 e2 W2 V2
    have V_a0 := V_a0.other W2 ne_a0_b1
    have V_b1 : Arh Z h2 b1 k1 .double (((0 : Int32) * p1) + (1 : Int32)) [((0 : Int32), (.double FP.dconst1))] [] (.double (0 : UInt64)) := V2
    have N2 := Fr.snoc X2 N0 g_b1
    have K2 : Keep h0 h2 [] := K1.wr W2 (Or.inr sz_b1)
    have Z2 : n0 ≤ h2.size := Nat.le_trans Z1 (Keep.of_wr W2).1
    refine R.iconst X2 hx (hb hby d1_13) (v := (0 : Int32)) (by decide) (pc' := 14) rfl ?_
    refine R.istoreN X2 hx (hb hby d1_14) (L' := #[.val (.ref a0), .val (.int p1), .val (.ref b1), .val (.int (0 : Int32))]) rfl (pc' := 15) rfl ?_
    refine R.iloadN X2 hx (hb hby d1_15) rfl (pc' := 16) rfl ?_
    refine R.aloadN X2 hx (hb hby d1_16) rfl rfl (pc' := 17) rfl ?_
    refine R.alen X2 hx hZ e2 V_a0 (hb hby d1_17) (pc' := 18) rfl ?_
    refine R.icmpYes X2 hx (hb hby d1_18) (flt (by decide : ¬ ((0 : Int32) < (0 : Int32)))).2.1 (by decide) (pc' := 37) (by decide) ?_
    refine R.aloadN X2 hx (hb hby d1_37) rfl rfl (pc' := 38) rfl ?_
    rw [← hG]
    exact Rn.ret X2 (BodyLoose.notSynchronized Bd) (v := some (.ref b1)) (fun h => by rw [Bd.returns] at h; cases h) (Q := Qwl0 Z a0 p1 ka h0 n0) e2 (fun fs hr => retOut X2 hx (t := (.array .double)) Bd.returns rfl (Or.inr (Or.inr (Or.inr (Or.inr ⟨rfl, rfl, rfl⟩)))) (hb hby d1_38) hr) ⟨b1, k1, rfl, N2, K2, (sz_b1), V_b1⟩ (by decide) (by decide)
  exact (Rn.st (fun t k => castTop (ef_wl0 m a0 p1) k) first_ : Rn p e below (s₁.setTop (entryFrame m #[(.ref a0), (.int p1)] 4)) (Fnwl0 Z a0 p1 ka h0 n0 s))
theorem d1_21 : decode prog_10_method_2_code 21 = .ok (.aload_n 2, 1) := by decide +kernel
theorem d1_22 : decode prog_10_method_2_code 22 = .ok (.iload_n 3, 1) := by decide +kernel
theorem d1_23 : decode prog_10_method_2_code 23 = .ok (.iconst 1, 1) := by decide +kernel
theorem d1_24 : decode prog_10_method_2_code 24 = .ok (.iadd, 1) := by decide +kernel
theorem d1_25 : decode prog_10_method_2_code 25 = .ok (.iload_n 1, 1) := by decide +kernel
theorem d1_26 : decode prog_10_method_2_code 26 = .ok (.imul, 1) := by decide +kernel
theorem d1_27 : decode prog_10_method_2_code 27 = .ok (.aload_n 0, 1) := by decide +kernel
theorem d1_28 : decode prog_10_method_2_code 28 = .ok (.iload_n 3, 1) := by decide +kernel
theorem d1_29 : decode prog_10_method_2_code 29 = .ok (.daload, 1) := by decide +kernel
theorem d1_30 : decode prog_10_method_2_code 30 = .ok (.dastore, 1) := by decide +kernel
theorem d1_31 : decode prog_10_method_2_code 31 = .ok (.iinc 3 1, 3) := by decide +kernel
theorem d1_34 : decode prog_10_method_2_code 34 = .ok (.goto (-19), 3) := by decide +kernel
theorem ef_wl1 (m : MethodId) (x0 : Addr) (x1 : Int32) : entryFrame m #[(.ref x0), (.int x1)] 4 = mkF m 0 #[.val (.ref x0), .val (.int x1), .unset, .unset] [] := by first | (simp [entryFrame, mkF, argsToLocals, Value.category]; done) | rfl
def Qwl1 (Z : State) (a0 : Addr) (p1 : Int32) (ka : ClassId) (c0 : UInt64) (h0 : Heap) (n0 : Nat) (vQ : Option Value) (hQ_ : Heap) (LQ : List Loc) : Prop := ∃ r : Addr, ∃ kr : ClassId, vQ = some (.ref r) ∧ Fr n0 LQ ∧ Keep h0 hQ_ [] ∧ (h0.size ≤ r) ∧ (Arh Z hQ_ r kr .double (((1 : Int32) * p1) + (1 : Int32)) [(((1 : Int32) * p1), (.double c0)), ((0 : Int32), (.double FP.dconst1))] [] (.double (0 : UInt64)))
def Fnwl1 (Z : State) (a0 : Addr) (p1 : Int32) (ka : ClassId) (c0 : UInt64) (h0 : Heap) (n0 : Nat) (sQ : State) (oQ : Outcome) (UQ : State) : Prop := ∃ vQ LQ, oQ = .returned vQ ∧ Qwl1 Z a0 p1 ka c0 h0 n0 vQ UQ.heap LQ ∧ FrameEnd sQ oQ UQ LQ ({ frames := 0, cells := 1, slots := 13, locals := 0 } : Room).cells ({ frames := 0, cells := 1, slots := 13, locals := 0 } : Room).slots
set_option maxRecDepth 65536 in
set_option maxHeartbeats 40000000 in
theorem rmwl1 (l : Launch) (Z : State) (aZ : Array Value) (hw : ∀ d ∈ tables_1, d.before aZ Z = true) (ws : List Jvm.Cond) (a0 : Addr) (p1 : Int32) (ka : ClassId) (c0 : UInt64) (h0 : Heap) (n0 : Nat) (Z0 : n0 ≤ h0.size) (V_a0 : Arh Z h0 a0 ka .double (1 : Int32) [((0 : Int32), (.double c0))] [] (.double (0 : UInt64))) (hl : 1 ≤ p1.toInt ∧ p1.toInt ≤ 4) :
    MetFree l (⟨"com/example/deseason/deseason/arima/Polynomials", "withLeadingOne", "([DI)[D"⟩ : MethodName) (head1 (Jvm.Cond.code (⟨"com/example/deseason/deseason/arima/Polynomials", "withLeadingOne", "([DI)[D"⟩ : MethodName) prog_10_method_2_code 4 (some (.array .double)) :: ws) ({ frames := 0, cells := 1, slots := 13, locals := 0 } : Room)) (fun aQ UQ => aQ = #[(.ref a0), (.int p1)] ∧ Z.Warmed39 UQ.vm ∧ UQ.heap = h0) (fun _ _ _ _ _ => True) (fun _ UQ oQ UR => ∃ vQ LQ, oQ = .returned vQ ∧ Qwl1 Z a0 p1 ka c0 h0 n0 vQ UR.heap LQ ∧ FrameEnd UQ oQ UR LQ ({ frames := 0, cells := 1, slots := 13, locals := 0 } : Room).cells ({ frames := 0, cells := 1, slots := 13, locals := 0 } : Room).slots) := by
  refine MetFree.of_bodySF (plainFor_of_name pn_0) hisR ?_
  intro p e s m args below meth c s₁ Bd hml0 hP hK
  obtain ⟨rfl, hZ, hh⟩ := hP
  have hx := Bd.exec
  have hby := Bd.bytes
  have hml : c.maxLocals = 4 := hml0
  have hown : s.vm.findClass "com/example/deseason/deseason/arima/Polynomials" = some m.cls := findClass_of_methodNamed Bd.named
  have hnm := (name_of_methodNamed Bd.named Bd.method).1
  have X0 : Stand p l e ({ frames := 0, cells := 1, slots := 13, locals := 0 } : Room) s m #[(.ref a0), (.int p1)] below meth c s₁ [] 0 0 := Stand.of_body Bd
  have e0 : s₁.heap = h0 := by rw [← hh, Bd.state]; rfl
  have N0 := Fr.nil n0
  have K0 : Keep h0 h0 [] := Keep.refl _ _
  have w_0 := hw _ (List.mem_of_getElem? (i := 0) rfl)
  have first_ : Rn p e below (s₁.setTop (mkF m 0 #[.val (.ref a0), .val (.int p1), .unset, .unset] [])) (Fnwl1 Z a0 p1 ka c0 h0 n0 s) := by
    generalize hG : (Fnwl1 Z a0 p1 ka c0 h0 n0 s) = G
    have m_1 : ((1 : Int32) * p1).toInt = 1 * p1.toInt := own_mk (by decide) (by omega) hl
    have zt : (((1 : Int32) * p1) + (1 : Int32)).toInt = 1 * p1.toInt + 1 := own_zt (by decide) (by omega) hl
    refine R.aloadN X0 hx (hb hby d1_0) rfl rfl (pc' := 1) rfl ?_
    refine R.alen X0 hx hZ e0 V_a0 (hb hby d1_1) (pc' := 2) rfl ?_
    refine R.iloadN X0 hx (hb hby d1_2) rfl (pc' := 3) rfl ?_
    refine R.imul X0 hx (hb hby d1_3) rfl (pc' := 4) rfl ?_
    refine R.iconst X0 hx (hb hby d1_4) (v := (1 : Int32)) (by decide) (pc' := 5) rfl ?_
    refine R.iadd X0 hx (hb hby d1_5) rfl (pc' := 6) rfl ?_
    refine R.newP X0 hx hZ (ty := .double) rfl w_0 e0 (own_nneg (by omega)) (cap := 13) (show (((1 : Int32) * p1) + (1 : Int32)).toInt.toNat ≤ 13 by omega) (by decide) (ad := "[D") (by decide) (hb hby d1_6) (pc' := 8) rfl (by decide) (by decide) ?_; intro T1 h1 b1 k1 g1 X1 e1 E1 EE1 A1
    have g_b1 : n0 ≤ b1 := Nat.le_trans Z0 (Nat.le_of_eq g1.symm)
    have sz_b1 : h0.size ≤ b1 := Nat.le_trans K0.1 (Nat.le_of_eq g1.symm)
    have ne_a0_b1 : a0 ≠ b1 := Nat.ne_of_lt (Nat.lt_of_lt_of_le V_a0.lt (Nat.le_of_eq g1.symm))
    have K1 : Keep h0 h1 [] := K0.ext E1
    have Z1 : n0 ≤ h1.size := Nat.le_trans Z0 E1.1
    have V_a0 := V_a0.ext E1
    have V_b1 : Arh Z h1 b1 k1 .double (((1 : Int32) * p1) + (1 : Int32)) [] [] (.double (0 : UInt64)) := A1
    refine R.astoreN X1 hx (hb hby d1_8) rfl (L' := #[.val (.ref a0), .val (.int p1), .val (.ref b1), .unset]) rfl (pc' := 9) rfl ?_
    refine R.aloadN X1 hx (hb hby d1_9) rfl rfl (pc' := 10) rfl ?_
    refine R.iconst X1 hx (hb hby d1_10) (v := (0 : Int32)) (by decide) (pc' := 11) rfl ?_
    refine R.dconst1 X1 hx (hb hby d1_11) (pc' := 12) rfl ?_
    refine R.dastore X1 hx hZ e1 V_b1 (own_bd (show (0 : Int) ≤ 0 ∧ (0 : Int) < ((((1 : Int32) * p1) + (1 : Int32))).toInt by omega) : ¬ (0 : Int32) < 0 ∧ (0 : Int32) < (((1 : Int32) * p1) + (1 : Int32))) (hb hby d1_12) (pc' := 13) rfl ?_; intro T2 h2 X2 e2 W2 V2
    have V_a0 := V_a0.other W2 ne_a0_b1
    have V_b1 : Arh Z h2 b1 k1 .double (((1 : Int32) * p1) + (1 : Int32)) [((0 : Int32), (.double FP.dconst1))] [] (.double (0 : UInt64)) := V2
    have N2 := Fr.snoc X2 N0 g_b1
    have K2 : Keep h0 h2 [] := K1.wr W2 (Or.inr sz_b1)
    have Z2 : n0 ≤ h2.size := Nat.le_trans Z1 (Keep.of_wr W2).1
    refine R.iconst X2 hx (hb hby d1_13) (v := (0 : Int32)) (by decide) (pc' := 14) rfl ?_
    refine R.istoreN X2 hx (hb hby d1_14) (L' := #[.val (.ref a0), .val (.int p1), .val (.ref b1), .val (.int (0 : Int32))]) rfl (pc' := 15) rfl ?_
    refine R.iloadN X2 hx (hb hby d1_15) rfl (pc' := 16) rfl ?_
    refine R.aloadN X2 hx (hb hby d1_16) rfl rfl (pc' := 17) rfl ?_
    refine R.alen X2 hx hZ e2 V_a0 (hb hby d1_17) (pc' := 18) rfl ?_
    refine R.icmpNo X2 hx (hb hby d1_18) (tlt (by decide : (0 : Int32) < (1 : Int32))).2.1 (pc' := 21) rfl ?_
    refine R.aloadN X2 hx (hb hby d1_21) rfl rfl (pc' := 22) rfl ?_
    refine R.iloadN X2 hx (hb hby d1_22) rfl (pc' := 23) rfl ?_
    refine R.iconst X2 hx (hb hby d1_23) (v := (1 : Int32)) (by decide) (pc' := 24) rfl ?_
    refine R.iadd X2 hx (hb hby d1_24) (v := (1 : Int32)) (by decide) (pc' := 25) rfl ?_
    refine R.iloadN X2 hx (hb hby d1_25) rfl (pc' := 26) rfl ?_
    refine R.imul X2 hx (hb hby d1_26) rfl (pc' := 27) rfl ?_
    refine R.aloadN X2 hx (hb hby d1_27) rfl rfl (pc' := 28) rfl ?_
    refine R.iloadN X2 hx (hb hby d1_28) rfl (pc' := 29) rfl ?_
    refine R.daload X2 hx hZ e2 V_a0 (⟨by decide, by decide⟩ : ¬ (0 : Int32) < 0 ∧ (0 : Int32) < (1 : Int32)) (v := (.double c0)) (getH_hit ((⟨by decide, by decide⟩ : ¬ (0 : Int32) < 0 ∧ (0 : Int32) < (1 : Int32))).1 (rfl)) (hb hby d1_29) (pc' := 30) rfl ?_
    refine R.dastore X2 hx hZ e2 V_b1 (own_bd (by omega) : ¬ ((1 : Int32) * p1) < 0 ∧ ((1 : Int32) * p1) < (((1 : Int32) * p1) + (1 : Int32))) (hb hby d1_30) (pc' := 31) rfl ?_; intro T3 h3 X3 e3 W3 V3
    have V_a0 := V_a0.other W3 ne_a0_b1
    have V_b1 : Arh Z h3 b1 k1 .double (((1 : Int32) * p1) + (1 : Int32)) [(((1 : Int32) * p1), (.double c0)), ((0 : Int32), (.double FP.dconst1))] [] (.double (0 : UInt64)) := V3
    have N3 := Fr.snoc X3 N2 g_b1
    have K3 : Keep h0 h3 [] := K2.wr W3 (Or.inr sz_b1)
    have Z3 : n0 ≤ h3.size := Nat.le_trans Z2 (Keep.of_wr W3).1
    refine R.iinc X3 hx (hb hby d1_31) rfl (L' := #[.val (.ref a0), .val (.int p1), .val (.ref b1), .val (.int (1 : Int32))]) rfl (pc' := 34) rfl ?_
    refine R.goto X3 hx (hb hby d1_34) (by decide) (pc' := 15) (by decide) ?_
    refine R.iloadN X3 hx (hb hby d1_15) rfl (pc' := 16) rfl ?_
    refine R.aloadN X3 hx (hb hby d1_16) rfl rfl (pc' := 17) rfl ?_
    refine R.alen X3 hx hZ e3 V_a0 (hb hby d1_17) (pc' := 18) rfl ?_
    refine R.icmpYes X3 hx (hb hby d1_18) (flt (by decide : ¬ ((1 : Int32) < (1 : Int32)))).2.1 (by decide) (pc' := 37) (by decide) ?_
    refine R.aloadN X3 hx (hb hby d1_37) rfl rfl (pc' := 38) rfl ?_
    rw [← hG]
    exact Rn.ret X3 (BodyLoose.notSynchronized Bd) (v := some (.ref b1)) (fun h => by rw [Bd.returns] at h; cases h) (Q := Qwl1 Z a0 p1 ka c0 h0 n0) e3 (fun fs hr => retOut X3 hx (t := (.array .double)) Bd.returns rfl (Or.inr (Or.inr (Or.inr (Or.inr ⟨rfl, rfl, rfl⟩)))) (hb hby d1_38) hr) ⟨b1, k1, rfl, N3, K3, (sz_b1), V_b1⟩ (by decide) (by decide)
  exact (Rn.st (fun t k => castTop (ef_wl1 m a0 p1) k) first_ : Rn p e below (s₁.setTop (entryFrame m #[(.ref a0), (.int p1)] 4)) (Fnwl1 Z a0 p1 ka c0 h0 n0 s))
theorem ef_wl2 (m : MethodId) (x0 : Addr) (x1 : Int32) : entryFrame m #[(.ref x0), (.int x1)] 4 = mkF m 0 #[.val (.ref x0), .val (.int x1), .unset, .unset] [] := by first | (simp [entryFrame, mkF, argsToLocals, Value.category]; done) | rfl
def Qwl2 (Z : State) (a0 : Addr) (p1 : Int32) (ka : ClassId) (c0 : UInt64) (c1 : UInt64) (h0 : Heap) (n0 : Nat) (vQ : Option Value) (hQ_ : Heap) (LQ : List Loc) : Prop := ∃ r : Addr, ∃ kr : ClassId, vQ = some (.ref r) ∧ Fr n0 LQ ∧ Keep h0 hQ_ [] ∧ (h0.size ≤ r) ∧ (Arh Z hQ_ r kr .double (((2 : Int32) * p1) + (1 : Int32)) [(((2 : Int32) * p1), (.double c1)), (((1 : Int32) * p1), (.double c0)), ((0 : Int32), (.double FP.dconst1))] [] (.double (0 : UInt64)))
def Fnwl2 (Z : State) (a0 : Addr) (p1 : Int32) (ka : ClassId) (c0 : UInt64) (c1 : UInt64) (h0 : Heap) (n0 : Nat) (sQ : State) (oQ : Outcome) (UQ : State) : Prop := ∃ vQ LQ, oQ = .returned vQ ∧ Qwl2 Z a0 p1 ka c0 c1 h0 n0 vQ UQ.heap LQ ∧ FrameEnd sQ oQ UQ LQ ({ frames := 0, cells := 1, slots := 13, locals := 0 } : Room).cells ({ frames := 0, cells := 1, slots := 13, locals := 0 } : Room).slots
set_option maxRecDepth 65536 in
set_option maxHeartbeats 40000000 in
theorem rmwl2 (l : Launch) (Z : State) (aZ : Array Value) (hw : ∀ d ∈ tables_1, d.before aZ Z = true) (ws : List Jvm.Cond) (a0 : Addr) (p1 : Int32) (ka : ClassId) (c0 : UInt64) (c1 : UInt64) (h0 : Heap) (n0 : Nat) (Z0 : n0 ≤ h0.size) (V_a0 : Arh Z h0 a0 ka .double (2 : Int32) [((1 : Int32), (.double c1)), ((0 : Int32), (.double c0))] [] (.double (0 : UInt64))) (hl : 1 ≤ p1.toInt ∧ p1.toInt ≤ 4) :
    MetFree l (⟨"com/example/deseason/deseason/arima/Polynomials", "withLeadingOne", "([DI)[D"⟩ : MethodName) (head1 (Jvm.Cond.code (⟨"com/example/deseason/deseason/arima/Polynomials", "withLeadingOne", "([DI)[D"⟩ : MethodName) prog_10_method_2_code 4 (some (.array .double)) :: ws) ({ frames := 0, cells := 1, slots := 13, locals := 0 } : Room)) (fun aQ UQ => aQ = #[(.ref a0), (.int p1)] ∧ Z.Warmed39 UQ.vm ∧ UQ.heap = h0) (fun _ _ _ _ _ => True) (fun _ UQ oQ UR => ∃ vQ LQ, oQ = .returned vQ ∧ Qwl2 Z a0 p1 ka c0 c1 h0 n0 vQ UR.heap LQ ∧ FrameEnd UQ oQ UR LQ ({ frames := 0, cells := 1, slots := 13, locals := 0 } : Room).cells ({ frames := 0, cells := 1, slots := 13, locals := 0 } : Room).slots) := by
  refine MetFree.of_bodySF (plainFor_of_name pn_0) hisR ?_
  intro p e s m args below meth c s₁ Bd hml0 hP hK
  obtain ⟨rfl, hZ, hh⟩ := hP
  have hx := Bd.exec
  have hby := Bd.bytes
  have hml : c.maxLocals = 4 := hml0
  have hown : s.vm.findClass "com/example/deseason/deseason/arima/Polynomials" = some m.cls := findClass_of_methodNamed Bd.named
  have hnm := (name_of_methodNamed Bd.named Bd.method).1
  have X0 : Stand p l e ({ frames := 0, cells := 1, slots := 13, locals := 0 } : Room) s m #[(.ref a0), (.int p1)] below meth c s₁ [] 0 0 := Stand.of_body Bd
  have e0 : s₁.heap = h0 := by rw [← hh, Bd.state]; rfl
  have N0 := Fr.nil n0
  have K0 : Keep h0 h0 [] := Keep.refl _ _
  have w_0 := hw _ (List.mem_of_getElem? (i := 0) rfl)
  have first_ : Rn p e below (s₁.setTop (mkF m 0 #[.val (.ref a0), .val (.int p1), .unset, .unset] [])) (Fnwl2 Z a0 p1 ka c0 c1 h0 n0 s) := by
    generalize hG : (Fnwl2 Z a0 p1 ka c0 c1 h0 n0 s) = G
    have m_1 : ((1 : Int32) * p1).toInt = 1 * p1.toInt := own_mk (by decide) (by omega) hl
    have m_2 : ((2 : Int32) * p1).toInt = 2 * p1.toInt := own_mk (by decide) (by omega) hl
    have zt : (((2 : Int32) * p1) + (1 : Int32)).toInt = 2 * p1.toInt + 1 := own_zt (by decide) (by omega) hl
    refine R.aloadN X0 hx (hb hby d1_0) rfl rfl (pc' := 1) rfl ?_
    refine R.alen X0 hx hZ e0 V_a0 (hb hby d1_1) (pc' := 2) rfl ?_
    refine R.iloadN X0 hx (hb hby d1_2) rfl (pc' := 3) rfl ?_
    refine R.imul X0 hx (hb hby d1_3) rfl (pc' := 4) rfl ?_
    refine R.iconst X0 hx (hb hby d1_4) (v := (1 : Int32)) (by decide) (pc' := 5) rfl ?_
    refine R.iadd X0 hx (hb hby d1_5) rfl (pc' := 6) rfl ?_
    refine R.newP X0 hx hZ (ty := .double) rfl w_0 e0 (own_nneg (by omega)) (cap := 13) (show (((2 : Int32) * p1) + (1 : Int32)).toInt.toNat ≤ 13 by omega) (by decide) (ad := "[D") (by decide) (hb hby d1_6) (pc' := 8) rfl (by decide) (by decide) ?_; intro T1 h1 b1 k1 g1 X1 e1 E1 EE1 A1
    have g_b1 : n0 ≤ b1 := Nat.le_trans Z0 (Nat.le_of_eq g1.symm)
    have sz_b1 : h0.size ≤ b1 := Nat.le_trans K0.1 (Nat.le_of_eq g1.symm)
    have ne_a0_b1 : a0 ≠ b1 := Nat.ne_of_lt (Nat.lt_of_lt_of_le V_a0.lt (Nat.le_of_eq g1.symm))
    have K1 : Keep h0 h1 [] := K0.ext E1
    have Z1 : n0 ≤ h1.size := Nat.le_trans Z0 E1.1
    have V_a0 := V_a0.ext E1
    have V_b1 : Arh Z h1 b1 k1 .double (((2 : Int32) * p1) + (1 : Int32)) [] [] (.double (0 : UInt64)) := A1
    refine R.astoreN X1 hx (hb hby d1_8) rfl (L' := #[.val (.ref a0), .val (.int p1), .val (.ref b1), .unset]) rfl (pc' := 9) rfl ?_
    refine R.aloadN X1 hx (hb hby d1_9) rfl rfl (pc' := 10) rfl ?_
    refine R.iconst X1 hx (hb hby d1_10) (v := (0 : Int32)) (by decide) (pc' := 11) rfl ?_
    refine R.dconst1 X1 hx (hb hby d1_11) (pc' := 12) rfl ?_
    refine R.dastore X1 hx hZ e1 V_b1 (own_bd (show (0 : Int) ≤ 0 ∧ (0 : Int) < ((((2 : Int32) * p1) + (1 : Int32))).toInt by omega) : ¬ (0 : Int32) < 0 ∧ (0 : Int32) < (((2 : Int32) * p1) + (1 : Int32))) (hb hby d1_12) (pc' := 13) rfl ?_; intro T2 h2 X2 e2 W2 V2
    have V_a0 := V_a0.other W2 ne_a0_b1
    have V_b1 : Arh Z h2 b1 k1 .double (((2 : Int32) * p1) + (1 : Int32)) [((0 : Int32), (.double FP.dconst1))] [] (.double (0 : UInt64)) := V2
    have N2 := Fr.snoc X2 N0 g_b1
    have K2 : Keep h0 h2 [] := K1.wr W2 (Or.inr sz_b1)
    have Z2 : n0 ≤ h2.size := Nat.le_trans Z1 (Keep.of_wr W2).1
    refine R.iconst X2 hx (hb hby d1_13) (v := (0 : Int32)) (by decide) (pc' := 14) rfl ?_
    refine R.istoreN X2 hx (hb hby d1_14) (L' := #[.val (.ref a0), .val (.int p1), .val (.ref b1), .val (.int (0 : Int32))]) rfl (pc' := 15) rfl ?_
    refine R.iloadN X2 hx (hb hby d1_15) rfl (pc' := 16) rfl ?_
    refine R.aloadN X2 hx (hb hby d1_16) rfl rfl (pc' := 17) rfl ?_
    refine R.alen X2 hx hZ e2 V_a0 (hb hby d1_17) (pc' := 18) rfl ?_
    refine R.icmpNo X2 hx (hb hby d1_18) (tlt (by decide : (0 : Int32) < (2 : Int32))).2.1 (pc' := 21) rfl ?_
    refine R.aloadN X2 hx (hb hby d1_21) rfl rfl (pc' := 22) rfl ?_
    refine R.iloadN X2 hx (hb hby d1_22) rfl (pc' := 23) rfl ?_
    refine R.iconst X2 hx (hb hby d1_23) (v := (1 : Int32)) (by decide) (pc' := 24) rfl ?_
    refine R.iadd X2 hx (hb hby d1_24) (v := (1 : Int32)) (by decide) (pc' := 25) rfl ?_
    refine R.iloadN X2 hx (hb hby d1_25) rfl (pc' := 26) rfl ?_
    refine R.imul X2 hx (hb hby d1_26) rfl (pc' := 27) rfl ?_
    refine R.aloadN X2 hx (hb hby d1_27) rfl rfl (pc' := 28) rfl ?_
    refine R.iloadN X2 hx (hb hby d1_28) rfl (pc' := 29) rfl ?_
    refine R.daload X2 hx hZ e2 V_a0 (⟨by decide, by decide⟩ : ¬ (0 : Int32) < 0 ∧ (0 : Int32) < (2 : Int32)) (v := (.double c0)) (getH_miss ((⟨by decide, by decide⟩ : ¬ (0 : Int32) < 0 ∧ (0 : Int32) < (2 : Int32))).1 (by decide) (getH_hit ((⟨by decide, by decide⟩ : ¬ (0 : Int32) < 0 ∧ (0 : Int32) < (2 : Int32))).1 (rfl))) (hb hby d1_29) (pc' := 30) rfl ?_
    refine R.dastore X2 hx hZ e2 V_b1 (own_bd (by omega) : ¬ ((1 : Int32) * p1) < 0 ∧ ((1 : Int32) * p1) < (((2 : Int32) * p1) + (1 : Int32))) (hb hby d1_30) (pc' := 31) rfl ?_; intro T3 h3 X3 e3 W3 V3
    have V_a0 := V_a0.other W3 ne_a0_b1
    have V_b1 : Arh Z h3 b1 k1 .double (((2 : Int32) * p1) + (1 : Int32)) [(((1 : Int32) * p1), (.double c0)), ((0 : Int32), (.double FP.dconst1))] [] (.double (0 : UInt64)) := V3
    have N3 := Fr.snoc X3 N2 g_b1
    have K3 : Keep h0 h3 [] := K2.wr W3 (Or.inr sz_b1)
    have Z3 : n0 ≤ h3.size := Nat.le_trans Z2 (Keep.of_wr W3).1
    refine R.iinc X3 hx (hb hby d1_31) rfl (L' := #[.val (.ref a0), .val (.int p1), .val (.ref b1), .val (.int (1 : Int32))]) rfl (pc' := 34) rfl ?_
    refine R.goto X3 hx (hb hby d1_34) (by decide) (pc' := 15) (by decide) ?_
    refine R.iloadN X3 hx (hb hby d1_15) rfl (pc' := 16) rfl ?_
    refine R.aloadN X3 hx (hb hby d1_16) rfl rfl (pc' := 17) rfl ?_
    refine R.alen X3 hx hZ e3 V_a0 (hb hby d1_17) (pc' := 18) rfl ?_
    refine R.icmpNo X3 hx (hb hby d1_18) (tlt (by decide : (1 : Int32) < (2 : Int32))).2.1 (pc' := 21) rfl ?_
    refine R.aloadN X3 hx (hb hby d1_21) rfl rfl (pc' := 22) rfl ?_
    refine R.iloadN X3 hx (hb hby d1_22) rfl (pc' := 23) rfl ?_
    refine R.iconst X3 hx (hb hby d1_23) (v := (1 : Int32)) (by decide) (pc' := 24) rfl ?_
    refine R.iadd X3 hx (hb hby d1_24) (v := (2 : Int32)) (by decide) (pc' := 25) rfl ?_
    refine R.iloadN X3 hx (hb hby d1_25) rfl (pc' := 26) rfl ?_
    refine R.imul X3 hx (hb hby d1_26) rfl (pc' := 27) rfl ?_
    refine R.aloadN X3 hx (hb hby d1_27) rfl rfl (pc' := 28) rfl ?_
    refine R.iloadN X3 hx (hb hby d1_28) rfl (pc' := 29) rfl ?_
    refine R.daload X3 hx hZ e3 V_a0 (⟨by decide, by decide⟩ : ¬ (1 : Int32) < 0 ∧ (1 : Int32) < (2 : Int32)) (v := (.double c1)) (getH_hit ((⟨by decide, by decide⟩ : ¬ (1 : Int32) < 0 ∧ (1 : Int32) < (2 : Int32))).1 (rfl)) (hb hby d1_29) (pc' := 30) rfl ?_
    refine R.dastore X3 hx hZ e3 V_b1 (own_bd (by omega) : ¬ ((2 : Int32) * p1) < 0 ∧ ((2 : Int32) * p1) < (((2 : Int32) * p1) + (1 : Int32))) (hb hby d1_30) (pc' := 31) rfl ?_; intro T4 h4 X4 e4 W4 V4
    have V_a0 := V_a0.other W4 ne_a0_b1
    have V_b1 : Arh Z h4 b1 k1 .double (((2 : Int32) * p1) + (1 : Int32)) [(((2 : Int32) * p1), (.double c1)), (((1 : Int32) * p1), (.double c0)), ((0 : Int32), (.double FP.dconst1))] [] (.double (0 : UInt64)) := V4
    have N4 := Fr.snoc X4 N3 g_b1
    have K4 : Keep h0 h4 [] := K3.wr W4 (Or.inr sz_b1)
    have Z4 : n0 ≤ h4.size := Nat.le_trans Z3 (Keep.of_wr W4).1
    refine R.iinc X4 hx (hb hby d1_31) rfl (L' := #[.val (.ref a0), .val (.int p1), .val (.ref b1), .val (.int (2 : Int32))]) rfl (pc' := 34) rfl ?_
    refine R.goto X4 hx (hb hby d1_34) (by decide) (pc' := 15) (by decide) ?_
    refine R.iloadN X4 hx (hb hby d1_15) rfl (pc' := 16) rfl ?_
    refine R.aloadN X4 hx (hb hby d1_16) rfl rfl (pc' := 17) rfl ?_
    refine R.alen X4 hx hZ e4 V_a0 (hb hby d1_17) (pc' := 18) rfl ?_
    refine R.icmpYes X4 hx (hb hby d1_18) (flt (by decide : ¬ ((2 : Int32) < (2 : Int32)))).2.1 (by decide) (pc' := 37) (by decide) ?_
    refine R.aloadN X4 hx (hb hby d1_37) rfl rfl (pc' := 38) rfl ?_
    rw [← hG]
    exact Rn.ret X4 (BodyLoose.notSynchronized Bd) (v := some (.ref b1)) (fun h => by rw [Bd.returns] at h; cases h) (Q := Qwl2 Z a0 p1 ka c0 c1 h0 n0) e4 (fun fs hr => retOut X4 hx (t := (.array .double)) Bd.returns rfl (Or.inr (Or.inr (Or.inr (Or.inr ⟨rfl, rfl, rfl⟩)))) (hb hby d1_38) hr) ⟨b1, k1, rfl, N4, K4, (sz_b1), V_b1⟩ (by decide) (by decide)
  exact (Rn.st (fun t k => castTop (ef_wl2 m a0 p1) k) first_ : Rn p e below (s₁.setTop (entryFrame m #[(.ref a0), (.int p1)] 4)) (Fnwl2 Z a0 p1 ka c0 c1 h0 n0 s))
theorem ef_wl3 (m : MethodId) (x0 : Addr) (x1 : Int32) : entryFrame m #[(.ref x0), (.int x1)] 4 = mkF m 0 #[.val (.ref x0), .val (.int x1), .unset, .unset] [] := by first | (simp [entryFrame, mkF, argsToLocals, Value.category]; done) | rfl
def Qwl3 (Z : State) (a0 : Addr) (p1 : Int32) (ka : ClassId) (c0 : UInt64) (c1 : UInt64) (c2 : UInt64) (h0 : Heap) (n0 : Nat) (vQ : Option Value) (hQ_ : Heap) (LQ : List Loc) : Prop := ∃ r : Addr, ∃ kr : ClassId, vQ = some (.ref r) ∧ Fr n0 LQ ∧ Keep h0 hQ_ [] ∧ (h0.size ≤ r) ∧ (Arh Z hQ_ r kr .double (((3 : Int32) * p1) + (1 : Int32)) [(((3 : Int32) * p1), (.double c2)), (((2 : Int32) * p1), (.double c1)), (((1 : Int32) * p1), (.double c0)), ((0 : Int32), (.double FP.dconst1))] [] (.double (0 : UInt64)))
def Fnwl3 (Z : State) (a0 : Addr) (p1 : Int32) (ka : ClassId) (c0 : UInt64) (c1 : UInt64) (c2 : UInt64) (h0 : Heap) (n0 : Nat) (sQ : State) (oQ : Outcome) (UQ : State) : Prop := ∃ vQ LQ, oQ = .returned vQ ∧ Qwl3 Z a0 p1 ka c0 c1 c2 h0 n0 vQ UQ.heap LQ ∧ FrameEnd sQ oQ UQ LQ ({ frames := 0, cells := 1, slots := 13, locals := 0 } : Room).cells ({ frames := 0, cells := 1, slots := 13, locals := 0 } : Room).slots
set_option maxRecDepth 65536 in
set_option maxHeartbeats 40000000 in
theorem rmwl3 (l : Launch) (Z : State) (aZ : Array Value) (hw : ∀ d ∈ tables_1, d.before aZ Z = true) (ws : List Jvm.Cond) (a0 : Addr) (p1 : Int32) (ka : ClassId) (c0 : UInt64) (c1 : UInt64) (c2 : UInt64) (h0 : Heap) (n0 : Nat) (Z0 : n0 ≤ h0.size) (V_a0 : Arh Z h0 a0 ka .double (3 : Int32) [((2 : Int32), (.double c2)), ((1 : Int32), (.double c1)), ((0 : Int32), (.double c0))] [] (.double (0 : UInt64))) (hl : 1 ≤ p1.toInt ∧ p1.toInt ≤ 4) :
    MetFree l (⟨"com/example/deseason/deseason/arima/Polynomials", "withLeadingOne", "([DI)[D"⟩ : MethodName) (head1 (Jvm.Cond.code (⟨"com/example/deseason/deseason/arima/Polynomials", "withLeadingOne", "([DI)[D"⟩ : MethodName) prog_10_method_2_code 4 (some (.array .double)) :: ws) ({ frames := 0, cells := 1, slots := 13, locals := 0 } : Room)) (fun aQ UQ => aQ = #[(.ref a0), (.int p1)] ∧ Z.Warmed39 UQ.vm ∧ UQ.heap = h0) (fun _ _ _ _ _ => True) (fun _ UQ oQ UR => ∃ vQ LQ, oQ = .returned vQ ∧ Qwl3 Z a0 p1 ka c0 c1 c2 h0 n0 vQ UR.heap LQ ∧ FrameEnd UQ oQ UR LQ ({ frames := 0, cells := 1, slots := 13, locals := 0 } : Room).cells ({ frames := 0, cells := 1, slots := 13, locals := 0 } : Room).slots) := by
  refine MetFree.of_bodySF (plainFor_of_name pn_0) hisR ?_
  intro p e s m args below meth c s₁ Bd hml0 hP hK
  obtain ⟨rfl, hZ, hh⟩ := hP
  have hx := Bd.exec
  have hby := Bd.bytes
  have hml : c.maxLocals = 4 := hml0
  have hown : s.vm.findClass "com/example/deseason/deseason/arima/Polynomials" = some m.cls := findClass_of_methodNamed Bd.named
  have hnm := (name_of_methodNamed Bd.named Bd.method).1
  have X0 : Stand p l e ({ frames := 0, cells := 1, slots := 13, locals := 0 } : Room) s m #[(.ref a0), (.int p1)] below meth c s₁ [] 0 0 := Stand.of_body Bd
  have e0 : s₁.heap = h0 := by rw [← hh, Bd.state]; rfl
  have N0 := Fr.nil n0
  have K0 : Keep h0 h0 [] := Keep.refl _ _
  have w_0 := hw _ (List.mem_of_getElem? (i := 0) rfl)
  have first_ : Rn p e below (s₁.setTop (mkF m 0 #[.val (.ref a0), .val (.int p1), .unset, .unset] [])) (Fnwl3 Z a0 p1 ka c0 c1 c2 h0 n0 s) := by
    generalize hG : (Fnwl3 Z a0 p1 ka c0 c1 c2 h0 n0 s) = G
    have m_1 : ((1 : Int32) * p1).toInt = 1 * p1.toInt := own_mk (by decide) (by omega) hl
    have m_2 : ((2 : Int32) * p1).toInt = 2 * p1.toInt := own_mk (by decide) (by omega) hl
    have m_3 : ((3 : Int32) * p1).toInt = 3 * p1.toInt := own_mk (by decide) (by omega) hl
    have zt : (((3 : Int32) * p1) + (1 : Int32)).toInt = 3 * p1.toInt + 1 := own_zt (by decide) (by omega) hl
    refine R.aloadN X0 hx (hb hby d1_0) rfl rfl (pc' := 1) rfl ?_
    refine R.alen X0 hx hZ e0 V_a0 (hb hby d1_1) (pc' := 2) rfl ?_
    refine R.iloadN X0 hx (hb hby d1_2) rfl (pc' := 3) rfl ?_
    refine R.imul X0 hx (hb hby d1_3) rfl (pc' := 4) rfl ?_
    refine R.iconst X0 hx (hb hby d1_4) (v := (1 : Int32)) (by decide) (pc' := 5) rfl ?_
    refine R.iadd X0 hx (hb hby d1_5) rfl (pc' := 6) rfl ?_
    refine R.newP X0 hx hZ (ty := .double) rfl w_0 e0 (own_nneg (by omega)) (cap := 13) (show (((3 : Int32) * p1) + (1 : Int32)).toInt.toNat ≤ 13 by omega) (by decide) (ad := "[D") (by decide) (hb hby d1_6) (pc' := 8) rfl (by decide) (by decide) ?_; intro T1 h1 b1 k1 g1 X1 e1 E1 EE1 A1
    have g_b1 : n0 ≤ b1 := Nat.le_trans Z0 (Nat.le_of_eq g1.symm)
    have sz_b1 : h0.size ≤ b1 := Nat.le_trans K0.1 (Nat.le_of_eq g1.symm)
    have ne_a0_b1 : a0 ≠ b1 := Nat.ne_of_lt (Nat.lt_of_lt_of_le V_a0.lt (Nat.le_of_eq g1.symm))
    have K1 : Keep h0 h1 [] := K0.ext E1
    have Z1 : n0 ≤ h1.size := Nat.le_trans Z0 E1.1
    have V_a0 := V_a0.ext E1
    have V_b1 : Arh Z h1 b1 k1 .double (((3 : Int32) * p1) + (1 : Int32)) [] [] (.double (0 : UInt64)) := A1
    refine R.astoreN X1 hx (hb hby d1_8) rfl (L' := #[.val (.ref a0), .val (.int p1), .val (.ref b1), .unset]) rfl (pc' := 9) rfl ?_
    refine R.aloadN X1 hx (hb hby d1_9) rfl rfl (pc' := 10) rfl ?_
    refine R.iconst X1 hx (hb hby d1_10) (v := (0 : Int32)) (by decide) (pc' := 11) rfl ?_
    refine R.dconst1 X1 hx (hb hby d1_11) (pc' := 12) rfl ?_
    refine R.dastore X1 hx hZ e1 V_b1 (own_bd (show (0 : Int) ≤ 0 ∧ (0 : Int) < ((((3 : Int32) * p1) + (1 : Int32))).toInt by omega) : ¬ (0 : Int32) < 0 ∧ (0 : Int32) < (((3 : Int32) * p1) + (1 : Int32))) (hb hby d1_12) (pc' := 13) rfl ?_; intro T2 h2 X2 e2 W2 V2
    have V_a0 := V_a0.other W2 ne_a0_b1
    have V_b1 : Arh Z h2 b1 k1 .double (((3 : Int32) * p1) + (1 : Int32)) [((0 : Int32), (.double FP.dconst1))] [] (.double (0 : UInt64)) := V2
    have N2 := Fr.snoc X2 N0 g_b1
    have K2 : Keep h0 h2 [] := K1.wr W2 (Or.inr sz_b1)
    have Z2 : n0 ≤ h2.size := Nat.le_trans Z1 (Keep.of_wr W2).1
    refine R.iconst X2 hx (hb hby d1_13) (v := (0 : Int32)) (by decide) (pc' := 14) rfl ?_
    refine R.istoreN X2 hx (hb hby d1_14) (L' := #[.val (.ref a0), .val (.int p1), .val (.ref b1), .val (.int (0 : Int32))]) rfl (pc' := 15) rfl ?_
    refine R.iloadN X2 hx (hb hby d1_15) rfl (pc' := 16) rfl ?_
    refine R.aloadN X2 hx (hb hby d1_16) rfl rfl (pc' := 17) rfl ?_
    refine R.alen X2 hx hZ e2 V_a0 (hb hby d1_17) (pc' := 18) rfl ?_
    refine R.icmpNo X2 hx (hb hby d1_18) (tlt (by decide : (0 : Int32) < (3 : Int32))).2.1 (pc' := 21) rfl ?_
    refine R.aloadN X2 hx (hb hby d1_21) rfl rfl (pc' := 22) rfl ?_
    refine R.iloadN X2 hx (hb hby d1_22) rfl (pc' := 23) rfl ?_
    refine R.iconst X2 hx (hb hby d1_23) (v := (1 : Int32)) (by decide) (pc' := 24) rfl ?_
    refine R.iadd X2 hx (hb hby d1_24) (v := (1 : Int32)) (by decide) (pc' := 25) rfl ?_
    refine R.iloadN X2 hx (hb hby d1_25) rfl (pc' := 26) rfl ?_
    refine R.imul X2 hx (hb hby d1_26) rfl (pc' := 27) rfl ?_
    refine R.aloadN X2 hx (hb hby d1_27) rfl rfl (pc' := 28) rfl ?_
    refine R.iloadN X2 hx (hb hby d1_28) rfl (pc' := 29) rfl ?_
    refine R.daload X2 hx hZ e2 V_a0 (⟨by decide, by decide⟩ : ¬ (0 : Int32) < 0 ∧ (0 : Int32) < (3 : Int32)) (v := (.double c0)) (getH_miss ((⟨by decide, by decide⟩ : ¬ (0 : Int32) < 0 ∧ (0 : Int32) < (3 : Int32))).1 (by decide) (getH_miss ((⟨by decide, by decide⟩ : ¬ (0 : Int32) < 0 ∧ (0 : Int32) < (3 : Int32))).1 (by decide) (getH_hit ((⟨by decide, by decide⟩ : ¬ (0 : Int32) < 0 ∧ (0 : Int32) < (3 : Int32))).1 (rfl)))) (hb hby d1_29) (pc' := 30) rfl ?_
    refine R.dastore X2 hx hZ e2 V_b1 (own_bd (by omega) : ¬ ((1 : Int32) * p1) < 0 ∧ ((1 : Int32) * p1) < (((3 : Int32) * p1) + (1 : Int32))) (hb hby d1_30) (pc' := 31) rfl ?_; intro T3 h3 X3 e3 W3 V3
    have V_a0 := V_a0.other W3 ne_a0_b1
    have V_b1 : Arh Z h3 b1 k1 .double (((3 : Int32) * p1) + (1 : Int32)) [(((1 : Int32) * p1), (.double c0)), ((0 : Int32), (.double FP.dconst1))] [] (.double (0 : UInt64)) := V3
    have N3 := Fr.snoc X3 N2 g_b1
    have K3 : Keep h0 h3 [] := K2.wr W3 (Or.inr sz_b1)
    have Z3 : n0 ≤ h3.size := Nat.le_trans Z2 (Keep.of_wr W3).1
    refine R.iinc X3 hx (hb hby d1_31) rfl (L' := #[.val (.ref a0), .val (.int p1), .val (.ref b1), .val (.int (1 : Int32))]) rfl (pc' := 34) rfl ?_
    refine R.goto X3 hx (hb hby d1_34) (by decide) (pc' := 15) (by decide) ?_
    refine R.iloadN X3 hx (hb hby d1_15) rfl (pc' := 16) rfl ?_
    refine R.aloadN X3 hx (hb hby d1_16) rfl rfl (pc' := 17) rfl ?_
    refine R.alen X3 hx hZ e3 V_a0 (hb hby d1_17) (pc' := 18) rfl ?_
    refine R.icmpNo X3 hx (hb hby d1_18) (tlt (by decide : (1 : Int32) < (3 : Int32))).2.1 (pc' := 21) rfl ?_
    refine R.aloadN X3 hx (hb hby d1_21) rfl rfl (pc' := 22) rfl ?_
    refine R.iloadN X3 hx (hb hby d1_22) rfl (pc' := 23) rfl ?_
    refine R.iconst X3 hx (hb hby d1_23) (v := (1 : Int32)) (by decide) (pc' := 24) rfl ?_
    refine R.iadd X3 hx (hb hby d1_24) (v := (2 : Int32)) (by decide) (pc' := 25) rfl ?_
    refine R.iloadN X3 hx (hb hby d1_25) rfl (pc' := 26) rfl ?_
    refine R.imul X3 hx (hb hby d1_26) rfl (pc' := 27) rfl ?_
    refine R.aloadN X3 hx (hb hby d1_27) rfl rfl (pc' := 28) rfl ?_
    refine R.iloadN X3 hx (hb hby d1_28) rfl (pc' := 29) rfl ?_
    refine R.daload X3 hx hZ e3 V_a0 (⟨by decide, by decide⟩ : ¬ (1 : Int32) < 0 ∧ (1 : Int32) < (3 : Int32)) (v := (.double c1)) (getH_miss ((⟨by decide, by decide⟩ : ¬ (1 : Int32) < 0 ∧ (1 : Int32) < (3 : Int32))).1 (by decide) (getH_hit ((⟨by decide, by decide⟩ : ¬ (1 : Int32) < 0 ∧ (1 : Int32) < (3 : Int32))).1 (rfl))) (hb hby d1_29) (pc' := 30) rfl ?_
    refine R.dastore X3 hx hZ e3 V_b1 (own_bd (by omega) : ¬ ((2 : Int32) * p1) < 0 ∧ ((2 : Int32) * p1) < (((3 : Int32) * p1) + (1 : Int32))) (hb hby d1_30) (pc' := 31) rfl ?_; intro T4 h4 X4 e4 W4 V4
    have V_a0 := V_a0.other W4 ne_a0_b1
    have V_b1 : Arh Z h4 b1 k1 .double (((3 : Int32) * p1) + (1 : Int32)) [(((2 : Int32) * p1), (.double c1)), (((1 : Int32) * p1), (.double c0)), ((0 : Int32), (.double FP.dconst1))] [] (.double (0 : UInt64)) := V4
    have N4 := Fr.snoc X4 N3 g_b1
    have K4 : Keep h0 h4 [] := K3.wr W4 (Or.inr sz_b1)
    have Z4 : n0 ≤ h4.size := Nat.le_trans Z3 (Keep.of_wr W4).1
    refine R.iinc X4 hx (hb hby d1_31) rfl (L' := #[.val (.ref a0), .val (.int p1), .val (.ref b1), .val (.int (2 : Int32))]) rfl (pc' := 34) rfl ?_
    refine R.goto X4 hx (hb hby d1_34) (by decide) (pc' := 15) (by decide) ?_
    refine R.iloadN X4 hx (hb hby d1_15) rfl (pc' := 16) rfl ?_
    refine R.aloadN X4 hx (hb hby d1_16) rfl rfl (pc' := 17) rfl ?_
    refine R.alen X4 hx hZ e4 V_a0 (hb hby d1_17) (pc' := 18) rfl ?_
    refine R.icmpNo X4 hx (hb hby d1_18) (tlt (by decide : (2 : Int32) < (3 : Int32))).2.1 (pc' := 21) rfl ?_
    refine R.aloadN X4 hx (hb hby d1_21) rfl rfl (pc' := 22) rfl ?_
    refine R.iloadN X4 hx (hb hby d1_22) rfl (pc' := 23) rfl ?_
    refine R.iconst X4 hx (hb hby d1_23) (v := (1 : Int32)) (by decide) (pc' := 24) rfl ?_
    refine R.iadd X4 hx (hb hby d1_24) (v := (3 : Int32)) (by decide) (pc' := 25) rfl ?_
    refine R.iloadN X4 hx (hb hby d1_25) rfl (pc' := 26) rfl ?_
    refine R.imul X4 hx (hb hby d1_26) rfl (pc' := 27) rfl ?_
    refine R.aloadN X4 hx (hb hby d1_27) rfl rfl (pc' := 28) rfl ?_
    refine R.iloadN X4 hx (hb hby d1_28) rfl (pc' := 29) rfl ?_
    refine R.daload X4 hx hZ e4 V_a0 (⟨by decide, by decide⟩ : ¬ (2 : Int32) < 0 ∧ (2 : Int32) < (3 : Int32)) (v := (.double c2)) (getH_hit ((⟨by decide, by decide⟩ : ¬ (2 : Int32) < 0 ∧ (2 : Int32) < (3 : Int32))).1 (rfl)) (hb hby d1_29) (pc' := 30) rfl ?_
    refine R.dastore X4 hx hZ e4 V_b1 (own_bd (by omega) : ¬ ((3 : Int32) * p1) < 0 ∧ ((3 : Int32) * p1) < (((3 : Int32) * p1) + (1 : Int32))) (hb hby d1_30) (pc' := 31) rfl ?_; intro T5 h5 X5 e5 W5 V5
    have V_a0 := V_a0.other W5 ne_a0_b1
    have V_b1 : Arh Z h5 b1 k1 .double (((3 : Int32) * p1) + (1 : Int32)) [(((3 : Int32) * p1), (.double c2)), (((2 : Int32) * p1), (.double c1)), (((1 : Int32) * p1), (.double c0)), ((0 : Int32), (.double FP.dconst1))] [] (.double (0 : UInt64)) := V5
    have N5 := Fr.snoc X5 N4 g_b1
    have K5 : Keep h0 h5 [] := K4.wr W5 (Or.inr sz_b1)
    have Z5 : n0 ≤ h5.size := Nat.le_trans Z4 (Keep.of_wr W5).1
    refine R.iinc X5 hx (hb hby d1_31) rfl (L' := #[.val (.ref a0), .val (.int p1), .val (.ref b1), .val (.int (3 : Int32))]) rfl (pc' := 34) rfl ?_
    refine R.goto X5 hx (hb hby d1_34) (by decide) (pc' := 15) (by decide) ?_
    refine R.iloadN X5 hx (hb hby d1_15) rfl (pc' := 16) rfl ?_
    refine R.aloadN X5 hx (hb hby d1_16) rfl rfl (pc' := 17) rfl ?_
    refine R.alen X5 hx hZ e5 V_a0 (hb hby d1_17) (pc' := 18) rfl ?_
    refine R.icmpYes X5 hx (hb hby d1_18) (flt (by decide : ¬ ((3 : Int32) < (3 : Int32)))).2.1 (by decide) (pc' := 37) (by decide) ?_
    refine R.aloadN X5 hx (hb hby d1_37) rfl rfl (pc' := 38) rfl ?_
    rw [← hG]
    exact Rn.ret X5 (BodyLoose.notSynchronized Bd) (v := some (.ref b1)) (fun h => by rw [Bd.returns] at h; cases h) (Q := Qwl3 Z a0 p1 ka c0 c1 c2 h0 n0) e5 (fun fs hr => retOut X5 hx (t := (.array .double)) Bd.returns rfl (Or.inr (Or.inr (Or.inr (Or.inr ⟨rfl, rfl, rfl⟩)))) (hb hby d1_38) hr) ⟨b1, k1, rfl, N5, K5, (sz_b1), V_b1⟩ (by decide) (by decide)
  exact (Rn.st (fun t k => castTop (ef_wl3 m a0 p1) k) first_ : Rn p e below (s₁.setTop (entryFrame m #[(.ref a0), (.int p1)] 4)) (Fnwl3 Z a0 p1 ka c0 c1 c2 h0 n0 s))
theorem d2_0 : decode method_3_code 0 = .ok (.iload_n 1, 1) := by decide +kernel
theorem d2_1 : decode method_3_code 1 = .ok (.aload_n 0, 1) := by decide +kernel
theorem d2_2 : decode method_3_code 2 = .ok (.arraylength, 1) := by decide +kernel
theorem d2_3 : decode method_3_code 3 = .ok (.if_icmp .lt 5, 3) := by decide +kernel
theorem d2_8 : decode method_3_code 8 = .ok (.iload_n 1, 1) := by decide +kernel
theorem d2_9 : decode method_3_code 9 = .ok (.ifCond .ne 9, 3) := by decide +kernel
theorem d2_12 : decode method_3_code 12 = .ok (.dconst 1, 1) := by decide +kernel
theorem d2_13 : decode method_3_code 13 = .ok (.dstore 4, 2) := by decide +kernel
theorem d2_15 : decode method_3_code 15 = .ok (.goto 28, 3) := by decide +kernel
theorem d2_43 : decode method_3_code 43 = .ok (.aload_n 0, 1) := by decide +kernel
theorem d2_44 : decode method_3_code 44 = .ok (.iload_n 1, 1) := by decide +kernel
theorem d2_45 : decode method_3_code 45 = .ok (.daload, 1) := by decide +kernel
theorem d2_46 : decode method_3_code 46 = .ok (.dload 4, 2) := by decide +kernel
theorem d2_48 : decode method_3_code 48 = .ok (.dcmp .l, 1) := by decide +kernel
theorem d2_49 : decode method_3_code 49 = .ok (.ifCond .ne 7, 3) := by decide +kernel
theorem d2_52 : decode method_3_code 52 = .ok (.iconst 1, 1) := by decide +kernel
theorem d2_53 : decode method_3_code 53 = .ok (.goto 4, 3) := by decide +kernel
theorem d2_57 : decode method_3_code 57 = .ok (.ireturn, 1) := by decide +kernel
theorem d2_18 : decode method_3_code 18 = .ok (.iload_n 1, 1) := by decide +kernel
theorem d2_19 : decode method_3_code 19 = .ok (.iload_n 2, 1) := by decide +kernel
theorem d2_20 : decode method_3_code 20 = .ok (.irem, 1) := by decide +kernel
theorem d2_21 : decode method_3_code 21 = .ok (.ifCond .eq 9, 3) := by decide +kernel
theorem d2_30 : decode method_3_code 30 = .ok (.iload_n 1, 1) := by decide +kernel
theorem d2_31 : decode method_3_code 31 = .ok (.iload_n 2, 1) := by decide +kernel
theorem d2_32 : decode method_3_code 32 = .ok (.idiv, 1) := by decide +kernel
theorem d2_33 : decode method_3_code 33 = .ok (.istore 6, 2) := by decide +kernel
theorem d2_35 : decode method_3_code 35 = .ok (.aload_n 3, 1) := by decide +kernel
theorem d2_36 : decode method_3_code 36 = .ok (.iload 6, 2) := by decide +kernel
theorem d2_38 : decode method_3_code 38 = .ok (.iconst 1, 1) := by decide +kernel
theorem d2_39 : decode method_3_code 39 = .ok (.isub, 1) := by decide +kernel
theorem d2_40 : decode method_3_code 40 = .ok (.daload, 1) := by decide +kernel
theorem d2_41 : decode method_3_code 41 = .ok (.dstore 4, 2) := by decide +kernel
theorem d2_24 : decode method_3_code 24 = .ok (.dconst 0, 1) := by decide +kernel
theorem d2_25 : decode method_3_code 25 = .ok (.dstore 4, 2) := by decide +kernel
theorem d2_27 : decode method_3_code 27 = .ok (.goto 16, 3) := by decide +kernel
theorem d2_6 : decode method_3_code 6 = .ok (.iconst 1, 1) := by decide +kernel
theorem d2_7 : decode method_3_code 7 = .ok (.ireturn, 1) := by decide +kernel
theorem pn_1 : plainName "com/example/deseason/deseason/arima/PolynomialsWithLeadingOnePinLaw" = true := by first | (simp [plainName, overriddenIn]; done) | decide +kernel
theorem ef_2 (m : MethodId) (x0 : Addr) (x1 : Int32) (x2 : Int32) (x3 : Addr) : entryFrame m #[(.ref x0), (.int x1), (.int x2), (.ref x3)] 7 = mkF m 0 #[.val (.ref x0), .val (.int x1), .val (.int x2), .val (.ref x3), .unset, .unset, .unset] [] := by first | (simp [entryFrame, mkF, argsToLocals, Value.category]; done) | rfl
def Q2 (Z : State) (a0 : Addr) (p1 : Int32) (p2 : Int32) (a3 : Addr) (kr : ClassId) (z : Int32) (hr : List (Int32 × Value)) (ka : ClassId) (hA : List (Int32 × Value)) (A : UInt64) (B : UInt64) (D : UInt64) (h0 : Heap) (n0 : Nat) (vQ : Option Value) (hQ_ : Heap) (LQ : List Loc) : Prop := vQ = some (.int (1 : Int32)) ∧ Fr n0 LQ ∧ hQ_ = h0
def Fn2 (Z : State) (a0 : Addr) (p1 : Int32) (p2 : Int32) (a3 : Addr) (kr : ClassId) (z : Int32) (hr : List (Int32 × Value)) (ka : ClassId) (hA : List (Int32 × Value)) (A : UInt64) (B : UInt64) (D : UInt64) (h0 : Heap) (n0 : Nat) (sQ : State) (oQ : Outcome) (UQ : State) : Prop := ∃ vQ LQ, oQ = .returned vQ ∧ Q2 Z a0 p1 p2 a3 kr z hr ka hA A B D h0 n0 vQ UQ.heap LQ ∧ FrameEnd sQ oQ UQ LQ ({ frames := 0, cells := 0, slots := 0, locals := 0 } : Room).cells ({ frames := 0, cells := 0, slots := 0, locals := 0 } : Room).slots
set_option maxRecDepth 65536 in
set_option maxHeartbeats 40000000 in
theorem rm2 (l : Launch) (Z : State) (aZ : Array Value) (hw : ∀ d ∈ tables_1, d.before aZ Z = true) (ws : List Jvm.Cond) (a0 : Addr) (p1 : Int32) (p2 : Int32) (a3 : Addr) (kr : ClassId) (z : Int32) (hr : List (Int32 × Value)) (ka : ClassId) (hA : List (Int32 × Value)) (A : UInt64) (B : UInt64) (D : UInt64) (h0 : Heap) (n0 : Nat) (Z0 : n0 ≤ h0.size) (V_a0 : Arh Z h0 a0 kr .double z hr [] (.double (0 : UInt64))) (V_a3 : Arh Z h0 a3 ka .double (3 : Int32) hA [] (.double (0 : UInt64))) (rd : ∀ j : Int32, 0 ≤ j.toInt → j.toInt < z.toInt → getH hr [] (.double (0 : UInt64)) j.toNatClampNeg = (.double (own_w p2 A B D j))) (rdA : ∀ i : Int32, 0 ≤ i.toInt → i.toInt < 3 → getH hA [] (.double (0 : UInt64)) i.toNatClampNeg = (.double (own_sel A B D i))) (hl : 1 ≤ p2.toInt ∧ p2.toInt ≤ 4) (hj : 0 ≤ p1.toInt ∧ p1.toInt ≤ 12) (hz : z.toInt ≤ 3 * p2.toInt + 1) (nA : NoNaN64 A) (nB : NoNaN64 B) (nD : NoNaN64 D) :
    MetFree l (⟨"com/example/deseason/deseason/arima/PolynomialsWithLeadingOnePinLaw", "at", "([DII[D)Z"⟩ : MethodName) (head1 (Jvm.Cond.code (⟨"com/example/deseason/deseason/arima/PolynomialsWithLeadingOnePinLaw", "at", "([DII[D)Z"⟩ : MethodName) method_3_code 7 (some .boolean) :: ws) ({ frames := 0, cells := 0, slots := 0, locals := 0 } : Room)) (fun aQ UQ => aQ = #[(.ref a0), (.int p1), (.int p2), (.ref a3)] ∧ Z.Warmed39 UQ.vm ∧ UQ.heap = h0) (fun _ _ _ _ _ => True) (fun _ UQ oQ UR => ∃ vQ LQ, oQ = .returned vQ ∧ Q2 Z a0 p1 p2 a3 kr z hr ka hA A B D h0 n0 vQ UR.heap LQ ∧ FrameEnd UQ oQ UR LQ ({ frames := 0, cells := 0, slots := 0, locals := 0 } : Room).cells ({ frames := 0, cells := 0, slots := 0, locals := 0 } : Room).slots) := by
  refine MetFree.of_bodySF (plainFor_of_name pn_1) hisR ?_
  intro p e s m args below meth c s₁ Bd hml0 hP hK
  obtain ⟨rfl, hZ, hh⟩ := hP
  have hx := Bd.exec
  have hby := Bd.bytes
  have hml : c.maxLocals = 7 := hml0
  have hown : s.vm.findClass "com/example/deseason/deseason/arima/PolynomialsWithLeadingOnePinLaw" = some m.cls := findClass_of_methodNamed Bd.named
  have hnm := (name_of_methodNamed Bd.named Bd.method).1
  have X0 : Stand p l e ({ frames := 0, cells := 0, slots := 0, locals := 0 } : Room) s m #[(.ref a0), (.int p1), (.int p2), (.ref a3)] below meth c s₁ [] 0 0 := Stand.of_body Bd
  have e0 : s₁.heap = h0 := by rw [← hh, Bd.state]; rfl
  have N0 := Fr.nil n0
  have K0 : Keep h0 h0 [] := Keep.refl _ _
  have first_ : Rn p e below (s₁.setTop (mkF m 0 #[.val (.ref a0), .val (.int p1), .val (.int p2), .val (.ref a3), .unset, .unset, .unset] [])) (Fn2 Z a0 p1 p2 a3 kr z hr ka hA A B D h0 n0 s) := by
    generalize hG : (Fn2 Z a0 p1 p2 a3 kr z hr ka hA A B D h0 n0 s) = G
    refine R.iloadN X0 hx (hb hby d2_0) rfl (pc' := 1) rfl ?_
    refine R.aloadN X0 hx (hb hby d2_1) rfl rfl (pc' := 2) rfl ?_
    refine R.alen X0 hx hZ e0 V_a0 (hb hby d2_2) (pc' := 3) rfl ?_
    by_cases hc3 : p1 < z
    · refine R.icmpYes X0 hx (hb hby d2_3) (tlt hc3).1 (by decide) (pc' := 8) (by decide) ?_
      have hlt := Int32.lt_iff_toInt_lt.mp hc3
      refine R.iloadN X0 hx (hb hby d2_8) rfl (pc' := 9) rfl ?_
      by_cases hc9 : p1 = (0 : Int32)
      · refine R.ifNo X0 hx (hb hby d2_9) (teq hc9).2 (pc' := 12) rfl ?_
        refine R.dconst1 X0 hx (hb hby d2_12) (pc' := 13) rfl ?_
        show Rn p e below (s₁.setTop (mkF m 13 #[.val (.ref a0), .val (.int p1), .val (.int p2), .val (.ref a3), .unset, .unset, .unset] [(.double FP.dconst1)])) G
        generalize hr1 : FP.dconst1 = r1
        refine R.dstore X0 hx (hb hby d2_13) (L' := #[.val (.ref a0), .val (.int p1), .val (.int p2), .val (.ref a3), .val (.double r1), .second, .unset]) rfl (pc' := 15) rfl ?_
        refine R.goto X0 hx (hb hby d2_15) (by decide) (pc' := 43) (by decide) ?_
        refine R.aloadN X0 hx (hb hby d2_43) rfl rfl (pc' := 44) rfl ?_
        refine R.iloadN X0 hx (hb hby d2_44) rfl (pc' := 45) rfl ?_
        refine R.daload X0 hx hZ e0 V_a0 (own_bd ⟨hj.1, hlt⟩ : ¬ p1 < 0 ∧ p1 < z) (v := (.double FP.dconst1)) ((rd _ hj.1 hlt).trans (by unfold own_w; rw [if_pos hc9])) (hb hby d2_45) (pc' := 46) rfl ?_
        refine R.dload X0 hx (hb hby d2_46) rfl (pc' := 48) rfl ?_
        refine R.dcmp X0 hx (hb hby d2_48) (dcmpV_eq (hr1) (own_nn1) _ : cmpValue (FP.dcmp FP.dconst1 r1) .l = (0 : Int32)) (pc' := 49) rfl ?_
        refine R.ifNo X0 hx (hb hby d2_49) (teq (by decide : (0 : Int32) = (0 : Int32))).2 (pc' := 52) rfl ?_
        refine R.iconst X0 hx (hb hby d2_52) (v := (1 : Int32)) (by decide) (pc' := 53) rfl ?_
        refine R.goto X0 hx (hb hby d2_53) (by decide) (pc' := 57) (by decide) ?_
        rw [← hG]
        exact Rn.ret X0 (BodyLoose.notSynchronized Bd) (v := some (.int (1 : Int32))) (fun h => by rw [Bd.returns] at h; cases h) (Q := Q2 Z a0 p1 p2 a3 kr z hr ka hA A B D h0 n0) e0 (fun fs hr => retN X0 hx (t := .boolean) Bd.returns (by simp) (hb hby d2_57) hr) ⟨rfl, N0, rfl⟩ (by decide) (by decide)
      · refine R.ifYes X0 hx (hb hby d2_9) (feq hc9).2 (by decide) (pc' := 18) (by decide) ?_
        refine R.iloadN X0 hx (hb hby d2_18) rfl (pc' := 19) rfl ?_
        refine R.iloadN X0 hx (hb hby d2_19) rfl (pc' := 20) rfl ?_
        refine R.irem X0 hx (hb hby d2_20) (own_lnz hl.1 : p2 ≠ (0 : Int32)) (pc' := 21) rfl ?_
        by_cases hc21 : (p1 % p2) = (0 : Int32)
        · refine R.ifYes X0 hx (hb hby d2_21) (teq hc21).1 (by decide) (pc' := 30) (by decide) ?_
          refine R.iloadN X0 hx (hb hby d2_30) rfl (pc' := 31) rfl ?_
          refine R.iloadN X0 hx (hb hby d2_31) rfl (pc' := 32) rfl ?_
          refine R.idiv X0 hx (hb hby d2_32) (own_lnz hl.1 : p2 ≠ (0 : Int32)) (pc' := 33) rfl ?_
          show Rn p e below (s₁.setTop (mkF m 33 #[.val (.ref a0), .val (.int p1), .val (.int p2), .val (.ref a3), .unset, .unset, .unset] [(.int (p1 / p2))])) G
          generalize hi2 : (p1 / p2) = i2
          refine R.istore X0 hx (hb hby d2_33) (L' := #[.val (.ref a0), .val (.int p1), .val (.int p2), .val (.ref a3), .unset, .unset, .val (.int i2)]) rfl (pc' := 35) rfl ?_
          have hix := own_idx hl hj hz hlt hc9 hc21 hi2
          refine R.aloadN X0 hx (hb hby d2_35) rfl rfl (pc' := 36) rfl ?_
          refine R.iload X0 hx (hb hby d2_36) rfl (pc' := 38) rfl ?_
          refine R.iconst X0 hx (hb hby d2_38) (v := (1 : Int32)) (by decide) (pc' := 39) rfl ?_
          refine R.isub X0 hx (hb hby d2_39) rfl (pc' := 40) rfl ?_
          refine R.daload X0 hx hZ e0 V_a3 (own_bd (show 0 ≤ ((i2 - (1 : Int32))).toInt ∧ ((i2 - (1 : Int32))).toInt < (3 : Int32).toInt from hix) : ¬ (i2 - (1 : Int32)) < 0 ∧ (i2 - (1 : Int32)) < (3 : Int32)) (v := (.double (own_sel A B D (i2 - (1 : Int32))))) (rdA _ hix.1 hix.2) (hb hby d2_40) (pc' := 41) rfl ?_
          show Rn p e below (s₁.setTop (mkF m 41 #[.val (.ref a0), .val (.int p1), .val (.int p2), .val (.ref a3), .unset, .unset, .val (.int i2)] [(.double (own_sel A B D (i2 - (1 : Int32))))])) G
          generalize hr3 : (own_sel A B D (i2 - (1 : Int32))) = r3
          refine R.dstore X0 hx (hb hby d2_41) (L' := #[.val (.ref a0), .val (.int p1), .val (.int p2), .val (.ref a3), .val (.double r3), .second, .val (.int i2)]) rfl (pc' := 43) rfl ?_
          refine R.aloadN X0 hx (hb hby d2_43) rfl rfl (pc' := 44) rfl ?_
          refine R.iloadN X0 hx (hb hby d2_44) rfl (pc' := 45) rfl ?_
          refine R.daload X0 hx hZ e0 V_a0 (own_bd ⟨hj.1, hlt⟩ : ¬ p1 < 0 ∧ p1 < z) (v := (.double (own_sel A B D (i2 - (1 : Int32))))) ((rd _ hj.1 hlt).trans (by unfold own_w; rw [if_neg hc9, if_pos hc21, hi2])) (hb hby d2_45) (pc' := 46) rfl ?_
          refine R.dload X0 hx (hb hby d2_46) rfl (pc' := 48) rfl ?_
          refine R.dcmp X0 hx (hb hby d2_48) (dcmpV_eq (hr3) (own_sel_nn nA nB nD) _ : cmpValue (FP.dcmp (own_sel A B D (i2 - (1 : Int32))) r3) .l = (0 : Int32)) (pc' := 49) rfl ?_
          refine R.ifNo X0 hx (hb hby d2_49) (teq (by decide : (0 : Int32) = (0 : Int32))).2 (pc' := 52) rfl ?_
          refine R.iconst X0 hx (hb hby d2_52) (v := (1 : Int32)) (by decide) (pc' := 53) rfl ?_
          refine R.goto X0 hx (hb hby d2_53) (by decide) (pc' := 57) (by decide) ?_
          rw [← hG]
          exact Rn.ret X0 (BodyLoose.notSynchronized Bd) (v := some (.int (1 : Int32))) (fun h => by rw [Bd.returns] at h; cases h) (Q := Q2 Z a0 p1 p2 a3 kr z hr ka hA A B D h0 n0) e0 (fun fs hr => retN X0 hx (t := .boolean) Bd.returns (by simp) (hb hby d2_57) hr) ⟨rfl, N0, rfl⟩ (by decide) (by decide)
        · refine R.ifNo X0 hx (hb hby d2_21) (feq hc21).1 (pc' := 24) rfl ?_
          refine R.dconst0 X0 hx (hb hby d2_24) (pc' := 25) rfl ?_
          show Rn p e below (s₁.setTop (mkF m 25 #[.val (.ref a0), .val (.int p1), .val (.int p2), .val (.ref a3), .unset, .unset, .unset] [(.double FP.dconst0)])) G
          generalize hr4 : FP.dconst0 = r4
          refine R.dstore X0 hx (hb hby d2_25) (L' := #[.val (.ref a0), .val (.int p1), .val (.int p2), .val (.ref a3), .val (.double r4), .second, .unset]) rfl (pc' := 27) rfl ?_
          refine R.goto X0 hx (hb hby d2_27) (by decide) (pc' := 43) (by decide) ?_
          refine R.aloadN X0 hx (hb hby d2_43) rfl rfl (pc' := 44) rfl ?_
          refine R.iloadN X0 hx (hb hby d2_44) rfl (pc' := 45) rfl ?_
          refine R.daload X0 hx hZ e0 V_a0 (own_bd ⟨hj.1, hlt⟩ : ¬ p1 < 0 ∧ p1 < z) (v := (.double (0 : UInt64))) ((rd _ hj.1 hlt).trans (by unfold own_w; rw [if_neg hc9, if_neg hc21])) (hb hby d2_45) (pc' := 46) rfl ?_
          refine R.dload X0 hx (hb hby d2_46) rfl (pc' := 48) rfl ?_
          refine R.dcmp X0 hx (hb hby d2_48) (dcmpV_eq (hr4) (own_nn0) _ : cmpValue (FP.dcmp (0 : UInt64) r4) .l = (0 : Int32)) (pc' := 49) rfl ?_
          refine R.ifNo X0 hx (hb hby d2_49) (teq (by decide : (0 : Int32) = (0 : Int32))).2 (pc' := 52) rfl ?_
          refine R.iconst X0 hx (hb hby d2_52) (v := (1 : Int32)) (by decide) (pc' := 53) rfl ?_
          refine R.goto X0 hx (hb hby d2_53) (by decide) (pc' := 57) (by decide) ?_
          rw [← hG]
          exact Rn.ret X0 (BodyLoose.notSynchronized Bd) (v := some (.int (1 : Int32))) (fun h => by rw [Bd.returns] at h; cases h) (Q := Q2 Z a0 p1 p2 a3 kr z hr ka hA A B D h0 n0) e0 (fun fs hr => retN X0 hx (t := .boolean) Bd.returns (by simp) (hb hby d2_57) hr) ⟨rfl, N0, rfl⟩ (by decide) (by decide)
    · refine R.icmpNo X0 hx (hb hby d2_3) (flt hc3).1 (pc' := 6) rfl ?_
      refine R.iconst X0 hx (hb hby d2_6) (v := (1 : Int32)) (by decide) (pc' := 7) rfl ?_
      rw [← hG]
      exact Rn.ret X0 (BodyLoose.notSynchronized Bd) (v := some (.int (1 : Int32))) (fun h => by rw [Bd.returns] at h; cases h) (Q := Q2 Z a0 p1 p2 a3 kr z hr ka hA A B D h0 n0) e0 (fun fs hr => retN X0 hx (t := .boolean) Bd.returns (by simp) (hb hby d2_7) hr) ⟨rfl, N0, rfl⟩ (by decide) (by decide)
  exact (Rn.st (fun t k => castTop (ef_2 m a0 p1 p2 a3) k) first_ : Rn p e below (s₁.setTop (entryFrame m #[(.ref a0), (.int p1), (.int p2), (.ref a3)] 7)) (Fn2 Z a0 p1 p2 a3 kr z hr ka hA A B D h0 n0 s))
theorem pd_0 : parseMethodDescriptor "([DI)[D" = some ⟨[(.array .double), .int], some (.array .double)⟩ := by decide +kernel
abbrev mY0 : MethodName := (⟨"com/example/deseason/deseason/arima/Polynomials", "withLeadingOne", "([DI)[D"⟩ : MethodName)
theorem pd_1 : parseMethodDescriptor "([DII[D)Z" = some ⟨[(.array .double), .int, .int, (.array .double)], some .boolean⟩ := by decide +kernel
abbrev mY1 : MethodName := (⟨"com/example/deseason/deseason/arima/PolynomialsWithLeadingOnePinLaw", "at", "([DII[D)Z"⟩ : MethodName)
theorem ef_0 (m : MethodId) (x0 : Int32) (x1 : Int32) (x2 : Int32) (x3 : Int32) (x4 : Int32) : entryFrame m #[(.int x0), (.int x1), (.int x2), (.int x3), (.int x4)] maxLocals = mkF m 0 #[.val (.int x0), .val (.int x1), .val (.int x2), .val (.int x3), .val (.int x4), .unset, .unset, .unset, .unset, .unset] [] := by first | (simp [entryFrame, mkF, argsToLocals, Value.category, maxLocals]; done) | rfl
def Q0 (Z : State) (p0 : Int32) (p1 : Int32) (p2 : Int32) (p3 : Int32) (p4 : Int32) (h0 : Heap) (n0 : Nat) (vQ : Option Value) (hQ_ : Heap) (LQ : List Loc) : Prop := vQ = some (.int 1) ∧ Fr n0 LQ
def Fn0 (Z : State) (p0 : Int32) (p1 : Int32) (p2 : Int32) (p3 : Int32) (p4 : Int32) (h0 : Heap) (n0 : Nat) (sQ : State) (oQ : Outcome) (UQ : State) : Prop := ∃ vQ LQ, oQ = .returned vQ ∧ Q0 Z p0 p1 p2 p3 p4 h0 n0 vQ UQ.heap LQ ∧ FrameEnd sQ oQ UQ LQ room_1.cells room_1.slots
set_option maxRecDepth 65536 in
set_option maxHeartbeats 40000000 in
theorem rm0 (l : Launch) (Z : State) (aZ : Array Value) (hw : ∀ d ∈ tables_1, d.before aZ Z = true) (ws : List Jvm.Cond) (p0 : Int32) (p1 : Int32) (p2 : Int32) (p3 : Int32) (p4 : Int32) (h0 : Heap) (n0 : Nat) (Z0 : n0 ≤ h0.size) :
    MetFree l x (head1 (Jvm.Cond.code x code maxLocals ret :: ws) room_1) (fun aQ UQ => aQ = #[(.int p0), (.int p1), (.int p2), (.int p3), (.int p4)] ∧ Z.Warmed39 UQ.vm ∧ UQ.heap = h0) (fun _ _ _ _ _ => True) (fun _ UQ oQ UR => ∃ vQ LQ, oQ = .returned vQ ∧ Q0 Z p0 p1 p2 p3 p4 h0 n0 vQ UR.heap LQ ∧ FrameEnd UQ oQ UR LQ room_1.cells room_1.slots) := by
  refine MetFree.of_bodySF (plainFor_of_name pn_1) hisR ?_
  intro p e s m args below meth c s₁ Bd hml0 hP hK
  obtain ⟨rfl, hZ, hh⟩ := hP
  have hx := Bd.exec
  have hby := Bd.bytes
  have hml : c.maxLocals = 10 := hml0
  have hown : s.vm.findClass "com/example/deseason/deseason/arima/PolynomialsWithLeadingOnePinLaw" = some m.cls := findClass_of_methodNamed Bd.named
  have hnm := (name_of_methodNamed Bd.named Bd.method).1
  have X0 : Stand p l e room_1 s m #[(.int p0), (.int p1), (.int p2), (.int p3), (.int p4)] below meth c s₁ [] 0 0 := Stand.of_body Bd
  have e0 : s₁.heap = h0 := by rw [← hh, Bd.state]; rfl
  have N0 := Fr.nil n0
  have K0 : Keep h0 h0 [] := Keep.refl _ _
  have w_0 := hw _ (List.mem_of_getElem? (i := 0) rfl)
  have w_1 := hw _ (List.mem_of_getElem? (i := 1) rfl)
  have w_2 := hw _ (List.mem_of_getElem? (i := 2) rfl)
  have w_3 := hw _ (List.mem_of_getElem? (i := 3) rfl)
  have w_4 := hw _ (List.mem_of_getElem? (i := 4) rfl)
  have w_5 := hw _ (List.mem_of_getElem? (i := 5) rfl)
  have w_6 := hw _ (List.mem_of_getElem? (i := 6) rfl)
  have w_7 := hw _ (List.mem_of_getElem? (i := 7) rfl)
  have w_8 := hw _ (List.mem_of_getElem? (i := 8) rfl)
  have first_ : Rn p e below (s₁.setTop (mkF m 0 #[.val (.int p0), .val (.int p1), .val (.int p2), .val (.int p3), .val (.int p4), .unset, .unset, .unset, .unset, .unset] [])) (Fn0 Z p0 p1 p2 p3 p4 h0 n0 s) := by
    generalize hG : (Fn0 Z p0 p1 p2 p3 p4 h0 n0 s) = G
    refine R.iloadN X0 hx (hb hby at_0) rfl (pc' := 1) rfl ?_
    refine R.iconst X0 hx (hb hby at_1) (v := (3 : Int32)) (by decide) (pc' := 2) rfl ?_
    refine R.iand X0 hx (hb hby at_2) rfl (pc' := 3) rfl ?_
    show Rn p e below (s₁.setTop (mkF m 3 #[.val (.int p0), .val (.int p1), .val (.int p2), .val (.int p3), .val (.int p4), .unset, .unset, .unset, .unset, .unset] [(.int (p0 &&& (3 : Int32)))])) G
    generalize hi1 : (p0 &&& (3 : Int32)) = i1
    refine R.istore X0 hx (hb hby at_3) (L' := #[.val (.int p0), .val (.int p1), .val (.int p2), .val (.int p3), .val (.int p4), .val (.int i1), .unset, .unset, .unset, .unset]) rfl (pc' := 5) rfl ?_
    refine R.iloadN X0 hx (hb hby at_5) rfl (pc' := 6) rfl ?_
    refine R.iconst X0 hx (hb hby at_6) (v := (3 : Int32)) (by decide) (pc' := 7) rfl ?_
    refine R.iand X0 hx (hb hby at_7) rfl (pc' := 8) rfl ?_
    refine R.iconst X0 hx (hb hby at_8) (v := (1 : Int32)) (by decide) (pc' := 9) rfl ?_
    refine R.iadd X0 hx (hb hby at_9) rfl (pc' := 10) rfl ?_
    show Rn p e below (s₁.setTop (mkF m 10 #[.val (.int p0), .val (.int p1), .val (.int p2), .val (.int p3), .val (.int p4), .val (.int i1), .unset, .unset, .unset, .unset] [(.int ((p1 &&& (3 : Int32)) + (1 : Int32)))])) G
    generalize hi2 : ((p1 &&& (3 : Int32)) + (1 : Int32)) = i2
    refine R.istore X0 hx (hb hby at_10) (L' := #[.val (.int p0), .val (.int p1), .val (.int p2), .val (.int p3), .val (.int p4), .val (.int i1), .val (.int i2), .unset, .unset, .unset]) rfl (pc' := 12) rfl ?_
    have hn := own_n3 hi1
    have hl := own_lg hi2
    have z0 : (0 : Int32).toInt = 0 := by decide
    have z1 : (1 : Int32).toInt = 1 := by decide
    have z2 : (2 : Int32).toInt = 2 := by decide
    refine R.iconst X0 hx (hb hby at_12) (v := (3 : Int32)) (by decide) (pc' := 13) rfl ?_
    refine R.newP X0 hx hZ (ty := .double) rfl w_0 e0 (by decide) (cap := 3) (by decide) (by decide) (ad := "[D") (by decide) (hb hby at_13) (pc' := 15) rfl (by decide) (by decide) ?_; intro T3 h3 b3 k3 g3 X3 e3 E3 EE3 A3
    have g_b3 : n0 ≤ b3 := Nat.le_trans Z0 (Nat.le_of_eq g3.symm)
    have sz_b3 : h0.size ≤ b3 := Nat.le_trans K0.1 (Nat.le_of_eq g3.symm)
    have K3 : Keep h0 h3 [] := K0.ext E3
    have Z3 : n0 ≤ h3.size := Nat.le_trans Z0 E3.1
    have V_b3 : Arh Z h3 b3 k3 .double (3 : Int32) [] [] (.double (0 : UInt64)) := A3
    refine R.dup X3 hx (hb hby at_15) rfl (pc' := 16) rfl ?_
    refine R.iconst X3 hx (hb hby at_16) (v := (0 : Int32)) (by decide) (pc' := 17) rfl ?_
    refine R.iloadN X3 hx (hb hby at_17) rfl (pc' := 18) rfl ?_
    refine R.i2d X3 hx (hb hby at_18) (pc' := 19) rfl ?_
    refine R.dastore X3 hx hZ e3 V_b3 (⟨by decide, by decide⟩ : ¬ (0 : Int32) < 0 ∧ (0 : Int32) < (3 : Int32)) (hb hby at_19) (pc' := 20) rfl ?_; intro T4 h4 X4 e4 W4 V4
    have V_b3 : Arh Z h4 b3 k3 .double (3 : Int32) [((0 : Int32), (.double (FP.i2d p2)))] [] (.double (0 : UInt64)) := V4
    have N4 := Fr.snoc X4 N0 g_b3
    have K4 : Keep h0 h4 [] := K3.wr W4 (Or.inr sz_b3)
    have Z4 : n0 ≤ h4.size := Nat.le_trans Z3 (Keep.of_wr W4).1
    refine R.dup X4 hx (hb hby at_20) rfl (pc' := 21) rfl ?_
    refine R.iconst X4 hx (hb hby at_21) (v := (1 : Int32)) (by decide) (pc' := 22) rfl ?_
    refine R.iloadN X4 hx (hb hby at_22) rfl (pc' := 23) rfl ?_
    refine R.i2d X4 hx (hb hby at_23) (pc' := 24) rfl ?_
    refine R.dastore X4 hx hZ e4 V_b3 (⟨by decide, by decide⟩ : ¬ (1 : Int32) < 0 ∧ (1 : Int32) < (3 : Int32)) (hb hby at_24) (pc' := 25) rfl ?_; intro T5 h5 X5 e5 W5 V5
    have V_b3 : Arh Z h5 b3 k3 .double (3 : Int32) [((1 : Int32), (.double (FP.i2d p3))), ((0 : Int32), (.double (FP.i2d p2)))] [] (.double (0 : UInt64)) := V5
    have N5 := Fr.snoc X5 N4 g_b3
    have K5 : Keep h0 h5 [] := K4.wr W5 (Or.inr sz_b3)
    have Z5 : n0 ≤ h5.size := Nat.le_trans Z4 (Keep.of_wr W5).1
    refine R.dup X5 hx (hb hby at_25) rfl (pc' := 26) rfl ?_
    refine R.iconst X5 hx (hb hby at_26) (v := (2 : Int32)) (by decide) (pc' := 27) rfl ?_
    refine R.iload X5 hx (hb hby at_27) rfl (pc' := 29) rfl ?_
    refine R.i2d X5 hx (hb hby at_29) (pc' := 30) rfl ?_
    refine R.dastore X5 hx hZ e5 V_b3 (⟨by decide, by decide⟩ : ¬ (2 : Int32) < 0 ∧ (2 : Int32) < (3 : Int32)) (hb hby at_30) (pc' := 31) rfl ?_; intro T6 h6 X6 e6 W6 V6
    have V_b3 : Arh Z h6 b3 k3 .double (3 : Int32) [((2 : Int32), (.double (FP.i2d p4))), ((1 : Int32), (.double (FP.i2d p3))), ((0 : Int32), (.double (FP.i2d p2)))] [] (.double (0 : UInt64)) := V6
    have N6 := Fr.snoc X6 N5 g_b3
    have K6 : Keep h0 h6 [] := K5.wr W6 (Or.inr sz_b3)
    have Z6 : n0 ≤ h6.size := Nat.le_trans Z5 (Keep.of_wr W6).1
    refine R.astore X6 hx (hb hby at_31) rfl (L' := #[.val (.int p0), .val (.int p1), .val (.int p2), .val (.int p3), .val (.int p4), .val (.int i1), .val (.int i2), .val (.ref b3), .unset, .unset]) rfl (pc' := 33) rfl ?_
    refine R.iload X6 hx (hb hby at_33) rfl (pc' := 35) rfl ?_
    refine R.newP X6 hx hZ (ty := .double) rfl w_0 e6 (own_nneg hn.1) (cap := 3) (show i1.toInt.toNat ≤ 3 by omega) (by decide) (ad := "[D") (by decide) (hb hby at_35) (pc' := 37) rfl (by decide) (by decide) ?_; intro T7 h7 b7 k7 g7 X7 e7 E7 EE7 A7
    have g_b7 : n0 ≤ b7 := Nat.le_trans Z6 (Nat.le_of_eq g7.symm)
    have sz_b7 : h0.size ≤ b7 := Nat.le_trans K6.1 (Nat.le_of_eq g7.symm)
    have ne_b3_b7 : b3 ≠ b7 := Nat.ne_of_lt (Nat.lt_of_lt_of_le V_b3.lt (Nat.le_of_eq g7.symm))
    have K7 : Keep h0 h7 [] := K6.ext E7
    have Z7 : n0 ≤ h7.size := Nat.le_trans Z6 E7.1
    have V_b3 := V_b3.ext E7
    have V_b7 : Arh Z h7 b7 k7 .double i1 [] [] (.double (0 : UInt64)) := A7
    refine R.astore X7 hx (hb hby at_37) rfl (L' := #[.val (.int p0), .val (.int p1), .val (.int p2), .val (.int p3), .val (.int p4), .val (.int i1), .val (.int i2), .val (.ref b3), .val (.ref b7), .unset]) rfl (pc' := 39) rfl ?_
    refine R.iload X7 hx (hb hby at_39) rfl (pc' := 41) rfl ?_
    by_cases hc41 : (0 : Int32) < i1
    · refine R.ifNo X7 hx (hb hby at_41) (tlt hc41).2.2.2 (pc' := 44) rfl ?_
      refine R.aload X7 hx (hb hby at_44) rfl rfl (pc' := 46) rfl ?_
      refine R.iconst X7 hx (hb hby at_46) (v := (0 : Int32)) (by decide) (pc' := 47) rfl ?_
      refine R.aload X7 hx (hb hby at_47) rfl rfl (pc' := 49) rfl ?_
      refine R.iconst X7 hx (hb hby at_49) (v := (0 : Int32)) (by decide) (pc' := 50) rfl ?_
      refine R.daload X7 hx hZ e7 V_b3 (⟨by decide, by decide⟩ : ¬ (0 : Int32) < 0 ∧ (0 : Int32) < (3 : Int32)) (v := (.double (FP.i2d p2))) (getH_miss ((⟨by decide, by decide⟩ : ¬ (0 : Int32) < 0 ∧ (0 : Int32) < (3 : Int32))).1 (by decide) (getH_miss ((⟨by decide, by decide⟩ : ¬ (0 : Int32) < 0 ∧ (0 : Int32) < (3 : Int32))).1 (by decide) (getH_hit ((⟨by decide, by decide⟩ : ¬ (0 : Int32) < 0 ∧ (0 : Int32) < (3 : Int32))).1 (rfl)))) (hb hby at_50) (pc' := 51) rfl ?_
      refine R.dastore X7 hx hZ e7 V_b7 (own_bd (show (0 : Int) ≤ 0 ∧ (0 : Int) < i1.toInt by have q := Int32.lt_iff_toInt_lt.mp hc41; omega) : ¬ (0 : Int32) < 0 ∧ (0 : Int32) < i1) (hb hby at_51) (pc' := 52) rfl ?_; intro T8 h8 X8 e8 W8 V8
      have V_b3 := V_b3.other W8 ne_b3_b7
      have V_b7 : Arh Z h8 b7 k7 .double i1 [((0 : Int32), (.double (FP.i2d p2)))] [] (.double (0 : UInt64)) := V8
      have N8 := Fr.snoc X8 N6 g_b7
      have K8 : Keep h0 h8 [] := K7.wr W8 (Or.inr sz_b7)
      have Z8 : n0 ≤ h8.size := Nat.le_trans Z7 (Keep.of_wr W8).1
      refine R.iload X8 hx (hb hby at_52) rfl (pc' := 54) rfl ?_
      refine R.iconst X8 hx (hb hby at_54) (v := (1 : Int32)) (by decide) (pc' := 55) rfl ?_
      by_cases hc55 : (1 : Int32) < i1
      · refine R.icmpNo X8 hx (hb hby at_55) (tlt hc55).2.2.2 (pc' := 58) rfl ?_
        refine R.aload X8 hx (hb hby at_58) rfl rfl (pc' := 60) rfl ?_
        refine R.iconst X8 hx (hb hby at_60) (v := (1 : Int32)) (by decide) (pc' := 61) rfl ?_
        refine R.aload X8 hx (hb hby at_61) rfl rfl (pc' := 63) rfl ?_
        refine R.iconst X8 hx (hb hby at_63) (v := (1 : Int32)) (by decide) (pc' := 64) rfl ?_
        refine R.daload X8 hx hZ e8 V_b3 (⟨by decide, by decide⟩ : ¬ (1 : Int32) < 0 ∧ (1 : Int32) < (3 : Int32)) (v := (.double (FP.i2d p3))) (getH_miss ((⟨by decide, by decide⟩ : ¬ (1 : Int32) < 0 ∧ (1 : Int32) < (3 : Int32))).1 (by decide) (getH_hit ((⟨by decide, by decide⟩ : ¬ (1 : Int32) < 0 ∧ (1 : Int32) < (3 : Int32))).1 (rfl))) (hb hby at_64) (pc' := 65) rfl ?_
        refine R.dastore X8 hx hZ e8 V_b7 (own_bd (show (0 : Int) ≤ 1 ∧ (1 : Int) < i1.toInt by have q := Int32.lt_iff_toInt_lt.mp hc55; omega) : ¬ (1 : Int32) < 0 ∧ (1 : Int32) < i1) (hb hby at_65) (pc' := 66) rfl ?_; intro T9 h9 X9 e9 W9 V9
        have V_b3 := V_b3.other W9 ne_b3_b7
        have V_b7 : Arh Z h9 b7 k7 .double i1 [((1 : Int32), (.double (FP.i2d p3))), ((0 : Int32), (.double (FP.i2d p2)))] [] (.double (0 : UInt64)) := V9
        have N9 := Fr.snoc X9 N8 g_b7
        have K9 : Keep h0 h9 [] := K8.wr W9 (Or.inr sz_b7)
        have Z9 : n0 ≤ h9.size := Nat.le_trans Z8 (Keep.of_wr W9).1
        refine R.iload X9 hx (hb hby at_66) rfl (pc' := 68) rfl ?_
        refine R.iconst X9 hx (hb hby at_68) (v := (2 : Int32)) (by decide) (pc' := 69) rfl ?_
        by_cases hc69 : (2 : Int32) < i1
        · refine R.icmpNo X9 hx (hb hby at_69) (tlt hc69).2.2.2 (pc' := 72) rfl ?_
          refine R.aload X9 hx (hb hby at_72) rfl rfl (pc' := 74) rfl ?_
          refine R.iconst X9 hx (hb hby at_74) (v := (2 : Int32)) (by decide) (pc' := 75) rfl ?_
          refine R.aload X9 hx (hb hby at_75) rfl rfl (pc' := 77) rfl ?_
          refine R.iconst X9 hx (hb hby at_77) (v := (2 : Int32)) (by decide) (pc' := 78) rfl ?_
          refine R.daload X9 hx hZ e9 V_b3 (⟨by decide, by decide⟩ : ¬ (2 : Int32) < 0 ∧ (2 : Int32) < (3 : Int32)) (v := (.double (FP.i2d p4))) (getH_hit ((⟨by decide, by decide⟩ : ¬ (2 : Int32) < 0 ∧ (2 : Int32) < (3 : Int32))).1 (rfl)) (hb hby at_78) (pc' := 79) rfl ?_
          refine R.dastore X9 hx hZ e9 V_b7 (own_bd (show (0 : Int) ≤ 2 ∧ (2 : Int) < i1.toInt by have q := Int32.lt_iff_toInt_lt.mp hc69; omega) : ¬ (2 : Int32) < 0 ∧ (2 : Int32) < i1) (hb hby at_79) (pc' := 80) rfl ?_; intro T10 h10 X10 e10 W10 V10
          have V_b3 := V_b3.other W10 ne_b3_b7
          have V_b7 : Arh Z h10 b7 k7 .double i1 [((2 : Int32), (.double (FP.i2d p4))), ((1 : Int32), (.double (FP.i2d p3))), ((0 : Int32), (.double (FP.i2d p2)))] [] (.double (0 : UInt64)) := V10
          have N10 := Fr.snoc X10 N9 g_b7
          have K10 : Keep h0 h10 [] := K9.wr W10 (Or.inr sz_b7)
          have Z10 : n0 ≤ h10.size := Nat.le_trans Z9 (Keep.of_wr W10).1
          rw [Int32.lt_iff_toInt_lt] at hc41
          rw [Int32.lt_iff_toInt_lt] at hc55
          rw [Int32.lt_iff_toInt_lt] at hc69
          obtain rfl : i1 = (3 : Int32) := own_isn (show i1.toInt = 3 by omega)
          refine R.aload X10 hx (hb hby at_80) rfl rfl (pc' := 82) rfl ?_
          refine R.iload X10 hx (hb hby at_82) rfl (pc' := 84) rfl ?_
          refine R.callS X10 hx hZ (y := mY0) hown w_1 w_2 w_3 w_4 (by decide) e10 (rmwl3 l Z aZ hw [] b7 i2 k7 (FP.i2d p2) (FP.i2d p3) (FP.i2d p4) h10 n0 Z10 V_b7 (hl)) (by decide) (W := 0) (Nat.le_of_eq rfl) (by decide) (by rw [hml]; rfl) (lenOf pd_0 rfl) rfl (hb hby at_84) (pc' := 87) rfl (by decide) (by decide) ?_; intro v11 T11 L11 X11 hQ11
          obtain ⟨r_11, kr_11, rfl, N11q, Kc11, P11_0, P11_1⟩ := hQ11
          have N11 := Fr.app N10 N11q
          generalize e11 : T11.heap = h11 at Kc11 P11_0 P11_1
          have K11 : Keep h0 h11 [] := K10.trans Kc11 (all0)
          have Z11 : n0 ≤ h11.size := Nat.le_trans Z10 Kc11.1
          have ne_b3_r_11 : b3 ≠ r_11 := Nat.ne_of_lt (Nat.lt_of_lt_of_le V_b3.lt P11_0)
          have ne_b7_r_11 : b7 ≠ r_11 := Nat.ne_of_lt (Nat.lt_of_lt_of_le V_b7.lt P11_0)
          have g_r_11 : n0 ≤ r_11 := Nat.le_trans Z10 P11_0
          have sz_r_11 : h0.size ≤ r_11 := Nat.le_trans K10.1 P11_0
          have V_b3 := V_b3.keep Kc11 nin0
          have V_b7 := V_b7.keep Kc11 nin0
          have fresh_11 := P11_0
          have V_r_11 : Arh Z h11 r_11 kr_11 .double (((3 : Int32) * i2) + (1 : Int32)) [(((3 : Int32) * i2), (.double (FP.i2d p4))), (((2 : Int32) * i2), (.double (FP.i2d p3))), (((1 : Int32) * i2), (.double (FP.i2d p2))), ((0 : Int32), (.double FP.dconst1))] [] (.double (0 : UInt64)) := P11_1
          have V_r_11 : Arh Z h11 r_11 kr_11 .double (((3 : Int32) * i2) + (1 : Int32)) [(((3 : Int32) * i2), (.double (FP.i2d p4))), (((2 : Int32) * i2), (.double (FP.i2d p3))), (((1 : Int32) * i2), (.double (FP.i2d p2))), ((0 : Int32), (.double FP.dconst1))] [] (.double (0 : UInt64)) := V_r_11
          refine R.astore X11 hx (hb hby at_87) rfl (L' := #[.val (.int p0), .val (.int p1), .val (.int p2), .val (.int p3), .val (.int p4), .val (.int (3 : Int32)), .val (.int i2), .val (.ref b3), .val (.ref b7), .val (.ref r_11)]) rfl (pc' := 89) rfl ?_
          refine R.aload X11 hx (hb hby at_89) rfl rfl (pc' := 91) rfl ?_
          refine R.alen X11 hx hZ e11 V_r_11 (hb hby at_91) (pc' := 92) rfl ?_
          refine R.iload X11 hx (hb hby at_92) rfl (pc' := 94) rfl ?_
          refine R.iload X11 hx (hb hby at_94) rfl (pc' := 96) rfl ?_
          refine R.imul X11 hx (hb hby at_96) rfl (pc' := 97) rfl ?_
          refine R.iconst X11 hx (hb hby at_97) (v := (1 : Int32)) (by decide) (pc' := 98) rfl ?_
          refine R.iadd X11 hx (hb hby at_98) rfl (pc' := 99) rfl ?_
          refine R.icmpYes X11 hx (hb hby at_99) (teq (rfl : (((3 : Int32) * i2) + (1 : Int32)) = (((3 : Int32) * i2) + (1 : Int32)))).1 (by decide) (pc' := 104) (by decide) ?_
          have hzt := own_zt (k := (3 : Int32)) (p := i2) (d := 3) (by decide) (by omega) hl
          refine R.aload X11 hx (hb hby at_104) rfl rfl (pc' := 106) rfl ?_
          refine R.iconst X11 hx (hb hby at_106) (v := (0 : Int32)) (by decide) (pc' := 107) rfl ?_
          refine R.iload X11 hx (hb hby at_107) rfl (pc' := 109) rfl ?_
          refine R.aload X11 hx (hb hby at_109) rfl rfl (pc' := 111) rfl ?_
          refine R.callS X11 hx hZ (y := mY1) hown w_5 w_6 w_7 w_8 (by decide) e11 (rm2 l Z aZ hw [] r_11 (0 : Int32) i2 b3 kr_11 (((3 : Int32) * i2) + (1 : Int32)) [(((3 : Int32) * i2), (.double (FP.i2d p4))), (((2 : Int32) * i2), (.double (FP.i2d p3))), (((1 : Int32) * i2), (.double (FP.i2d p2))), ((0 : Int32), (.double FP.dconst1))] k3 [((2 : Int32), (.double (FP.i2d p4))), ((1 : Int32), (.double (FP.i2d p3))), ((0 : Int32), (.double (FP.i2d p2)))] (FP.i2d p2) (FP.i2d p3) (FP.i2d p4) h11 n0 Z11 V_r_11 V_b3 (own_rd3 hl) (own_rdA) (hl) (show (0 : Int) ≤ 0 ∧ (0 : Int) ≤ 12 by decide) (by omega) ((Dy.i2d p2).nn) ((Dy.i2d p3).nn) ((Dy.i2d p4).nn)) (by decide) (W := 0) (Nat.le_of_eq rfl) (by decide) (by rw [hml]; rfl) (lenOf pd_1 rfl) rfl (hb hby at_111) (pc' := 114) rfl (by decide) (by decide) ?_; intro v12 T12 L12 X12 hQ12
          obtain ⟨rfl, N12q, e12⟩ := hQ12
          have N12 := Fr.app N11 N12q
          refine R.ifNo X12 hx (hb hby at_114) (feq (by decide : ¬ ((1 : Int32) = (0 : Int32)))).1 (pc' := 117) rfl ?_
          refine R.aload X12 hx (hb hby at_117) rfl rfl (pc' := 119) rfl ?_
          refine R.iconst X12 hx (hb hby at_119) (v := (1 : Int32)) (by decide) (pc' := 120) rfl ?_
          refine R.iload X12 hx (hb hby at_120) rfl (pc' := 122) rfl ?_
          refine R.aload X12 hx (hb hby at_122) rfl rfl (pc' := 124) rfl ?_
          refine R.callS X12 hx hZ (y := mY1) hown w_5 w_6 w_7 w_8 (by decide) e12 (rm2 l Z aZ hw [] r_11 (1 : Int32) i2 b3 kr_11 (((3 : Int32) * i2) + (1 : Int32)) [(((3 : Int32) * i2), (.double (FP.i2d p4))), (((2 : Int32) * i2), (.double (FP.i2d p3))), (((1 : Int32) * i2), (.double (FP.i2d p2))), ((0 : Int32), (.double FP.dconst1))] k3 [((2 : Int32), (.double (FP.i2d p4))), ((1 : Int32), (.double (FP.i2d p3))), ((0 : Int32), (.double (FP.i2d p2)))] (FP.i2d p2) (FP.i2d p3) (FP.i2d p4) h11 n0 Z11 V_r_11 V_b3 (own_rd3 hl) (own_rdA) (hl) (show (0 : Int) ≤ 1 ∧ (1 : Int) ≤ 12 by decide) (by omega) ((Dy.i2d p2).nn) ((Dy.i2d p3).nn) ((Dy.i2d p4).nn)) (by decide) (W := 0) (Nat.le_of_eq rfl) (by decide) (by rw [hml]; rfl) (lenOf pd_1 rfl) rfl (hb hby at_124) (pc' := 127) rfl (by decide) (by decide) ?_; intro v13 T13 L13 X13 hQ13
          obtain ⟨rfl, N13q, e13⟩ := hQ13
          have N13 := Fr.app N12 N13q
          refine R.ifNo X13 hx (hb hby at_127) (feq (by decide : ¬ ((1 : Int32) = (0 : Int32)))).1 (pc' := 130) rfl ?_
          refine R.aload X13 hx (hb hby at_130) rfl rfl (pc' := 132) rfl ?_
          refine R.iconst X13 hx (hb hby at_132) (v := (2 : Int32)) (by decide) (pc' := 133) rfl ?_
          refine R.iload X13 hx (hb hby at_133) rfl (pc' := 135) rfl ?_
          refine R.aload X13 hx (hb hby at_135) rfl rfl (pc' := 137) rfl ?_
          refine R.callS X13 hx hZ (y := mY1) hown w_5 w_6 w_7 w_8 (by decide) e13 (rm2 l Z aZ hw [] r_11 (2 : Int32) i2 b3 kr_11 (((3 : Int32) * i2) + (1 : Int32)) [(((3 : Int32) * i2), (.double (FP.i2d p4))), (((2 : Int32) * i2), (.double (FP.i2d p3))), (((1 : Int32) * i2), (.double (FP.i2d p2))), ((0 : Int32), (.double FP.dconst1))] k3 [((2 : Int32), (.double (FP.i2d p4))), ((1 : Int32), (.double (FP.i2d p3))), ((0 : Int32), (.double (FP.i2d p2)))] (FP.i2d p2) (FP.i2d p3) (FP.i2d p4) h11 n0 Z11 V_r_11 V_b3 (own_rd3 hl) (own_rdA) (hl) (show (0 : Int) ≤ 2 ∧ (2 : Int) ≤ 12 by decide) (by omega) ((Dy.i2d p2).nn) ((Dy.i2d p3).nn) ((Dy.i2d p4).nn)) (by decide) (W := 0) (Nat.le_of_eq rfl) (by decide) (by rw [hml]; rfl) (lenOf pd_1 rfl) rfl (hb hby at_137) (pc' := 140) rfl (by decide) (by decide) ?_; intro v14 T14 L14 X14 hQ14
          obtain ⟨rfl, N14q, e14⟩ := hQ14
          have N14 := Fr.app N13 N14q
          refine R.ifNo X14 hx (hb hby at_140) (feq (by decide : ¬ ((1 : Int32) = (0 : Int32)))).1 (pc' := 143) rfl ?_
          refine R.aload X14 hx (hb hby at_143) rfl rfl (pc' := 145) rfl ?_
          refine R.iconst X14 hx (hb hby at_145) (v := (3 : Int32)) (by decide) (pc' := 146) rfl ?_
          refine R.iload X14 hx (hb hby at_146) rfl (pc' := 148) rfl ?_
          refine R.aload X14 hx (hb hby at_148) rfl rfl (pc' := 150) rfl ?_
          refine R.callS X14 hx hZ (y := mY1) hown w_5 w_6 w_7 w_8 (by decide) e14 (rm2 l Z aZ hw [] r_11 (3 : Int32) i2 b3 kr_11 (((3 : Int32) * i2) + (1 : Int32)) [(((3 : Int32) * i2), (.double (FP.i2d p4))), (((2 : Int32) * i2), (.double (FP.i2d p3))), (((1 : Int32) * i2), (.double (FP.i2d p2))), ((0 : Int32), (.double FP.dconst1))] k3 [((2 : Int32), (.double (FP.i2d p4))), ((1 : Int32), (.double (FP.i2d p3))), ((0 : Int32), (.double (FP.i2d p2)))] (FP.i2d p2) (FP.i2d p3) (FP.i2d p4) h11 n0 Z11 V_r_11 V_b3 (own_rd3 hl) (own_rdA) (hl) (show (0 : Int) ≤ 3 ∧ (3 : Int) ≤ 12 by decide) (by omega) ((Dy.i2d p2).nn) ((Dy.i2d p3).nn) ((Dy.i2d p4).nn)) (by decide) (W := 0) (Nat.le_of_eq rfl) (by decide) (by rw [hml]; rfl) (lenOf pd_1 rfl) rfl (hb hby at_150) (pc' := 153) rfl (by decide) (by decide) ?_; intro v15 T15 L15 X15 hQ15
          obtain ⟨rfl, N15q, e15⟩ := hQ15
          have N15 := Fr.app N14 N15q
          refine R.ifNo X15 hx (hb hby at_153) (feq (by decide : ¬ ((1 : Int32) = (0 : Int32)))).1 (pc' := 156) rfl ?_
          refine R.aload X15 hx (hb hby at_156) rfl rfl (pc' := 158) rfl ?_
          refine R.iconst X15 hx (hb hby at_158) (v := (4 : Int32)) (by decide) (pc' := 159) rfl ?_
          refine R.iload X15 hx (hb hby at_159) rfl (pc' := 161) rfl ?_
          refine R.aload X15 hx (hb hby at_161) rfl rfl (pc' := 163) rfl ?_
          refine R.callS X15 hx hZ (y := mY1) hown w_5 w_6 w_7 w_8 (by decide) e15 (rm2 l Z aZ hw [] r_11 (4 : Int32) i2 b3 kr_11 (((3 : Int32) * i2) + (1 : Int32)) [(((3 : Int32) * i2), (.double (FP.i2d p4))), (((2 : Int32) * i2), (.double (FP.i2d p3))), (((1 : Int32) * i2), (.double (FP.i2d p2))), ((0 : Int32), (.double FP.dconst1))] k3 [((2 : Int32), (.double (FP.i2d p4))), ((1 : Int32), (.double (FP.i2d p3))), ((0 : Int32), (.double (FP.i2d p2)))] (FP.i2d p2) (FP.i2d p3) (FP.i2d p4) h11 n0 Z11 V_r_11 V_b3 (own_rd3 hl) (own_rdA) (hl) (show (0 : Int) ≤ 4 ∧ (4 : Int) ≤ 12 by decide) (by omega) ((Dy.i2d p2).nn) ((Dy.i2d p3).nn) ((Dy.i2d p4).nn)) (by decide) (W := 0) (Nat.le_of_eq rfl) (by decide) (by rw [hml]; rfl) (lenOf pd_1 rfl) rfl (hb hby at_163) (pc' := 166) rfl (by decide) (by decide) ?_; intro v16 T16 L16 X16 hQ16
          obtain ⟨rfl, N16q, e16⟩ := hQ16
          have N16 := Fr.app N15 N16q
          refine R.ifNo X16 hx (hb hby at_166) (feq (by decide : ¬ ((1 : Int32) = (0 : Int32)))).1 (pc' := 169) rfl ?_
          refine R.aload X16 hx (hb hby at_169) rfl rfl (pc' := 171) rfl ?_
          refine R.iconst X16 hx (hb hby at_171) (v := (5 : Int32)) (by decide) (pc' := 172) rfl ?_
          refine R.iload X16 hx (hb hby at_172) rfl (pc' := 174) rfl ?_
          refine R.aload X16 hx (hb hby at_174) rfl rfl (pc' := 176) rfl ?_
          refine R.callS X16 hx hZ (y := mY1) hown w_5 w_6 w_7 w_8 (by decide) e16 (rm2 l Z aZ hw [] r_11 (5 : Int32) i2 b3 kr_11 (((3 : Int32) * i2) + (1 : Int32)) [(((3 : Int32) * i2), (.double (FP.i2d p4))), (((2 : Int32) * i2), (.double (FP.i2d p3))), (((1 : Int32) * i2), (.double (FP.i2d p2))), ((0 : Int32), (.double FP.dconst1))] k3 [((2 : Int32), (.double (FP.i2d p4))), ((1 : Int32), (.double (FP.i2d p3))), ((0 : Int32), (.double (FP.i2d p2)))] (FP.i2d p2) (FP.i2d p3) (FP.i2d p4) h11 n0 Z11 V_r_11 V_b3 (own_rd3 hl) (own_rdA) (hl) (show (0 : Int) ≤ 5 ∧ (5 : Int) ≤ 12 by decide) (by omega) ((Dy.i2d p2).nn) ((Dy.i2d p3).nn) ((Dy.i2d p4).nn)) (by decide) (W := 0) (Nat.le_of_eq rfl) (by decide) (by rw [hml]; rfl) (lenOf pd_1 rfl) rfl (hb hby at_176) (pc' := 179) rfl (by decide) (by decide) ?_; intro v17 T17 L17 X17 hQ17
          obtain ⟨rfl, N17q, e17⟩ := hQ17
          have N17 := Fr.app N16 N17q
          refine R.ifNo X17 hx (hb hby at_179) (feq (by decide : ¬ ((1 : Int32) = (0 : Int32)))).1 (pc' := 182) rfl ?_
          refine R.aload X17 hx (hb hby at_182) rfl rfl (pc' := 184) rfl ?_
          refine R.bipush X17 hx (hb hby at_184) (v := (6 : Int32)) (by decide) (pc' := 186) rfl ?_
          refine R.iload X17 hx (hb hby at_186) rfl (pc' := 188) rfl ?_
          refine R.aload X17 hx (hb hby at_188) rfl rfl (pc' := 190) rfl ?_
          refine R.callS X17 hx hZ (y := mY1) hown w_5 w_6 w_7 w_8 (by decide) e17 (rm2 l Z aZ hw [] r_11 (6 : Int32) i2 b3 kr_11 (((3 : Int32) * i2) + (1 : Int32)) [(((3 : Int32) * i2), (.double (FP.i2d p4))), (((2 : Int32) * i2), (.double (FP.i2d p3))), (((1 : Int32) * i2), (.double (FP.i2d p2))), ((0 : Int32), (.double FP.dconst1))] k3 [((2 : Int32), (.double (FP.i2d p4))), ((1 : Int32), (.double (FP.i2d p3))), ((0 : Int32), (.double (FP.i2d p2)))] (FP.i2d p2) (FP.i2d p3) (FP.i2d p4) h11 n0 Z11 V_r_11 V_b3 (own_rd3 hl) (own_rdA) (hl) (show (0 : Int) ≤ 6 ∧ (6 : Int) ≤ 12 by decide) (by omega) ((Dy.i2d p2).nn) ((Dy.i2d p3).nn) ((Dy.i2d p4).nn)) (by decide) (W := 0) (Nat.le_of_eq rfl) (by decide) (by rw [hml]; rfl) (lenOf pd_1 rfl) rfl (hb hby at_190) (pc' := 193) rfl (by decide) (by decide) ?_; intro v18 T18 L18 X18 hQ18
          obtain ⟨rfl, N18q, e18⟩ := hQ18
          have N18 := Fr.app N17 N18q
          refine R.ifNo X18 hx (hb hby at_193) (feq (by decide : ¬ ((1 : Int32) = (0 : Int32)))).1 (pc' := 196) rfl ?_
          refine R.aload X18 hx (hb hby at_196) rfl rfl (pc' := 198) rfl ?_
          refine R.bipush X18 hx (hb hby at_198) (v := (7 : Int32)) (by decide) (pc' := 200) rfl ?_
          refine R.iload X18 hx (hb hby at_200) rfl (pc' := 202) rfl ?_
          refine R.aload X18 hx (hb hby at_202) rfl rfl (pc' := 204) rfl ?_
          refine R.callS X18 hx hZ (y := mY1) hown w_5 w_6 w_7 w_8 (by decide) e18 (rm2 l Z aZ hw [] r_11 (7 : Int32) i2 b3 kr_11 (((3 : Int32) * i2) + (1 : Int32)) [(((3 : Int32) * i2), (.double (FP.i2d p4))), (((2 : Int32) * i2), (.double (FP.i2d p3))), (((1 : Int32) * i2), (.double (FP.i2d p2))), ((0 : Int32), (.double FP.dconst1))] k3 [((2 : Int32), (.double (FP.i2d p4))), ((1 : Int32), (.double (FP.i2d p3))), ((0 : Int32), (.double (FP.i2d p2)))] (FP.i2d p2) (FP.i2d p3) (FP.i2d p4) h11 n0 Z11 V_r_11 V_b3 (own_rd3 hl) (own_rdA) (hl) (show (0 : Int) ≤ 7 ∧ (7 : Int) ≤ 12 by decide) (by omega) ((Dy.i2d p2).nn) ((Dy.i2d p3).nn) ((Dy.i2d p4).nn)) (by decide) (W := 0) (Nat.le_of_eq rfl) (by decide) (by rw [hml]; rfl) (lenOf pd_1 rfl) rfl (hb hby at_204) (pc' := 207) rfl (by decide) (by decide) ?_; intro v19 T19 L19 X19 hQ19
          obtain ⟨rfl, N19q, e19⟩ := hQ19
          have N19 := Fr.app N18 N19q
          refine R.ifNo X19 hx (hb hby at_207) (feq (by decide : ¬ ((1 : Int32) = (0 : Int32)))).1 (pc' := 210) rfl ?_
          refine R.aload X19 hx (hb hby at_210) rfl rfl (pc' := 212) rfl ?_
          refine R.bipush X19 hx (hb hby at_212) (v := (8 : Int32)) (by decide) (pc' := 214) rfl ?_
          refine R.iload X19 hx (hb hby at_214) rfl (pc' := 216) rfl ?_
          refine R.aload X19 hx (hb hby at_216) rfl rfl (pc' := 218) rfl ?_
          refine R.callS X19 hx hZ (y := mY1) hown w_5 w_6 w_7 w_8 (by decide) e19 (rm2 l Z aZ hw [] r_11 (8 : Int32) i2 b3 kr_11 (((3 : Int32) * i2) + (1 : Int32)) [(((3 : Int32) * i2), (.double (FP.i2d p4))), (((2 : Int32) * i2), (.double (FP.i2d p3))), (((1 : Int32) * i2), (.double (FP.i2d p2))), ((0 : Int32), (.double FP.dconst1))] k3 [((2 : Int32), (.double (FP.i2d p4))), ((1 : Int32), (.double (FP.i2d p3))), ((0 : Int32), (.double (FP.i2d p2)))] (FP.i2d p2) (FP.i2d p3) (FP.i2d p4) h11 n0 Z11 V_r_11 V_b3 (own_rd3 hl) (own_rdA) (hl) (show (0 : Int) ≤ 8 ∧ (8 : Int) ≤ 12 by decide) (by omega) ((Dy.i2d p2).nn) ((Dy.i2d p3).nn) ((Dy.i2d p4).nn)) (by decide) (W := 0) (Nat.le_of_eq rfl) (by decide) (by rw [hml]; rfl) (lenOf pd_1 rfl) rfl (hb hby at_218) (pc' := 221) rfl (by decide) (by decide) ?_; intro v20 T20 L20 X20 hQ20
          obtain ⟨rfl, N20q, e20⟩ := hQ20
          have N20 := Fr.app N19 N20q
          refine R.ifNo X20 hx (hb hby at_221) (feq (by decide : ¬ ((1 : Int32) = (0 : Int32)))).1 (pc' := 224) rfl ?_
          refine R.aload X20 hx (hb hby at_224) rfl rfl (pc' := 226) rfl ?_
          refine R.bipush X20 hx (hb hby at_226) (v := (9 : Int32)) (by decide) (pc' := 228) rfl ?_
          refine R.iload X20 hx (hb hby at_228) rfl (pc' := 230) rfl ?_
          refine R.aload X20 hx (hb hby at_230) rfl rfl (pc' := 232) rfl ?_
          refine R.callS X20 hx hZ (y := mY1) hown w_5 w_6 w_7 w_8 (by decide) e20 (rm2 l Z aZ hw [] r_11 (9 : Int32) i2 b3 kr_11 (((3 : Int32) * i2) + (1 : Int32)) [(((3 : Int32) * i2), (.double (FP.i2d p4))), (((2 : Int32) * i2), (.double (FP.i2d p3))), (((1 : Int32) * i2), (.double (FP.i2d p2))), ((0 : Int32), (.double FP.dconst1))] k3 [((2 : Int32), (.double (FP.i2d p4))), ((1 : Int32), (.double (FP.i2d p3))), ((0 : Int32), (.double (FP.i2d p2)))] (FP.i2d p2) (FP.i2d p3) (FP.i2d p4) h11 n0 Z11 V_r_11 V_b3 (own_rd3 hl) (own_rdA) (hl) (show (0 : Int) ≤ 9 ∧ (9 : Int) ≤ 12 by decide) (by omega) ((Dy.i2d p2).nn) ((Dy.i2d p3).nn) ((Dy.i2d p4).nn)) (by decide) (W := 0) (Nat.le_of_eq rfl) (by decide) (by rw [hml]; rfl) (lenOf pd_1 rfl) rfl (hb hby at_232) (pc' := 235) rfl (by decide) (by decide) ?_; intro v21 T21 L21 X21 hQ21
          obtain ⟨rfl, N21q, e21⟩ := hQ21
          have N21 := Fr.app N20 N21q
          refine R.ifNo X21 hx (hb hby at_235) (feq (by decide : ¬ ((1 : Int32) = (0 : Int32)))).1 (pc' := 238) rfl ?_
          refine R.aload X21 hx (hb hby at_238) rfl rfl (pc' := 240) rfl ?_
          refine R.bipush X21 hx (hb hby at_240) (v := (10 : Int32)) (by decide) (pc' := 242) rfl ?_
          refine R.iload X21 hx (hb hby at_242) rfl (pc' := 244) rfl ?_
          refine R.aload X21 hx (hb hby at_244) rfl rfl (pc' := 246) rfl ?_
          refine R.callS X21 hx hZ (y := mY1) hown w_5 w_6 w_7 w_8 (by decide) e21 (rm2 l Z aZ hw [] r_11 (10 : Int32) i2 b3 kr_11 (((3 : Int32) * i2) + (1 : Int32)) [(((3 : Int32) * i2), (.double (FP.i2d p4))), (((2 : Int32) * i2), (.double (FP.i2d p3))), (((1 : Int32) * i2), (.double (FP.i2d p2))), ((0 : Int32), (.double FP.dconst1))] k3 [((2 : Int32), (.double (FP.i2d p4))), ((1 : Int32), (.double (FP.i2d p3))), ((0 : Int32), (.double (FP.i2d p2)))] (FP.i2d p2) (FP.i2d p3) (FP.i2d p4) h11 n0 Z11 V_r_11 V_b3 (own_rd3 hl) (own_rdA) (hl) (show (0 : Int) ≤ 10 ∧ (10 : Int) ≤ 12 by decide) (by omega) ((Dy.i2d p2).nn) ((Dy.i2d p3).nn) ((Dy.i2d p4).nn)) (by decide) (W := 0) (Nat.le_of_eq rfl) (by decide) (by rw [hml]; rfl) (lenOf pd_1 rfl) rfl (hb hby at_246) (pc' := 249) rfl (by decide) (by decide) ?_; intro v22 T22 L22 X22 hQ22
          obtain ⟨rfl, N22q, e22⟩ := hQ22
          have N22 := Fr.app N21 N22q
          refine R.ifNo X22 hx (hb hby at_249) (feq (by decide : ¬ ((1 : Int32) = (0 : Int32)))).1 (pc' := 252) rfl ?_
          refine R.aload X22 hx (hb hby at_252) rfl rfl (pc' := 254) rfl ?_
          refine R.bipush X22 hx (hb hby at_254) (v := (11 : Int32)) (by decide) (pc' := 256) rfl ?_
          refine R.iload X22 hx (hb hby at_256) rfl (pc' := 258) rfl ?_
          refine R.aload X22 hx (hb hby at_258) rfl rfl (pc' := 260) rfl ?_
          refine R.callS X22 hx hZ (y := mY1) hown w_5 w_6 w_7 w_8 (by decide) e22 (rm2 l Z aZ hw [] r_11 (11 : Int32) i2 b3 kr_11 (((3 : Int32) * i2) + (1 : Int32)) [(((3 : Int32) * i2), (.double (FP.i2d p4))), (((2 : Int32) * i2), (.double (FP.i2d p3))), (((1 : Int32) * i2), (.double (FP.i2d p2))), ((0 : Int32), (.double FP.dconst1))] k3 [((2 : Int32), (.double (FP.i2d p4))), ((1 : Int32), (.double (FP.i2d p3))), ((0 : Int32), (.double (FP.i2d p2)))] (FP.i2d p2) (FP.i2d p3) (FP.i2d p4) h11 n0 Z11 V_r_11 V_b3 (own_rd3 hl) (own_rdA) (hl) (show (0 : Int) ≤ 11 ∧ (11 : Int) ≤ 12 by decide) (by omega) ((Dy.i2d p2).nn) ((Dy.i2d p3).nn) ((Dy.i2d p4).nn)) (by decide) (W := 0) (Nat.le_of_eq rfl) (by decide) (by rw [hml]; rfl) (lenOf pd_1 rfl) rfl (hb hby at_260) (pc' := 263) rfl (by decide) (by decide) ?_; intro v23 T23 L23 X23 hQ23
          obtain ⟨rfl, N23q, e23⟩ := hQ23
          have N23 := Fr.app N22 N23q
          refine R.ifNo X23 hx (hb hby at_263) (feq (by decide : ¬ ((1 : Int32) = (0 : Int32)))).1 (pc' := 266) rfl ?_
          refine R.aload X23 hx (hb hby at_266) rfl rfl (pc' := 268) rfl ?_
          refine R.bipush X23 hx (hb hby at_268) (v := (12 : Int32)) (by decide) (pc' := 270) rfl ?_
          refine R.iload X23 hx (hb hby at_270) rfl (pc' := 272) rfl ?_
          refine R.aload X23 hx (hb hby at_272) rfl rfl (pc' := 274) rfl ?_
          refine R.callS X23 hx hZ (y := mY1) hown w_5 w_6 w_7 w_8 (by decide) e23 (rm2 l Z aZ hw [] r_11 (12 : Int32) i2 b3 kr_11 (((3 : Int32) * i2) + (1 : Int32)) [(((3 : Int32) * i2), (.double (FP.i2d p4))), (((2 : Int32) * i2), (.double (FP.i2d p3))), (((1 : Int32) * i2), (.double (FP.i2d p2))), ((0 : Int32), (.double FP.dconst1))] k3 [((2 : Int32), (.double (FP.i2d p4))), ((1 : Int32), (.double (FP.i2d p3))), ((0 : Int32), (.double (FP.i2d p2)))] (FP.i2d p2) (FP.i2d p3) (FP.i2d p4) h11 n0 Z11 V_r_11 V_b3 (own_rd3 hl) (own_rdA) (hl) (show (0 : Int) ≤ 12 ∧ (12 : Int) ≤ 12 by decide) (by omega) ((Dy.i2d p2).nn) ((Dy.i2d p3).nn) ((Dy.i2d p4).nn)) (by decide) (W := 0) (Nat.le_of_eq rfl) (by decide) (by rw [hml]; rfl) (lenOf pd_1 rfl) rfl (hb hby at_274) (pc' := 277) rfl (by decide) (by decide) ?_; intro v24 T24 L24 X24 hQ24
          obtain ⟨rfl, N24q, e24⟩ := hQ24
          have N24 := Fr.app N23 N24q
          refine R.ifNo X24 hx (hb hby at_277) (feq (by decide : ¬ ((1 : Int32) = (0 : Int32)))).1 (pc' := 280) rfl ?_
          refine R.iconst X24 hx (hb hby at_280) (v := (1 : Int32)) (by decide) (pc' := 281) rfl ?_
          refine R.goto X24 hx (hb hby at_281) (by decide) (pc' := 285) (by decide) ?_
          rw [← hG]
          exact Rn.ret X24 (BodyLoose.notSynchronized Bd) (v := some (.int (1 : Int32))) (fun h => by rw [Bd.returns] at h; cases h) (Q := Q0 Z p0 p1 p2 p3 p4 h0 n0) e24 (fun fs hr => retN X24 hx (t := .boolean) Bd.returns (by simp) (hb hby at_285) hr) ⟨rfl, N24⟩ (by decide) (by decide)
        · refine R.icmpYes X9 hx (hb hby at_69) (flt hc69).2.2.2 (by decide) (pc' := 80) (by decide) ?_
          rw [Int32.lt_iff_toInt_lt] at hc41
          rw [Int32.lt_iff_toInt_lt] at hc55
          rw [Int32.lt_iff_toInt_lt] at hc69
          obtain rfl : i1 = (2 : Int32) := own_isn (show i1.toInt = 2 by omega)
          refine R.aload X9 hx (hb hby at_80) rfl rfl (pc' := 82) rfl ?_
          refine R.iload X9 hx (hb hby at_82) rfl (pc' := 84) rfl ?_
          refine R.callS X9 hx hZ (y := mY0) hown w_1 w_2 w_3 w_4 (by decide) e9 (rmwl2 l Z aZ hw [] b7 i2 k7 (FP.i2d p2) (FP.i2d p3) h9 n0 Z9 V_b7 (hl)) (by decide) (W := 0) (Nat.le_of_eq rfl) (by decide) (by rw [hml]; rfl) (lenOf pd_0 rfl) rfl (hb hby at_84) (pc' := 87) rfl (by decide) (by decide) ?_; intro v25 T25 L25 X25 hQ25
          obtain ⟨r_25, kr_25, rfl, N25q, Kc25, P25_0, P25_1⟩ := hQ25
          have N25 := Fr.app N9 N25q
          generalize e25 : T25.heap = h25 at Kc25 P25_0 P25_1
          have K25 : Keep h0 h25 [] := K9.trans Kc25 (all0)
          have Z25 : n0 ≤ h25.size := Nat.le_trans Z9 Kc25.1
          have ne_b3_r_25 : b3 ≠ r_25 := Nat.ne_of_lt (Nat.lt_of_lt_of_le V_b3.lt P25_0)
          have ne_b7_r_25 : b7 ≠ r_25 := Nat.ne_of_lt (Nat.lt_of_lt_of_le V_b7.lt P25_0)
          have g_r_25 : n0 ≤ r_25 := Nat.le_trans Z9 P25_0
          have sz_r_25 : h0.size ≤ r_25 := Nat.le_trans K9.1 P25_0
          have V_b3 := V_b3.keep Kc25 nin0
          have V_b7 := V_b7.keep Kc25 nin0
          have fresh_25 := P25_0
          have V_r_25 : Arh Z h25 r_25 kr_25 .double (((2 : Int32) * i2) + (1 : Int32)) [(((2 : Int32) * i2), (.double (FP.i2d p3))), (((1 : Int32) * i2), (.double (FP.i2d p2))), ((0 : Int32), (.double FP.dconst1))] [] (.double (0 : UInt64)) := P25_1
          have V_r_25 : Arh Z h25 r_25 kr_25 .double (((2 : Int32) * i2) + (1 : Int32)) [(((2 : Int32) * i2), (.double (FP.i2d p3))), (((1 : Int32) * i2), (.double (FP.i2d p2))), ((0 : Int32), (.double FP.dconst1))] [] (.double (0 : UInt64)) := V_r_25
          refine R.astore X25 hx (hb hby at_87) rfl (L' := #[.val (.int p0), .val (.int p1), .val (.int p2), .val (.int p3), .val (.int p4), .val (.int (2 : Int32)), .val (.int i2), .val (.ref b3), .val (.ref b7), .val (.ref r_25)]) rfl (pc' := 89) rfl ?_
          refine R.aload X25 hx (hb hby at_89) rfl rfl (pc' := 91) rfl ?_
          refine R.alen X25 hx hZ e25 V_r_25 (hb hby at_91) (pc' := 92) rfl ?_
          refine R.iload X25 hx (hb hby at_92) rfl (pc' := 94) rfl ?_
          refine R.iload X25 hx (hb hby at_94) rfl (pc' := 96) rfl ?_
          refine R.imul X25 hx (hb hby at_96) rfl (pc' := 97) rfl ?_
          refine R.iconst X25 hx (hb hby at_97) (v := (1 : Int32)) (by decide) (pc' := 98) rfl ?_
          refine R.iadd X25 hx (hb hby at_98) rfl (pc' := 99) rfl ?_
          refine R.icmpYes X25 hx (hb hby at_99) (teq (rfl : (((2 : Int32) * i2) + (1 : Int32)) = (((2 : Int32) * i2) + (1 : Int32)))).1 (by decide) (pc' := 104) (by decide) ?_
          have hzt := own_zt (k := (2 : Int32)) (p := i2) (d := 2) (by decide) (by omega) hl
          refine R.aload X25 hx (hb hby at_104) rfl rfl (pc' := 106) rfl ?_
          refine R.iconst X25 hx (hb hby at_106) (v := (0 : Int32)) (by decide) (pc' := 107) rfl ?_
          refine R.iload X25 hx (hb hby at_107) rfl (pc' := 109) rfl ?_
          refine R.aload X25 hx (hb hby at_109) rfl rfl (pc' := 111) rfl ?_
          refine R.callS X25 hx hZ (y := mY1) hown w_5 w_6 w_7 w_8 (by decide) e25 (rm2 l Z aZ hw [] r_25 (0 : Int32) i2 b3 kr_25 (((2 : Int32) * i2) + (1 : Int32)) [(((2 : Int32) * i2), (.double (FP.i2d p3))), (((1 : Int32) * i2), (.double (FP.i2d p2))), ((0 : Int32), (.double FP.dconst1))] k3 [((2 : Int32), (.double (FP.i2d p4))), ((1 : Int32), (.double (FP.i2d p3))), ((0 : Int32), (.double (FP.i2d p2)))] (FP.i2d p2) (FP.i2d p3) (FP.i2d p4) h25 n0 Z25 V_r_25 V_b3 (own_rd2 hl) (own_rdA) (hl) (show (0 : Int) ≤ 0 ∧ (0 : Int) ≤ 12 by decide) (by omega) ((Dy.i2d p2).nn) ((Dy.i2d p3).nn) ((Dy.i2d p4).nn)) (by decide) (W := 0) (Nat.le_of_eq rfl) (by decide) (by rw [hml]; rfl) (lenOf pd_1 rfl) rfl (hb hby at_111) (pc' := 114) rfl (by decide) (by decide) ?_; intro v26 T26 L26 X26 hQ26
          obtain ⟨rfl, N26q, e26⟩ := hQ26
          have N26 := Fr.app N25 N26q
          refine R.ifNo X26 hx (hb hby at_114) (feq (by decide : ¬ ((1 : Int32) = (0 : Int32)))).1 (pc' := 117) rfl ?_
          refine R.aload X26 hx (hb hby at_117) rfl rfl (pc' := 119) rfl ?_
          refine R.iconst X26 hx (hb hby at_119) (v := (1 : Int32)) (by decide) (pc' := 120) rfl ?_
          refine R.iload X26 hx (hb hby at_120) rfl (pc' := 122) rfl ?_
          refine R.aload X26 hx (hb hby at_122) rfl rfl (pc' := 124) rfl ?_
          refine R.callS X26 hx hZ (y := mY1) hown w_5 w_6 w_7 w_8 (by decide) e26 (rm2 l Z aZ hw [] r_25 (1 : Int32) i2 b3 kr_25 (((2 : Int32) * i2) + (1 : Int32)) [(((2 : Int32) * i2), (.double (FP.i2d p3))), (((1 : Int32) * i2), (.double (FP.i2d p2))), ((0 : Int32), (.double FP.dconst1))] k3 [((2 : Int32), (.double (FP.i2d p4))), ((1 : Int32), (.double (FP.i2d p3))), ((0 : Int32), (.double (FP.i2d p2)))] (FP.i2d p2) (FP.i2d p3) (FP.i2d p4) h25 n0 Z25 V_r_25 V_b3 (own_rd2 hl) (own_rdA) (hl) (show (0 : Int) ≤ 1 ∧ (1 : Int) ≤ 12 by decide) (by omega) ((Dy.i2d p2).nn) ((Dy.i2d p3).nn) ((Dy.i2d p4).nn)) (by decide) (W := 0) (Nat.le_of_eq rfl) (by decide) (by rw [hml]; rfl) (lenOf pd_1 rfl) rfl (hb hby at_124) (pc' := 127) rfl (by decide) (by decide) ?_; intro v27 T27 L27 X27 hQ27
          obtain ⟨rfl, N27q, e27⟩ := hQ27
          have N27 := Fr.app N26 N27q
          refine R.ifNo X27 hx (hb hby at_127) (feq (by decide : ¬ ((1 : Int32) = (0 : Int32)))).1 (pc' := 130) rfl ?_
          refine R.aload X27 hx (hb hby at_130) rfl rfl (pc' := 132) rfl ?_
          refine R.iconst X27 hx (hb hby at_132) (v := (2 : Int32)) (by decide) (pc' := 133) rfl ?_
          refine R.iload X27 hx (hb hby at_133) rfl (pc' := 135) rfl ?_
          refine R.aload X27 hx (hb hby at_135) rfl rfl (pc' := 137) rfl ?_
          refine R.callS X27 hx hZ (y := mY1) hown w_5 w_6 w_7 w_8 (by decide) e27 (rm2 l Z aZ hw [] r_25 (2 : Int32) i2 b3 kr_25 (((2 : Int32) * i2) + (1 : Int32)) [(((2 : Int32) * i2), (.double (FP.i2d p3))), (((1 : Int32) * i2), (.double (FP.i2d p2))), ((0 : Int32), (.double FP.dconst1))] k3 [((2 : Int32), (.double (FP.i2d p4))), ((1 : Int32), (.double (FP.i2d p3))), ((0 : Int32), (.double (FP.i2d p2)))] (FP.i2d p2) (FP.i2d p3) (FP.i2d p4) h25 n0 Z25 V_r_25 V_b3 (own_rd2 hl) (own_rdA) (hl) (show (0 : Int) ≤ 2 ∧ (2 : Int) ≤ 12 by decide) (by omega) ((Dy.i2d p2).nn) ((Dy.i2d p3).nn) ((Dy.i2d p4).nn)) (by decide) (W := 0) (Nat.le_of_eq rfl) (by decide) (by rw [hml]; rfl) (lenOf pd_1 rfl) rfl (hb hby at_137) (pc' := 140) rfl (by decide) (by decide) ?_; intro v28 T28 L28 X28 hQ28
          obtain ⟨rfl, N28q, e28⟩ := hQ28
          have N28 := Fr.app N27 N28q
          refine R.ifNo X28 hx (hb hby at_140) (feq (by decide : ¬ ((1 : Int32) = (0 : Int32)))).1 (pc' := 143) rfl ?_
          refine R.aload X28 hx (hb hby at_143) rfl rfl (pc' := 145) rfl ?_
          refine R.iconst X28 hx (hb hby at_145) (v := (3 : Int32)) (by decide) (pc' := 146) rfl ?_
          refine R.iload X28 hx (hb hby at_146) rfl (pc' := 148) rfl ?_
          refine R.aload X28 hx (hb hby at_148) rfl rfl (pc' := 150) rfl ?_
          refine R.callS X28 hx hZ (y := mY1) hown w_5 w_6 w_7 w_8 (by decide) e28 (rm2 l Z aZ hw [] r_25 (3 : Int32) i2 b3 kr_25 (((2 : Int32) * i2) + (1 : Int32)) [(((2 : Int32) * i2), (.double (FP.i2d p3))), (((1 : Int32) * i2), (.double (FP.i2d p2))), ((0 : Int32), (.double FP.dconst1))] k3 [((2 : Int32), (.double (FP.i2d p4))), ((1 : Int32), (.double (FP.i2d p3))), ((0 : Int32), (.double (FP.i2d p2)))] (FP.i2d p2) (FP.i2d p3) (FP.i2d p4) h25 n0 Z25 V_r_25 V_b3 (own_rd2 hl) (own_rdA) (hl) (show (0 : Int) ≤ 3 ∧ (3 : Int) ≤ 12 by decide) (by omega) ((Dy.i2d p2).nn) ((Dy.i2d p3).nn) ((Dy.i2d p4).nn)) (by decide) (W := 0) (Nat.le_of_eq rfl) (by decide) (by rw [hml]; rfl) (lenOf pd_1 rfl) rfl (hb hby at_150) (pc' := 153) rfl (by decide) (by decide) ?_; intro v29 T29 L29 X29 hQ29
          obtain ⟨rfl, N29q, e29⟩ := hQ29
          have N29 := Fr.app N28 N29q
          refine R.ifNo X29 hx (hb hby at_153) (feq (by decide : ¬ ((1 : Int32) = (0 : Int32)))).1 (pc' := 156) rfl ?_
          refine R.aload X29 hx (hb hby at_156) rfl rfl (pc' := 158) rfl ?_
          refine R.iconst X29 hx (hb hby at_158) (v := (4 : Int32)) (by decide) (pc' := 159) rfl ?_
          refine R.iload X29 hx (hb hby at_159) rfl (pc' := 161) rfl ?_
          refine R.aload X29 hx (hb hby at_161) rfl rfl (pc' := 163) rfl ?_
          refine R.callS X29 hx hZ (y := mY1) hown w_5 w_6 w_7 w_8 (by decide) e29 (rm2 l Z aZ hw [] r_25 (4 : Int32) i2 b3 kr_25 (((2 : Int32) * i2) + (1 : Int32)) [(((2 : Int32) * i2), (.double (FP.i2d p3))), (((1 : Int32) * i2), (.double (FP.i2d p2))), ((0 : Int32), (.double FP.dconst1))] k3 [((2 : Int32), (.double (FP.i2d p4))), ((1 : Int32), (.double (FP.i2d p3))), ((0 : Int32), (.double (FP.i2d p2)))] (FP.i2d p2) (FP.i2d p3) (FP.i2d p4) h25 n0 Z25 V_r_25 V_b3 (own_rd2 hl) (own_rdA) (hl) (show (0 : Int) ≤ 4 ∧ (4 : Int) ≤ 12 by decide) (by omega) ((Dy.i2d p2).nn) ((Dy.i2d p3).nn) ((Dy.i2d p4).nn)) (by decide) (W := 0) (Nat.le_of_eq rfl) (by decide) (by rw [hml]; rfl) (lenOf pd_1 rfl) rfl (hb hby at_163) (pc' := 166) rfl (by decide) (by decide) ?_; intro v30 T30 L30 X30 hQ30
          obtain ⟨rfl, N30q, e30⟩ := hQ30
          have N30 := Fr.app N29 N30q
          refine R.ifNo X30 hx (hb hby at_166) (feq (by decide : ¬ ((1 : Int32) = (0 : Int32)))).1 (pc' := 169) rfl ?_
          refine R.aload X30 hx (hb hby at_169) rfl rfl (pc' := 171) rfl ?_
          refine R.iconst X30 hx (hb hby at_171) (v := (5 : Int32)) (by decide) (pc' := 172) rfl ?_
          refine R.iload X30 hx (hb hby at_172) rfl (pc' := 174) rfl ?_
          refine R.aload X30 hx (hb hby at_174) rfl rfl (pc' := 176) rfl ?_
          refine R.callS X30 hx hZ (y := mY1) hown w_5 w_6 w_7 w_8 (by decide) e30 (rm2 l Z aZ hw [] r_25 (5 : Int32) i2 b3 kr_25 (((2 : Int32) * i2) + (1 : Int32)) [(((2 : Int32) * i2), (.double (FP.i2d p3))), (((1 : Int32) * i2), (.double (FP.i2d p2))), ((0 : Int32), (.double FP.dconst1))] k3 [((2 : Int32), (.double (FP.i2d p4))), ((1 : Int32), (.double (FP.i2d p3))), ((0 : Int32), (.double (FP.i2d p2)))] (FP.i2d p2) (FP.i2d p3) (FP.i2d p4) h25 n0 Z25 V_r_25 V_b3 (own_rd2 hl) (own_rdA) (hl) (show (0 : Int) ≤ 5 ∧ (5 : Int) ≤ 12 by decide) (by omega) ((Dy.i2d p2).nn) ((Dy.i2d p3).nn) ((Dy.i2d p4).nn)) (by decide) (W := 0) (Nat.le_of_eq rfl) (by decide) (by rw [hml]; rfl) (lenOf pd_1 rfl) rfl (hb hby at_176) (pc' := 179) rfl (by decide) (by decide) ?_; intro v31 T31 L31 X31 hQ31
          obtain ⟨rfl, N31q, e31⟩ := hQ31
          have N31 := Fr.app N30 N31q
          refine R.ifNo X31 hx (hb hby at_179) (feq (by decide : ¬ ((1 : Int32) = (0 : Int32)))).1 (pc' := 182) rfl ?_
          refine R.aload X31 hx (hb hby at_182) rfl rfl (pc' := 184) rfl ?_
          refine R.bipush X31 hx (hb hby at_184) (v := (6 : Int32)) (by decide) (pc' := 186) rfl ?_
          refine R.iload X31 hx (hb hby at_186) rfl (pc' := 188) rfl ?_
          refine R.aload X31 hx (hb hby at_188) rfl rfl (pc' := 190) rfl ?_
          refine R.callS X31 hx hZ (y := mY1) hown w_5 w_6 w_7 w_8 (by decide) e31 (rm2 l Z aZ hw [] r_25 (6 : Int32) i2 b3 kr_25 (((2 : Int32) * i2) + (1 : Int32)) [(((2 : Int32) * i2), (.double (FP.i2d p3))), (((1 : Int32) * i2), (.double (FP.i2d p2))), ((0 : Int32), (.double FP.dconst1))] k3 [((2 : Int32), (.double (FP.i2d p4))), ((1 : Int32), (.double (FP.i2d p3))), ((0 : Int32), (.double (FP.i2d p2)))] (FP.i2d p2) (FP.i2d p3) (FP.i2d p4) h25 n0 Z25 V_r_25 V_b3 (own_rd2 hl) (own_rdA) (hl) (show (0 : Int) ≤ 6 ∧ (6 : Int) ≤ 12 by decide) (by omega) ((Dy.i2d p2).nn) ((Dy.i2d p3).nn) ((Dy.i2d p4).nn)) (by decide) (W := 0) (Nat.le_of_eq rfl) (by decide) (by rw [hml]; rfl) (lenOf pd_1 rfl) rfl (hb hby at_190) (pc' := 193) rfl (by decide) (by decide) ?_; intro v32 T32 L32 X32 hQ32
          obtain ⟨rfl, N32q, e32⟩ := hQ32
          have N32 := Fr.app N31 N32q
          refine R.ifNo X32 hx (hb hby at_193) (feq (by decide : ¬ ((1 : Int32) = (0 : Int32)))).1 (pc' := 196) rfl ?_
          refine R.aload X32 hx (hb hby at_196) rfl rfl (pc' := 198) rfl ?_
          refine R.bipush X32 hx (hb hby at_198) (v := (7 : Int32)) (by decide) (pc' := 200) rfl ?_
          refine R.iload X32 hx (hb hby at_200) rfl (pc' := 202) rfl ?_
          refine R.aload X32 hx (hb hby at_202) rfl rfl (pc' := 204) rfl ?_
          refine R.callS X32 hx hZ (y := mY1) hown w_5 w_6 w_7 w_8 (by decide) e32 (rm2 l Z aZ hw [] r_25 (7 : Int32) i2 b3 kr_25 (((2 : Int32) * i2) + (1 : Int32)) [(((2 : Int32) * i2), (.double (FP.i2d p3))), (((1 : Int32) * i2), (.double (FP.i2d p2))), ((0 : Int32), (.double FP.dconst1))] k3 [((2 : Int32), (.double (FP.i2d p4))), ((1 : Int32), (.double (FP.i2d p3))), ((0 : Int32), (.double (FP.i2d p2)))] (FP.i2d p2) (FP.i2d p3) (FP.i2d p4) h25 n0 Z25 V_r_25 V_b3 (own_rd2 hl) (own_rdA) (hl) (show (0 : Int) ≤ 7 ∧ (7 : Int) ≤ 12 by decide) (by omega) ((Dy.i2d p2).nn) ((Dy.i2d p3).nn) ((Dy.i2d p4).nn)) (by decide) (W := 0) (Nat.le_of_eq rfl) (by decide) (by rw [hml]; rfl) (lenOf pd_1 rfl) rfl (hb hby at_204) (pc' := 207) rfl (by decide) (by decide) ?_; intro v33 T33 L33 X33 hQ33
          obtain ⟨rfl, N33q, e33⟩ := hQ33
          have N33 := Fr.app N32 N33q
          refine R.ifNo X33 hx (hb hby at_207) (feq (by decide : ¬ ((1 : Int32) = (0 : Int32)))).1 (pc' := 210) rfl ?_
          refine R.aload X33 hx (hb hby at_210) rfl rfl (pc' := 212) rfl ?_
          refine R.bipush X33 hx (hb hby at_212) (v := (8 : Int32)) (by decide) (pc' := 214) rfl ?_
          refine R.iload X33 hx (hb hby at_214) rfl (pc' := 216) rfl ?_
          refine R.aload X33 hx (hb hby at_216) rfl rfl (pc' := 218) rfl ?_
          refine R.callS X33 hx hZ (y := mY1) hown w_5 w_6 w_7 w_8 (by decide) e33 (rm2 l Z aZ hw [] r_25 (8 : Int32) i2 b3 kr_25 (((2 : Int32) * i2) + (1 : Int32)) [(((2 : Int32) * i2), (.double (FP.i2d p3))), (((1 : Int32) * i2), (.double (FP.i2d p2))), ((0 : Int32), (.double FP.dconst1))] k3 [((2 : Int32), (.double (FP.i2d p4))), ((1 : Int32), (.double (FP.i2d p3))), ((0 : Int32), (.double (FP.i2d p2)))] (FP.i2d p2) (FP.i2d p3) (FP.i2d p4) h25 n0 Z25 V_r_25 V_b3 (own_rd2 hl) (own_rdA) (hl) (show (0 : Int) ≤ 8 ∧ (8 : Int) ≤ 12 by decide) (by omega) ((Dy.i2d p2).nn) ((Dy.i2d p3).nn) ((Dy.i2d p4).nn)) (by decide) (W := 0) (Nat.le_of_eq rfl) (by decide) (by rw [hml]; rfl) (lenOf pd_1 rfl) rfl (hb hby at_218) (pc' := 221) rfl (by decide) (by decide) ?_; intro v34 T34 L34 X34 hQ34
          obtain ⟨rfl, N34q, e34⟩ := hQ34
          have N34 := Fr.app N33 N34q
          refine R.ifNo X34 hx (hb hby at_221) (feq (by decide : ¬ ((1 : Int32) = (0 : Int32)))).1 (pc' := 224) rfl ?_
          refine R.aload X34 hx (hb hby at_224) rfl rfl (pc' := 226) rfl ?_
          refine R.bipush X34 hx (hb hby at_226) (v := (9 : Int32)) (by decide) (pc' := 228) rfl ?_
          refine R.iload X34 hx (hb hby at_228) rfl (pc' := 230) rfl ?_
          refine R.aload X34 hx (hb hby at_230) rfl rfl (pc' := 232) rfl ?_
          refine R.callS X34 hx hZ (y := mY1) hown w_5 w_6 w_7 w_8 (by decide) e34 (rm2 l Z aZ hw [] r_25 (9 : Int32) i2 b3 kr_25 (((2 : Int32) * i2) + (1 : Int32)) [(((2 : Int32) * i2), (.double (FP.i2d p3))), (((1 : Int32) * i2), (.double (FP.i2d p2))), ((0 : Int32), (.double FP.dconst1))] k3 [((2 : Int32), (.double (FP.i2d p4))), ((1 : Int32), (.double (FP.i2d p3))), ((0 : Int32), (.double (FP.i2d p2)))] (FP.i2d p2) (FP.i2d p3) (FP.i2d p4) h25 n0 Z25 V_r_25 V_b3 (own_rd2 hl) (own_rdA) (hl) (show (0 : Int) ≤ 9 ∧ (9 : Int) ≤ 12 by decide) (by omega) ((Dy.i2d p2).nn) ((Dy.i2d p3).nn) ((Dy.i2d p4).nn)) (by decide) (W := 0) (Nat.le_of_eq rfl) (by decide) (by rw [hml]; rfl) (lenOf pd_1 rfl) rfl (hb hby at_232) (pc' := 235) rfl (by decide) (by decide) ?_; intro v35 T35 L35 X35 hQ35
          obtain ⟨rfl, N35q, e35⟩ := hQ35
          have N35 := Fr.app N34 N35q
          refine R.ifNo X35 hx (hb hby at_235) (feq (by decide : ¬ ((1 : Int32) = (0 : Int32)))).1 (pc' := 238) rfl ?_
          refine R.aload X35 hx (hb hby at_238) rfl rfl (pc' := 240) rfl ?_
          refine R.bipush X35 hx (hb hby at_240) (v := (10 : Int32)) (by decide) (pc' := 242) rfl ?_
          refine R.iload X35 hx (hb hby at_242) rfl (pc' := 244) rfl ?_
          refine R.aload X35 hx (hb hby at_244) rfl rfl (pc' := 246) rfl ?_
          refine R.callS X35 hx hZ (y := mY1) hown w_5 w_6 w_7 w_8 (by decide) e35 (rm2 l Z aZ hw [] r_25 (10 : Int32) i2 b3 kr_25 (((2 : Int32) * i2) + (1 : Int32)) [(((2 : Int32) * i2), (.double (FP.i2d p3))), (((1 : Int32) * i2), (.double (FP.i2d p2))), ((0 : Int32), (.double FP.dconst1))] k3 [((2 : Int32), (.double (FP.i2d p4))), ((1 : Int32), (.double (FP.i2d p3))), ((0 : Int32), (.double (FP.i2d p2)))] (FP.i2d p2) (FP.i2d p3) (FP.i2d p4) h25 n0 Z25 V_r_25 V_b3 (own_rd2 hl) (own_rdA) (hl) (show (0 : Int) ≤ 10 ∧ (10 : Int) ≤ 12 by decide) (by omega) ((Dy.i2d p2).nn) ((Dy.i2d p3).nn) ((Dy.i2d p4).nn)) (by decide) (W := 0) (Nat.le_of_eq rfl) (by decide) (by rw [hml]; rfl) (lenOf pd_1 rfl) rfl (hb hby at_246) (pc' := 249) rfl (by decide) (by decide) ?_; intro v36 T36 L36 X36 hQ36
          obtain ⟨rfl, N36q, e36⟩ := hQ36
          have N36 := Fr.app N35 N36q
          refine R.ifNo X36 hx (hb hby at_249) (feq (by decide : ¬ ((1 : Int32) = (0 : Int32)))).1 (pc' := 252) rfl ?_
          refine R.aload X36 hx (hb hby at_252) rfl rfl (pc' := 254) rfl ?_
          refine R.bipush X36 hx (hb hby at_254) (v := (11 : Int32)) (by decide) (pc' := 256) rfl ?_
          refine R.iload X36 hx (hb hby at_256) rfl (pc' := 258) rfl ?_
          refine R.aload X36 hx (hb hby at_258) rfl rfl (pc' := 260) rfl ?_
          refine R.callS X36 hx hZ (y := mY1) hown w_5 w_6 w_7 w_8 (by decide) e36 (rm2 l Z aZ hw [] r_25 (11 : Int32) i2 b3 kr_25 (((2 : Int32) * i2) + (1 : Int32)) [(((2 : Int32) * i2), (.double (FP.i2d p3))), (((1 : Int32) * i2), (.double (FP.i2d p2))), ((0 : Int32), (.double FP.dconst1))] k3 [((2 : Int32), (.double (FP.i2d p4))), ((1 : Int32), (.double (FP.i2d p3))), ((0 : Int32), (.double (FP.i2d p2)))] (FP.i2d p2) (FP.i2d p3) (FP.i2d p4) h25 n0 Z25 V_r_25 V_b3 (own_rd2 hl) (own_rdA) (hl) (show (0 : Int) ≤ 11 ∧ (11 : Int) ≤ 12 by decide) (by omega) ((Dy.i2d p2).nn) ((Dy.i2d p3).nn) ((Dy.i2d p4).nn)) (by decide) (W := 0) (Nat.le_of_eq rfl) (by decide) (by rw [hml]; rfl) (lenOf pd_1 rfl) rfl (hb hby at_260) (pc' := 263) rfl (by decide) (by decide) ?_; intro v37 T37 L37 X37 hQ37
          obtain ⟨rfl, N37q, e37⟩ := hQ37
          have N37 := Fr.app N36 N37q
          refine R.ifNo X37 hx (hb hby at_263) (feq (by decide : ¬ ((1 : Int32) = (0 : Int32)))).1 (pc' := 266) rfl ?_
          refine R.aload X37 hx (hb hby at_266) rfl rfl (pc' := 268) rfl ?_
          refine R.bipush X37 hx (hb hby at_268) (v := (12 : Int32)) (by decide) (pc' := 270) rfl ?_
          refine R.iload X37 hx (hb hby at_270) rfl (pc' := 272) rfl ?_
          refine R.aload X37 hx (hb hby at_272) rfl rfl (pc' := 274) rfl ?_
          refine R.callS X37 hx hZ (y := mY1) hown w_5 w_6 w_7 w_8 (by decide) e37 (rm2 l Z aZ hw [] r_25 (12 : Int32) i2 b3 kr_25 (((2 : Int32) * i2) + (1 : Int32)) [(((2 : Int32) * i2), (.double (FP.i2d p3))), (((1 : Int32) * i2), (.double (FP.i2d p2))), ((0 : Int32), (.double FP.dconst1))] k3 [((2 : Int32), (.double (FP.i2d p4))), ((1 : Int32), (.double (FP.i2d p3))), ((0 : Int32), (.double (FP.i2d p2)))] (FP.i2d p2) (FP.i2d p3) (FP.i2d p4) h25 n0 Z25 V_r_25 V_b3 (own_rd2 hl) (own_rdA) (hl) (show (0 : Int) ≤ 12 ∧ (12 : Int) ≤ 12 by decide) (by omega) ((Dy.i2d p2).nn) ((Dy.i2d p3).nn) ((Dy.i2d p4).nn)) (by decide) (W := 0) (Nat.le_of_eq rfl) (by decide) (by rw [hml]; rfl) (lenOf pd_1 rfl) rfl (hb hby at_274) (pc' := 277) rfl (by decide) (by decide) ?_; intro v38 T38 L38 X38 hQ38
          obtain ⟨rfl, N38q, e38⟩ := hQ38
          have N38 := Fr.app N37 N38q
          refine R.ifNo X38 hx (hb hby at_277) (feq (by decide : ¬ ((1 : Int32) = (0 : Int32)))).1 (pc' := 280) rfl ?_
          refine R.iconst X38 hx (hb hby at_280) (v := (1 : Int32)) (by decide) (pc' := 281) rfl ?_
          refine R.goto X38 hx (hb hby at_281) (by decide) (pc' := 285) (by decide) ?_
          rw [← hG]
          exact Rn.ret X38 (BodyLoose.notSynchronized Bd) (v := some (.int (1 : Int32))) (fun h => by rw [Bd.returns] at h; cases h) (Q := Q0 Z p0 p1 p2 p3 p4 h0 n0) e38 (fun fs hr => retN X38 hx (t := .boolean) Bd.returns (by simp) (hb hby at_285) hr) ⟨rfl, N38⟩ (by decide) (by decide)
      · refine R.icmpYes X8 hx (hb hby at_55) (flt hc55).2.2.2 (by decide) (pc' := 66) (by decide) ?_
        refine R.iload X8 hx (hb hby at_66) rfl (pc' := 68) rfl ?_
        refine R.iconst X8 hx (hb hby at_68) (v := (2 : Int32)) (by decide) (pc' := 69) rfl ?_
        refine R.icmpYes X8 hx (hb hby at_69) (flt (fun q => absurd (Int32.lt_iff_toInt_lt.mp q) (by have e := hc55; rw [Int32.lt_iff_toInt_lt] at e; omega) : ¬ ((2 : Int32) < i1))).2.2.2 (by decide) (pc' := 80) (by decide) ?_
        rw [Int32.lt_iff_toInt_lt] at hc41
        rw [Int32.lt_iff_toInt_lt] at hc55
        obtain rfl : i1 = (1 : Int32) := own_isn (show i1.toInt = 1 by omega)
        refine R.aload X8 hx (hb hby at_80) rfl rfl (pc' := 82) rfl ?_
        refine R.iload X8 hx (hb hby at_82) rfl (pc' := 84) rfl ?_
        refine R.callS X8 hx hZ (y := mY0) hown w_1 w_2 w_3 w_4 (by decide) e8 (rmwl1 l Z aZ hw [] b7 i2 k7 (FP.i2d p2) h8 n0 Z8 V_b7 (hl)) (by decide) (W := 0) (Nat.le_of_eq rfl) (by decide) (by rw [hml]; rfl) (lenOf pd_0 rfl) rfl (hb hby at_84) (pc' := 87) rfl (by decide) (by decide) ?_; intro v39 T39 L39 X39 hQ39
        obtain ⟨r_39, kr_39, rfl, N39q, Kc39, P39_0, P39_1⟩ := hQ39
        have N39 := Fr.app N8 N39q
        generalize e39 : T39.heap = h39 at Kc39 P39_0 P39_1
        have K39 : Keep h0 h39 [] := K8.trans Kc39 (all0)
        have Z39 : n0 ≤ h39.size := Nat.le_trans Z8 Kc39.1
        have ne_b3_r_39 : b3 ≠ r_39 := Nat.ne_of_lt (Nat.lt_of_lt_of_le V_b3.lt P39_0)
        have ne_b7_r_39 : b7 ≠ r_39 := Nat.ne_of_lt (Nat.lt_of_lt_of_le V_b7.lt P39_0)
        have g_r_39 : n0 ≤ r_39 := Nat.le_trans Z8 P39_0
        have sz_r_39 : h0.size ≤ r_39 := Nat.le_trans K8.1 P39_0
        have V_b3 := V_b3.keep Kc39 nin0
        have V_b7 := V_b7.keep Kc39 nin0
        have fresh_39 := P39_0
        have V_r_39 : Arh Z h39 r_39 kr_39 .double (((1 : Int32) * i2) + (1 : Int32)) [(((1 : Int32) * i2), (.double (FP.i2d p2))), ((0 : Int32), (.double FP.dconst1))] [] (.double (0 : UInt64)) := P39_1
        have V_r_39 : Arh Z h39 r_39 kr_39 .double (((1 : Int32) * i2) + (1 : Int32)) [(((1 : Int32) * i2), (.double (FP.i2d p2))), ((0 : Int32), (.double FP.dconst1))] [] (.double (0 : UInt64)) := V_r_39
        refine R.astore X39 hx (hb hby at_87) rfl (L' := #[.val (.int p0), .val (.int p1), .val (.int p2), .val (.int p3), .val (.int p4), .val (.int (1 : Int32)), .val (.int i2), .val (.ref b3), .val (.ref b7), .val (.ref r_39)]) rfl (pc' := 89) rfl ?_
        refine R.aload X39 hx (hb hby at_89) rfl rfl (pc' := 91) rfl ?_
        refine R.alen X39 hx hZ e39 V_r_39 (hb hby at_91) (pc' := 92) rfl ?_
        refine R.iload X39 hx (hb hby at_92) rfl (pc' := 94) rfl ?_
        refine R.iload X39 hx (hb hby at_94) rfl (pc' := 96) rfl ?_
        refine R.imul X39 hx (hb hby at_96) rfl (pc' := 97) rfl ?_
        refine R.iconst X39 hx (hb hby at_97) (v := (1 : Int32)) (by decide) (pc' := 98) rfl ?_
        refine R.iadd X39 hx (hb hby at_98) rfl (pc' := 99) rfl ?_
        refine R.icmpYes X39 hx (hb hby at_99) (teq (rfl : (((1 : Int32) * i2) + (1 : Int32)) = (((1 : Int32) * i2) + (1 : Int32)))).1 (by decide) (pc' := 104) (by decide) ?_
        have hzt := own_zt (k := (1 : Int32)) (p := i2) (d := 1) (by decide) (by omega) hl
        refine R.aload X39 hx (hb hby at_104) rfl rfl (pc' := 106) rfl ?_
        refine R.iconst X39 hx (hb hby at_106) (v := (0 : Int32)) (by decide) (pc' := 107) rfl ?_
        refine R.iload X39 hx (hb hby at_107) rfl (pc' := 109) rfl ?_
        refine R.aload X39 hx (hb hby at_109) rfl rfl (pc' := 111) rfl ?_
        refine R.callS X39 hx hZ (y := mY1) hown w_5 w_6 w_7 w_8 (by decide) e39 (rm2 l Z aZ hw [] r_39 (0 : Int32) i2 b3 kr_39 (((1 : Int32) * i2) + (1 : Int32)) [(((1 : Int32) * i2), (.double (FP.i2d p2))), ((0 : Int32), (.double FP.dconst1))] k3 [((2 : Int32), (.double (FP.i2d p4))), ((1 : Int32), (.double (FP.i2d p3))), ((0 : Int32), (.double (FP.i2d p2)))] (FP.i2d p2) (FP.i2d p3) (FP.i2d p4) h39 n0 Z39 V_r_39 V_b3 (own_rd1 hl) (own_rdA) (hl) (show (0 : Int) ≤ 0 ∧ (0 : Int) ≤ 12 by decide) (by omega) ((Dy.i2d p2).nn) ((Dy.i2d p3).nn) ((Dy.i2d p4).nn)) (by decide) (W := 0) (Nat.le_of_eq rfl) (by decide) (by rw [hml]; rfl) (lenOf pd_1 rfl) rfl (hb hby at_111) (pc' := 114) rfl (by decide) (by decide) ?_; intro v40 T40 L40 X40 hQ40
        obtain ⟨rfl, N40q, e40⟩ := hQ40
        have N40 := Fr.app N39 N40q
        refine R.ifNo X40 hx (hb hby at_114) (feq (by decide : ¬ ((1 : Int32) = (0 : Int32)))).1 (pc' := 117) rfl ?_
        refine R.aload X40 hx (hb hby at_117) rfl rfl (pc' := 119) rfl ?_
        refine R.iconst X40 hx (hb hby at_119) (v := (1 : Int32)) (by decide) (pc' := 120) rfl ?_
        refine R.iload X40 hx (hb hby at_120) rfl (pc' := 122) rfl ?_
        refine R.aload X40 hx (hb hby at_122) rfl rfl (pc' := 124) rfl ?_
        refine R.callS X40 hx hZ (y := mY1) hown w_5 w_6 w_7 w_8 (by decide) e40 (rm2 l Z aZ hw [] r_39 (1 : Int32) i2 b3 kr_39 (((1 : Int32) * i2) + (1 : Int32)) [(((1 : Int32) * i2), (.double (FP.i2d p2))), ((0 : Int32), (.double FP.dconst1))] k3 [((2 : Int32), (.double (FP.i2d p4))), ((1 : Int32), (.double (FP.i2d p3))), ((0 : Int32), (.double (FP.i2d p2)))] (FP.i2d p2) (FP.i2d p3) (FP.i2d p4) h39 n0 Z39 V_r_39 V_b3 (own_rd1 hl) (own_rdA) (hl) (show (0 : Int) ≤ 1 ∧ (1 : Int) ≤ 12 by decide) (by omega) ((Dy.i2d p2).nn) ((Dy.i2d p3).nn) ((Dy.i2d p4).nn)) (by decide) (W := 0) (Nat.le_of_eq rfl) (by decide) (by rw [hml]; rfl) (lenOf pd_1 rfl) rfl (hb hby at_124) (pc' := 127) rfl (by decide) (by decide) ?_; intro v41 T41 L41 X41 hQ41
        obtain ⟨rfl, N41q, e41⟩ := hQ41
        have N41 := Fr.app N40 N41q
        refine R.ifNo X41 hx (hb hby at_127) (feq (by decide : ¬ ((1 : Int32) = (0 : Int32)))).1 (pc' := 130) rfl ?_
        refine R.aload X41 hx (hb hby at_130) rfl rfl (pc' := 132) rfl ?_
        refine R.iconst X41 hx (hb hby at_132) (v := (2 : Int32)) (by decide) (pc' := 133) rfl ?_
        refine R.iload X41 hx (hb hby at_133) rfl (pc' := 135) rfl ?_
        refine R.aload X41 hx (hb hby at_135) rfl rfl (pc' := 137) rfl ?_
        refine R.callS X41 hx hZ (y := mY1) hown w_5 w_6 w_7 w_8 (by decide) e41 (rm2 l Z aZ hw [] r_39 (2 : Int32) i2 b3 kr_39 (((1 : Int32) * i2) + (1 : Int32)) [(((1 : Int32) * i2), (.double (FP.i2d p2))), ((0 : Int32), (.double FP.dconst1))] k3 [((2 : Int32), (.double (FP.i2d p4))), ((1 : Int32), (.double (FP.i2d p3))), ((0 : Int32), (.double (FP.i2d p2)))] (FP.i2d p2) (FP.i2d p3) (FP.i2d p4) h39 n0 Z39 V_r_39 V_b3 (own_rd1 hl) (own_rdA) (hl) (show (0 : Int) ≤ 2 ∧ (2 : Int) ≤ 12 by decide) (by omega) ((Dy.i2d p2).nn) ((Dy.i2d p3).nn) ((Dy.i2d p4).nn)) (by decide) (W := 0) (Nat.le_of_eq rfl) (by decide) (by rw [hml]; rfl) (lenOf pd_1 rfl) rfl (hb hby at_137) (pc' := 140) rfl (by decide) (by decide) ?_; intro v42 T42 L42 X42 hQ42
        obtain ⟨rfl, N42q, e42⟩ := hQ42
        have N42 := Fr.app N41 N42q
        refine R.ifNo X42 hx (hb hby at_140) (feq (by decide : ¬ ((1 : Int32) = (0 : Int32)))).1 (pc' := 143) rfl ?_
        refine R.aload X42 hx (hb hby at_143) rfl rfl (pc' := 145) rfl ?_
        refine R.iconst X42 hx (hb hby at_145) (v := (3 : Int32)) (by decide) (pc' := 146) rfl ?_
        refine R.iload X42 hx (hb hby at_146) rfl (pc' := 148) rfl ?_
        refine R.aload X42 hx (hb hby at_148) rfl rfl (pc' := 150) rfl ?_
        refine R.callS X42 hx hZ (y := mY1) hown w_5 w_6 w_7 w_8 (by decide) e42 (rm2 l Z aZ hw [] r_39 (3 : Int32) i2 b3 kr_39 (((1 : Int32) * i2) + (1 : Int32)) [(((1 : Int32) * i2), (.double (FP.i2d p2))), ((0 : Int32), (.double FP.dconst1))] k3 [((2 : Int32), (.double (FP.i2d p4))), ((1 : Int32), (.double (FP.i2d p3))), ((0 : Int32), (.double (FP.i2d p2)))] (FP.i2d p2) (FP.i2d p3) (FP.i2d p4) h39 n0 Z39 V_r_39 V_b3 (own_rd1 hl) (own_rdA) (hl) (show (0 : Int) ≤ 3 ∧ (3 : Int) ≤ 12 by decide) (by omega) ((Dy.i2d p2).nn) ((Dy.i2d p3).nn) ((Dy.i2d p4).nn)) (by decide) (W := 0) (Nat.le_of_eq rfl) (by decide) (by rw [hml]; rfl) (lenOf pd_1 rfl) rfl (hb hby at_150) (pc' := 153) rfl (by decide) (by decide) ?_; intro v43 T43 L43 X43 hQ43
        obtain ⟨rfl, N43q, e43⟩ := hQ43
        have N43 := Fr.app N42 N43q
        refine R.ifNo X43 hx (hb hby at_153) (feq (by decide : ¬ ((1 : Int32) = (0 : Int32)))).1 (pc' := 156) rfl ?_
        refine R.aload X43 hx (hb hby at_156) rfl rfl (pc' := 158) rfl ?_
        refine R.iconst X43 hx (hb hby at_158) (v := (4 : Int32)) (by decide) (pc' := 159) rfl ?_
        refine R.iload X43 hx (hb hby at_159) rfl (pc' := 161) rfl ?_
        refine R.aload X43 hx (hb hby at_161) rfl rfl (pc' := 163) rfl ?_
        refine R.callS X43 hx hZ (y := mY1) hown w_5 w_6 w_7 w_8 (by decide) e43 (rm2 l Z aZ hw [] r_39 (4 : Int32) i2 b3 kr_39 (((1 : Int32) * i2) + (1 : Int32)) [(((1 : Int32) * i2), (.double (FP.i2d p2))), ((0 : Int32), (.double FP.dconst1))] k3 [((2 : Int32), (.double (FP.i2d p4))), ((1 : Int32), (.double (FP.i2d p3))), ((0 : Int32), (.double (FP.i2d p2)))] (FP.i2d p2) (FP.i2d p3) (FP.i2d p4) h39 n0 Z39 V_r_39 V_b3 (own_rd1 hl) (own_rdA) (hl) (show (0 : Int) ≤ 4 ∧ (4 : Int) ≤ 12 by decide) (by omega) ((Dy.i2d p2).nn) ((Dy.i2d p3).nn) ((Dy.i2d p4).nn)) (by decide) (W := 0) (Nat.le_of_eq rfl) (by decide) (by rw [hml]; rfl) (lenOf pd_1 rfl) rfl (hb hby at_163) (pc' := 166) rfl (by decide) (by decide) ?_; intro v44 T44 L44 X44 hQ44
        obtain ⟨rfl, N44q, e44⟩ := hQ44
        have N44 := Fr.app N43 N44q
        refine R.ifNo X44 hx (hb hby at_166) (feq (by decide : ¬ ((1 : Int32) = (0 : Int32)))).1 (pc' := 169) rfl ?_
        refine R.aload X44 hx (hb hby at_169) rfl rfl (pc' := 171) rfl ?_
        refine R.iconst X44 hx (hb hby at_171) (v := (5 : Int32)) (by decide) (pc' := 172) rfl ?_
        refine R.iload X44 hx (hb hby at_172) rfl (pc' := 174) rfl ?_
        refine R.aload X44 hx (hb hby at_174) rfl rfl (pc' := 176) rfl ?_
        refine R.callS X44 hx hZ (y := mY1) hown w_5 w_6 w_7 w_8 (by decide) e44 (rm2 l Z aZ hw [] r_39 (5 : Int32) i2 b3 kr_39 (((1 : Int32) * i2) + (1 : Int32)) [(((1 : Int32) * i2), (.double (FP.i2d p2))), ((0 : Int32), (.double FP.dconst1))] k3 [((2 : Int32), (.double (FP.i2d p4))), ((1 : Int32), (.double (FP.i2d p3))), ((0 : Int32), (.double (FP.i2d p2)))] (FP.i2d p2) (FP.i2d p3) (FP.i2d p4) h39 n0 Z39 V_r_39 V_b3 (own_rd1 hl) (own_rdA) (hl) (show (0 : Int) ≤ 5 ∧ (5 : Int) ≤ 12 by decide) (by omega) ((Dy.i2d p2).nn) ((Dy.i2d p3).nn) ((Dy.i2d p4).nn)) (by decide) (W := 0) (Nat.le_of_eq rfl) (by decide) (by rw [hml]; rfl) (lenOf pd_1 rfl) rfl (hb hby at_176) (pc' := 179) rfl (by decide) (by decide) ?_; intro v45 T45 L45 X45 hQ45
        obtain ⟨rfl, N45q, e45⟩ := hQ45
        have N45 := Fr.app N44 N45q
        refine R.ifNo X45 hx (hb hby at_179) (feq (by decide : ¬ ((1 : Int32) = (0 : Int32)))).1 (pc' := 182) rfl ?_
        refine R.aload X45 hx (hb hby at_182) rfl rfl (pc' := 184) rfl ?_
        refine R.bipush X45 hx (hb hby at_184) (v := (6 : Int32)) (by decide) (pc' := 186) rfl ?_
        refine R.iload X45 hx (hb hby at_186) rfl (pc' := 188) rfl ?_
        refine R.aload X45 hx (hb hby at_188) rfl rfl (pc' := 190) rfl ?_
        refine R.callS X45 hx hZ (y := mY1) hown w_5 w_6 w_7 w_8 (by decide) e45 (rm2 l Z aZ hw [] r_39 (6 : Int32) i2 b3 kr_39 (((1 : Int32) * i2) + (1 : Int32)) [(((1 : Int32) * i2), (.double (FP.i2d p2))), ((0 : Int32), (.double FP.dconst1))] k3 [((2 : Int32), (.double (FP.i2d p4))), ((1 : Int32), (.double (FP.i2d p3))), ((0 : Int32), (.double (FP.i2d p2)))] (FP.i2d p2) (FP.i2d p3) (FP.i2d p4) h39 n0 Z39 V_r_39 V_b3 (own_rd1 hl) (own_rdA) (hl) (show (0 : Int) ≤ 6 ∧ (6 : Int) ≤ 12 by decide) (by omega) ((Dy.i2d p2).nn) ((Dy.i2d p3).nn) ((Dy.i2d p4).nn)) (by decide) (W := 0) (Nat.le_of_eq rfl) (by decide) (by rw [hml]; rfl) (lenOf pd_1 rfl) rfl (hb hby at_190) (pc' := 193) rfl (by decide) (by decide) ?_; intro v46 T46 L46 X46 hQ46
        obtain ⟨rfl, N46q, e46⟩ := hQ46
        have N46 := Fr.app N45 N46q
        refine R.ifNo X46 hx (hb hby at_193) (feq (by decide : ¬ ((1 : Int32) = (0 : Int32)))).1 (pc' := 196) rfl ?_
        refine R.aload X46 hx (hb hby at_196) rfl rfl (pc' := 198) rfl ?_
        refine R.bipush X46 hx (hb hby at_198) (v := (7 : Int32)) (by decide) (pc' := 200) rfl ?_
        refine R.iload X46 hx (hb hby at_200) rfl (pc' := 202) rfl ?_
        refine R.aload X46 hx (hb hby at_202) rfl rfl (pc' := 204) rfl ?_
        refine R.callS X46 hx hZ (y := mY1) hown w_5 w_6 w_7 w_8 (by decide) e46 (rm2 l Z aZ hw [] r_39 (7 : Int32) i2 b3 kr_39 (((1 : Int32) * i2) + (1 : Int32)) [(((1 : Int32) * i2), (.double (FP.i2d p2))), ((0 : Int32), (.double FP.dconst1))] k3 [((2 : Int32), (.double (FP.i2d p4))), ((1 : Int32), (.double (FP.i2d p3))), ((0 : Int32), (.double (FP.i2d p2)))] (FP.i2d p2) (FP.i2d p3) (FP.i2d p4) h39 n0 Z39 V_r_39 V_b3 (own_rd1 hl) (own_rdA) (hl) (show (0 : Int) ≤ 7 ∧ (7 : Int) ≤ 12 by decide) (by omega) ((Dy.i2d p2).nn) ((Dy.i2d p3).nn) ((Dy.i2d p4).nn)) (by decide) (W := 0) (Nat.le_of_eq rfl) (by decide) (by rw [hml]; rfl) (lenOf pd_1 rfl) rfl (hb hby at_204) (pc' := 207) rfl (by decide) (by decide) ?_; intro v47 T47 L47 X47 hQ47
        obtain ⟨rfl, N47q, e47⟩ := hQ47
        have N47 := Fr.app N46 N47q
        refine R.ifNo X47 hx (hb hby at_207) (feq (by decide : ¬ ((1 : Int32) = (0 : Int32)))).1 (pc' := 210) rfl ?_
        refine R.aload X47 hx (hb hby at_210) rfl rfl (pc' := 212) rfl ?_
        refine R.bipush X47 hx (hb hby at_212) (v := (8 : Int32)) (by decide) (pc' := 214) rfl ?_
        refine R.iload X47 hx (hb hby at_214) rfl (pc' := 216) rfl ?_
        refine R.aload X47 hx (hb hby at_216) rfl rfl (pc' := 218) rfl ?_
        refine R.callS X47 hx hZ (y := mY1) hown w_5 w_6 w_7 w_8 (by decide) e47 (rm2 l Z aZ hw [] r_39 (8 : Int32) i2 b3 kr_39 (((1 : Int32) * i2) + (1 : Int32)) [(((1 : Int32) * i2), (.double (FP.i2d p2))), ((0 : Int32), (.double FP.dconst1))] k3 [((2 : Int32), (.double (FP.i2d p4))), ((1 : Int32), (.double (FP.i2d p3))), ((0 : Int32), (.double (FP.i2d p2)))] (FP.i2d p2) (FP.i2d p3) (FP.i2d p4) h39 n0 Z39 V_r_39 V_b3 (own_rd1 hl) (own_rdA) (hl) (show (0 : Int) ≤ 8 ∧ (8 : Int) ≤ 12 by decide) (by omega) ((Dy.i2d p2).nn) ((Dy.i2d p3).nn) ((Dy.i2d p4).nn)) (by decide) (W := 0) (Nat.le_of_eq rfl) (by decide) (by rw [hml]; rfl) (lenOf pd_1 rfl) rfl (hb hby at_218) (pc' := 221) rfl (by decide) (by decide) ?_; intro v48 T48 L48 X48 hQ48
        obtain ⟨rfl, N48q, e48⟩ := hQ48
        have N48 := Fr.app N47 N48q
        refine R.ifNo X48 hx (hb hby at_221) (feq (by decide : ¬ ((1 : Int32) = (0 : Int32)))).1 (pc' := 224) rfl ?_
        refine R.aload X48 hx (hb hby at_224) rfl rfl (pc' := 226) rfl ?_
        refine R.bipush X48 hx (hb hby at_226) (v := (9 : Int32)) (by decide) (pc' := 228) rfl ?_
        refine R.iload X48 hx (hb hby at_228) rfl (pc' := 230) rfl ?_
        refine R.aload X48 hx (hb hby at_230) rfl rfl (pc' := 232) rfl ?_
        refine R.callS X48 hx hZ (y := mY1) hown w_5 w_6 w_7 w_8 (by decide) e48 (rm2 l Z aZ hw [] r_39 (9 : Int32) i2 b3 kr_39 (((1 : Int32) * i2) + (1 : Int32)) [(((1 : Int32) * i2), (.double (FP.i2d p2))), ((0 : Int32), (.double FP.dconst1))] k3 [((2 : Int32), (.double (FP.i2d p4))), ((1 : Int32), (.double (FP.i2d p3))), ((0 : Int32), (.double (FP.i2d p2)))] (FP.i2d p2) (FP.i2d p3) (FP.i2d p4) h39 n0 Z39 V_r_39 V_b3 (own_rd1 hl) (own_rdA) (hl) (show (0 : Int) ≤ 9 ∧ (9 : Int) ≤ 12 by decide) (by omega) ((Dy.i2d p2).nn) ((Dy.i2d p3).nn) ((Dy.i2d p4).nn)) (by decide) (W := 0) (Nat.le_of_eq rfl) (by decide) (by rw [hml]; rfl) (lenOf pd_1 rfl) rfl (hb hby at_232) (pc' := 235) rfl (by decide) (by decide) ?_; intro v49 T49 L49 X49 hQ49
        obtain ⟨rfl, N49q, e49⟩ := hQ49
        have N49 := Fr.app N48 N49q
        refine R.ifNo X49 hx (hb hby at_235) (feq (by decide : ¬ ((1 : Int32) = (0 : Int32)))).1 (pc' := 238) rfl ?_
        refine R.aload X49 hx (hb hby at_238) rfl rfl (pc' := 240) rfl ?_
        refine R.bipush X49 hx (hb hby at_240) (v := (10 : Int32)) (by decide) (pc' := 242) rfl ?_
        refine R.iload X49 hx (hb hby at_242) rfl (pc' := 244) rfl ?_
        refine R.aload X49 hx (hb hby at_244) rfl rfl (pc' := 246) rfl ?_
        refine R.callS X49 hx hZ (y := mY1) hown w_5 w_6 w_7 w_8 (by decide) e49 (rm2 l Z aZ hw [] r_39 (10 : Int32) i2 b3 kr_39 (((1 : Int32) * i2) + (1 : Int32)) [(((1 : Int32) * i2), (.double (FP.i2d p2))), ((0 : Int32), (.double FP.dconst1))] k3 [((2 : Int32), (.double (FP.i2d p4))), ((1 : Int32), (.double (FP.i2d p3))), ((0 : Int32), (.double (FP.i2d p2)))] (FP.i2d p2) (FP.i2d p3) (FP.i2d p4) h39 n0 Z39 V_r_39 V_b3 (own_rd1 hl) (own_rdA) (hl) (show (0 : Int) ≤ 10 ∧ (10 : Int) ≤ 12 by decide) (by omega) ((Dy.i2d p2).nn) ((Dy.i2d p3).nn) ((Dy.i2d p4).nn)) (by decide) (W := 0) (Nat.le_of_eq rfl) (by decide) (by rw [hml]; rfl) (lenOf pd_1 rfl) rfl (hb hby at_246) (pc' := 249) rfl (by decide) (by decide) ?_; intro v50 T50 L50 X50 hQ50
        obtain ⟨rfl, N50q, e50⟩ := hQ50
        have N50 := Fr.app N49 N50q
        refine R.ifNo X50 hx (hb hby at_249) (feq (by decide : ¬ ((1 : Int32) = (0 : Int32)))).1 (pc' := 252) rfl ?_
        refine R.aload X50 hx (hb hby at_252) rfl rfl (pc' := 254) rfl ?_
        refine R.bipush X50 hx (hb hby at_254) (v := (11 : Int32)) (by decide) (pc' := 256) rfl ?_
        refine R.iload X50 hx (hb hby at_256) rfl (pc' := 258) rfl ?_
        refine R.aload X50 hx (hb hby at_258) rfl rfl (pc' := 260) rfl ?_
        refine R.callS X50 hx hZ (y := mY1) hown w_5 w_6 w_7 w_8 (by decide) e50 (rm2 l Z aZ hw [] r_39 (11 : Int32) i2 b3 kr_39 (((1 : Int32) * i2) + (1 : Int32)) [(((1 : Int32) * i2), (.double (FP.i2d p2))), ((0 : Int32), (.double FP.dconst1))] k3 [((2 : Int32), (.double (FP.i2d p4))), ((1 : Int32), (.double (FP.i2d p3))), ((0 : Int32), (.double (FP.i2d p2)))] (FP.i2d p2) (FP.i2d p3) (FP.i2d p4) h39 n0 Z39 V_r_39 V_b3 (own_rd1 hl) (own_rdA) (hl) (show (0 : Int) ≤ 11 ∧ (11 : Int) ≤ 12 by decide) (by omega) ((Dy.i2d p2).nn) ((Dy.i2d p3).nn) ((Dy.i2d p4).nn)) (by decide) (W := 0) (Nat.le_of_eq rfl) (by decide) (by rw [hml]; rfl) (lenOf pd_1 rfl) rfl (hb hby at_260) (pc' := 263) rfl (by decide) (by decide) ?_; intro v51 T51 L51 X51 hQ51
        obtain ⟨rfl, N51q, e51⟩ := hQ51
        have N51 := Fr.app N50 N51q
        refine R.ifNo X51 hx (hb hby at_263) (feq (by decide : ¬ ((1 : Int32) = (0 : Int32)))).1 (pc' := 266) rfl ?_
        refine R.aload X51 hx (hb hby at_266) rfl rfl (pc' := 268) rfl ?_
        refine R.bipush X51 hx (hb hby at_268) (v := (12 : Int32)) (by decide) (pc' := 270) rfl ?_
        refine R.iload X51 hx (hb hby at_270) rfl (pc' := 272) rfl ?_
        refine R.aload X51 hx (hb hby at_272) rfl rfl (pc' := 274) rfl ?_
        refine R.callS X51 hx hZ (y := mY1) hown w_5 w_6 w_7 w_8 (by decide) e51 (rm2 l Z aZ hw [] r_39 (12 : Int32) i2 b3 kr_39 (((1 : Int32) * i2) + (1 : Int32)) [(((1 : Int32) * i2), (.double (FP.i2d p2))), ((0 : Int32), (.double FP.dconst1))] k3 [((2 : Int32), (.double (FP.i2d p4))), ((1 : Int32), (.double (FP.i2d p3))), ((0 : Int32), (.double (FP.i2d p2)))] (FP.i2d p2) (FP.i2d p3) (FP.i2d p4) h39 n0 Z39 V_r_39 V_b3 (own_rd1 hl) (own_rdA) (hl) (show (0 : Int) ≤ 12 ∧ (12 : Int) ≤ 12 by decide) (by omega) ((Dy.i2d p2).nn) ((Dy.i2d p3).nn) ((Dy.i2d p4).nn)) (by decide) (W := 0) (Nat.le_of_eq rfl) (by decide) (by rw [hml]; rfl) (lenOf pd_1 rfl) rfl (hb hby at_274) (pc' := 277) rfl (by decide) (by decide) ?_; intro v52 T52 L52 X52 hQ52
        obtain ⟨rfl, N52q, e52⟩ := hQ52
        have N52 := Fr.app N51 N52q
        refine R.ifNo X52 hx (hb hby at_277) (feq (by decide : ¬ ((1 : Int32) = (0 : Int32)))).1 (pc' := 280) rfl ?_
        refine R.iconst X52 hx (hb hby at_280) (v := (1 : Int32)) (by decide) (pc' := 281) rfl ?_
        refine R.goto X52 hx (hb hby at_281) (by decide) (pc' := 285) (by decide) ?_
        rw [← hG]
        exact Rn.ret X52 (BodyLoose.notSynchronized Bd) (v := some (.int (1 : Int32))) (fun h => by rw [Bd.returns] at h; cases h) (Q := Q0 Z p0 p1 p2 p3 p4 h0 n0) e52 (fun fs hr => retN X52 hx (t := .boolean) Bd.returns (by simp) (hb hby at_285) hr) ⟨rfl, N52⟩ (by decide) (by decide)
    · refine R.ifYes X7 hx (hb hby at_41) (flt hc41).2.2.2 (by decide) (pc' := 52) (by decide) ?_
      refine R.iload X7 hx (hb hby at_52) rfl (pc' := 54) rfl ?_
      refine R.iconst X7 hx (hb hby at_54) (v := (1 : Int32)) (by decide) (pc' := 55) rfl ?_
      refine R.icmpYes X7 hx (hb hby at_55) (flt (fun q => absurd (Int32.lt_iff_toInt_lt.mp q) (by have e := hc41; rw [Int32.lt_iff_toInt_lt] at e; omega) : ¬ ((1 : Int32) < i1))).2.2.2 (by decide) (pc' := 66) (by decide) ?_
      refine R.iload X7 hx (hb hby at_66) rfl (pc' := 68) rfl ?_
      refine R.iconst X7 hx (hb hby at_68) (v := (2 : Int32)) (by decide) (pc' := 69) rfl ?_
      refine R.icmpYes X7 hx (hb hby at_69) (flt (fun q => absurd (Int32.lt_iff_toInt_lt.mp q) (by have e := hc41; rw [Int32.lt_iff_toInt_lt] at e; omega) : ¬ ((2 : Int32) < i1))).2.2.2 (by decide) (pc' := 80) (by decide) ?_
      rw [Int32.lt_iff_toInt_lt] at hc41
      obtain rfl : i1 = (0 : Int32) := own_isn (show i1.toInt = 0 by omega)
      refine R.aload X7 hx (hb hby at_80) rfl rfl (pc' := 82) rfl ?_
      refine R.iload X7 hx (hb hby at_82) rfl (pc' := 84) rfl ?_
      refine R.callS X7 hx hZ (y := mY0) hown w_1 w_2 w_3 w_4 (by decide) e7 (rmwl0 l Z aZ hw [] b7 i2 k7 h7 n0 Z7 V_b7 (hl)) (by decide) (W := 0) (Nat.le_of_eq rfl) (by decide) (by rw [hml]; rfl) (lenOf pd_0 rfl) rfl (hb hby at_84) (pc' := 87) rfl (by decide) (by decide) ?_; intro v53 T53 L53 X53 hQ53
      obtain ⟨r_53, kr_53, rfl, N53q, Kc53, P53_0, P53_1⟩ := hQ53
      have N53 := Fr.app N6 N53q
      generalize e53 : T53.heap = h53 at Kc53 P53_0 P53_1
      have K53 : Keep h0 h53 [] := K7.trans Kc53 (all0)
      have Z53 : n0 ≤ h53.size := Nat.le_trans Z7 Kc53.1
      have ne_b3_r_53 : b3 ≠ r_53 := Nat.ne_of_lt (Nat.lt_of_lt_of_le V_b3.lt P53_0)
      have ne_b7_r_53 : b7 ≠ r_53 := Nat.ne_of_lt (Nat.lt_of_lt_of_le V_b7.lt P53_0)
      have g_r_53 : n0 ≤ r_53 := Nat.le_trans Z7 P53_0
      have sz_r_53 : h0.size ≤ r_53 := Nat.le_trans K7.1 P53_0
      have V_b3 := V_b3.keep Kc53 nin0
      have V_b7 := V_b7.keep Kc53 nin0
      have fresh_53 := P53_0
      have V_r_53 : Arh Z h53 r_53 kr_53 .double (((0 : Int32) * i2) + (1 : Int32)) [((0 : Int32), (.double FP.dconst1))] [] (.double (0 : UInt64)) := P53_1
      have V_r_53 : Arh Z h53 r_53 kr_53 .double (((0 : Int32) * i2) + (1 : Int32)) [((0 : Int32), (.double FP.dconst1))] [] (.double (0 : UInt64)) := V_r_53
      refine R.astore X53 hx (hb hby at_87) rfl (L' := #[.val (.int p0), .val (.int p1), .val (.int p2), .val (.int p3), .val (.int p4), .val (.int (0 : Int32)), .val (.int i2), .val (.ref b3), .val (.ref b7), .val (.ref r_53)]) rfl (pc' := 89) rfl ?_
      refine R.aload X53 hx (hb hby at_89) rfl rfl (pc' := 91) rfl ?_
      refine R.alen X53 hx hZ e53 V_r_53 (hb hby at_91) (pc' := 92) rfl ?_
      refine R.iload X53 hx (hb hby at_92) rfl (pc' := 94) rfl ?_
      refine R.iload X53 hx (hb hby at_94) rfl (pc' := 96) rfl ?_
      refine R.imul X53 hx (hb hby at_96) rfl (pc' := 97) rfl ?_
      refine R.iconst X53 hx (hb hby at_97) (v := (1 : Int32)) (by decide) (pc' := 98) rfl ?_
      refine R.iadd X53 hx (hb hby at_98) rfl (pc' := 99) rfl ?_
      refine R.icmpYes X53 hx (hb hby at_99) (teq (rfl : (((0 : Int32) * i2) + (1 : Int32)) = (((0 : Int32) * i2) + (1 : Int32)))).1 (by decide) (pc' := 104) (by decide) ?_
      have hzt := own_zt (k := (0 : Int32)) (p := i2) (d := 0) (by decide) (by omega) hl
      refine R.aload X53 hx (hb hby at_104) rfl rfl (pc' := 106) rfl ?_
      refine R.iconst X53 hx (hb hby at_106) (v := (0 : Int32)) (by decide) (pc' := 107) rfl ?_
      refine R.iload X53 hx (hb hby at_107) rfl (pc' := 109) rfl ?_
      refine R.aload X53 hx (hb hby at_109) rfl rfl (pc' := 111) rfl ?_
      refine R.callS X53 hx hZ (y := mY1) hown w_5 w_6 w_7 w_8 (by decide) e53 (rm2 l Z aZ hw [] r_53 (0 : Int32) i2 b3 kr_53 (((0 : Int32) * i2) + (1 : Int32)) [((0 : Int32), (.double FP.dconst1))] k3 [((2 : Int32), (.double (FP.i2d p4))), ((1 : Int32), (.double (FP.i2d p3))), ((0 : Int32), (.double (FP.i2d p2)))] (FP.i2d p2) (FP.i2d p3) (FP.i2d p4) h53 n0 Z53 V_r_53 V_b3 (own_rd0 hl) (own_rdA) (hl) (show (0 : Int) ≤ 0 ∧ (0 : Int) ≤ 12 by decide) (by omega) ((Dy.i2d p2).nn) ((Dy.i2d p3).nn) ((Dy.i2d p4).nn)) (by decide) (W := 0) (Nat.le_of_eq rfl) (by decide) (by rw [hml]; rfl) (lenOf pd_1 rfl) rfl (hb hby at_111) (pc' := 114) rfl (by decide) (by decide) ?_; intro v54 T54 L54 X54 hQ54
      obtain ⟨rfl, N54q, e54⟩ := hQ54
      have N54 := Fr.app N53 N54q
      refine R.ifNo X54 hx (hb hby at_114) (feq (by decide : ¬ ((1 : Int32) = (0 : Int32)))).1 (pc' := 117) rfl ?_
      refine R.aload X54 hx (hb hby at_117) rfl rfl (pc' := 119) rfl ?_
      refine R.iconst X54 hx (hb hby at_119) (v := (1 : Int32)) (by decide) (pc' := 120) rfl ?_
      refine R.iload X54 hx (hb hby at_120) rfl (pc' := 122) rfl ?_
      refine R.aload X54 hx (hb hby at_122) rfl rfl (pc' := 124) rfl ?_
      refine R.callS X54 hx hZ (y := mY1) hown w_5 w_6 w_7 w_8 (by decide) e54 (rm2 l Z aZ hw [] r_53 (1 : Int32) i2 b3 kr_53 (((0 : Int32) * i2) + (1 : Int32)) [((0 : Int32), (.double FP.dconst1))] k3 [((2 : Int32), (.double (FP.i2d p4))), ((1 : Int32), (.double (FP.i2d p3))), ((0 : Int32), (.double (FP.i2d p2)))] (FP.i2d p2) (FP.i2d p3) (FP.i2d p4) h53 n0 Z53 V_r_53 V_b3 (own_rd0 hl) (own_rdA) (hl) (show (0 : Int) ≤ 1 ∧ (1 : Int) ≤ 12 by decide) (by omega) ((Dy.i2d p2).nn) ((Dy.i2d p3).nn) ((Dy.i2d p4).nn)) (by decide) (W := 0) (Nat.le_of_eq rfl) (by decide) (by rw [hml]; rfl) (lenOf pd_1 rfl) rfl (hb hby at_124) (pc' := 127) rfl (by decide) (by decide) ?_; intro v55 T55 L55 X55 hQ55
      obtain ⟨rfl, N55q, e55⟩ := hQ55
      have N55 := Fr.app N54 N55q
      refine R.ifNo X55 hx (hb hby at_127) (feq (by decide : ¬ ((1 : Int32) = (0 : Int32)))).1 (pc' := 130) rfl ?_
      refine R.aload X55 hx (hb hby at_130) rfl rfl (pc' := 132) rfl ?_
      refine R.iconst X55 hx (hb hby at_132) (v := (2 : Int32)) (by decide) (pc' := 133) rfl ?_
      refine R.iload X55 hx (hb hby at_133) rfl (pc' := 135) rfl ?_
      refine R.aload X55 hx (hb hby at_135) rfl rfl (pc' := 137) rfl ?_
      refine R.callS X55 hx hZ (y := mY1) hown w_5 w_6 w_7 w_8 (by decide) e55 (rm2 l Z aZ hw [] r_53 (2 : Int32) i2 b3 kr_53 (((0 : Int32) * i2) + (1 : Int32)) [((0 : Int32), (.double FP.dconst1))] k3 [((2 : Int32), (.double (FP.i2d p4))), ((1 : Int32), (.double (FP.i2d p3))), ((0 : Int32), (.double (FP.i2d p2)))] (FP.i2d p2) (FP.i2d p3) (FP.i2d p4) h53 n0 Z53 V_r_53 V_b3 (own_rd0 hl) (own_rdA) (hl) (show (0 : Int) ≤ 2 ∧ (2 : Int) ≤ 12 by decide) (by omega) ((Dy.i2d p2).nn) ((Dy.i2d p3).nn) ((Dy.i2d p4).nn)) (by decide) (W := 0) (Nat.le_of_eq rfl) (by decide) (by rw [hml]; rfl) (lenOf pd_1 rfl) rfl (hb hby at_137) (pc' := 140) rfl (by decide) (by decide) ?_; intro v56 T56 L56 X56 hQ56
      obtain ⟨rfl, N56q, e56⟩ := hQ56
      have N56 := Fr.app N55 N56q
      refine R.ifNo X56 hx (hb hby at_140) (feq (by decide : ¬ ((1 : Int32) = (0 : Int32)))).1 (pc' := 143) rfl ?_
      refine R.aload X56 hx (hb hby at_143) rfl rfl (pc' := 145) rfl ?_
      refine R.iconst X56 hx (hb hby at_145) (v := (3 : Int32)) (by decide) (pc' := 146) rfl ?_
      refine R.iload X56 hx (hb hby at_146) rfl (pc' := 148) rfl ?_
      refine R.aload X56 hx (hb hby at_148) rfl rfl (pc' := 150) rfl ?_
      refine R.callS X56 hx hZ (y := mY1) hown w_5 w_6 w_7 w_8 (by decide) e56 (rm2 l Z aZ hw [] r_53 (3 : Int32) i2 b3 kr_53 (((0 : Int32) * i2) + (1 : Int32)) [((0 : Int32), (.double FP.dconst1))] k3 [((2 : Int32), (.double (FP.i2d p4))), ((1 : Int32), (.double (FP.i2d p3))), ((0 : Int32), (.double (FP.i2d p2)))] (FP.i2d p2) (FP.i2d p3) (FP.i2d p4) h53 n0 Z53 V_r_53 V_b3 (own_rd0 hl) (own_rdA) (hl) (show (0 : Int) ≤ 3 ∧ (3 : Int) ≤ 12 by decide) (by omega) ((Dy.i2d p2).nn) ((Dy.i2d p3).nn) ((Dy.i2d p4).nn)) (by decide) (W := 0) (Nat.le_of_eq rfl) (by decide) (by rw [hml]; rfl) (lenOf pd_1 rfl) rfl (hb hby at_150) (pc' := 153) rfl (by decide) (by decide) ?_; intro v57 T57 L57 X57 hQ57
      obtain ⟨rfl, N57q, e57⟩ := hQ57
      have N57 := Fr.app N56 N57q
      refine R.ifNo X57 hx (hb hby at_153) (feq (by decide : ¬ ((1 : Int32) = (0 : Int32)))).1 (pc' := 156) rfl ?_
      refine R.aload X57 hx (hb hby at_156) rfl rfl (pc' := 158) rfl ?_
      refine R.iconst X57 hx (hb hby at_158) (v := (4 : Int32)) (by decide) (pc' := 159) rfl ?_
      refine R.iload X57 hx (hb hby at_159) rfl (pc' := 161) rfl ?_
      refine R.aload X57 hx (hb hby at_161) rfl rfl (pc' := 163) rfl ?_
      refine R.callS X57 hx hZ (y := mY1) hown w_5 w_6 w_7 w_8 (by decide) e57 (rm2 l Z aZ hw [] r_53 (4 : Int32) i2 b3 kr_53 (((0 : Int32) * i2) + (1 : Int32)) [((0 : Int32), (.double FP.dconst1))] k3 [((2 : Int32), (.double (FP.i2d p4))), ((1 : Int32), (.double (FP.i2d p3))), ((0 : Int32), (.double (FP.i2d p2)))] (FP.i2d p2) (FP.i2d p3) (FP.i2d p4) h53 n0 Z53 V_r_53 V_b3 (own_rd0 hl) (own_rdA) (hl) (show (0 : Int) ≤ 4 ∧ (4 : Int) ≤ 12 by decide) (by omega) ((Dy.i2d p2).nn) ((Dy.i2d p3).nn) ((Dy.i2d p4).nn)) (by decide) (W := 0) (Nat.le_of_eq rfl) (by decide) (by rw [hml]; rfl) (lenOf pd_1 rfl) rfl (hb hby at_163) (pc' := 166) rfl (by decide) (by decide) ?_; intro v58 T58 L58 X58 hQ58
      obtain ⟨rfl, N58q, e58⟩ := hQ58
      have N58 := Fr.app N57 N58q
      refine R.ifNo X58 hx (hb hby at_166) (feq (by decide : ¬ ((1 : Int32) = (0 : Int32)))).1 (pc' := 169) rfl ?_
      refine R.aload X58 hx (hb hby at_169) rfl rfl (pc' := 171) rfl ?_
      refine R.iconst X58 hx (hb hby at_171) (v := (5 : Int32)) (by decide) (pc' := 172) rfl ?_
      refine R.iload X58 hx (hb hby at_172) rfl (pc' := 174) rfl ?_
      refine R.aload X58 hx (hb hby at_174) rfl rfl (pc' := 176) rfl ?_
      refine R.callS X58 hx hZ (y := mY1) hown w_5 w_6 w_7 w_8 (by decide) e58 (rm2 l Z aZ hw [] r_53 (5 : Int32) i2 b3 kr_53 (((0 : Int32) * i2) + (1 : Int32)) [((0 : Int32), (.double FP.dconst1))] k3 [((2 : Int32), (.double (FP.i2d p4))), ((1 : Int32), (.double (FP.i2d p3))), ((0 : Int32), (.double (FP.i2d p2)))] (FP.i2d p2) (FP.i2d p3) (FP.i2d p4) h53 n0 Z53 V_r_53 V_b3 (own_rd0 hl) (own_rdA) (hl) (show (0 : Int) ≤ 5 ∧ (5 : Int) ≤ 12 by decide) (by omega) ((Dy.i2d p2).nn) ((Dy.i2d p3).nn) ((Dy.i2d p4).nn)) (by decide) (W := 0) (Nat.le_of_eq rfl) (by decide) (by rw [hml]; rfl) (lenOf pd_1 rfl) rfl (hb hby at_176) (pc' := 179) rfl (by decide) (by decide) ?_; intro v59 T59 L59 X59 hQ59
      obtain ⟨rfl, N59q, e59⟩ := hQ59
      have N59 := Fr.app N58 N59q
      refine R.ifNo X59 hx (hb hby at_179) (feq (by decide : ¬ ((1 : Int32) = (0 : Int32)))).1 (pc' := 182) rfl ?_
      refine R.aload X59 hx (hb hby at_182) rfl rfl (pc' := 184) rfl ?_
      refine R.bipush X59 hx (hb hby at_184) (v := (6 : Int32)) (by decide) (pc' := 186) rfl ?_
      refine R.iload X59 hx (hb hby at_186) rfl (pc' := 188) rfl ?_
      refine R.aload X59 hx (hb hby at_188) rfl rfl (pc' := 190) rfl ?_
      refine R.callS X59 hx hZ (y := mY1) hown w_5 w_6 w_7 w_8 (by decide) e59 (rm2 l Z aZ hw [] r_53 (6 : Int32) i2 b3 kr_53 (((0 : Int32) * i2) + (1 : Int32)) [((0 : Int32), (.double FP.dconst1))] k3 [((2 : Int32), (.double (FP.i2d p4))), ((1 : Int32), (.double (FP.i2d p3))), ((0 : Int32), (.double (FP.i2d p2)))] (FP.i2d p2) (FP.i2d p3) (FP.i2d p4) h53 n0 Z53 V_r_53 V_b3 (own_rd0 hl) (own_rdA) (hl) (show (0 : Int) ≤ 6 ∧ (6 : Int) ≤ 12 by decide) (by omega) ((Dy.i2d p2).nn) ((Dy.i2d p3).nn) ((Dy.i2d p4).nn)) (by decide) (W := 0) (Nat.le_of_eq rfl) (by decide) (by rw [hml]; rfl) (lenOf pd_1 rfl) rfl (hb hby at_190) (pc' := 193) rfl (by decide) (by decide) ?_; intro v60 T60 L60 X60 hQ60
      obtain ⟨rfl, N60q, e60⟩ := hQ60
      have N60 := Fr.app N59 N60q
      refine R.ifNo X60 hx (hb hby at_193) (feq (by decide : ¬ ((1 : Int32) = (0 : Int32)))).1 (pc' := 196) rfl ?_
      refine R.aload X60 hx (hb hby at_196) rfl rfl (pc' := 198) rfl ?_
      refine R.bipush X60 hx (hb hby at_198) (v := (7 : Int32)) (by decide) (pc' := 200) rfl ?_
      refine R.iload X60 hx (hb hby at_200) rfl (pc' := 202) rfl ?_
      refine R.aload X60 hx (hb hby at_202) rfl rfl (pc' := 204) rfl ?_
      refine R.callS X60 hx hZ (y := mY1) hown w_5 w_6 w_7 w_8 (by decide) e60 (rm2 l Z aZ hw [] r_53 (7 : Int32) i2 b3 kr_53 (((0 : Int32) * i2) + (1 : Int32)) [((0 : Int32), (.double FP.dconst1))] k3 [((2 : Int32), (.double (FP.i2d p4))), ((1 : Int32), (.double (FP.i2d p3))), ((0 : Int32), (.double (FP.i2d p2)))] (FP.i2d p2) (FP.i2d p3) (FP.i2d p4) h53 n0 Z53 V_r_53 V_b3 (own_rd0 hl) (own_rdA) (hl) (show (0 : Int) ≤ 7 ∧ (7 : Int) ≤ 12 by decide) (by omega) ((Dy.i2d p2).nn) ((Dy.i2d p3).nn) ((Dy.i2d p4).nn)) (by decide) (W := 0) (Nat.le_of_eq rfl) (by decide) (by rw [hml]; rfl) (lenOf pd_1 rfl) rfl (hb hby at_204) (pc' := 207) rfl (by decide) (by decide) ?_; intro v61 T61 L61 X61 hQ61
      obtain ⟨rfl, N61q, e61⟩ := hQ61
      have N61 := Fr.app N60 N61q
      refine R.ifNo X61 hx (hb hby at_207) (feq (by decide : ¬ ((1 : Int32) = (0 : Int32)))).1 (pc' := 210) rfl ?_
      refine R.aload X61 hx (hb hby at_210) rfl rfl (pc' := 212) rfl ?_
      refine R.bipush X61 hx (hb hby at_212) (v := (8 : Int32)) (by decide) (pc' := 214) rfl ?_
      refine R.iload X61 hx (hb hby at_214) rfl (pc' := 216) rfl ?_
      refine R.aload X61 hx (hb hby at_216) rfl rfl (pc' := 218) rfl ?_
      refine R.callS X61 hx hZ (y := mY1) hown w_5 w_6 w_7 w_8 (by decide) e61 (rm2 l Z aZ hw [] r_53 (8 : Int32) i2 b3 kr_53 (((0 : Int32) * i2) + (1 : Int32)) [((0 : Int32), (.double FP.dconst1))] k3 [((2 : Int32), (.double (FP.i2d p4))), ((1 : Int32), (.double (FP.i2d p3))), ((0 : Int32), (.double (FP.i2d p2)))] (FP.i2d p2) (FP.i2d p3) (FP.i2d p4) h53 n0 Z53 V_r_53 V_b3 (own_rd0 hl) (own_rdA) (hl) (show (0 : Int) ≤ 8 ∧ (8 : Int) ≤ 12 by decide) (by omega) ((Dy.i2d p2).nn) ((Dy.i2d p3).nn) ((Dy.i2d p4).nn)) (by decide) (W := 0) (Nat.le_of_eq rfl) (by decide) (by rw [hml]; rfl) (lenOf pd_1 rfl) rfl (hb hby at_218) (pc' := 221) rfl (by decide) (by decide) ?_; intro v62 T62 L62 X62 hQ62
      obtain ⟨rfl, N62q, e62⟩ := hQ62
      have N62 := Fr.app N61 N62q
      refine R.ifNo X62 hx (hb hby at_221) (feq (by decide : ¬ ((1 : Int32) = (0 : Int32)))).1 (pc' := 224) rfl ?_
      refine R.aload X62 hx (hb hby at_224) rfl rfl (pc' := 226) rfl ?_
      refine R.bipush X62 hx (hb hby at_226) (v := (9 : Int32)) (by decide) (pc' := 228) rfl ?_
      refine R.iload X62 hx (hb hby at_228) rfl (pc' := 230) rfl ?_
      refine R.aload X62 hx (hb hby at_230) rfl rfl (pc' := 232) rfl ?_
      refine R.callS X62 hx hZ (y := mY1) hown w_5 w_6 w_7 w_8 (by decide) e62 (rm2 l Z aZ hw [] r_53 (9 : Int32) i2 b3 kr_53 (((0 : Int32) * i2) + (1 : Int32)) [((0 : Int32), (.double FP.dconst1))] k3 [((2 : Int32), (.double (FP.i2d p4))), ((1 : Int32), (.double (FP.i2d p3))), ((0 : Int32), (.double (FP.i2d p2)))] (FP.i2d p2) (FP.i2d p3) (FP.i2d p4) h53 n0 Z53 V_r_53 V_b3 (own_rd0 hl) (own_rdA) (hl) (show (0 : Int) ≤ 9 ∧ (9 : Int) ≤ 12 by decide) (by omega) ((Dy.i2d p2).nn) ((Dy.i2d p3).nn) ((Dy.i2d p4).nn)) (by decide) (W := 0) (Nat.le_of_eq rfl) (by decide) (by rw [hml]; rfl) (lenOf pd_1 rfl) rfl (hb hby at_232) (pc' := 235) rfl (by decide) (by decide) ?_; intro v63 T63 L63 X63 hQ63
      obtain ⟨rfl, N63q, e63⟩ := hQ63
      have N63 := Fr.app N62 N63q
      refine R.ifNo X63 hx (hb hby at_235) (feq (by decide : ¬ ((1 : Int32) = (0 : Int32)))).1 (pc' := 238) rfl ?_
      refine R.aload X63 hx (hb hby at_238) rfl rfl (pc' := 240) rfl ?_
      refine R.bipush X63 hx (hb hby at_240) (v := (10 : Int32)) (by decide) (pc' := 242) rfl ?_
      refine R.iload X63 hx (hb hby at_242) rfl (pc' := 244) rfl ?_
      refine R.aload X63 hx (hb hby at_244) rfl rfl (pc' := 246) rfl ?_
      refine R.callS X63 hx hZ (y := mY1) hown w_5 w_6 w_7 w_8 (by decide) e63 (rm2 l Z aZ hw [] r_53 (10 : Int32) i2 b3 kr_53 (((0 : Int32) * i2) + (1 : Int32)) [((0 : Int32), (.double FP.dconst1))] k3 [((2 : Int32), (.double (FP.i2d p4))), ((1 : Int32), (.double (FP.i2d p3))), ((0 : Int32), (.double (FP.i2d p2)))] (FP.i2d p2) (FP.i2d p3) (FP.i2d p4) h53 n0 Z53 V_r_53 V_b3 (own_rd0 hl) (own_rdA) (hl) (show (0 : Int) ≤ 10 ∧ (10 : Int) ≤ 12 by decide) (by omega) ((Dy.i2d p2).nn) ((Dy.i2d p3).nn) ((Dy.i2d p4).nn)) (by decide) (W := 0) (Nat.le_of_eq rfl) (by decide) (by rw [hml]; rfl) (lenOf pd_1 rfl) rfl (hb hby at_246) (pc' := 249) rfl (by decide) (by decide) ?_; intro v64 T64 L64 X64 hQ64
      obtain ⟨rfl, N64q, e64⟩ := hQ64
      have N64 := Fr.app N63 N64q
      refine R.ifNo X64 hx (hb hby at_249) (feq (by decide : ¬ ((1 : Int32) = (0 : Int32)))).1 (pc' := 252) rfl ?_
      refine R.aload X64 hx (hb hby at_252) rfl rfl (pc' := 254) rfl ?_
      refine R.bipush X64 hx (hb hby at_254) (v := (11 : Int32)) (by decide) (pc' := 256) rfl ?_
      refine R.iload X64 hx (hb hby at_256) rfl (pc' := 258) rfl ?_
      refine R.aload X64 hx (hb hby at_258) rfl rfl (pc' := 260) rfl ?_
      refine R.callS X64 hx hZ (y := mY1) hown w_5 w_6 w_7 w_8 (by decide) e64 (rm2 l Z aZ hw [] r_53 (11 : Int32) i2 b3 kr_53 (((0 : Int32) * i2) + (1 : Int32)) [((0 : Int32), (.double FP.dconst1))] k3 [((2 : Int32), (.double (FP.i2d p4))), ((1 : Int32), (.double (FP.i2d p3))), ((0 : Int32), (.double (FP.i2d p2)))] (FP.i2d p2) (FP.i2d p3) (FP.i2d p4) h53 n0 Z53 V_r_53 V_b3 (own_rd0 hl) (own_rdA) (hl) (show (0 : Int) ≤ 11 ∧ (11 : Int) ≤ 12 by decide) (by omega) ((Dy.i2d p2).nn) ((Dy.i2d p3).nn) ((Dy.i2d p4).nn)) (by decide) (W := 0) (Nat.le_of_eq rfl) (by decide) (by rw [hml]; rfl) (lenOf pd_1 rfl) rfl (hb hby at_260) (pc' := 263) rfl (by decide) (by decide) ?_; intro v65 T65 L65 X65 hQ65
      obtain ⟨rfl, N65q, e65⟩ := hQ65
      have N65 := Fr.app N64 N65q
      refine R.ifNo X65 hx (hb hby at_263) (feq (by decide : ¬ ((1 : Int32) = (0 : Int32)))).1 (pc' := 266) rfl ?_
      refine R.aload X65 hx (hb hby at_266) rfl rfl (pc' := 268) rfl ?_
      refine R.bipush X65 hx (hb hby at_268) (v := (12 : Int32)) (by decide) (pc' := 270) rfl ?_
      refine R.iload X65 hx (hb hby at_270) rfl (pc' := 272) rfl ?_
      refine R.aload X65 hx (hb hby at_272) rfl rfl (pc' := 274) rfl ?_
      refine R.callS X65 hx hZ (y := mY1) hown w_5 w_6 w_7 w_8 (by decide) e65 (rm2 l Z aZ hw [] r_53 (12 : Int32) i2 b3 kr_53 (((0 : Int32) * i2) + (1 : Int32)) [((0 : Int32), (.double FP.dconst1))] k3 [((2 : Int32), (.double (FP.i2d p4))), ((1 : Int32), (.double (FP.i2d p3))), ((0 : Int32), (.double (FP.i2d p2)))] (FP.i2d p2) (FP.i2d p3) (FP.i2d p4) h53 n0 Z53 V_r_53 V_b3 (own_rd0 hl) (own_rdA) (hl) (show (0 : Int) ≤ 12 ∧ (12 : Int) ≤ 12 by decide) (by omega) ((Dy.i2d p2).nn) ((Dy.i2d p3).nn) ((Dy.i2d p4).nn)) (by decide) (W := 0) (Nat.le_of_eq rfl) (by decide) (by rw [hml]; rfl) (lenOf pd_1 rfl) rfl (hb hby at_274) (pc' := 277) rfl (by decide) (by decide) ?_; intro v66 T66 L66 X66 hQ66
      obtain ⟨rfl, N66q, e66⟩ := hQ66
      have N66 := Fr.app N65 N66q
      refine R.ifNo X66 hx (hb hby at_277) (feq (by decide : ¬ ((1 : Int32) = (0 : Int32)))).1 (pc' := 280) rfl ?_
      refine R.iconst X66 hx (hb hby at_280) (v := (1 : Int32)) (by decide) (pc' := 281) rfl ?_
      refine R.goto X66 hx (hb hby at_281) (by decide) (pc' := 285) (by decide) ?_
      rw [← hG]
      exact Rn.ret X66 (BodyLoose.notSynchronized Bd) (v := some (.int (1 : Int32))) (fun h => by rw [Bd.returns] at h; cases h) (Q := Q0 Z p0 p1 p2 p3 p4 h0 n0) e66 (fun fs hr => retN X66 hx (t := .boolean) Bd.returns (by simp) (hb hby at_285) hr) ⟨rfl, N66⟩ (by decide) (by decide)
  exact (Rn.st (fun t k => castTop (ef_0 m p0 p1 p2 p3 p4) k) first_ : Rn p e below (s₁.setTop (entryFrame m #[(.int p0), (.int p1), (.int p2), (.int p3), (.int p4)] maxLocals)) (Fn0 Z p0 p1 p2 p3 p4 h0 n0 s))
set_option maxRecDepth 65536 in
set_option maxHeartbeats 40000000 in
theorem comes_1 {Post : Tables → Env → Array Value → State → Outcome → State → Prop} (hpost : ∀ tb e args s v u, (limb_1_1.after args s (.returned v) u = true ∧ limb_1_2.after args s (.returned v) u = true ∧ True) → FrameEnd s (.returned v) u (Jvm.fieldLocs frame_1_writes args s ++ Jvm.arrayLocs frame_1_arrays args s ++ Jvm.staticLocs frame_1_statics s) 16 128 → Post tb e args s (.returned v) u) :
    ArmFor flags0 classFile x code maxLocals ret World_1 tables_1 room_1 Calls_1 rest_1 Pre_1 Post := by
  intro l hfl _ _ p e ha hc hk s m args below hf hA hF happ hP
  obtain ⟨hcalls, hrest, hpre⟩ := hP
  obtain ⟨-, -, -, hnamed, -, -, -, hat⟩ := (Spec.applies_iff hf).mp happ
  obtain ⟨hg, hn⟩ := and_e (Cond.before_iff.mp (show (Jvm.Cond.and given_1 narrow_1).before args s = true from hpre))
  obtain ⟨g1, g2⟩ := and_e hg
  obtain ⟨g3, g4⟩ := and_e g2
  obtain ⟨g5, g6⟩ := and_e g4
  obtain ⟨g7, g8⟩ := and_e g6
  obtain ⟨g9, g10⟩ := and_e g8
  obtain ⟨w0, w1, w2, w3, w4, rfl⟩ : ∃ w0 w1 w2 w3 w4 : Value, args = #[w0, w1, w2, w3, w4] := by
    have hs : args.size = 5 := by simpa [Cond.value, given_1] using g1
    obtain ⟨L⟩ := args
    match L, hs with
    | [w0, w1, w2, w3, w4], _ => exact ⟨w0, w1, w2, w3, w4, rfl⟩
  have hw := fun d (hd : d ∈ tables_1) => atoms_spec (ws := Jvm.Cond.code x code maxLocals ret :: tables_1) hat d (List.mem_cons_of_mem _ hd)
  obtain ⟨i0, ei0⟩ := is_v g3
  obtain rfl : w0 = (.int i0) := Option.some.inj ei0
  obtain ⟨i1, ei1⟩ := is_v g5
  obtain rfl : w1 = (.int i1) := Option.some.inj ei1
  obtain ⟨i2, ei2⟩ := is_v g7
  obtain rfl : w2 = (.int i2) := Option.some.inj ei2
  obtain ⟨i3, ei3⟩ := is_v g9
  obtain rfl : w3 = (.int i3) := Option.some.inj ei3
  obtain ⟨i4, ei4⟩ := is_v g10
  obtain rfl : w4 = (.int i4) := Option.some.inj ei4
  obtain ⟨n, o, h1, h2, h3, _, L, rfl, ⟨rfl, N⟩, hq⟩ := rm0 l s _ hw tables_1 i0 i1 i2 i3 i4 s.heap s.heap.size (Nat.le_refl _) p e ha hc hk s m _ below hf ((Spec.applies_iff_loose hf).mp happ).1 ⟨rfl, State.Warmed39.refl s, rfl⟩ trivial
  refine ⟨n, _, h1, h2, h3, hpost _ _ _ _ _ _ ⟨Cond.after_iff.mpr rfl, Cond.after_iff.mpr (eq_i res_at (Term.int_eval (1)) rfl), trivial⟩ ⟨hq.1, hq.2.1, (hq.2.2.sift fun y hy => Or.inr (N y hy)).mono (by decide) (by decide)⟩⟩
theorem main_1_1 : Claimed_1_1 := comes_1 fun _ _ _ _ _ _ h hF => ⟨h.1, hF⟩
theorem main_1_2 : Claimed_1_2 := comes_1 fun _ _ _ _ _ _ h hF => ⟨h.2.1, hF⟩
end Jvm.Pilot.@@N@@
namespace Jvm.Pilot.@@N@@
open Jvm Jvm.ClassFile Sem Op Lib Jvm.Free Jvm.Stand Jvm.Pilot.@@N@@.Jvm.D
/-! MADE BY PROGRAM (witnessworld.py) out of the Statement's table words and the real class files: 11 classes; the members and pool entries that the words name. The judged class is class 1, her method 1. -/
namespace start1
open Jvm.ClassFile
def u (s : String) : CpInfo := .utf8 (stringToUtf16 s)
/-- a pool by its gaps: so many unusable entries, then the entry; so many at the end -/
def gap : Nat → List CpInfo → List CpInfo
  | 0, r => r
  | n + 1, r => .unusable :: gap n r
def poolList (es : List (Nat × CpInfo)) (last : Nat) : List CpInfo := es.foldr (fun e r => gap e.1 (e.2 :: r)) (gap last [])
def pool (es : List (Nat × CpInfo)) (last : Nat) : Array CpInfo := ⟨poolList es last⟩
def fileOf (pool : Array CpInfo) (this : Nat) (attrs : Array Attribute := #[]) (ms : Array MethodInfo := #[]) (fl : Nat := 33) (sup : Nat := 0) (ifs : Array Nat := #[]) (fds : Array FieldInfo := #[]) : ClassFile where
  minorVersion := 0
  majorVersion := 65
  constantPool := pool
  accessFlags := fl
  thisClass := this
  superClass := sup
  interfaces := ifs
  fields := fds
  methods := ms
  attributes := attrs
def plain (name : String) (sup : Option ClassId) : Class where
  name := name
  kind := .ordinary
  loader := none
  accessFlags := 33
  super := sup
  interfaces := #[]
  cf := none
  fields := #[]
  methods := #[]
  instanceTypes := #[]
  staticTypes := #[]
  resolved := #[]
  callSites := []
  init := .initialized
  statics := none
  mirror := none

def pool0 : Array CpInfo := pool [(5, u "<init>"), (0, u "()V"), (1, .class_ 10), (1, u "java/lang/Object")] 113

def k0m0 : Method := { name := "<init>", desc := "()V", sig := { parameters := [], returnType := none }, accessFlags := 1, code := none }
/-- java/lang/Object -/
def k0 : Class := { plain "java/lang/Object" none with
  accessFlags := 33
  interfaces := #[]
  cf := some (fileOf pool0 8 #[] #[{ accessFlags := 1, nameIndex := 5, descriptorIndex := 6, attributes := #[] }] 33 0 #[] #[])
  fields := #[]
  methods := #[k0m0]
  instanceTypes := #[]
  staticTypes := #[]
  resolved := Array.replicate 124 none
  statics := none }

def pool1 : Array CpInfo := pool [(2, .class_ 4), (1, u "java/lang/Object"), (0, u "<init>"), (0, u "()V"), (0, .methodref 8 9), (0, .class_ 10), (0, .nameAndType 11 12), (0, u "com/example/deseason/deseason/arima/Polynomials"), (0, u "withLeadingOne"), (0, u "([DI)[D"), (0, .methodref 14 15), (0, .class_ 16), (0, .nameAndType 17 18), (0, u "com/example/deseason/deseason/arima/PolynomialsWithLeadingOnePinLaw"), (0, u "at"), (0, u "([DII[D)Z"), (2, u "law"), (0, u "(IIIII)Z")] 5

def k1m0 : Method := { name := "<init>", desc := "()V", sig := { parameters := [], returnType := none }, accessFlags := 1, code := none }
def k1c1 : Code := { maxStack := 5, maxLocals := 10, code := code, exceptionTable := #[], attributes := #[] }
def k1m1 : Method := { name := "law", desc := "(IIIII)Z", sig := { parameters := [.int, .int, .int, .int, .int], returnType := some .boolean }, accessFlags := 9, code := some k1c1 }
def k1c2 : Code := { maxStack := 4, maxLocals := 7, code := method_3_code, exceptionTable := #[], attributes := #[] }
def k1m2 : Method := { name := "at", desc := "([DII[D)Z", sig := { parameters := [(.array .double), .int, .int, (.array .double)], returnType := some .boolean }, accessFlags := 10, code := some k1c2 }
/-- com/example/deseason/deseason/arima/PolynomialsWithLeadingOnePinLaw -/
def k1 : Class := { plain "com/example/deseason/deseason/arima/PolynomialsWithLeadingOnePinLaw" (some 0) with
  accessFlags := 49
  interfaces := #[]
  cf := some (fileOf pool1 14 #[] #[{ accessFlags := 1, nameIndex := 5, descriptorIndex := 6, attributes := #[] }, { accessFlags := 9, nameIndex := 21, descriptorIndex := 22, attributes := #[] }, { accessFlags := 10, nameIndex := 17, descriptorIndex := 18, attributes := #[] }] 49 2 #[] #[])
  fields := #[]
  methods := #[k1m0, k1m1, k1m2]
  instanceTypes := #[]
  staticTypes := #[]
  resolved := Array.replicate 28 none
  statics := none }

def pool2 : Array CpInfo := pool [(2, .class_ 4), (1, u "java/lang/Object"), (0, u "<init>"), (0, u "()V"), (18, .class_ 27), (1, u "com/example/deseason/deseason/arima/Polynomials"), (4, u "withLeadingOne"), (0, u "([DI)[D")] 58

def k2m0 : Method := { name := "<init>", desc := "()V", sig := { parameters := [], returnType := none }, accessFlags := 2, code := none }
def k2c1 : Code := { maxStack := 4, maxLocals := 4, code := prog_10_method_2_code, exceptionTable := #[], attributes := #[] }
def k2m1 : Method := { name := "withLeadingOne", desc := "([DI)[D", sig := { parameters := [(.array .double), .int], returnType := some (.array .double) }, accessFlags := 8, code := some k2c1 }
/-- com/example/deseason/deseason/arima/Polynomials -/
def k2 : Class := { plain "com/example/deseason/deseason/arima/Polynomials" (some 0) with
  accessFlags := 49
  interfaces := #[]
  cf := some (fileOf pool2 25 #[] #[{ accessFlags := 2, nameIndex := 5, descriptorIndex := 6, attributes := #[] }, { accessFlags := 8, nameIndex := 32, descriptorIndex := 33, attributes := #[] }] 49 2 #[] #[])
  fields := #[]
  methods := #[k2m0, k2m1]
  instanceTypes := #[]
  staticTypes := #[]
  resolved := Array.replicate 92 none
  statics := none }

def pool3 : Array CpInfo := pool [(1, u "java/lang/Cloneable"), (0, .class_ 1), (0, u "java/lang/Object"), (0, .class_ 3)] 3

/-- java/lang/Cloneable -/
def k3 : Class := { plain "java/lang/Cloneable" (some 0) with
  accessFlags := 1537
  interfaces := #[]
  cf := some (fileOf pool3 2 #[] #[] 1537 4 #[] #[])
  fields := #[]
  methods := #[]
  instanceTypes := #[]
  staticTypes := #[]
  resolved := Array.replicate 8 none
  statics := none }

def pool4 : Array CpInfo := pool [(1, u "java/io/Serializable"), (0, .class_ 1), (0, u "java/lang/Object"), (0, .class_ 3)] 3

/-- java/io/Serializable -/
def k4 : Class := { plain "java/io/Serializable" (some 0) with
  accessFlags := 1537
  interfaces := #[]
  cf := some (fileOf pool4 2 #[] #[] 1537 4 #[] #[])
  fields := #[]
  methods := #[]
  instanceTypes := #[]
  staticTypes := #[]
  resolved := Array.replicate 8 none
  statics := none }

/-- the primitive byte -/
def k5 : Class := { plain "byte" none with kind := .primitive 'B', accessFlags := 0x411 }
/-- [B -/
def k6 : Class := { plain "[B" (some 0) with kind := .array 5 .byte, interfaces := #[3, 4], accessFlags := 1041 }

/-- the primitive double -/
def k7 : Class := { plain "double" none with kind := .primitive 'D', accessFlags := 0x411 }
/-- [D -/
def k8 : Class := { plain "[D" (some 0) with kind := .array 7 .double, interfaces := #[3, 4], accessFlags := 1041 }

/-- the primitive int -/
def k9 : Class := { plain "int" none with kind := .primitive 'I', accessFlags := 0x411 }
/-- [I -/
def k10 : Class := { plain "[I" (some 0) with kind := .array 9 .int, interfaces := #[3, 4], accessFlags := 1041 }

def heap : Heap := #[]
def classes : Array Class := #[k0, k1, k2, k3, k4, k5, k6, k7, k8, k9, k10]
def interned : List (Array UInt16 × Addr) := []
def slotsUsed : Nat := 0
def theMethod : MethodId := ⟨1, 1⟩
def args0 : Array Value := #[.int 5, .int 5, .int 5, .int 5, .int 5]
def aboutOver (below : List Frame) : State where
  vm := { classes := classes, interned := interned.toArray }
  heap := heap
  slotsUsed := slotsUsed
  threads := #[{ frames := .invoking theMethod args0 :: below }]
def below0 : List Frame := [.native { method := ⟨0, 0⟩, args := #[] }]
def about1 : State := aboutOver below0
def p0 : Program := .bare "" "" ""
def e0 : Env := launch0.env 0 0 0
theorem w_frames : about1.frames = Frame.invoking theMethod args0 :: below0 := rfl
set_option maxRecDepth 65536 in
theorem w_args : argsFit about1.vm theMethod args0 = true := by decide +kernel
set_option maxRecDepth 65536 in
theorem w_heap : heapFits about1 = true := by decide +kernel
set_option maxRecDepth 65536 in
theorem w_runnable : about1.curStatus? = some .runnable := by decide +kernel
set_option maxRecDepth 65536 in
theorem w_alone : about1.alone = true := by decide +kernel
set_option maxRecDepth 65536 in
theorem w_named : about1.methodNamed? x = some theMethod := by decide +kernel
set_option maxRecDepth 65536 in
theorem w_hears : about1.hears theMethod below0 = true := by decide +kernel
set_option maxRecDepth 65536 in
theorem w_ripe : about1.ripe theMethod args0 below0 = true := by decide +kernel
theorem w_running : about1.status = .running := rfl
set_option maxRecDepth 65536 in
theorem w_room : about1.hasRoom e0.platform room_1 = true :=
  launch0.hasRoom_least _ room_1 (by decide +kernel) (by decide +kernel) (by decide +kernel) (by decide +kernel) (by decide +kernel) (by decide +kernel)
theorem allAtoms_all (ts : List Jvm.Cond) (a : Array Jvm.Value) (st : Jvm.State) : (allAtoms ts).before a st = ts.all (fun c => c.before a st) := by
  induction ts with
  | nil => rfl
  | cons c t ih =>
    show (Jvm.Cond.and c (allAtoms t)).before a st = _
    rw [Jvm.Cond.before_and, ih, List.all_cons]
def words1 : List Jvm.Cond := Jvm.Cond.code x code maxLocals ret :: tables_1
/-- a 'code' word, met by the world's own term for the bytes: nothing is compared byte by byte -/
theorem code_word {y : MethodName} {bytes : ByteArray} {mx : Nat} {rt : Option FieldType} {a : Array Value} {s : State} {m : MethodId} {meth : Method} {c : Code} (h1 : s.methodNamed? y = some m) (h2 : s.vm.method? m = some meth) (h3 : meth.code = some c) (h4 : c.code = bytes)
    (h5 : (c.maxLocals == mx && c.exceptionTable.isEmpty && decide (c.maxStack ≤ mostOperands) && decide (meth.sig.returnType = rt) && !meth.locks && decide (parseMethodDescriptor y.desc = some meth.sig)) = true) : (Jvm.Cond.code y bytes mx rt).before a s = true := by
  simp only [Bool.and_eq_true, beq_iff_eq, Bool.not_eq_true', decide_eq_true_eq] at h5
  obtain ⟨⟨⟨⟨⟨g1, g2⟩, g3⟩, g4⟩, g5⟩, g6⟩ := h5
  simp [Cond.before, Cond.holds, Cond.value, h1, h2, h3, h4, g1, g2, g3, g4, g5, g6]
def isCode : Jvm.Cond → Bool
  | .code _ _ _ _ => true
  | _ => false
theorem all_split {L : List Jvm.Cond} {P : Jvm.Cond → Bool} (h1 : L.all (fun c => isCode c || P c) = true) (h2 : ∀ c ∈ L.filter isCode, P c = true) : L.all P = true := by
  refine List.all_eq_true.mpr fun c hc => ?_
  have h := List.all_eq_true.mp h1 c hc
  rcases Bool.eq_false_or_eq_true (isCode c) with hi | hi
  · exact h2 c (List.mem_filter.mpr ⟨hc, hi⟩)
  · simpa [hi] using h
set_option maxRecDepth 65536 in
theorem w_c0 : (Jvm.Cond.code x code maxLocals ret).before args0 about1 = true := code_word (m := ⟨1, 1⟩) (meth := k1m1) (c := k1c1) (by decide +kernel) rfl rfl rfl (by decide +kernel)
set_option maxRecDepth 65536 in
theorem w_c1 : (Jvm.Cond.code ({ cls := "com/example/deseason/deseason/arima/Polynomials", name := "withLeadingOne", desc := "([DI)[D" } : Jvm.MethodName) prog_10_method_2_code (4 : Nat) (Option.some (Jvm.ClassFile.FieldType.array Jvm.ClassFile.FieldType.double))).before args0 about1 = true := code_word (m := ⟨2, 1⟩) (meth := k2m1) (c := k2c1) (by decide +kernel) rfl rfl rfl (by decide +kernel)
set_option maxRecDepth 65536 in
theorem w_c2 : (Jvm.Cond.code ({ cls := "com/example/deseason/deseason/arima/PolynomialsWithLeadingOnePinLaw", name := "at", desc := "([DII[D)Z" } : Jvm.MethodName) method_3_code (7 : Nat) (Option.some Jvm.ClassFile.FieldType.boolean)).before args0 about1 = true := code_word (m := ⟨1, 2⟩) (meth := k1m2) (c := k1c2) (by decide +kernel) rfl rfl rfl (by decide +kernel)
def codes1 : List Jvm.Cond := [Jvm.Cond.code x code maxLocals ret, Jvm.Cond.code ({ cls := "com/example/deseason/deseason/arima/Polynomials", name := "withLeadingOne", desc := "([DI)[D" } : Jvm.MethodName) prog_10_method_2_code (4 : Nat) (Option.some (Jvm.ClassFile.FieldType.array Jvm.ClassFile.FieldType.double)), Jvm.Cond.code ({ cls := "com/example/deseason/deseason/arima/PolynomialsWithLeadingOnePinLaw", name := "at", desc := "([DII[D)Z" } : Jvm.MethodName) method_3_code (7 : Nat) (Option.some Jvm.ClassFile.FieldType.boolean)]
set_option maxRecDepth 65536 in
theorem codes_eq : words1.filter isCode = codes1 := rfl
theorem w_codes : ∀ c ∈ words1.filter isCode, c.before args0 about1 = true := by
  rw [codes_eq]
  intro c hc
  simp only [codes1, List.mem_cons, List.not_mem_nil, or_false] at hc
  rcases hc with rfl | rfl | rfl
  · exact w_c0
  · exact w_c1
  · exact w_c2
set_option maxRecDepth 65536 in
theorem w_t1 : words1.all (fun c => isCode c || c.before args0 about1) = true := by decide +kernel
theorem w_tables : (allAtoms (Jvm.Cond.code x code maxLocals ret :: tables_1)).before args0 about1 = true := by
  rw [allAtoms_all]
  show words1.all (fun c => c.before args0 about1) = true
  refine all_split ?_ w_codes
  rw [w_t1]
set_option maxRecDepth 65536 in
theorem w_case : (Jvm.Cond.and given_1 narrow_1).before args0 about1 = true := by decide +kernel
theorem w_applies : (headSpec (Jvm.Cond.code x code maxLocals ret :: tables_1) room_1).applies x e0.platform about1 = true :=
  (Spec.applies_iff w_frames).mpr ⟨w_running, w_runnable, w_alone, w_named, w_hears, w_ripe, w_room, w_tables⟩
theorem atStart : AtStart classFile x code maxLocals ret World_1 tables_1 room_1 Calls_1 rest_1 Pre_1 launch0 p0 e0 about1 theMethod args0 below0 :=
  ⟨lists_1, trivial, launch0.admits_env _ _ _, launch0.least_env, fairChoices_fair.cas, fairChoices_fair.clock, w_frames, w_args, w_heap, w_applies, trivial, trivial, w_case⟩
end start1
theorem witness_1 : WitnessClaimed_1 := ⟨start1.p0, start1.e0, start1.about1, start1.theMethod, start1.args0, start1.below0, start1.atStart⟩
end Jvm.Pilot.@@N@@

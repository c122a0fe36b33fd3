import JvmDerived
import JvmDerived.Pilot.@@N@@Statement
import JvmDerived.Pilot.@@N@@Code
set_option linter.unusedVariables false
set_option linter.unusedSimpArgs false
namespace Jvm.Pilot.@@N@@
section OwnFP
open Jvm.FP Jvm.FP.Core Jvm.Free.Fl
/-- what x stands for, in units of the least double -/
def own_zv (x : UInt64) : Int := zval b64 (val64 x)
/-- x is finite and stands for a / 2^k -/
def Dy (x : UInt64) (a : Int) (k : Nat) : Prop := DFin x ∧ own_zv x * ((2 ^ k : Nat) : Int) = a * (one64 : Int)
theorem Dy.nn {x : UInt64} {a : Int} {k : Nat} (h : Dy x a k) : NoNaN64 x := (fin64_core.mpr h.1).noNaN
theorem own_pp (k : Nat) : (0 : Int) < ((2 ^ k : Nat) : Int) := Int.natCast_pos.mpr (Nat.two_pow_pos k)
theorem own_up : (0 : Int) < (one64 : Int) := Int.natCast_pos.mpr one64_pos
theorem own_signed_abs (a : Int) : signed (decide (a < 0)) a.natAbs = a := by
  unfold signed
  by_cases h : a < 0
  · simp [h]; omega
  · simp [h]; omega
theorem own_datum (a : Int) (n : Nat) (ha : a.natAbs < 2 ^ 53) (hn : n ≤ 1074) : ∃ V : Datum, Core.fits b64 V ∧ V ≠ .nan ∧ zval b64 V = a * ((2 ^ n : Nat) : Int) := by
  have hq : b64.qmin = -1074 := qmin_b64
  have hqx : b64.qmax = 971 := by decide
  obtain ⟨c', q', hr, hu⟩ := round_exact good_b64 (decide (a < 0)) (c := a.natAbs) (q := (n : Int) - 1074) ha (by rw [hq]; omega) (by rw [hqx]; omega)
  have hV := round_fits good_b64 (.fin (decide (a < 0)) a.natAbs ((n : Int) - 1074))
  rw [hr] at hV
  refine ⟨_, hV, by simp, ?_⟩
  show signed (decide (a < 0)) (inUnits c' q' b64.qmin) = _
  rw [hu]
  unfold inUnits
  rw [signed_mul, own_signed_abs, hq, show (((n : Int) - 1074) - -1074).toNat = n by omega]
theorem own_notinf {a : Int} {n : Nat} {t : Bool} (ha : a.natAbs < 2 ^ 53) (hn : n ≤ 1074) : ¬ zval b64 (.inf t) = a * ((2 ^ n : Nat) : Int) := by
  intro e
  have q := congrArg Int.natAbs e
  rw [show zval b64 (.inf t) = signed t (b64.tails * 2 ^ (b64.exps - 2)) from rfl, natAbs_signed, Int.natAbs_mul, Int.natAbs_natCast] at q
  have l1 : a.natAbs * 2 ^ n < 2 ^ 53 * 2 ^ 1074 := Nat.mul_lt_mul_of_lt_of_le ha (Nat.pow_le_pow_right (by decide) hn) (Nat.two_pow_pos _)
  have l2 : 2 ^ 53 * 2 ^ 1074 < b64.tails * 2 ^ (b64.exps - 2) := by
    rw [tails_b64, show b64.exps - 2 = 2046 by decide, ← Nat.pow_add, ← Nat.pow_add]
    exact Nat.pow_lt_pow_right (by decide) (by decide)
  exact Nat.lt_irrefl _ (Nat.lt_trans l2 (by rw [q]; exact l1))
theorem own_round {s : Bool} {c : Nat} {q e0 a : Int} {k : Nat} (ha : a.natAbs < 2 ^ 53) (hk : k ≤ 1074) (h0 : e0 ≤ -1074) (h0e : e0 ≤ q)
    (h : signed s (inUnits c q e0) * ((2 ^ k : Nat) : Int) = a * ((2 ^ (-e0).toNat : Nat) : Int)) :
    (∃ s' c' q', round b64 (.fin s c q) = .fin s' c' q') ∧ zval b64 (round b64 (.fin s c q)) * ((2 ^ k : Nat) : Int) = a * (one64 : Int) := by
  have hq : b64.qmin = -1074 := qmin_b64
  obtain ⟨V, hV, hVn, hz⟩ := own_datum a (1074 - k) ha (by omega)
  have hs : zval b64 V * ((2 ^ (b64.qmin - e0).toNat : Nat) : Int) = signed s (inUnits c q e0) := by
    apply Int.eq_of_mul_eq_mul_right (a := ((2 ^ k : Nat) : Int)) (Int.ne_of_gt (own_pp k))
    rw [h, hz, hq, Int.mul_assoc, Int.mul_assoc, ← Int.natCast_mul, ← Int.natCast_mul, ← Nat.pow_add, ← Nat.pow_add]
    rw [show 1074 - k + ((-1074 - e0).toNat + k) = (-e0).toNat by omega]
  have le := zval_round_le good_b64 (s := s) (c := c) (q := q) (e0 := e0) hV hVn (by rw [hq]; exact h0) h0e (by rw [hs]; exact Int.le_refl _)
  have ge := zval_round_ge good_b64 (s := s) (c := c) (q := q) (e0 := e0) hV hVn (by rw [hq]; exact h0) h0e (by rw [hs]; exact Int.le_refl _)
  have e : zval b64 (round b64 (.fin s c q)) = a * ((2 ^ (1074 - k) : Nat) : Int) := by rw [← hz]; exact Int.le_antisymm le ge
  refine ⟨?_, by rw [e, Int.mul_assoc, ← Int.natCast_mul, ← Nat.pow_add, show 1074 - k + k = 1074 by omega]; rfl⟩
  cases hc : round b64 (.fin s c q) with
  | nan => exact absurd hc (roundRatio_ne_nan _ _ _ _ _)
  | fin s' c' q' => exact ⟨_, _, _, rfl⟩
  | inf t => rw [hc] at e; exact absurd e (own_notinf ha (by omega))
theorem Dy.add {x y : UInt64} {a b : Int} {k : Nat} (hx : Dy x a k) (hy : Dy y b k) (h : (a + b).natAbs < 2 ^ 53) (hk : k ≤ 1074) : Dy (FP.dadd x y) (a + b) k := by
  obtain ⟨⟨s, c, q, ex⟩, zx⟩ := hx
  obtain ⟨⟨t, d, r, ey⟩, zy⟩ := hy
  have fx := val64_fits x
  have fy := val64_fits y
  unfold own_zv at zx zy
  rw [ex] at fx zx
  rw [ey] at fy zy
  obtain ⟨sg, n, e, hs, he, hv⟩ := sum_units fx fy
  have hd : val64 (FP.dadd x y) = round b64 (.fin sg n e) := by rw [show FP.dadd x y = Core.dadd x y from rfl, val64_dadd, ex, ey, hs]
  obtain ⟨⟨s', c', q', h1⟩, h2⟩ := own_round (s := sg) (c := n) (q := e) (e0 := b64.qmin) (a := a + b) (k := k) h hk (Int.le_of_eq qmin_b64) he (by rw [hv, Int.add_mul, zx, zy, ← Int.add_mul, pow_qmin64])
  exact ⟨⟨s', c', q', hd.trans h1⟩, by unfold own_zv; rw [hd]; exact h2⟩
theorem Dy.sub {x y : UInt64} {a b : Int} {k : Nat} (hx : Dy x a k) (hy : Dy y b k) (h : (a - b).natAbs < 2 ^ 53) (hk : k ≤ 1074) : Dy (FP.dsub x y) (a - b) k := by
  obtain ⟨⟨s, c, q, ex⟩, zx⟩ := hx
  obtain ⟨⟨t, d, r, ey⟩, zy⟩ := hy
  have fx := val64_fits x
  have fy := negate_fits (val64_fits y)
  have zn := zval_negate b64 (val64 y)
  unfold own_zv at zx zy
  rw [ex] at fx zx
  rw [ey] at fy zy zn
  have fy' : Core.fits b64 (.fin (!t) d r) := fy
  have zn' : zval b64 (.fin (!t) d r) = -zval b64 (.fin t d r) := zn
  obtain ⟨sg, n, e, hs, he, hv⟩ := sum_units fx fy'
  have hd : val64 (FP.dsub x y) = round b64 (.fin sg n e) := by
    rw [show FP.dsub x y = Core.dsub x y from rfl, val64_dsub, ex, ey]
    exact congrArg (round b64) hs
  obtain ⟨⟨s', c', q', h1⟩, h2⟩ := own_round (s := sg) (c := n) (q := e) (e0 := b64.qmin) (a := a - b) (k := k) h hk (Int.le_of_eq qmin_b64) he (by rw [hv, zn', Int.add_mul, Int.neg_mul, zx, zy, ← Int.sub_eq_add_neg, ← Int.sub_mul, pow_qmin64])
  exact ⟨⟨s', c', q', hd.trans h1⟩, by unfold own_zv; rw [hd]; exact h2⟩
theorem own_two_qmin : 2 ^ (-(2 * b64.qmin)).toNat = one64 * one64 := by
  rw [show (-(2 * b64.qmin)).toNat = (-b64.qmin).toNat + (-b64.qmin).toNat by rw [qmin_b64]; decide, Nat.pow_add, pow_qmin64]
theorem Dy.mul {x y : UInt64} {a b : Int} {k j : Nat} (hx : Dy x a k) (hy : Dy y b j) (h : (a * b).natAbs < 2 ^ 53) (hk : k + j ≤ 1074) : Dy (FP.dmul x y) (a * b) (k + j) := by
  obtain ⟨⟨s, c, q, ex⟩, zx⟩ := hx
  obtain ⟨⟨t, d, r, ey⟩, zy⟩ := hy
  have fx := val64_fits x
  have fy := val64_fits y
  unfold own_zv at zx zy
  rw [ex] at fx zx
  rw [ey] at fy zy
  obtain ⟨hp, he, hv⟩ := product_units fx fy
  have hd : val64 (FP.dmul x y) = round b64 (.fin (s != t) (c * d) (q + r)) := by rw [show FP.dmul x y = Core.dmul x y from rfl, val64_dmul, ex, ey, hp]
  have hg : signed (s != t) (inUnits (c * d) (q + r) (2 * b64.qmin)) = zval b64 (.fin s c q) * zval b64 (.fin t d r) := by rw [hv, signed_xor]; rfl
  obtain ⟨⟨s', c', q', h1⟩, h2⟩ := own_round (s := s != t) (c := c * d) (q := q + r) (e0 := 2 * b64.qmin) (a := a * b) (k := k + j) h hk (by rw [qmin_b64]; decide) he (by
    rw [hg, own_two_qmin, Nat.pow_add, Int.natCast_mul, Int.natCast_mul]
    rw [show ∀ A B P Q : Int, A * B * (P * Q) = (A * P) * (B * Q) from fun A B P Q => by ac_rfl, zx, zy]
    exact (fun A B P : Int => by ac_rfl : ∀ A B P : Int, A * P * (B * P) = A * B * (P * P)) _ _ _)
  exact ⟨⟨s', c', q', hd.trans h1⟩, by unfold own_zv; rw [hd]; exact h2⟩
theorem own_units {c : Nat} {q r e0 : Int} (hq : b64.qmin ≤ q) (hr : b64.qmin ≤ r) (h1 : e0 ≤ q - r) (h2 : e0 ≤ b64.qmin) :
    inUnits c (q - r) e0 * 2 ^ (r - b64.qmin).toNat = inUnits c q b64.qmin * one64 * 2 ^ (b64.qmin - e0).toNat := by
  unfold inUnits one64
  rw [qmin_b64] at *
  rw [Nat.mul_assoc, ← Nat.pow_add, Nat.mul_assoc, Nat.mul_assoc, ← Nat.pow_add, ← Nat.pow_add]
  rw [show (q - r - e0).toNat + (r - -1074).toNat = (q - -1074).toNat + (1074 + (-1074 - e0).toNat) by omega]
theorem own_ddiv {x y : UInt64} {s t : Bool} {c d : Nat} {q r : Int} (ex : val64 x = .fin s c q) (ey : val64 y = .fin t d r) (hd : d ≠ 0) : val64 (FP.ddiv x y) = roundRatio b64 (s != t) c d (q - r) := by
  rw [show FP.ddiv x y = Core.ddiv x y from rfl, val64_ddiv, ex, ey]
  simp [quotient, hd]
theorem own_div_le {x y : UInt64} {s t : Bool} {c d : Nat} {q r : Int} (ex : val64 x = .fin s c q) (ey : val64 y = .fin t d r) (hd : d ≠ 0) {V : Datum} (hV : Core.fits b64 V) (hn : V ≠ .nan)
    (h : zmag b64 (val64 x) * one64 ≤ zmag b64 V * zmag b64 (val64 y)) : zmag b64 (val64 (FP.ddiv x y)) ≤ zmag b64 V := by
  have fx := val64_fits x
  have fy := val64_fits y
  rw [ex] at fx h
  rw [ey] at fy h
  rw [own_ddiv ex ey hd]
  refine zmag_roundRatio_le good_b64 (e0 := min (q - r) b64.qmin) (Nat.pos_of_ne_zero hd) hV hn (Int.min_le_right _ _) (Int.min_le_left _ _) ?_
  refine Nat.le_of_mul_le_mul_right (c := 2 ^ (r - b64.qmin).toNat) ?_ (Nat.two_pow_pos _)
  rw [own_units fx.2.1 fy.2.1 (Int.min_le_left _ _) (Int.min_le_right _ _)]
  refine Nat.le_trans (Nat.mul_le_mul_right _ h) (Nat.le_of_eq ?_)
  show zmag b64 V * inUnits d r b64.qmin * _ = _
  unfold inUnits
  exact (fun A B P Q : Nat => by ac_rfl : ∀ A B P Q : Nat, A * (B * P) * Q = A * Q * B * P) _ _ _ _
theorem own_div_ge {x y : UInt64} {s t : Bool} {c d : Nat} {q r : Int} (ex : val64 x = .fin s c q) (ey : val64 y = .fin t d r) (hd : d ≠ 0) {V : Datum} (hV : Core.fits b64 V)
    (h : zmag b64 V * zmag b64 (val64 y) ≤ zmag b64 (val64 x) * one64) : zmag b64 V ≤ zmag b64 (val64 (FP.ddiv x y)) := by
  have fx := val64_fits x
  have fy := val64_fits y
  rw [ex] at fx h
  rw [ey] at fy h
  rw [own_ddiv ex ey hd]
  refine zmag_roundRatio_ge good_b64 (e0 := min (q - r) b64.qmin) (Nat.pos_of_ne_zero hd) hV (Int.min_le_right _ _) (Int.min_le_left _ _) ?_
  refine Nat.le_of_mul_le_mul_right (c := 2 ^ (r - b64.qmin).toNat) ?_ (Nat.two_pow_pos _)
  rw [own_units fx.2.1 fy.2.1 (Int.min_le_left _ _) (Int.min_le_right _ _)]
  refine Nat.le_trans (Nat.le_of_eq ?_) (Nat.mul_le_mul_right _ h)
  show _ = zmag b64 V * inUnits d r b64.qmin * _
  unfold inUnits
  exact (fun A B P Q : Nat => by ac_rfl : ∀ A B P Q : Nat, A * Q * B * P = A * (B * P) * Q) _ _ _ _
theorem own_zval_abs (d : Datum) : (zval b64 d).natAbs = zmag b64 d := by unfold zval; exact natAbs_signed _ _
theorem Dy.div {x y : UInt64} {a b m : Int} {k j n : Nat} (hx : Dy x a k) (hy : Dy y b j) (hb : b ≠ 0) (hm : m.natAbs < 2 ^ 53) (hn : n ≤ 1074)
    (h : a * ((2 ^ j : Nat) : Int) * ((2 ^ n : Nat) : Int) = m * b * ((2 ^ k : Nat) : Int)) : Dy (FP.ddiv x y) m n := by
  obtain ⟨⟨s, c, q, ex⟩, zx⟩ := hx
  obtain ⟨⟨t, d, r, ey⟩, zy⟩ := hy
  unfold own_zv at zx zy
  obtain ⟨V, hV, hVn, hz⟩ := own_datum m (1074 - n) hm (by omega)
  have hzn : zval b64 V * ((2 ^ n : Nat) : Int) = m * (one64 : Int) := by rw [hz, Int.mul_assoc, ← Int.natCast_mul, ← Nat.pow_add, show 1074 - n + n = 1074 by omega]; rfl
  have hyn : zval b64 (val64 y) ≠ 0 := fun e => by
    rw [e, Int.zero_mul] at zy
    rcases Int.mul_eq_zero.mp zy.symm with q | q
    · exact hb q
    · exact absurd q (Int.ne_of_gt own_up)
  have hd : d ≠ 0 := fun e => by
    subst e
    rw [ey] at hyn
    exact hyn (by show signed t (inUnits 0 r b64.qmin) = 0; unfold inUnits; rw [Nat.zero_mul, signed_zero])
  have key : zval b64 V * zval b64 (val64 y) = zval b64 (val64 x) * (one64 : Int) := by
    have e1 : (zval b64 V * zval b64 (val64 y)) * (((2 ^ n : Nat) : Int) * ((2 ^ j : Nat) : Int) * ((2 ^ k : Nat) : Int)) = (zval b64 (val64 x) * (one64 : Int)) * (((2 ^ n : Nat) : Int) * ((2 ^ j : Nat) : Int) * ((2 ^ k : Nat) : Int)) := by
      rw [(fun A B P Q R : Int => by ac_rfl : ∀ A B P Q R : Int, A * B * (P * Q * R) = (A * P) * (B * Q) * R), hzn, zy,
        (fun A B P Q R : Int => by ac_rfl : ∀ A B P Q R : Int, A * B * (P * Q * R) = (A * R) * (B * P * Q)) (zval b64 (val64 x)), zx,
        (fun M B U K : Int => by ac_rfl : ∀ M B U K : Int, M * U * (B * U) * K = (M * B * K) * (U * U)), ← h]
      exact (fun A U P Q : Int => by ac_rfl : ∀ A U P Q : Int, A * Q * P * (U * U) = A * U * (U * P * Q)) _ _ _ _
    exact Int.eq_of_mul_eq_mul_right (Int.ne_of_gt (Int.mul_pos (Int.mul_pos (own_pp n) (own_pp j)) (own_pp k))) e1
  have kn : zmag b64 V * zmag b64 (val64 y) = zmag b64 (val64 x) * one64 := by
    have q := congrArg Int.natAbs key
    rw [Int.natAbs_mul, Int.natAbs_mul, own_zval_abs, own_zval_abs, own_zval_abs, Int.natAbs_natCast] at q
    exact q
  have le := own_div_le ex ey hd hV hVn (Nat.le_of_eq kn.symm)
  have ge := own_div_ge ex ey hd hV (Nat.le_of_eq kn)
  have em : zmag b64 (val64 (FP.ddiv x y)) = zmag b64 V := Nat.le_antisymm le ge
  have er := own_ddiv ex ey hd
  have es : sgn (val64 (FP.ddiv x y)) = (s != t) := by rw [er, sgn_roundRatio]
  have prod : zval b64 (val64 (FP.ddiv x y)) * zval b64 (val64 y) = zval b64 (val64 x) * (one64 : Int) := by
    unfold zval
    rw [es, em, ← signed_xor, kn, signed_mul, ex, ey]
    show signed ((s != t) != t) _ * _ = signed s _ * _
    rw [show ((s != t) != t) = s by cases s <;> cases t <;> rfl]
  have eq : zval b64 (val64 (FP.ddiv x y)) = zval b64 V := Int.eq_of_mul_eq_mul_right hyn (prod.trans key.symm)
  refine ⟨?_, by unfold own_zv; rw [eq]; exact hzn⟩
  cases hc : val64 (FP.ddiv x y) with
  | nan => exact absurd (er.symm.trans hc) (roundRatio_ne_nan _ _ _ _ _)
  | fin s' c' q' => exact ⟨_, _, _, hc⟩
  | inf t => rw [hc, hz] at eq; exact absurd eq (own_notinf hm (by omega))
theorem own_ofInt {x : UInt64} {i : Int} (hx : val64 x = round b64 (ofInt i)) (h : i.natAbs < 2 ^ 53) : Dy x i 0 := by
  obtain ⟨⟨s', c', q', h1⟩, h2⟩ := own_round (s := decide (i < 0)) (c := i.natAbs) (q := 0) (e0 := b64.qmin) (a := i) (k := 0) h (by decide) (Int.le_of_eq qmin_b64) (by rw [qmin_b64]; decide) (by
    unfold inUnits
    rw [signed_mul, own_signed_abs, show (0 - b64.qmin) = -b64.qmin by omega, pow_qmin64]; simp)
  exact ⟨⟨s', c', q', hx.trans h1⟩, by unfold own_zv; rw [hx]; exact h2⟩
theorem Dy.i2d (v : Int32) : Dy (FP.i2d v) v.toInt 0 := own_ofInt (val64_i2d v) (by have h1 := Int32.toInt_lt v; have h2 := Int32.le_toInt v; omega)
theorem Dy.l2d {v : Int64} (h : v.toInt.natAbs < 2 ^ 53) : Dy (FP.l2d v) v.toInt 0 := own_ofInt (val64_l2d v) h
theorem Dy.lit {x : UInt64} {a : Int} {k : Nat} (s : Bool) (c : Nat) (q : Int) (h : val64 x = .fin s c q) (h2 : signed s (inUnits c q b64.qmin) * ((2 ^ k : Nat) : Int) = a * (one64 : Int)) : Dy x a k :=
  ⟨⟨s, c, q, h⟩, by unfold own_zv; rw [h]; exact h2⟩
theorem Dy.up {x : UInt64} {a : Int} {k : Nat} (i : Nat) (h : Dy x a k) : Dy x (a * ((2 ^ i : Nat) : Int)) (k + i) :=
  ⟨h.1, by rw [Nat.pow_add, Int.natCast_mul, ← Int.mul_assoc, h.2]; exact (fun A B C : Int => by ac_rfl : ∀ A B C : Int, A * B * C = A * C * B) _ _ _⟩
theorem Dy.cast {x : UInt64} {a b : Int} {k j : Nat} (h : Dy x a k) (e : a = b) (e2 : k = j) : Dy x b j := e ▸ e2 ▸ h
/-- the int that dcmpl and dcmpg push for two numbers -/
def own_ci (a b : Int) : Int32 := if a < b then -1 else if a = b then 0 else 1
theorem own_ci_lt {a b : Int} : own_ci a b < 0 ↔ a < b := by unfold own_ci; split <;> (try split) <;> simp_all <;> omega
theorem own_ci_gt {a b : Int} : 0 < own_ci a b ↔ b < a := by unfold own_ci; split <;> (try split) <;> simp_all <;> omega
theorem own_ci_eq {a b : Int} : own_ci a b = 0 ↔ a = b := by unfold own_ci; split <;> (try split) <;> simp_all <;> omega
theorem own_dcmp {x y : UInt64} (hx : DFin x) (hy : DFin y) : FP.dcmp x y = some (compare (own_zv x) (own_zv y)) := by
  obtain ⟨s, c, q, ex⟩ := hx
  obtain ⟨t, d, r, ey⟩ := hy
  exact order_zval good_b64 (val64_fits x) (val64_fits y) (fun e => by cases ex.symm.trans e) (fun e => by cases ey.symm.trans e)
theorem Dy.dcmp {x y : UInt64} {a b : Int} {k : Nat} (hx : Dy x a k) (hy : Dy y b k) : FP.dcmp x y = some (compare a b) := by
  rw [own_dcmp hx.1 hy.1]
  congr 1
  refine compare_congr ?_ ?_
  · rw [← Int.mul_lt_mul_right (own_pp k), hx.2, hy.2, Int.mul_lt_mul_right own_up]
  · constructor
    · intro e
      have q := hx.2
      rw [e, hy.2] at q
      exact (Int.eq_of_mul_eq_mul_right (Int.ne_of_gt own_up) q).symm
    · intro e
      have q := hx.2
      rw [e, ← hy.2] at q
      exact Int.eq_of_mul_eq_mul_right (Int.ne_of_gt (own_pp k)) q
theorem Dy.cmp {x y : UInt64} {a b : Int} {k : Nat} (hx : Dy x a k) (hy : Dy y b k) (o : Jvm.ClassFile.CmpOp) : Jvm.Op.cmpValue (FP.dcmp x y) o = own_ci a b := by
  rw [hx.dcmp hy]
  unfold own_ci
  show Jvm.Op.cmpValue (some (compareOfLessAndEq a b)) o = _
  unfold compareOfLessAndEq
  by_cases h1 : a < b
  · simp [h1]; cases o <;> rfl
  · by_cases h2 : a = b
    · simp [h2]; cases o <;> rfl
    · simp [h1, h2]; cases o <;> rfl
end OwnFP
end Jvm.Pilot.@@N@@
namespace Jvm.Pilot.@@N@@
open Jvm Jvm.ClassFile Sem Op Lib Jvm.Free Jvm.Stand Jvm.LawKit Jvm.RoadKit Jvm.Free.Fl Bundle Jvm.Pilot.@@N@@.Jvm.D
/-- the run from A ends, and what it leaves meets F -/
def Rn (p : Program) (e : Env) (below : List Frame) (A : State) (F : Outcome → State → Prop) : Prop := ∃ s₂ o, Steps p.tables e below A s₂ ∧ s₂.status = .running ∧ Ended s₂ below o ∧ F o s₂
theorem Rn.st {p : Program} {e : Env} {below : List Frame} {A B : State} {F : Outcome → State → Prop} (h : ∀ t, Steps p.tables e below B t → Steps p.tables e below A t) (r : Rn p e below B F) : Rn p e below A F := by
  obtain ⟨s₂, o, h1, h2⟩ := r
  exact ⟨s₂, o, h _ h1, h2⟩
theorem Rn.ret {p : Program} {l : Launch} {e : Env} {R : Room} {s : State} {m : MethodId} {args : Array Value} {below : List Frame} {meth : Method} {c : Code} {T : State} {locs : List Loc} {cells slots k n : Nat} {A : State} {h : Heap}
    (X : Stand p l e R s m args below meth c T locs cells slots) (hlk : meth.locks = false) {v : Option Value} (hv : meth.sig.returnType = none → v = none) {Q : Option Value → Heap → List Loc → Prop} (eT : T.heap = h)
    (last : ∀ fs, (∀ (f : JFrame) (acts : List Action), f.method = m → f.locked = none → f.entered = [] → (doReturn e (T.setTop f) acts v).1 = T.setFrames fs) → Steps p.tables e below A (T.setFrames fs))
    (q : Q v h locs) (hc : cells ≤ k) (hs : slots ≤ n) : Rn p e below A (fun o U' => ∃ v L, o = .returned v ∧ Q v U'.heap L ∧ FrameEnd s o U' L k n) := by
  obtain ⟨fs, hr, hrun, hended, hW, hsame⟩ := X.leave hv hlk
  refine ⟨_, _, last fs hr, hrun, hended, _, _, rfl, ?_, ⟨_, rfl⟩, hW, hsame.mono hc hs⟩
  show Q v T.heap locs
  rw [eT]; exact q
theorem own_sta_keep {Z : State} {h h' : Heap} {C n d : String} {w : Value} {ws : List Addr} (F : Sta Z h C n d w) (K : Keep h h' ws) (q : ∀ x ∈ ws, ∀ cell : Cell, h[x]? = some cell → cell.vm.isStatics = false) : Sta Z h' C n d w := by
  obtain ⟨cf, i, k, f, st, cell, h1, h2, h3, h4, h5, h6, h7⟩ := F
  refine ⟨cf, i, k, f, st, cell, h1, h2, h3, h4, K.2.1 st cell h5 (fun hm => ?_), h6, h7⟩
  have e := q st hm cell h5
  rw [h6] at e
  exact absurd e (by decide)
theorem own_wadd (a b : Int32) : (a.toInt64 + b.toInt64).toInt = a.toInt + b.toInt := by
  have h1 := Int32.toInt_lt a; have h2 := Int32.le_toInt a; have h3 := Int32.toInt_lt b; have h4 := Int32.le_toInt b
  rw [Int64.toInt_add, Int32.toInt_toInt64, Int32.toInt_toInt64, Int.bmod_eq_of_le (by omega) (by omega)]
theorem own_mulL {a b : Int64} (h : (a.toInt * b.toInt).natAbs < 9223372036854775808) : (a * b).toInt = a.toInt * b.toInt := by
  rw [Int64.toInt_mul, Int.bmod_eq_of_le (by omega) (by omega)]
theorem own_addL {a b : Int64} (h : (a.toInt + b.toInt).natAbs < 9223372036854775808) : (a + b).toInt = a.toInt + b.toInt := by
  rw [Int64.toInt_add, Int.bmod_eq_of_le (by omega) (by omega)]
theorem own_subI {a b : Int32} (h : -2147483648 ≤ a.toInt - b.toInt ∧ a.toInt - b.toInt < 2147483648) : (a - b).toInt = a.toInt - b.toInt := by
  rw [Int32.toInt_sub, Int.bmod_eq_of_le (by omega) (by omega)]
theorem own_addI {a b : Int32} (h : -2147483648 ≤ a.toInt + b.toInt ∧ a.toInt + b.toInt < 2147483648) : (a + b).toInt = a.toInt + b.toInt := by
  rw [Int32.toInt_add, Int.bmod_eq_of_le (by omega) (by omega)]
theorem own_mulI {a b : Int32} (h : (a.toInt * b.toInt).natAbs < 2147483648) : (a * b).toInt = a.toInt * b.toInt := by
  rw [Int32.toInt_mul, Int.bmod_eq_of_le (by omega) (by omega)]
theorem own_masked {a r m : Int32} {d : Int} (hm : 0 ≤ m.toInt) (hd : 0 < d) {k : Int32} (hk : k.toInt = d) (h : (a &&& m) % k = r) : 0 ≤ r.toInt ∧ r.toInt < d := by
  have q := c_and a m hm
  have t := (c_irem (a &&& m) k d hk).1 q.1
  rw [h] at t
  rw [t]
  exact ⟨Int.emod_nonneg _ (Int.ne_of_gt hd), Int.emod_lt_of_pos _ hd⟩
theorem own_eqI {a b : Int32} (h : a.toInt = b.toInt) : a = b := Int32.toInt_inj.mp h
theorem own_neI {a b : Int32} (h : ¬ a.toInt = b.toInt) : ¬ a = b := fun q => h (congrArg Int32.toInt q)
theorem own_bd {j n : Int32} (h : 0 ≤ j.toInt ∧ j.toInt < n.toInt) : ¬ j < 0 ∧ j < n := by
  constructor
  · rw [Int32.lt_iff_toInt_lt]; have : (0 : Int32).toInt = 0 := by decide
    omega
  · rw [Int32.lt_iff_toInt_lt]; exact h.2
theorem own_getH_nil (dv : Value) (n : Nat) : getH [] [] dv n = dv := by simp [getH]
theorem own_pb {a b : Int} {A B : Nat} (ha : a.natAbs ≤ A) (hb : b.natAbs ≤ B) : (a * b).natAbs ≤ A * B := by rw [Int.natAbs_mul]; exact Nat.mul_le_mul ha hb
theorem own_b (a : Int32) : -2147483648 ≤ a.toInt ∧ a.toInt < 2147483648 := ⟨Int32.le_toInt a, Int32.toInt_lt a⟩
theorem own_wsub (a b : Int32) : (a.toInt64 - b.toInt64).toInt = a.toInt - b.toInt := by
  have h1 := Int32.toInt_lt a; have h2 := Int32.le_toInt a; have h3 := Int32.toInt_lt b; have h4 := Int32.le_toInt b
  rw [Int64.toInt_sub, Int32.toInt_toInt64, Int32.toInt_toInt64, Int.bmod_eq_of_le (by omega) (by omega)]
section RSteps
variable {p : Program} {l : Launch} {e : Env} {R : Room} {s : State} {m : MethodId} {args : Array Value} {below : List Frame} {meth : Method} {c : Code} {T : State} {locs : List Loc} {cells slots : Nat} {G : Outcome → State → Prop} {L L' : Array Slot} {S : List Value} {pc pc' : Nat}
theorem R.iloadN (X : Stand p l e R s m args below meth c T locs cells slots) (hx : p.tables.exec = Jvm.exec) {k : Fin 4} {v : Int32} (hd : decode c.code pc = .ok (.iload_n k, 1)) (hl : L[k.val]? = some (.val (.int v))) (hp : pc + 1 = pc') (r : Rn p e below (T.setTop (mkF m pc' L (.int v :: S))) G) : Rn p e below (T.setTop (mkF m pc L (S))) G := by
  subst hp; exact Rn.st (fun t q => XS.iloadN X.here hx rfl hd hl q) r
theorem R.iload (X : Stand p l e R s m args below meth c T locs cells slots) (hx : p.tables.exec = Jvm.exec) {k : Nat} {v : Int32} (hd : decode c.code pc = .ok (.iload k, 2)) (hl : L[k]? = some (.val (.int v))) (hp : pc + 2 = pc') (r : Rn p e below (T.setTop (mkF m pc' L (.int v :: S))) G) : Rn p e below (T.setTop (mkF m pc L (S))) G := by
  subst hp; exact Rn.st (fun t q => XS.iload X.here hx rfl hd hl q) r
theorem R.istoreN (X : Stand p l e R s m args below meth c T locs cells slots) (hx : p.tables.exec = Jvm.exec) {k : Fin 4} {v : Int32} (hd : decode c.code pc = .ok (.istore_n k, 1)) (hl : storeLocals L k.val (.int v) = some L') (hp : pc + 1 = pc') (r : Rn p e below (T.setTop (mkF m pc' L' (S))) G) : Rn p e below (T.setTop (mkF m pc L (.int v :: S))) G := by
  subst hp; exact Rn.st (fun t q => XS.istoreN X.here hx rfl hd rfl hl q) r
theorem R.istore (X : Stand p l e R s m args below meth c T locs cells slots) (hx : p.tables.exec = Jvm.exec) {k : Nat} {v : Int32} (hd : decode c.code pc = .ok (.istore k, 2)) (hl : storeLocals L k (.int v) = some L') (hp : pc + 2 = pc') (r : Rn p e below (T.setTop (mkF m pc' L' (S))) G) : Rn p e below (T.setTop (mkF m pc L (.int v :: S))) G := by
  subst hp; exact Rn.st (fun t q => XS.istore X.here hx rfl hd rfl hl q) r
theorem R.lloadN (X : Stand p l e R s m args below meth c T locs cells slots) (hx : p.tables.exec = Jvm.exec) {k : Fin 4} {v : Int64} (hd : decode c.code pc = .ok (.lload_n k, 1)) (hl : L[k.val]? = some (.val (.long v))) (hp : pc + 1 = pc') (r : Rn p e below (T.setTop (mkF m pc' L (.long v :: S))) G) : Rn p e below (T.setTop (mkF m pc L (S))) G := by
  subst hp; exact Rn.st (fun t q => XS.lloadN X.here hx rfl hd hl q) r
theorem R.lload (X : Stand p l e R s m args below meth c T locs cells slots) (hx : p.tables.exec = Jvm.exec) {k : Nat} {v : Int64} (hd : decode c.code pc = .ok (.lload k, 2)) (hl : L[k]? = some (.val (.long v))) (hp : pc + 2 = pc') (r : Rn p e below (T.setTop (mkF m pc' L (.long v :: S))) G) : Rn p e below (T.setTop (mkF m pc L (S))) G := by
  subst hp; exact Rn.st (fun t q => XS.lload X.here hx rfl hd hl q) r
theorem R.lstoreN (X : Stand p l e R s m args below meth c T locs cells slots) (hx : p.tables.exec = Jvm.exec) {k : Fin 4} {v : Int64} (hd : decode c.code pc = .ok (.lstore_n k, 1)) (hl : storeLocals L k.val (.long v) = some L') (hp : pc + 1 = pc') (r : Rn p e below (T.setTop (mkF m pc' L' (S))) G) : Rn p e below (T.setTop (mkF m pc L (.long v :: S))) G := by
  subst hp; exact Rn.st (fun t q => XS.lstoreN X.here hx rfl hd rfl hl q) r
theorem R.lstore (X : Stand p l e R s m args below meth c T locs cells slots) (hx : p.tables.exec = Jvm.exec) {k : Nat} {v : Int64} (hd : decode c.code pc = .ok (.lstore k, 2)) (hl : storeLocals L k (.long v) = some L') (hp : pc + 2 = pc') (r : Rn p e below (T.setTop (mkF m pc' L' (S))) G) : Rn p e below (T.setTop (mkF m pc L (.long v :: S))) G := by
  subst hp; exact Rn.st (fun t q => XS.lstore X.here hx rfl hd rfl hl q) r
theorem R.dloadN (X : Stand p l e R s m args below meth c T locs cells slots) (hx : p.tables.exec = Jvm.exec) {k : Fin 4} {v : UInt64} (hd : decode c.code pc = .ok (.dload_n k, 1)) (hl : L[k.val]? = some (.val (.double v))) (hp : pc + 1 = pc') (r : Rn p e below (T.setTop (mkF m pc' L (.double v :: S))) G) : Rn p e below (T.setTop (mkF m pc L (S))) G := by
  subst hp; exact Rn.st (fun t q => XS.dloadN X.here hx rfl hd hl q) r
theorem R.dload (X : Stand p l e R s m args below meth c T locs cells slots) (hx : p.tables.exec = Jvm.exec) {k : Nat} {v : UInt64} (hd : decode c.code pc = .ok (.dload k, 2)) (hl : L[k]? = some (.val (.double v))) (hp : pc + 2 = pc') (r : Rn p e below (T.setTop (mkF m pc' L (.double v :: S))) G) : Rn p e below (T.setTop (mkF m pc L (S))) G := by
  subst hp; exact Rn.st (fun t q => XS.dload X.here hx rfl hd hl q) r
theorem R.dstoreN (X : Stand p l e R s m args below meth c T locs cells slots) (hx : p.tables.exec = Jvm.exec) {k : Fin 4} {v : UInt64} (hd : decode c.code pc = .ok (.dstore_n k, 1)) (hl : storeLocals L k.val (.double v) = some L') (hp : pc + 1 = pc') (r : Rn p e below (T.setTop (mkF m pc' L' (S))) G) : Rn p e below (T.setTop (mkF m pc L (.double v :: S))) G := by
  subst hp; exact Rn.st (fun t q => XS.dstoreN X.here hx rfl hd rfl hl q) r
theorem R.dstore (X : Stand p l e R s m args below meth c T locs cells slots) (hx : p.tables.exec = Jvm.exec) {k : Nat} {v : UInt64} (hd : decode c.code pc = .ok (.dstore k, 2)) (hl : storeLocals L k (.double v) = some L') (hp : pc + 2 = pc') (r : Rn p e below (T.setTop (mkF m pc' L' (S))) G) : Rn p e below (T.setTop (mkF m pc L (.double v :: S))) G := by
  subst hp; exact Rn.st (fun t q => XS.dstore X.here hx rfl hd rfl hl q) r
theorem R.aloadN (X : Stand p l e R s m args below meth c T locs cells slots) (hx : p.tables.exec = Jvm.exec) {k : Fin 4} {v : Value} (hd : decode c.code pc = .ok (.aload_n k, 1)) (hl : L[k.val]? = some (.val v)) (hv : v.isRef = true) (hp : pc + 1 = pc') (r : Rn p e below (T.setTop (mkF m pc' L (v :: S))) G) : Rn p e below (T.setTop (mkF m pc L (S))) G := by
  subst hp; exact Rn.st (fun t q => XS.aloadN X.here hx rfl hd hl hv q) r
theorem R.aload (X : Stand p l e R s m args below meth c T locs cells slots) (hx : p.tables.exec = Jvm.exec) {k : Nat} {v : Value} (hd : decode c.code pc = .ok (.aload k, 2)) (hl : L[k]? = some (.val v)) (hv : v.isRef = true) (hp : pc + 2 = pc') (r : Rn p e below (T.setTop (mkF m pc' L (v :: S))) G) : Rn p e below (T.setTop (mkF m pc L (S))) G := by
  subst hp; exact Rn.st (fun t q => XS.aload X.here hx rfl hd hl hv q) r
theorem R.astoreN (X : Stand p l e R s m args below meth c T locs cells slots) (hx : p.tables.exec = Jvm.exec) {k : Fin 4} {v : Value} (hd : decode c.code pc = .ok (.astore_n k, 1)) (hv : v.isRef = true) (hl : storeLocals L k.val v = some L') (hp : pc + 1 = pc') (r : Rn p e below (T.setTop (mkF m pc' L' (S))) G) : Rn p e below (T.setTop (mkF m pc L (v :: S))) G := by
  subst hp; exact Rn.st (fun t q => XS.astoreN X.here hx rfl hd rfl hv hl q) r
theorem R.astore (X : Stand p l e R s m args below meth c T locs cells slots) (hx : p.tables.exec = Jvm.exec) {k : Nat} {v : Value} (hd : decode c.code pc = .ok (.astore k, 2)) (hv : v.isRef = true) (hl : storeLocals L k v = some L') (hp : pc + 2 = pc') (r : Rn p e below (T.setTop (mkF m pc' L' (S))) G) : Rn p e below (T.setTop (mkF m pc L (v :: S))) G := by
  subst hp; exact Rn.st (fun t q => XS.astore X.here hx rfl hd rfl hv hl q) r
theorem R.iconst (X : Stand p l e R s m args below meth c T locs cells slots) (hx : p.tables.exec = Jvm.exec) {i : Int} {v : Int32} (hd : decode c.code pc = .ok (.iconst i, 1)) (hv : Int32.ofInt i = v) (hp : pc + 1 = pc') (r : Rn p e below (T.setTop (mkF m pc' L (.int v :: S))) G) : Rn p e below (T.setTop (mkF m pc L (S))) G := by
  subst hp hv; exact Rn.st (fun t q => XS.iconst X.here hx rfl hd q) r
theorem R.bipush (X : Stand p l e R s m args below meth c T locs cells slots) (hx : p.tables.exec = Jvm.exec) {i : Int} {v : Int32} (hd : decode c.code pc = .ok (.bipush i, 2)) (hv : (Int8.ofInt i).toInt32 = v) (hp : pc + 2 = pc') (r : Rn p e below (T.setTop (mkF m pc' L (.int v :: S))) G) : Rn p e below (T.setTop (mkF m pc L (S))) G := by
  subst hp hv; exact Rn.st (fun t q => XS.bipush X.here hx rfl hd q) r
theorem R.sipush (X : Stand p l e R s m args below meth c T locs cells slots) (hx : p.tables.exec = Jvm.exec) {i : Int} {v : Int32} (hd : decode c.code pc = .ok (.sipush i, 3)) (hv : (Int16.ofInt i).toInt32 = v) (hp : pc + 3 = pc') (r : Rn p e below (T.setTop (mkF m pc' L (.int v :: S))) G) : Rn p e below (T.setTop (mkF m pc L (S))) G := by
  subst hp hv; exact Rn.st (fun t q => XS.sipush X.here hx rfl hd q) r
theorem R.lconst (X : Stand p l e R s m args below meth c T locs cells slots) (hx : p.tables.exec = Jvm.exec) {i : Fin 2} {v : Int64} (hd : decode c.code pc = .ok (.lconst i, 1)) (hv : Int64.ofNat i = v) (hp : pc + 1 = pc') (r : Rn p e below (T.setTop (mkF m pc' L (.long v :: S))) G) : Rn p e below (T.setTop (mkF m pc L (S))) G := by
  subst hp hv; exact Rn.st (fun t q => XS.lconst X.here hx rfl hd q) r
theorem R.dconst0 (X : Stand p l e R s m args below meth c T locs cells slots) (hx : p.tables.exec = Jvm.exec)  (hd : decode c.code pc = .ok (.dconst 0, 1)) (hp : pc + 1 = pc') (r : Rn p e below (T.setTop (mkF m pc' L (.double FP.dconst0 :: S))) G) : Rn p e below (T.setTop (mkF m pc L (S))) G := by
  subst hp; exact Rn.st (fun t q => XS.dconst0 X.here hx rfl hd rfl q) r
theorem R.dconst1 (X : Stand p l e R s m args below meth c T locs cells slots) (hx : p.tables.exec = Jvm.exec)  (hd : decode c.code pc = .ok (.dconst 1, 1)) (hp : pc + 1 = pc') (r : Rn p e below (T.setTop (mkF m pc' L (.double FP.dconst1 :: S))) G) : Rn p e below (T.setTop (mkF m pc L (S))) G := by
  subst hp; exact Rn.st (fun t q => XS.dconst1 X.here hx rfl hd rfl q) r
theorem R.aconstNull (X : Stand p l e R s m args below meth c T locs cells slots) (hx : p.tables.exec = Jvm.exec)  (hd : decode c.code pc = .ok (.aconst_null, 1)) (hp : pc + 1 = pc') (r : Rn p e below (T.setTop (mkF m pc' L (.null :: S))) G) : Rn p e below (T.setTop (mkF m pc L (S))) G := by
  subst hp; exact Rn.st (fun t q => XS.aconstNull X.here hx rfl hd q) r
theorem R.iadd (X : Stand p l e R s m args below meth c T locs cells slots) (hx : p.tables.exec = Jvm.exec) {x y v : Int32} (hd : decode c.code pc = .ok (.iadd, 1)) (hv : x + y = v) (hp : pc + 1 = pc') (r : Rn p e below (T.setTop (mkF m pc' L (.int v :: S))) G) : Rn p e below (T.setTop (mkF m pc L (.int y :: .int x :: S))) G := by
  subst hp hv; exact Rn.st (fun t q => XS.iadd X.here hx rfl hd rfl q) r
theorem R.ladd (X : Stand p l e R s m args below meth c T locs cells slots) (hx : p.tables.exec = Jvm.exec) {x y v : Int64} (hd : decode c.code pc = .ok (.ladd, 1)) (hv : x + y = v) (hp : pc + 1 = pc') (r : Rn p e below (T.setTop (mkF m pc' L (.long v :: S))) G) : Rn p e below (T.setTop (mkF m pc L (.long y :: .long x :: S))) G := by
  subst hp hv; exact Rn.st (fun t q => XS.ladd X.here hx rfl hd rfl q) r
theorem R.isub (X : Stand p l e R s m args below meth c T locs cells slots) (hx : p.tables.exec = Jvm.exec) {x y v : Int32} (hd : decode c.code pc = .ok (.isub, 1)) (hv : x - y = v) (hp : pc + 1 = pc') (r : Rn p e below (T.setTop (mkF m pc' L (.int v :: S))) G) : Rn p e below (T.setTop (mkF m pc L (.int y :: .int x :: S))) G := by
  subst hp hv; exact Rn.st (fun t q => XS.isub X.here hx rfl hd rfl q) r
theorem R.lsub (X : Stand p l e R s m args below meth c T locs cells slots) (hx : p.tables.exec = Jvm.exec) {x y v : Int64} (hd : decode c.code pc = .ok (.lsub, 1)) (hv : x - y = v) (hp : pc + 1 = pc') (r : Rn p e below (T.setTop (mkF m pc' L (.long v :: S))) G) : Rn p e below (T.setTop (mkF m pc L (.long y :: .long x :: S))) G := by
  subst hp hv; exact Rn.st (fun t q => XS.lsub X.here hx rfl hd rfl q) r
theorem R.imul (X : Stand p l e R s m args below meth c T locs cells slots) (hx : p.tables.exec = Jvm.exec) {x y v : Int32} (hd : decode c.code pc = .ok (.imul, 1)) (hv : x * y = v) (hp : pc + 1 = pc') (r : Rn p e below (T.setTop (mkF m pc' L (.int v :: S))) G) : Rn p e below (T.setTop (mkF m pc L (.int y :: .int x :: S))) G := by
  subst hp hv; exact Rn.st (fun t q => XS.imul X.here hx rfl hd rfl q) r
theorem R.lmul (X : Stand p l e R s m args below meth c T locs cells slots) (hx : p.tables.exec = Jvm.exec) {x y v : Int64} (hd : decode c.code pc = .ok (.lmul, 1)) (hv : x * y = v) (hp : pc + 1 = pc') (r : Rn p e below (T.setTop (mkF m pc' L (.long v :: S))) G) : Rn p e below (T.setTop (mkF m pc L (.long y :: .long x :: S))) G := by
  subst hp hv; exact Rn.st (fun t q => XS.lmul X.here hx rfl hd rfl q) r
theorem R.iand (X : Stand p l e R s m args below meth c T locs cells slots) (hx : p.tables.exec = Jvm.exec) {x y v : Int32} (hd : decode c.code pc = .ok (.iand, 1)) (hv : x &&& y = v) (hp : pc + 1 = pc') (r : Rn p e below (T.setTop (mkF m pc' L (.int v :: S))) G) : Rn p e below (T.setTop (mkF m pc L (.int y :: .int x :: S))) G := by
  subst hp hv; exact Rn.st (fun t q => XS.iand X.here hx rfl hd rfl q) r
theorem R.land (X : Stand p l e R s m args below meth c T locs cells slots) (hx : p.tables.exec = Jvm.exec) {x y v : Int64} (hd : decode c.code pc = .ok (.land, 1)) (hv : x &&& y = v) (hp : pc + 1 = pc') (r : Rn p e below (T.setTop (mkF m pc' L (.long v :: S))) G) : Rn p e below (T.setTop (mkF m pc L (.long y :: .long x :: S))) G := by
  subst hp hv; exact Rn.st (fun t q => XS.land X.here hx rfl hd rfl q) r
theorem R.ior (X : Stand p l e R s m args below meth c T locs cells slots) (hx : p.tables.exec = Jvm.exec) {x y v : Int32} (hd : decode c.code pc = .ok (.ior, 1)) (hv : x ||| y = v) (hp : pc + 1 = pc') (r : Rn p e below (T.setTop (mkF m pc' L (.int v :: S))) G) : Rn p e below (T.setTop (mkF m pc L (.int y :: .int x :: S))) G := by
  subst hp hv; exact Rn.st (fun t q => XS.ior X.here hx rfl hd rfl q) r
theorem R.lor (X : Stand p l e R s m args below meth c T locs cells slots) (hx : p.tables.exec = Jvm.exec) {x y v : Int64} (hd : decode c.code pc = .ok (.lor, 1)) (hv : x ||| y = v) (hp : pc + 1 = pc') (r : Rn p e below (T.setTop (mkF m pc' L (.long v :: S))) G) : Rn p e below (T.setTop (mkF m pc L (.long y :: .long x :: S))) G := by
  subst hp hv; exact Rn.st (fun t q => XS.lor X.here hx rfl hd rfl q) r
theorem R.ixor (X : Stand p l e R s m args below meth c T locs cells slots) (hx : p.tables.exec = Jvm.exec) {x y v : Int32} (hd : decode c.code pc = .ok (.ixor, 1)) (hv : x ^^^ y = v) (hp : pc + 1 = pc') (r : Rn p e below (T.setTop (mkF m pc' L (.int v :: S))) G) : Rn p e below (T.setTop (mkF m pc L (.int y :: .int x :: S))) G := by
  subst hp hv; exact Rn.st (fun t q => XS.ixor X.here hx rfl hd rfl q) r
theorem R.lxor (X : Stand p l e R s m args below meth c T locs cells slots) (hx : p.tables.exec = Jvm.exec) {x y v : Int64} (hd : decode c.code pc = .ok (.lxor, 1)) (hv : x ^^^ y = v) (hp : pc + 1 = pc') (r : Rn p e below (T.setTop (mkF m pc' L (.long v :: S))) G) : Rn p e below (T.setTop (mkF m pc L (.long y :: .long x :: S))) G := by
  subst hp hv; exact Rn.st (fun t q => XS.lxor X.here hx rfl hd rfl q) r
theorem R.ineg (X : Stand p l e R s m args below meth c T locs cells slots) (hx : p.tables.exec = Jvm.exec) {x : Int32} (hd : decode c.code pc = .ok (.ineg, 1)) (hp : pc + 1 = pc') (r : Rn p e below (T.setTop (mkF m pc' L (.int (-x) :: S))) G) : Rn p e below (T.setTop (mkF m pc L (.int x :: S))) G := by
  subst hp; exact Rn.st (fun t q => XS.ineg X.here hx rfl hd rfl q) r
theorem R.lneg (X : Stand p l e R s m args below meth c T locs cells slots) (hx : p.tables.exec = Jvm.exec) {x : Int64} (hd : decode c.code pc = .ok (.lneg, 1)) (hp : pc + 1 = pc') (r : Rn p e below (T.setTop (mkF m pc' L (.long (-x) :: S))) G) : Rn p e below (T.setTop (mkF m pc L (.long x :: S))) G := by
  subst hp; exact Rn.st (fun t q => XS.lneg X.here hx rfl hd rfl q) r
theorem R.i2l (X : Stand p l e R s m args below meth c T locs cells slots) (hx : p.tables.exec = Jvm.exec) {x : Int32} (hd : decode c.code pc = .ok (.i2l, 1)) (hp : pc + 1 = pc') (r : Rn p e below (T.setTop (mkF m pc' L (.long (x.toInt64) :: S))) G) : Rn p e below (T.setTop (mkF m pc L (.int x :: S))) G := by
  subst hp; exact Rn.st (fun t q => XS.i2l X.here hx rfl hd rfl q) r
theorem R.l2i (X : Stand p l e R s m args below meth c T locs cells slots) (hx : p.tables.exec = Jvm.exec) {x : Int64} (hd : decode c.code pc = .ok (.l2i, 1)) (hp : pc + 1 = pc') (r : Rn p e below (T.setTop (mkF m pc' L (.int (x.toInt32) :: S))) G) : Rn p e below (T.setTop (mkF m pc L (.long x :: S))) G := by
  subst hp; exact Rn.st (fun t q => XS.l2i X.here hx rfl hd rfl q) r
theorem R.i2b (X : Stand p l e R s m args below meth c T locs cells slots) (hx : p.tables.exec = Jvm.exec) {x : Int32} (hd : decode c.code pc = .ok (.i2b, 1)) (hp : pc + 1 = pc') (r : Rn p e below (T.setTop (mkF m pc' L (.int (x.toInt8.toInt32) :: S))) G) : Rn p e below (T.setTop (mkF m pc L (.int x :: S))) G := by
  subst hp; exact Rn.st (fun t q => XS.i2b X.here hx rfl hd rfl q) r
theorem R.i2s (X : Stand p l e R s m args below meth c T locs cells slots) (hx : p.tables.exec = Jvm.exec) {x : Int32} (hd : decode c.code pc = .ok (.i2s, 1)) (hp : pc + 1 = pc') (r : Rn p e below (T.setTop (mkF m pc' L (.int (x.toInt16.toInt32) :: S))) G) : Rn p e below (T.setTop (mkF m pc L (.int x :: S))) G := by
  subst hp; exact Rn.st (fun t q => XS.i2s X.here hx rfl hd rfl q) r
theorem R.i2c (X : Stand p l e R s m args below meth c T locs cells slots) (hx : p.tables.exec = Jvm.exec) {x : Int32} (hd : decode c.code pc = .ok (.i2c, 1)) (hp : pc + 1 = pc') (r : Rn p e below (T.setTop (mkF m pc' L (.int (x.toUInt32.toUInt16.toUInt32.toInt32) :: S))) G) : Rn p e below (T.setTop (mkF m pc L (.int x :: S))) G := by
  subst hp; exact Rn.st (fun t q => XS.i2c X.here hx rfl hd rfl q) r
theorem R.ishl (X : Stand p l e R s m args below meth c T locs cells slots) (hx : p.tables.exec = Jvm.exec) {x : Int32} {y : Int32} (hd : decode c.code pc = .ok (.ishl, 1)) (hp : pc + 1 = pc') (r : Rn p e below (T.setTop (mkF m pc' L (.int (x <<< (y &&& 31)) :: S))) G) : Rn p e below (T.setTop (mkF m pc L (.int y :: .int x :: S))) G := by
  subst hp; exact Rn.st (fun t q => XS.ishl X.here hx rfl hd rfl q) r
theorem R.ishr (X : Stand p l e R s m args below meth c T locs cells slots) (hx : p.tables.exec = Jvm.exec) {x : Int32} {y : Int32} (hd : decode c.code pc = .ok (.ishr, 1)) (hp : pc + 1 = pc') (r : Rn p e below (T.setTop (mkF m pc' L (.int (x >>> (y &&& 31)) :: S))) G) : Rn p e below (T.setTop (mkF m pc L (.int y :: .int x :: S))) G := by
  subst hp; exact Rn.st (fun t q => XS.ishr X.here hx rfl hd rfl q) r
theorem R.iushr (X : Stand p l e R s m args below meth c T locs cells slots) (hx : p.tables.exec = Jvm.exec) {x : Int32} {y : Int32} (hd : decode c.code pc = .ok (.iushr, 1)) (hp : pc + 1 = pc') (r : Rn p e below (T.setTop (mkF m pc' L (.int ((x.toUInt32 >>> (y &&& 31).toUInt32).toInt32) :: S))) G) : Rn p e below (T.setTop (mkF m pc L (.int y :: .int x :: S))) G := by
  subst hp; exact Rn.st (fun t q => XS.iushr X.here hx rfl hd rfl q) r
theorem R.lshl (X : Stand p l e R s m args below meth c T locs cells slots) (hx : p.tables.exec = Jvm.exec) {x : Int64} {y : Int32} (hd : decode c.code pc = .ok (.lshl, 1)) (hp : pc + 1 = pc') (r : Rn p e below (T.setTop (mkF m pc' L (.long (x <<< (y &&& 63).toInt64) :: S))) G) : Rn p e below (T.setTop (mkF m pc L (.int y :: .long x :: S))) G := by
  subst hp; exact Rn.st (fun t q => XS.lshl X.here hx rfl hd rfl q) r
theorem R.lshr (X : Stand p l e R s m args below meth c T locs cells slots) (hx : p.tables.exec = Jvm.exec) {x : Int64} {y : Int32} (hd : decode c.code pc = .ok (.lshr, 1)) (hp : pc + 1 = pc') (r : Rn p e below (T.setTop (mkF m pc' L (.long (x >>> (y &&& 63).toInt64) :: S))) G) : Rn p e below (T.setTop (mkF m pc L (.int y :: .long x :: S))) G := by
  subst hp; exact Rn.st (fun t q => XS.lshr X.here hx rfl hd rfl q) r
theorem R.lcmp (X : Stand p l e R s m args below meth c T locs cells slots) (hx : p.tables.exec = Jvm.exec) {x y : Int64} (hd : decode c.code pc = .ok (.lcmp, 1)) (hp : pc + 1 = pc') (r : Rn p e below (T.setTop (mkF m pc' L (.int (lcmpW x y) :: S))) G) : Rn p e below (T.setTop (mkF m pc L (.long y :: .long x :: S))) G := by
  subst hp; exact Rn.st (fun t q => XS.lcmp X.here hx rfl hd rfl q) r
theorem R.idiv (X : Stand p l e R s m args below meth c T locs cells slots) (hx : p.tables.exec = Jvm.exec) {x y : Int32} (hd : decode c.code pc = .ok (.idiv, 1)) (hy : y ≠ 0) (hp : pc + 1 = pc') (r : Rn p e below (T.setTop (mkF m pc' L (.int (x / y) :: S))) G) : Rn p e below (T.setTop (mkF m pc L (.int y :: .int x :: S))) G := by
  subst hp; exact Rn.st (fun t q => XS.idiv X.here hx rfl hd rfl hy q) r
theorem R.irem (X : Stand p l e R s m args below meth c T locs cells slots) (hx : p.tables.exec = Jvm.exec) {x y : Int32} (hd : decode c.code pc = .ok (.irem, 1)) (hy : y ≠ 0) (hp : pc + 1 = pc') (r : Rn p e below (T.setTop (mkF m pc' L (.int (x % y) :: S))) G) : Rn p e below (T.setTop (mkF m pc L (.int y :: .int x :: S))) G := by
  subst hp; exact Rn.st (fun t q => iremM X hx rfl hd rfl hy q) r
theorem R.ldiv (X : Stand p l e R s m args below meth c T locs cells slots) (hx : p.tables.exec = Jvm.exec) {x y : Int64} (hd : decode c.code pc = .ok (.ldiv, 1)) (hy : y ≠ 0) (hp : pc + 1 = pc') (r : Rn p e below (T.setTop (mkF m pc' L (.long (x / y) :: S))) G) : Rn p e below (T.setTop (mkF m pc L (.long y :: .long x :: S))) G := by
  subst hp; exact Rn.st (fun t q => XS.ldiv X.here hx rfl hd rfl hy q) r
theorem R.lrem (X : Stand p l e R s m args below meth c T locs cells slots) (hx : p.tables.exec = Jvm.exec) {x y : Int64} (hd : decode c.code pc = .ok (.lrem, 1)) (hy : y ≠ 0) (hp : pc + 1 = pc') (r : Rn p e below (T.setTop (mkF m pc' L (.long (x - (x / y) * y) :: S))) G) : Rn p e below (T.setTop (mkF m pc L (.long y :: .long x :: S))) G := by
  subst hp; exact Rn.st (fun t q => XS.lrem X.here hx rfl hd rfl hy q) r
theorem R.i2d (X : Stand p l e R s m args below meth c T locs cells slots) (hx : p.tables.exec = Jvm.exec) {x : Int32} (hd : decode c.code pc = .ok (.i2d, 1)) (hp : pc + 1 = pc') (r : Rn p e below (T.setTop (mkF m pc' L (.double (FP.i2d x) :: S))) G) : Rn p e below (T.setTop (mkF m pc L (.int x :: S))) G := by
  subst hp; exact Rn.st (fun t q => XS.i2dS X.here hx rfl hd rfl rfl q) r
theorem R.l2d (X : Stand p l e R s m args below meth c T locs cells slots) (hx : p.tables.exec = Jvm.exec) {x : Int64} (hd : decode c.code pc = .ok (.l2d, 1)) (hp : pc + 1 = pc') (r : Rn p e below (T.setTop (mkF m pc' L (.double (FP.l2d x) :: S))) G) : Rn p e below (T.setTop (mkF m pc L (.long x :: S))) G := by
  subst hp; exact Rn.st (fun t q => XS.l2dS X.here hx rfl hd rfl rfl q) r
theorem R.d2i (X : Stand p l e R s m args below meth c T locs cells slots) (hx : p.tables.exec = Jvm.exec) {x : UInt64} (hd : decode c.code pc = .ok (.d2i, 1)) (hp : pc + 1 = pc') (r : Rn p e below (T.setTop (mkF m pc' L (.int (FP.d2i x) :: S))) G) : Rn p e below (T.setTop (mkF m pc L (.double x :: S))) G := by
  subst hp; exact Rn.st (fun t q => XS.d2iS X.here hx rfl hd rfl rfl q) r
theorem R.d2l (X : Stand p l e R s m args below meth c T locs cells slots) (hx : p.tables.exec = Jvm.exec) {x : UInt64} (hd : decode c.code pc = .ok (.d2l, 1)) (hp : pc + 1 = pc') (r : Rn p e below (T.setTop (mkF m pc' L (.long (FP.d2l x) :: S))) G) : Rn p e below (T.setTop (mkF m pc L (.double x :: S))) G := by
  subst hp; exact Rn.st (fun t q => XS.d2lS X.here hx rfl hd rfl rfl q) r
theorem R.dadd (X : Stand p l e R s m args below meth c T locs cells slots) (hx : p.tables.exec = Jvm.exec) {x y : UInt64} (hd : decode c.code pc = .ok (.dadd, 1)) (hn : NoNaN64 (FP.dadd x y)) (hp : pc + 1 = pc') (r : Rn p e below (T.setTop (mkF m pc' L (.double (FP.dadd x y) :: S))) G) : Rn p e below (T.setTop (mkF m pc L (.double y :: .double x :: S))) G := by
  subst hp; exact Rn.st (fun t q => XS.daddS X.here hx rfl hd rfl hn rfl q) r
theorem R.dsub (X : Stand p l e R s m args below meth c T locs cells slots) (hx : p.tables.exec = Jvm.exec) {x y : UInt64} (hd : decode c.code pc = .ok (.dsub, 1)) (hn : NoNaN64 (FP.dsub x y)) (hp : pc + 1 = pc') (r : Rn p e below (T.setTop (mkF m pc' L (.double (FP.dsub x y) :: S))) G) : Rn p e below (T.setTop (mkF m pc L (.double y :: .double x :: S))) G := by
  subst hp; exact Rn.st (fun t q => XS.dsubS X.here hx rfl hd rfl hn rfl q) r
theorem R.dmul (X : Stand p l e R s m args below meth c T locs cells slots) (hx : p.tables.exec = Jvm.exec) {x y : UInt64} (hd : decode c.code pc = .ok (.dmul, 1)) (hn : NoNaN64 (FP.dmul x y)) (hp : pc + 1 = pc') (r : Rn p e below (T.setTop (mkF m pc' L (.double (FP.dmul x y) :: S))) G) : Rn p e below (T.setTop (mkF m pc L (.double y :: .double x :: S))) G := by
  subst hp; exact Rn.st (fun t q => XS.dmulS X.here hx rfl hd rfl hn rfl q) r
theorem R.ddiv (X : Stand p l e R s m args below meth c T locs cells slots) (hx : p.tables.exec = Jvm.exec) {x y : UInt64} (hd : decode c.code pc = .ok (.ddiv, 1)) (hn : NoNaN64 (FP.ddiv x y)) (hp : pc + 1 = pc') (r : Rn p e below (T.setTop (mkF m pc' L (.double (FP.ddiv x y) :: S))) G) : Rn p e below (T.setTop (mkF m pc L (.double y :: .double x :: S))) G := by
  subst hp; exact Rn.st (fun t q => XS.ddivS X.here hx rfl hd rfl hn rfl q) r
theorem R.dneg (X : Stand p l e R s m args below meth c T locs cells slots) (hx : p.tables.exec = Jvm.exec) {x : UInt64} (hd : decode c.code pc = .ok (.dneg, 1)) (hp : pc + 1 = pc') (r : Rn p e below (T.setTop (mkF m pc' L (.double (FP.dneg x) :: S))) G) : Rn p e below (T.setTop (mkF m pc L (.double x :: S))) G := by
  subst hp; exact Rn.st (fun t q => XS.dnegS X.here hx rfl hd rfl rfl q) r
theorem R.dcmp (X : Stand p l e R s m args below meth c T locs cells slots) (hx : p.tables.exec = Jvm.exec) {o : CmpOp} {x y : UInt64} {v : Int32} (hd : decode c.code pc = .ok (.dcmp o, 1)) (hv : cmpValue (FP.dcmp x y) o = v) (hp : pc + 1 = pc') (r : Rn p e below (T.setTop (mkF m pc' L (.int v :: S))) G) : Rn p e below (T.setTop (mkF m pc L (.double y :: .double x :: S))) G := by
  subst hp; exact Rn.st (fun t q => XS.dcmpS X.here hx rfl hd rfl hv q) r
theorem R.iinc (X : Stand p l e R s m args below meth c T locs cells slots) (hx : p.tables.exec = Jvm.exec) {k : Nat} {cst : Int} {x : Int32} (hd : decode c.code pc = .ok (.iinc k cst, 3)) (hl : L[k]? = some (.val (.int x))) (hl' : storeLocals L k (.int (x + Int32.ofInt cst)) = some L') (hp : pc + 3 = pc') (r : Rn p e below (T.setTop (mkF m pc' L' (S))) G) : Rn p e below (T.setTop (mkF m pc L (S))) G := by
  subst hp; exact Rn.st (fun t q => XS.iinc X.here hx rfl hd hl hl' q) r
theorem R.dup (X : Stand p l e R s m args below meth c T locs cells slots) (hx : p.tables.exec = Jvm.exec) {x : Value} (hd : decode c.code pc = .ok (.dup, 1)) (hc : x.category = 1) (hp : pc + 1 = pc') (r : Rn p e below (T.setTop (mkF m pc' L (x :: x :: S))) G) : Rn p e below (T.setTop (mkF m pc L (x :: S))) G := by
  subst hp; exact Rn.st (fun t q => XS.dup X.here hx rfl hd rfl hc q) r
theorem R.dupX1 (X : Stand p l e R s m args below meth c T locs cells slots) (hx : p.tables.exec = Jvm.exec) {x y : Value} (hd : decode c.code pc = .ok (.dup_x1, 1)) (hc : x.category = 1) (hc' : y.category = 1) (hp : pc + 1 = pc') (r : Rn p e below (T.setTop (mkF m pc' L (x :: y :: x :: S))) G) : Rn p e below (T.setTop (mkF m pc L (x :: y :: S))) G := by
  subst hp; exact Rn.st (fun t q => XS.dupX1 X.here hx rfl hd rfl hc hc' q) r
theorem R.dup2 (X : Stand p l e R s m args below meth c T locs cells slots) (hx : p.tables.exec = Jvm.exec) {x y : Value} (hd : decode c.code pc = .ok (.dup2, 1)) (hc : x.category = 1) (hc' : y.category = 1) (hp : pc + 1 = pc') (r : Rn p e below (T.setTop (mkF m pc' L (x :: y :: x :: y :: S))) G) : Rn p e below (T.setTop (mkF m pc L (x :: y :: S))) G := by
  subst hp; exact Rn.st (fun t q => Jvm.Free.XT.dup2 X.here hx rfl hd rfl hc hc' q) r
theorem R.pop (X : Stand p l e R s m args below meth c T locs cells slots) (hx : p.tables.exec = Jvm.exec) {x : Value} (hd : decode c.code pc = .ok (.pop, 1)) (hc : x.category = 1) (hp : pc + 1 = pc') (r : Rn p e below (T.setTop (mkF m pc' L (S))) G) : Rn p e below (T.setTop (mkF m pc L (x :: S))) G := by
  subst hp; exact Rn.st (fun t q => XS.pop X.here hx rfl hd rfl hc q) r
theorem R.ifYes (X : Stand p l e R s m args below meth c T locs cells slots) (hx : p.tables.exec = Jvm.exec) {cd : ClassFile.Cond} {x : Int32} {o : Int} (hd : decode c.code pc = .ok (.ifCond cd o, 3)) (hc : if_icmp.holds cd x 0 = true) (ho : 0 ≤ (pc : Int) + o) (hp : ((pc : Int) + o).toNat = pc') (r : Rn p e below (T.setTop (mkF m pc' L S)) G) : Rn p e below (T.setTop (mkF m pc L (.int x :: S))) G :=
  Rn.st (fun t q => XS.ifYes X.here hx rfl rfl hd rfl ((if0 _ _).trans hc) ho hp q) r
theorem R.ifNo (X : Stand p l e R s m args below meth c T locs cells slots) (hx : p.tables.exec = Jvm.exec) {cd : ClassFile.Cond} {x : Int32} {o : Int} (hd : decode c.code pc = .ok (.ifCond cd o, 3)) (hc : if_icmp.holds cd x 0 = false) (hp : pc + 3 = pc') (r : Rn p e below (T.setTop (mkF m pc' L (S))) G) : Rn p e below (T.setTop (mkF m pc L (.int x :: S))) G := by
  subst hp; exact Rn.st (fun t q => XS.ifNo X.here hx rfl hd rfl ((if0 _ _).trans hc) q) r
theorem R.icmpYes (X : Stand p l e R s m args below meth c T locs cells slots) (hx : p.tables.exec = Jvm.exec) {cd : ClassFile.Cond} {x y : Int32} {o : Int} (hd : decode c.code pc = .ok (.if_icmp cd o, 3)) (hc : if_icmp.holds cd x y = true) (ho : 0 ≤ (pc : Int) + o) (hp : ((pc : Int) + o).toNat = pc') (r : Rn p e below (T.setTop (mkF m pc' L S)) G) : Rn p e below (T.setTop (mkF m pc L (.int y :: .int x :: S))) G :=
  Rn.st (fun t q => XS.icmpYes X.here hx rfl rfl hd rfl hc ho hp q) r
theorem R.icmpNo (X : Stand p l e R s m args below meth c T locs cells slots) (hx : p.tables.exec = Jvm.exec) {cd : ClassFile.Cond} {x y : Int32} {o : Int} (hd : decode c.code pc = .ok (.if_icmp cd o, 3)) (hc : if_icmp.holds cd x y = false) (hp : pc + 3 = pc') (r : Rn p e below (T.setTop (mkF m pc' L (S))) G) : Rn p e below (T.setTop (mkF m pc L (.int y :: .int x :: S))) G := by
  subst hp; exact Rn.st (fun t q => XS.icmpNo X.here hx rfl hd rfl hc q) r
theorem R.goto (X : Stand p l e R s m args below meth c T locs cells slots) (hx : p.tables.exec = Jvm.exec)  {o : Int} (hd : decode c.code pc = .ok (.goto o, 3)) (ho : 0 ≤ (pc : Int) + o) (hp : ((pc : Int) + o).toNat = pc') (r : Rn p e below (T.setTop (mkF m pc' L S)) G) : Rn p e below (T.setTop (mkF m pc L (S))) G :=
  Rn.st (fun t q => XS.goto X.here hx rfl rfl hd ho hp q) r
theorem R.ifnullYes (X : Stand p l e R s m args below meth c T locs cells slots) (hx : p.tables.exec = Jvm.exec)  {o : Int} (hd : decode c.code pc = .ok (.ifnull o, 3)) (ho : 0 ≤ (pc : Int) + o) (hp : ((pc : Int) + o).toNat = pc') (r : Rn p e below (T.setTop (mkF m pc' L S)) G) : Rn p e below (T.setTop (mkF m pc L (.null :: S))) G :=
  Rn.st (fun t q => XS.ifnullYes X.here hx rfl rfl hd rfl ho hp q) r
theorem R.ifnullNo (X : Stand p l e R s m args below meth c T locs cells slots) (hx : p.tables.exec = Jvm.exec) {b : Addr} {o : Int} (hd : decode c.code pc = .ok (.ifnull o, 3)) (hp : pc + 3 = pc') (r : Rn p e below (T.setTop (mkF m pc' L (S))) G) : Rn p e below (T.setTop (mkF m pc L (.ref b :: S))) G := by
  subst hp; exact Rn.st (fun t q => XS.ifnullNo X.here hx rfl hd rfl q) r
theorem R.ifnonnullYes (X : Stand p l e R s m args below meth c T locs cells slots) (hx : p.tables.exec = Jvm.exec) {b : Addr} {o : Int} (hd : decode c.code pc = .ok (.ifnonnull o, 3)) (ho : 0 ≤ (pc : Int) + o) (hp : ((pc : Int) + o).toNat = pc') (r : Rn p e below (T.setTop (mkF m pc' L S)) G) : Rn p e below (T.setTop (mkF m pc L (.ref b :: S))) G :=
  Rn.st (fun t q => XS.ifnonnullYes X.here hx rfl rfl hd rfl ho hp q) r
theorem R.ifnonnullNo (X : Stand p l e R s m args below meth c T locs cells slots) (hx : p.tables.exec = Jvm.exec)  {o : Int} (hd : decode c.code pc = .ok (.ifnonnull o, 3)) (hp : pc + 3 = pc') (r : Rn p e below (T.setTop (mkF m pc' L (S))) G) : Rn p e below (T.setTop (mkF m pc L (.null :: S))) G := by
  subst hp; exact Rn.st (fun t q => XS.ifnonnullNo X.here hx rfl hd rfl q) r
end RSteps
section RBig
variable {p : Program} {l : Launch} {e : Env} {R : Room} {s : State} {m : MethodId} {args : Array Value} {below : List Frame} {meth : Method} {c : Code} {T : State} {locs : List Loc} {cells slots : Nat} {G : Outcome → State → Prop} {L L' : Array Slot} {S : List Value} {pc pc' : Nat} {Z : State} {a0 : Array Value} {h : Heap} {a : Addr} {own : String} {index : Nat}
theorem R.getF (X : Stand p l e R s m args below meth c T locs cells slots) (hx : p.tables.exec = Jvm.exec) (hZ : Z.Warmed39 s.vm) {R0 O n d host : String} (hown : s.vm.findClass own = some m.cls) (w : (Jvm.Cond.fieldLink own index R0 n d).before a0 Z = true ∨ (Jvm.Cond.fieldLinkNest own index R0 n d host).before a0 Z = true) (via : Via Z R0 O n d) (eT : T.heap = h) {v : Value} (F : Fld Z h a O n d v)
    (hd : decode c.code pc = .ok (.getfield index, 3)) (hp : pc + 3 = pc') (K : ∀ T', Stand p l e R s m args below meth c T' locs cells slots → T'.heap = h → Rn p e below (T'.setTop (mkF m pc' L (v :: S))) G) : Rn p e below (T.setTop (mkF m pc L (.ref a :: S))) G := by
  subst hp
  obtain ⟨T', X', e', st⟩ := getF X hx hZ hown w via eT F (g := mkF m pc L (.ref a :: S)) rfl rfl hd
  exact Rn.st st (K T' X' e')
theorem R.getS (X : Stand p l e R s m args below meth c T locs cells slots) (hx : p.tables.exec = Jvm.exec) (hZ : Z.Warmed39 s.vm) {R0 O n d host : String} (hown : s.vm.findClass own = some m.cls) (w : (Jvm.Cond.fieldLink own index R0 n d).before a0 Z = true ∨ (Jvm.Cond.fieldLinkNest own index R0 n d host).before a0 Z = true) (via : Via Z R0 O n d) (eT : T.heap = h) {v : Value} (F : Sta Z h O n d v)
    (hd : decode c.code pc = .ok (.getstatic index, 3)) (hp : pc + 3 = pc') (K : ∀ T', Stand p l e R s m args below meth c T' locs cells slots → T'.heap = h → Rn p e below (T'.setTop (mkF m pc' L (v :: S))) G) : Rn p e below (T.setTop (mkF m pc L S)) G := by
  subst hp
  obtain ⟨T', X', e', st⟩ := getS2 X hx hZ hown w via eT F (g := mkF m pc L S) rfl hd
  exact Rn.st st (K T' X' e')
theorem R.putF (X : Stand p l e R s m args below meth c T locs cells slots) (hx : p.tables.exec = Jvm.exec) (hZ : Z.Warmed39 s.vm) {R0 O n d host C : String} {kk : Nat} {ty : FieldType} (hown : s.vm.findClass own = some m.cls) (w : (Jvm.Cond.fieldLink own index R0 n d).before a0 Z = true ∨ (Jvm.Cond.fieldLinkNest own index R0 n d host).before a0 Z = true) (via : Via Z R0 O n d) (eT : T.heap = h) {v old : Value} (F : Fld Z h a O n d old) (E : Exa Z h a C)
    (Ly : (Jvm.Cond.lays C O n d).before a0 Z = true ∨ ((Jvm.Cond.laysFinal C O n d).before a0 Z = true ∧ own = O ∧ meth.name = "<init>")) (wi : (Jvm.Cond.instantiable C kk).before a0 Z = true) (hty : parseFieldDescriptor d = some ty) (hn : narrow ty v = v) (hf : fits ty v = true)
    (hd : decode c.code pc = .ok (.putfield index, 3)) (hp : pc + 3 = pc') (K : ∀ T' h', Stand p l e R s m args below meth c T' (locs ++ [⟨a, Jvm.RoadKit.slotOf Z O n d⟩]) cells slots → T'.heap = h' → Wr h h' a (Jvm.RoadKit.slotOf Z O n d) v → Rn p e below (T'.setTop (mkF m pc' L S)) G) : Rn p e below (T.setTop (mkF m pc L (v :: .ref a :: S))) G := by
  subst hp
  obtain ⟨T', h', X', e', W', st⟩ := putF X hx hZ hown w via eT F E Ly wi hty hn hf (g := mkF m pc L (v :: .ref a :: S)) rfl rfl hd
  exact Rn.st st (K T' h' X' e' W')
theorem R.newO (X : Stand p l e R s m args below meth c T locs cells slots) (hx : p.tables.exec = Jvm.exec) (hZ : Z.Warmed39 s.vm) {C : String} {n : Nat} (hown : s.vm.findClass own = some m.cls) (w : (Jvm.Cond.classLink own index C).before a0 Z = true) (wi : (Jvm.Cond.instantiable C n).before a0 Z = true) (wz : (Jvm.Cond.initialized C).before a0 Z = true) (eT : T.heap = h)
    (hd : decode c.code pc = .ok (.new index, 3)) (hp : pc + 3 = pc') (hc : cells + 1 ≤ R.cells) (hl : slots + n ≤ R.slots)
    (K : ∀ T' h' b, b = h.size → Stand p l e R s m args below meth c T' locs (cells + 1) (slots + n) → T'.heap = h' → Ext h h' → Exa Z h' b C → (∀ {O nm d : String} {ty : FieldType}, Laid Z a0 C O nm d → parseFieldDescriptor d = some ty → Fld Z h' b O nm d (defaultValue ty)) → Rn p e below (T'.setTop (mkF m pc' L (.ref b :: S))) G) : Rn p e below (T.setTop (mkF m pc L S)) G := by
  subst hp
  obtain ⟨T', h', X', e', E', A', D', -, st⟩ := newO X hx hZ hown w wi wz eT (g := mkF m pc L S) rfl hd hc hl
  exact Rn.st st (K T' h' _ rfl X' e' E' A' D')
theorem R.newP (X : Stand p l e R s m args below meth c T locs cells slots) (hx : p.tables.exec = Jvm.exec) (hZ : Z.Warmed39 s.vm) {aty : ArrayType} {ty : FieldType} (hty : newarray.typeOf aty = ty) (w : (Jvm.Cond.arrayClass ty).before a0 Z = true) (eT : T.heap = h) {n : Int32} (hn : ¬ n < 0) {cap : Nat} (hcap : n.toNatClampNeg ≤ cap) (hb : cap * 8 ≤ 536870912) {ad : String} (had : "[" ++ ty.toString = ad)
    (hd : decode c.code pc = .ok (.newarray aty, 2)) (hp : pc + 2 = pc') (hc : cells + 1 ≤ R.cells) (hl : slots + cap ≤ R.slots)
    (K : ∀ T' h' b k, b = h.size → Stand p l e R s m args below meth c T' locs (cells + 1) (slots + cap) → T'.heap = h' → Ext h h' → Exa Z h' b ad → Arh Z h' b k ty n [] [] (defaultValue ty) → Rn p e below (T'.setTop (mkF m pc' L (.ref b :: S))) G) : Rn p e below (T.setTop (mkF m pc L (.int n :: S))) G := by
  subst hp hty
  obtain ⟨T', h', k, X', e', E', A', EE, st⟩ := newPE X hx hZ w eT (g := mkF m pc L (.int n :: S)) rfl hd rfl hn hcap hb hc hl had
  exact Rn.st st (K T' h' _ k rfl X' e' E' EE (Arv.new A' hn).arh)
section Arr
variable {k : ClassId} {z : Int32} {hs : List (Int32 × Value)} {vs : List Value} {dv : Value} {j : Int32}
theorem R.alen (X : Stand p l e R s m args below meth c T locs cells slots) (hx : p.tables.exec = Jvm.exec) (hZ : Z.Warmed39 s.vm) (eT : T.heap = h) {ty : FieldType} (F : Arh Z h a k ty z hs vs dv) (hd : decode c.code pc = .ok (.arraylength, 1)) (hp : pc + 1 = pc') (r : Rn p e below (T.setTop (mkF m pc' L (.int z :: S))) G) : Rn p e below (T.setTop (mkF m pc L (.ref a :: S))) G := by
  subst hp
  obtain ⟨cl, Ar, qA, SA, NA, HA, GA⟩ := F
  exact Rn.st (fun t q => X.arraylength hx (by rw [eT]; exact Ar.1) (State.isArrayOf_alike hZ.alike Ar.2.1) (g := mkF m pc L (.ref a :: S)) rfl rfl hd _ (by rw [len_of SA NA]; exact q)) r
theorem R.daload (X : Stand p l e R s m args below meth c T locs cells slots) (hx : p.tables.exec = Jvm.exec) (hZ : Z.Warmed39 s.vm) (eT : T.heap = h) (F : Arh Z h a k .double z hs vs dv) (hb : ¬ j < 0 ∧ j < z) {v : Value} (hv : getH hs vs dv j.toNatClampNeg = v) (hd : decode c.code pc = .ok (.daload, 1)) (hp : pc + 1 = pc') (r : Rn p e below (T.setTop (mkF m pc' L (v :: S))) G) : Rn p e below (T.setTop (mkF m pc L (.int j :: .ref a :: S))) G := by
  subst hp
  obtain ⟨cl, Ar, qA, SA, NA, HA, GA⟩ := F
  have hin := inb_of SA hb
  exact Rn.st (fun t q => X.daload hx (by rw [eT]; exact Ar.1) (State.isArrayOf_alike hZ.alike Ar.2.1) Ar.2.2 hin (atH HA hin hv) (g := mkF m pc L (.int j :: .ref a :: S)) rfl rfl hd _ q) r
theorem R.iaload (X : Stand p l e R s m args below meth c T locs cells slots) (hx : p.tables.exec = Jvm.exec) (hZ : Z.Warmed39 s.vm) (eT : T.heap = h) (F : Arh Z h a k .int z hs vs dv) (hb : ¬ j < 0 ∧ j < z) {v : Value} (hv : getH hs vs dv j.toNatClampNeg = v) (hd : decode c.code pc = .ok (.iaload, 1)) (hp : pc + 1 = pc') (r : Rn p e below (T.setTop (mkF m pc' L (v :: S))) G) : Rn p e below (T.setTop (mkF m pc L (.int j :: .ref a :: S))) G := by
  subst hp
  obtain ⟨cl, Ar, qA, SA, NA, HA, GA⟩ := F
  have hin := inb_of SA hb
  exact Rn.st (fun t q => X.iaload hx (by rw [eT]; exact Ar.1) (State.isArrayOf_alike hZ.alike Ar.2.1) Ar.2.2 hin (atH HA hin hv) (g := mkF m pc L (.int j :: .ref a :: S)) rfl rfl hd _ q) r
theorem R.baloadZ (X : Stand p l e R s m args below meth c T locs cells slots) (hx : p.tables.exec = Jvm.exec) (hZ : Z.Warmed39 s.vm) (eT : T.heap = h) (F : Arh Z h a k .boolean z hs vs dv) (hb : ¬ j < 0 ∧ j < z) {v : Value} (hv : getH hs vs dv j.toNatClampNeg = v) (hd : decode c.code pc = .ok (.baload, 1)) (hp : pc + 1 = pc') (r : Rn p e below (T.setTop (mkF m pc' L (v :: S))) G) : Rn p e below (T.setTop (mkF m pc L (.int j :: .ref a :: S))) G := by
  subst hp
  obtain ⟨cl, Ar, qA, SA, NA, HA, GA⟩ := F
  have hin := inb_of SA hb
  exact Rn.st (fun t q => X.baloadBooleans hx (by rw [eT]; exact Ar.1) (State.isArrayOf_alike hZ.alike Ar.2.1) Ar.2.2 hin (atH HA hin hv) (g := mkF m pc L (.int j :: .ref a :: S)) rfl rfl hd _ q) r
theorem R.dastore (X : Stand p l e R s m args below meth c T locs cells slots) (hx : p.tables.exec = Jvm.exec) (hZ : Z.Warmed39 s.vm) (eT : T.heap = h) (F : Arh Z h a k .double z hs vs dv) (hb : ¬ j < 0 ∧ j < z) {x : UInt64} (hd : decode c.code pc = .ok (.dastore, 1)) (hp : pc + 1 = pc')
    (K : ∀ T' h', Stand p l e R s m args below meth c T' (locs ++ [⟨a, j.toNatClampNeg⟩]) cells slots → T'.heap = h' → Wr h h' a j.toNatClampNeg (.double x) → Arh Z h' a k .double z ((j, .double x) :: hs) vs dv → Rn p e below (T'.setTop (mkF m pc' L S)) G) : Rn p e below (T.setTop (mkF m pc L (.double x :: .int j :: .ref a :: S))) G := by
  subst hp
  obtain ⟨cl, Ar, qA, SA, NA, HA, GA⟩ := F
  have hin := inb_of SA hb
  obtain ⟨T', h', X', e', W', st⟩ := stD X hx hZ eT Ar (j := j) hin (g := mkF m pc L (.double x :: .int j :: .ref a :: S)) rfl rfl hd
  exact Rn.st st (K T' h' X' e' W' (Arh.push Ar qA SA NA HA GA rfl W' hin))
theorem R.iastore (X : Stand p l e R s m args below meth c T locs cells slots) (hx : p.tables.exec = Jvm.exec) (hZ : Z.Warmed39 s.vm) (eT : T.heap = h) (F : Arh Z h a k .int z hs vs dv) (hb : ¬ j < 0 ∧ j < z) {x : Int32} (hd : decode c.code pc = .ok (.iastore, 1)) (hp : pc + 1 = pc')
    (K : ∀ T' h', Stand p l e R s m args below meth c T' (locs ++ [⟨a, j.toNatClampNeg⟩]) cells slots → T'.heap = h' → Wr h h' a j.toNatClampNeg (.int x) → Arh Z h' a k .int z ((j, .int x) :: hs) vs dv → Rn p e below (T'.setTop (mkF m pc' L S)) G) : Rn p e below (T.setTop (mkF m pc L (.int x :: .int j :: .ref a :: S))) G := by
  subst hp
  obtain ⟨cl, Ar, qA, SA, NA, HA, GA⟩ := F
  have hin := inb_of SA hb
  obtain ⟨T', h', X', e', W', st⟩ := stI X hx hZ eT Ar (j := j) hin (g := mkF m pc L (.int x :: .int j :: .ref a :: S)) rfl rfl hd
  exact Rn.st st (K T' h' X' e' W' (Arh.push Ar qA SA NA HA GA rfl W' hin))
theorem R.bastoreZ (X : Stand p l e R s m args below meth c T locs cells slots) (hx : p.tables.exec = Jvm.exec) (hZ : Z.Warmed39 s.vm) (eT : T.heap = h) (F : Arh Z h a k .boolean z hs vs dv) (hb : ¬ j < 0 ∧ j < z) {x : Int32} (hn : nar .boolean x = x) (hd : decode c.code pc = .ok (.bastore, 1)) (hp : pc + 1 = pc')
    (K : ∀ T' h', Stand p l e R s m args below meth c T' (locs ++ [⟨a, j.toNatClampNeg⟩]) cells slots → T'.heap = h' → Wr h h' a j.toNatClampNeg (.int x) → Arh Z h' a k .boolean z ((j, .int x) :: hs) vs dv → Rn p e below (T'.setTop (mkF m pc' L S)) G) : Rn p e below (T.setTop (mkF m pc L (.int x :: .int j :: .ref a :: S))) G := by
  subst hp
  obtain ⟨cl, Ar, qA, SA, NA, HA, GA⟩ := F
  have hin := inb_of SA hb
  obtain ⟨T', h', X', e', W', st⟩ := stZ X hx hZ eT Ar (j := j) hin (g := mkF m pc L (.int x :: .int j :: .ref a :: S)) rfl rfl hd
  rw [hn] at W'
  exact Rn.st st (K T' h' X' e' W' (Arh.push Ar qA SA NA HA GA (by have q := fits_nar_bool x; rw [hn] at q; exact q) W' hin))
end Arr
theorem R.ldc2D (X : Stand p l e R s m args below meth c T locs cells slots) (hx : p.tables.exec = Jvm.exec) (hZ : Z.Warmed39 s.vm) {b : UInt64} (hown : s.vm.findClass own = some m.cls) (w : (Jvm.Cond.constantDouble own index b).before a0 Z = true) (hd : decode c.code pc = .ok (.ldc2_w index, 3)) (hp : pc + 3 = pc') (r : Rn p e below (T.setTop (mkF m pc' L (.double b :: S))) G) : Rn p e below (T.setTop (mkF m pc L S)) G := by
  subst hp; exact Rn.st (fun t q => X.ldc2DoubleC hx hown (mvT hZ w) (g := mkF m pc L S) rfl hd _ q) r
theorem R.ldc2J (X : Stand p l e R s m args below meth c T locs cells slots) (hx : p.tables.exec = Jvm.exec) (hZ : Z.Warmed39 s.vm) {b : Int64} (hown : s.vm.findClass own = some m.cls) (w : (Jvm.Cond.constantLong own index b).before a0 Z = true) (hd : decode c.code pc = .ok (.ldc2_w index, 3)) (hp : pc + 3 = pc') (r : Rn p e below (T.setTop (mkF m pc' L (.long b :: S))) G) : Rn p e below (T.setTop (mkF m pc L S)) G := by
  subst hp; exact Rn.st (fun t q => X.ldc2Long hx hown (mvT hZ w) (g := mkF m pc L S) rfl hd _ q) r
theorem R.ldcI (X : Stand p l e R s m args below meth c T locs cells slots) (hx : p.tables.exec = Jvm.exec) (hZ : Z.Warmed39 s.vm) {b : Int32} (hown : s.vm.findClass own = some m.cls) (w : (Jvm.Cond.constant own index b).before a0 Z = true) (hd : decode c.code pc = .ok (.ldc index, 2)) (hp : pc + 2 = pc') (r : Rn p e below (T.setTop (mkF m pc' L (.int b :: S))) G) : Rn p e below (T.setTop (mkF m pc L S)) G := by
  subst hp; exact Rn.st (fun t q => X.ldcInt hx hown (mvT hZ w) (g := mkF m pc L S) rfl hd _ q) r
theorem R.castY (X : Stand p l e R s m args below meth c T locs cells slots) (hx : p.tables.exec = Jvm.exec) (hZ : Z.Warmed39 s.vm) {C : String} (hown : s.vm.findClass own = some m.cls) (w : (Jvm.Cond.classLink own index C).before a0 Z = true) (eT : T.heap = h) (F : Ins Z h a C true) (hd : decode c.code pc = .ok (.checkcast index, 3)) (hp : pc + 3 = pc')
    (K : ∀ T', Stand p l e R s m args below meth c T' locs cells slots → T'.heap = h → Rn p e below (T'.setTop (mkF m pc' L (.ref a :: S))) G) : Rn p e below (T.setTop (mkF m pc L (.ref a :: S))) G := by
  subst hp
  obtain ⟨T', X', e', st⟩ := castY X hx hZ hown w eT F (g := mkF m pc L (.ref a :: S)) rfl rfl hd
  exact Rn.st st (K T' X' e')
theorem R.instY (X : Stand p l e R s m args below meth c T locs cells slots) (hx : p.tables.exec = Jvm.exec) (hZ : Z.Warmed39 s.vm) {C : String} (hown : s.vm.findClass own = some m.cls) (w : (Jvm.Cond.classLink own index C).before a0 Z = true) (eT : T.heap = h) (F : Ins Z h a C true) (hd : decode c.code pc = .ok (.instanceof index, 3)) (hp : pc + 3 = pc')
    (K : ∀ T', Stand p l e R s m args below meth c T' locs cells slots → T'.heap = h → Rn p e below (T'.setTop (mkF m pc' L (.int 1 :: S))) G) : Rn p e below (T.setTop (mkF m pc L (.ref a :: S))) G := by
  subst hp
  obtain ⟨T', X', e', st⟩ := instY X hx hZ hown w eT F (g := mkF m pc L (.ref a :: S)) rfl rfl hd
  exact Rn.st st (K T' X' e')
theorem R.instNo (X : Stand p l e R s m args below meth c T locs cells slots) (hx : p.tables.exec = Jvm.exec) (hZ : Z.Warmed39 s.vm) {C C' : String} (hown : s.vm.findClass own = some m.cls) (w : (Jvm.Cond.classLink own index C').before a0 Z = true) (eT : T.heap = h) (E : Exa Z h a C) (F : ∃ c t, Z.vm.findClass C = some c ∧ Z.vm.findClass C' = some t ∧ Z.vm.assignable c t = false) (hd : decode c.code pc = .ok (.instanceof index, 3)) (hp : pc + 3 = pc')
    (K : ∀ T', Stand p l e R s m args below meth c T' locs cells slots → T'.heap = h → Rn p e below (T'.setTop (mkF m pc' L (.int 0 :: S))) G) : Rn p e below (T.setTop (mkF m pc L (.ref a :: S))) G := by
  subst hp
  obtain ⟨T', X', e', st⟩ := instNo X hx hZ hown w eT E F (g := mkF m pc L (.ref a :: S)) rfl rfl hd
  exact Rn.st st (K T' X' e')
theorem R.initO (X : Stand p l e R s m args below meth c T locs cells slots) (hx : p.tables.exec = Jvm.exec) (hZ : Z.Warmed39 s.vm) (hown : s.vm.findClass own = some m.cls) (w1 : (Jvm.Cond.methodLink own index Lib.objectInit).before a0 Z = true) (w2 : (Jvm.Cond.instanceMethod Lib.objectInit).before a0 Z = true) (w3 : (Jvm.Cond.code Lib.objectInit ⟨#[0xb1]⟩ 1 none).before a0 Z = true) (eT : T.heap = h) (hsize : L.size = c.maxLocals)
    (hd : decode c.code pc = .ok (.invokespecial index, 3)) (hp : pc + 3 = pc') (hf : 1 ≤ R.frames) {W : Nat} (hW : (S.map fun v => v.category).sum ≤ W) (hl : W + 12 ≤ R.locals)
    (K : ∀ T', Stand p l e R s m args below meth c T' locs cells slots → T'.heap = h → Rn p e below (T'.setTop (mkF m pc' L S)) G) : Rn p e below (T.setTop (mkF m pc L (.ref a :: S))) G := by
  subst hp
  obtain ⟨T', X', e', st⟩ := initO X hx hZ hown w1 w2 w3 eT (g := mkF m pc L (.ref a :: S)) rfl hsize rfl hd hf (W := W) (by show 2 * 0 + _ ≤ W; rw [Nat.mul_zero, Nat.zero_add]; exact hW) hl
  exact Rn.st st (K T' X' e')
section Calls
variable {y : MethodName} {bytes : ByteArray} {maxL : Nat} {ret : Option FieldType} {rm : Room} {as' : List Value} {Q : Option Value → Heap → List Loc → Prop} {S0 : List Value} {W : Nat}
theorem R.callS (X : Stand p l e R s m args below meth c T locs cells slots) (hx : p.tables.exec = Jvm.exec) (hZ : Z.Warmed39 s.vm) (hown : s.vm.findClass own = some m.cls) (w1 : (Jvm.Cond.methodLink own index y).before a0 Z = true) (w2 : (Jvm.Cond.static y).before a0 Z = true) (w3 : (Jvm.Cond.initialized y.cls).before a0 Z = true) (w4 : (Jvm.Cond.code y bytes maxL ret).before a0 Z = true) (hy : y.cls ≠ "java/lang/invoke/MethodHandle" ∧ y.cls ≠ "java/lang/invoke/VarHandle") (eT : T.heap = h)
    (hM : MetFree l y (head1 [Jvm.Cond.code y bytes maxL ret] rm) (fun a U => a = as'.toArray ∧ Z.Warmed39 U.vm ∧ U.heap = h) (fun _ _ _ _ _ => True) (fun _ U o U' => ∃ v L, o = .returned v ∧ Q v U'.heap L ∧ FrameEnd U o U' L rm.cells rm.slots))
    (hf : rm.frames + 1 ≤ R.frames) (hW : (S.map fun v => v.category).sum ≤ W) (hl : W + (maxL + 11) + rm.locals ≤ R.locals) (hsize : L.size = c.maxLocals) (hlen : ∀ sig, parseMethodDescriptor y.desc = some sig → as'.length = sig.parameters.length) (hst : S0 = as'.reverse ++ S) (hd : decode c.code pc = .ok (.invokestatic index, 3)) (hp : pc + 3 = pc') (hc : cells + rm.cells ≤ R.cells) (hs : slots + rm.slots ≤ R.slots)
    (K : ∀ v T' L1, Stand p l e R s m args below meth c T' (locs ++ L1) (cells + rm.cells) (slots + rm.slots) → Q v T'.heap L1 → Rn p e below (T'.setTop (mkF m pc' L (v.toList ++ S))) G) : Rn p e below (T.setTop (mkF m pc L S0)) G := by
  subst hp
  obtain ⟨v, vm1, ⟨T', L2, k', n'⟩, -, X', ⟨Lc, hQ, l1, y1, z1⟩, st⟩ := Jvm.LawKit.callS X hx (y := y) hown (mvT hZ w1) (mvT hZ w2) (mvT hZ w3) (mvT hZ w4) hy (backOf (W := W) hM hZ w4 w3 hf hl) (g := mkF m pc L S0) rfl hsize (argsL := as') (rest := S) hlen hst (by show 2 * 0 + _ ≤ W; rw [Nat.mul_zero, Nat.zero_add]; exact hW) hd (fun _ _ => ⟨rfl, eT, hc, hs⟩)
  dsimp only [Pt.U, Pt.locs, Pt.cells, Pt.slots] at X' l1 y1 z1 st hQ
  subst l1 y1 z1
  exact Rn.st st (K v T' Lc X' hQ)
theorem R.special (X : Stand p l e R s m args below meth c T locs cells slots) (hx : p.tables.exec = Jvm.exec) (hZ : Z.Warmed39 s.vm) (hy1 : y.name = "<init>") (hown : s.vm.findClass own = some m.cls) (w1 : (Jvm.Cond.methodLink own index y).before a0 Z = true) (w2 : (Jvm.Cond.instanceMethod y).before a0 Z = true) (w3 : (Jvm.Cond.initialized y.cls).before a0 Z = true) (w4 : (Jvm.Cond.code y bytes maxL none).before a0 Z = true) (hy : y.cls ≠ "java/lang/invoke/MethodHandle" ∧ y.cls ≠ "java/lang/invoke/VarHandle") (eT : T.heap = h)
    (hM : MetFree l y (head1 [Jvm.Cond.code y bytes maxL none] rm) (fun u U => u = (.ref a :: as').toArray ∧ Z.Warmed39 U.vm ∧ U.heap = h) (fun _ _ _ _ _ => True) (fun _ U o U' => ∃ v L, o = .returned v ∧ Q v U'.heap L ∧ FrameEnd U o U' L rm.cells rm.slots))
    (hf : rm.frames + 1 ≤ R.frames) (hW : (S.map fun v => v.category).sum ≤ W) (hl : W + (maxL + 11) + rm.locals ≤ R.locals) (hsize : L.size = c.maxLocals) (hlen : ∀ sig, parseMethodDescriptor y.desc = some sig → as'.length = sig.parameters.length) (hst : S0 = as'.reverse ++ .ref a :: S) (hd : decode c.code pc = .ok (.invokespecial index, 3)) (hp : pc + 3 = pc') (hc : cells + rm.cells ≤ R.cells) (hs : slots + rm.slots ≤ R.slots)
    (K : ∀ v T' L1, Stand p l e R s m args below meth c T' (locs ++ L1) (cells + rm.cells) (slots + rm.slots) → Q v T'.heap L1 → Rn p e below (T'.setTop (mkF m pc' L (v.toList ++ S))) G) : Rn p e below (T.setTop (mkF m pc L S0)) G := by
  subst hp
  obtain ⟨v, vm1, ⟨T', L2, k', n'⟩, -, X', ⟨Lc, hQ, l1, y1, z1⟩, st⟩ := X.specialBack hx (y := y) hy1 hown (mvT hZ w1) (mvT hZ w2) (mvT hZ w4) hy (backOf (W := W) hM hZ w4 w3 hf hl) (g := mkF m pc L S0) rfl hsize (Steps.refl _) (a := a) (argsL := as') (rest := S) hlen hst (by show 2 * 0 + _ ≤ W; rw [Nat.mul_zero, Nat.zero_add]; exact hW) hd (fun _ _ => ⟨rfl, eT, hc, hs⟩)
  dsimp only [Pt.U, Pt.locs, Pt.cells, Pt.slots] at X' l1 y1 z1 st hQ
  subst l1 y1 z1
  exact Rn.st (fun t q => st.trans q) (K v T' Lc X' hQ)
theorem R.virtual (X : Stand p l e R s m args below meth c T locs cells slots) (hx : p.tables.exec = Jvm.exec) (hZ : Z.Warmed39 s.vm) {C : String} {z : MethodName} (hown : s.vm.findClass own = some m.cls) (w1 : (Jvm.Cond.methodLink own index y).before a0 Z = true) (w2 : (Jvm.Cond.declares y).before a0 Z = true) (hnf : NotFace s y) (w5 : (Jvm.Cond.selects C y z).before a0 Z = true) (w6 : (Jvm.Cond.instanceMethod z).before a0 Z = true) (w3 : (Jvm.Cond.initialized z.cls).before a0 Z = true) (w4 : (Jvm.Cond.code z bytes maxL ret).before a0 Z = true) (hy : y.cls ≠ "java/lang/invoke/MethodHandle" ∧ y.cls ≠ "java/lang/invoke/VarHandle") (eT : T.heap = h) (E : Exa Z h a C)
    (hM : MetFree l z (head1 [Jvm.Cond.code z bytes maxL ret] rm) (fun u U => u = (.ref a :: as').toArray ∧ Z.Warmed39 U.vm ∧ U.heap = h) (fun _ _ _ _ _ => True) (fun _ U o U' => ∃ v L, o = .returned v ∧ Q v U'.heap L ∧ FrameEnd U o U' L rm.cells rm.slots))
    (hf : rm.frames + 1 ≤ R.frames) (hW : (S.map fun v => v.category).sum ≤ W) (hl : W + (maxL + 11) + rm.locals ≤ R.locals) (hsize : L.size = c.maxLocals) (hlen : ∀ sig, parseMethodDescriptor y.desc = some sig → as'.length = sig.parameters.length) (hst : S0 = as'.reverse ++ .ref a :: S) (hd : decode c.code pc = .ok (.invokevirtual index, 3)) (hp : pc + 3 = pc') (hc : cells + rm.cells ≤ R.cells) (hs : slots + rm.slots ≤ R.slots)
    (K : ∀ v T' L1, Stand p l e R s m args below meth c T' (locs ++ L1) (cells + rm.cells) (slots + rm.slots) → Q v T'.heap L1 → Rn p e below (T'.setTop (mkF m pc' L (v.toList ++ S))) G) : Rn p e below (T.setTop (mkF m pc L S0)) G := by
  subst hp
  obtain ⟨cq, kq, qa, qb, qc⟩ := isOf hZ eT E
  obtain ⟨v, vm1, ⟨T', L2, k', n'⟩, -, X', ⟨Lc, hQ, l1, y1, z1⟩, st⟩ := X.virtualBack hx (y := y) (z := z) hown (mvT hZ w1) (mvT hZ w2) hnf (mvT hZ w5) (mvT hZ w6) hy (backOf (W := W) hM hZ w4 w3 hf hl) qa qc (g := mkF m pc L S0) rfl hsize (Steps.refl _) (argsL := as') (rest := S) hlen hst (by show 2 * 0 + _ ≤ W; rw [Nat.mul_zero, Nat.zero_add]; exact hW) hd (fun _ _ => ⟨rfl, eT, hc, hs⟩)
  dsimp only [Pt.U, Pt.locs, Pt.cells, Pt.slots] at X' l1 y1 z1 st hQ
  subst l1 y1 z1
  exact Rn.st (fun t q => st.trans q) (K v T' Lc X' hQ)
end Calls
end RBig
section RMore
variable {p : Program} {l : Launch} {e : Env} {R : Room} {s : State} {m : MethodId} {args : Array Value} {below : List Frame} {meth : Method} {c : Code} {T : State} {locs : List Loc} {cells slots : Nat} {G : Outcome → State → Prop} {L L' : Array Slot} {S : List Value} {pc pc' : Nat} {Z : State} {a0 : Array Value} {h : Heap} {a : Addr} {own : String} {index : Nat}
theorem R.aaload (X : Stand p l e R s m args below meth c T locs cells slots) (hx : p.tables.exec = Jvm.exec) (hZ : Z.Warmed39 s.vm) (eT : T.heap = h) {cl : Cell} {ty : FieldType} (Ar : Arr Z h a cl ty) (hr : ty.isReference = true) {j : Int32} (hin : ¬ (j < 0 ∨ cl.slots.size ≤ j.toNatClampNeg)) {v : Value} (hv : cl.slots[j.toNatClampNeg]? = some v) (hd : decode c.code pc = .ok (.aaload, 1)) (hp : pc + 1 = pc') (r : Rn p e below (T.setTop (mkF m pc' L (v :: S))) G) : Rn p e below (T.setTop (mkF m pc L (.int j :: .ref a :: S))) G := by
  subst hp
  exact Rn.st (fun t q => X.aaload hx (by rw [eT]; exact Ar.1) (State.isArrayOf_alike hZ.alike Ar.2.1) hr Ar.2.2 hin hv (g := mkF m pc L (.int j :: .ref a :: S)) rfl rfl hd _ q) r
theorem R.tsw (X : Stand p l e R s m args below meth c T locs cells slots) (hx : p.tables.exec = Jvm.exec) {dflt low high : Int} {offs : Array Int} {len : Nat} {o : Int} {i : Int32} (hd : decode c.code pc = .ok (.tableswitch dflt low high offs, len)) (hin : ¬ (i.toInt < low ∨ i.toInt > high)) (hoff : offs[(i.toInt - low).toNat]? = some o) (ho : 0 ≤ (pc : Int) + o) (hp : ((pc : Int) + o).toNat = pc') (r : Rn p e below (T.setTop (mkF m pc' L S)) G) : Rn p e below (T.setTop (mkF m pc L (.int i :: S))) G :=
  Rn.st (fun t q => XS.tswIn X.here hx rfl rfl hd rfl hin hoff ho hp q) r
theorem R.tswD (X : Stand p l e R s m args below meth c T locs cells slots) (hx : p.tables.exec = Jvm.exec) {dflt low high : Int} {offs : Array Int} {len : Nat} {i : Int32} (hd : decode c.code pc = .ok (.tableswitch dflt low high offs, len)) (hin : i.toInt < low ∨ i.toInt > high) (ho : 0 ≤ (pc : Int) + dflt) (hp : ((pc : Int) + dflt).toNat = pc') (r : Rn p e below (T.setTop (mkF m pc' L S)) G) : Rn p e below (T.setTop (mkF m pc L (.int i :: S))) G :=
  Rn.st (fun t q => XS.tswOut X.here hx rfl rfl hd rfl hin ho hp q) r
theorem R.virtualUp {x y : MethodName} {owner : String} {bytes : ByteArray} {maxL : Nat} {ret : Option FieldType} {rm : Room} {as' : List Value} {Q : Option Value → Heap → List Loc → Prop} {S0 : List Value} {W : Nat} (X : Stand p l e R s m args below meth c T locs cells slots) (hx : p.tables.exec = Jvm.exec) (hZ : Z.Warmed39 s.vm) {C : String} (hown : s.vm.findClass own = some m.cls) (w1 : (Jvm.Cond.methodLink own index x).before a0 Z = true) (w2 : (Jvm.Cond.sameMethod x.cls owner x.name x.desc).before a0 Z = true) (w7 : (Jvm.Cond.declares ⟨owner, x.name, x.desc⟩).before a0 Z = true) (w5 : (Jvm.Cond.selects C x y).before a0 Z = true) (w6 : (Jvm.Cond.instanceMethod y).before a0 Z = true) (w3 : (Jvm.Cond.initialized y.cls).before a0 Z = true) (w4 : (Jvm.Cond.code y bytes maxL ret).before a0 Z = true) (hy : owner ≠ "java/lang/invoke/MethodHandle" ∧ owner ≠ "java/lang/invoke/VarHandle") (eT : T.heap = h) (E : Exa Z h a C)
    (hM : MetFree l y (head1 [Jvm.Cond.code y bytes maxL ret] rm) (fun u U => u = (.ref a :: as').toArray ∧ Z.Warmed39 U.vm ∧ U.heap = h) (fun _ _ _ _ _ => True) (fun _ U o U' => ∃ v L, o = .returned v ∧ Q v U'.heap L ∧ FrameEnd U o U' L rm.cells rm.slots))
    (hf : rm.frames + 1 ≤ R.frames) (hW : (S.map fun v => v.category).sum ≤ W) (hl : W + (maxL + 11) + rm.locals ≤ R.locals) (hsize : L.size = c.maxLocals) (hlen : ∀ sig, parseMethodDescriptor x.desc = some sig → as'.length = sig.parameters.length) (hst : S0 = as'.reverse ++ .ref a :: S) (hd : decode c.code pc = .ok (.invokevirtual index, 3)) (hp : pc + 3 = pc') (hc : cells + rm.cells ≤ R.cells) (hs : slots + rm.slots ≤ R.slots)
    (K : ∀ v T' L1, Stand p l e R s m args below meth c T' (locs ++ L1) (cells + rm.cells) (slots + rm.slots) → Q v T'.heap L1 → Rn p e below (T'.setTop (mkF m pc' L (v.toList ++ S))) G) : Rn p e below (T.setTop (mkF m pc L S0)) G := by
  subst hp
  obtain ⟨cq, kq, qa, qb, qc⟩ := isOf hZ eT E
  obtain ⟨v, vm1, ⟨T', L2, k', n'⟩, -, X', ⟨Lc, hQ, l1, y1, z1⟩, st⟩ := X.virtualBackUp hx (x := x) (y := y) hown (mvT hZ w1) (mvT hZ w2) (mvT hZ w7) hy (mvT hZ w5) (mvT hZ w6) (backOf (W := W) hM hZ w4 w3 hf hl) qa qc (g := mkF m pc L S0) rfl hsize (Steps.refl _) (argsL := as') (rest := S) hlen hst (by show 2 * 0 + _ ≤ W; rw [Nat.mul_zero, Nat.zero_add]; exact hW) hd (fun _ _ => ⟨rfl, eT, hc, hs⟩)
  dsimp only [Pt.U, Pt.locs, Pt.cells, Pt.slots] at X' l1 y1 z1 st hQ
  subst l1 y1 z1
  exact Rn.st (fun t q => st.trans q) (K v T' Lc X' hQ)
end RMore
/-- the days of a month in a common year -/
def own_days (m : Int32) : Int32 := if m = (2 : Int32) then (28 : Int32) else if m = (4 : Int32) ∨ m = (6 : Int32) ∨ m = (9 : Int32) ∨ m = (11 : Int32) then (30 : Int32) else (31 : Int32)
def own_max (o : Int32) : Int32 := if o = (1 : Int32) then (29 : Int32) else if o = (3 : Int32) ∨ o = (5 : Int32) ∨ o = (8 : Int32) ∨ o = (10 : Int32) then (30 : Int32) else (31 : Int32)
def own_min (o : Int32) : Int32 := if o = (1 : Int32) then (28 : Int32) else if o = (3 : Int32) ∨ o = (5 : Int32) ∨ o = (8 : Int32) ∨ o = (10 : Int32) then (30 : Int32) else (31 : Int32)
/-- the twelve months stand in their array -/
def own_MF (Z : State) (en : Addr) : Prop := Sta Z Z.heap "java/time/Month" "ENUMS" "[Ljava/time/Month;" (.ref en) ∧ ∃ cl : Cell, Arr Z Z.heap en cl (.object "java/time/Month") ∧ cl.slots.size = 12 ∧ ∀ k : Int32, 0 ≤ k.toInt → k.toInt < 12 → ∃ a : Addr, cl.slots[k.toNatClampNeg]? = some (.ref a) ∧ Exa Z Z.heap a "java/time/Month" ∧ Fld Z Z.heap a "java/lang/Enum" "ordinal" "I" (.int k)
/-- the cache of Integers -/
def own_IC (Z : State) (ca : Addr) : Prop := Sta Z Z.heap "java/lang/Integer$IntegerCache" "high" "I" (.int (127 : Int32)) ∧ Sta Z Z.heap "java/lang/Integer$IntegerCache" "cache" "[Ljava/lang/Integer;" (.ref ca) ∧ ∃ cl : Cell, Arr Z Z.heap ca cl (.object "java/lang/Integer") ∧ cl.slots.size = 256 ∧ ∀ k : Int32, 0 ≤ k.toInt → k.toInt < 256 → ∃ a : Addr, cl.slots[k.toNatClampNeg]? = some (.ref a) ∧ Exa Z Z.heap a "java/lang/Integer"
theorem own_pred {m : Int32} (hm : 1 ≤ m.toInt ∧ m.toInt ≤ 12) : (m - (1 : Int32)).toInt = m.toInt - 1 := by
  have e1 : (1 : Int32).toInt = 1 := by decide
  rw [own_subI] <;> rw [e1]; omega
theorem own_p128 {m : Int32} (hm : 0 ≤ m.toInt ∧ m.toInt ≤ 1000) : (m + (128 : Int32)).toInt = m.toInt + 128 := by
  have e1 : (128 : Int32).toInt = 128 := by decide
  rw [own_addI] <;> rw [e1]; omega
theorem own_inb {cl : Cell} {j : Int32} {n : Nat} (hsz : cl.slots.size = n) (h0 : 0 ≤ j.toInt) (h1 : j.toInt < n) : ¬ (j < 0 ∨ cl.slots.size ≤ j.toNatClampNeg) := by
  intro q
  rcases q with q | q
  · rw [Int32.lt_iff_toInt_lt] at q; have : (0 : Int32).toInt = 0 := by decide
    omega
  · rw [hsz] at q; have e : j.toNatClampNeg = j.toInt.toNat := rfl
    omega
theorem own_i32 {i k : Int32} (h : i.toInt = k.toInt) : i = k := Int32.toInt_inj.mp h
theorem own_12 {o : Int32} (h : 0 ≤ o.toInt ∧ o.toInt ≤ 11) : o = (0 : Int32) ∨ o = (1 : Int32) ∨ o = (2 : Int32) ∨ o = (3 : Int32) ∨ o = (4 : Int32) ∨ o = (5 : Int32) ∨ o = (6 : Int32) ∨ o = (7 : Int32) ∨ o = (8 : Int32) ∨ o = (9 : Int32) ∨ o = (10 : Int32) ∨ o = (11 : Int32) := by
  have e : o = Int32.ofInt o.toInt := by rw [Int32.ofInt_toInt]
  rw [e]
  generalize o.toInt = n at h
  have k : n = 0 ∨ n = 1 ∨ n = 2 ∨ n = 3 ∨ n = 4 ∨ n = 5 ∨ n = 6 ∨ n = 7 ∨ n = 8 ∨ n = 9 ∨ n = 10 ∨ n = 11 := by omega
  rcases k with rfl | rfl | rfl | rfl | rfl | rfl | rfl | rfl | rfl | rfl | rfl | rfl <;> decide
theorem own_mon {m : Int32} (hm : 1 ≤ m.toInt ∧ m.toInt ≤ 12) : m = (1 : Int32) ∨ m = (2 : Int32) ∨ m = (3 : Int32) ∨ m = (4 : Int32) ∨ m = (5 : Int32) ∨ m = (6 : Int32) ∨ m = (7 : Int32) ∨ m = (8 : Int32) ∨ m = (9 : Int32) ∨ m = (10 : Int32) ∨ m = (11 : Int32) ∨ m = (12 : Int32) := by
  have e : m = Int32.ofInt m.toInt := by rw [Int32.ofInt_toInt]
  rw [e]
  generalize m.toInt = n at hm
  have k : n = 1 ∨ n = 2 ∨ n = 3 ∨ n = 4 ∨ n = 5 ∨ n = 6 ∨ n = 7 ∨ n = 8 ∨ n = 9 ∨ n = 10 ∨ n = 11 ∨ n = 12 := by omega
  rcases k with rfl | rfl | rfl | rfl | rfl | rfl | rfl | rfl | rfl | rfl | rfl | rfl <;> decide
theorem own_mx {m : Int32} (hm : 1 ≤ m.toInt ∧ m.toInt ≤ 12) : (own_days m).toInt ≤ (own_max (m - (1 : Int32))).toInt := by
  rcases own_mon hm with rfl | rfl | rfl | rfl | rfl | rfl | rfl | rfl | rfl | rfl | rfl | rfl <;> decide
theorem own_mn {m : Int32} (hm : 1 ≤ m.toInt ∧ m.toInt ≤ 12) : (own_days m).toInt ≤ (own_min (m - (1 : Int32))).toInt := by
  rcases own_mon hm with rfl | rfl | rfl | rfl | rfl | rfl | rfl | rfl | rfl | rfl | rfl | rfl <;> decide
theorem own_db (m : Int32) : 28 ≤ (own_days m).toInt ∧ (own_days m).toInt ≤ 31 := by unfold own_days; split; decide; split <;> decide
theorem own_no {Z : State} {a0 : Array Value} {C S O K : String} {n : Nat} (w1 : (Jvm.Cond.superclass C S).before a0 Z = true) (w2 : (Jvm.Cond.superclass S O).before a0 Z = true) (w3 : (Jvm.Cond.noSuperclass O).before a0 Z = true) (wi : (Jvm.Cond.instantiable K n).before a0 Z = true) (h1 : C ≠ K := by decide) (h2 : S ≠ K := by decide) (h3 : O ≠ K := by decide) : ∃ c t, Z.vm.findClass C = some c ∧ Z.vm.findClass K = some t ∧ Z.vm.assignable c t = false := by
  obtain ⟨t, kt, g1, g2, g3, g4, -, -⟩ := Cond.instantiable_spec wi
  obtain ⟨cO, kO, o1, o2, o3, -, -⟩ := Cond.noSuperclass_spec w3
  have nO : NS Z O K := ⟨cO, t, o1, g1, fun fuel => by
    have ne := ids_ne o1 g1 h3
    cases fuel with
    | zero => rfl
    | succ f => simp [Vm.isSubclassAux, ne, o2, o3]⟩
  have nS := NS.step w2 nO h2
  have nC := NS.step w1 nS h1
  obtain ⟨c, t', c0, t0, n3⟩ := nC
  cases g1.symm.trans t0
  obtain ⟨p, k, kp, -, k2, -, -, k5, -, k7⟩ := Cond.superclass_spec c0 w1
  have ne := ids_ne c0 g1 h1
  have g4' : kt.isInterface = false := by
    cases hh : kt.isInterface
    · rfl
    · rw [hh] at g4; simp at g4
  refine ⟨c, t, c0, g1, ?_⟩
  show Z.vm.assignableAux (255 + 1) c t = false
  simp [Vm.assignableAux, ne, k2, g2, k5, g3, g4', Vm.isSubclass, n3]
theorem own_ek {Z : State} {args : Array Value} {t : Term} {en : Addr} {cl : Cell} (et : t.eval args Z none [] Z = some (.ref en)) (A : Arr Z Z.heap en cl (.object "java/time/Month")) (k : Int32) (hk : ¬ k < 0) (h1 : (Jvm.Cond.exactly (.elem t (.int k)) "java/time/Month").before args Z = true) (h2 : (Jvm.Cond.eq (.field (.elem t (.int k)) "java/lang/Enum" "ordinal" "I") (.int k)).before args Z = true) : ∃ a : Addr, cl.slots[k.toNatClampNeg]? = some (.ref a) ∧ Exa Z Z.heap a "java/time/Month" ∧ Fld Z Z.heap a "java/lang/Enum" "ordinal" "I" (.int k) := by
  obtain ⟨b, eb⟩ := exa_v (Cond.before_iff.mp h1)
  have ei : (Term.int k).eval args Z none [] Z = some (.int k) := Term.int_eval k
  exact ⟨b, (elem_f et ei (A.fin (Vm.Alike.refl _)) hk).symm.trans eb, exa_at eb (Cond.before_iff.mp h1), Fld.start ((fld_at eb).symm.trans (eqv_i ei (Cond.before_iff.mp h2)))⟩
theorem own_size {n : Nat} {k : Int32} {z : Nat} (h : n < 2 ^ 31) (e : n.toInt32 = k) (ek : k.toInt = (z : Int)) : n = z := by
  have u := congrArg Int32.toInt e
  rw [len_toInt h, ek] at u
  omega
theorem own_mf {Z : State} {args : Array Value} (h : ∀ c ∈ jdkStatics_1, c.before args Z = true) : ∃ en, own_MF Z en := by
  obtain ⟨en, et⟩ := arr_v (Cond.before_iff.mp (h _ (List.mem_of_getElem? (i := 26) rfl)))
  obtain ⟨cl, A⟩ := Arr.start et (Cond.before_iff.mp (h _ (List.mem_of_getElem? (i := 26) rfl)))
  have q := IntBox.length_fwd (h _ (List.mem_of_getElem? (i := 28) rfl)) et A.1 A.2.1 A.2.2
  have sz : cl.slots.size = 12 := own_size q.1 q.2 (by decide)
  refine ⟨en, Sta.start et (Or.inl (h _ (List.mem_of_getElem? (i := 1) rfl))), cl, A, sz, fun k h0 h1 => ?_⟩
  rcases own_12 (o := k) ⟨h0, by omega⟩ with rfl | rfl | rfl | rfl | rfl | rfl | rfl | rfl | rfl | rfl | rfl | rfl
  · exact own_ek et A _ (by decide) (h _ (List.mem_of_getElem? (i := 30) rfl)) (h _ (List.mem_of_getElem? (i := 32) rfl))
  · exact own_ek et A _ (by decide) (h _ (List.mem_of_getElem? (i := 34) rfl)) (h _ (List.mem_of_getElem? (i := 36) rfl))
  · exact own_ek et A _ (by decide) (h _ (List.mem_of_getElem? (i := 38) rfl)) (h _ (List.mem_of_getElem? (i := 40) rfl))
  · exact own_ek et A _ (by decide) (h _ (List.mem_of_getElem? (i := 42) rfl)) (h _ (List.mem_of_getElem? (i := 44) rfl))
  · exact own_ek et A _ (by decide) (h _ (List.mem_of_getElem? (i := 46) rfl)) (h _ (List.mem_of_getElem? (i := 48) rfl))
  · exact own_ek et A _ (by decide) (h _ (List.mem_of_getElem? (i := 50) rfl)) (h _ (List.mem_of_getElem? (i := 52) rfl))
  · exact own_ek et A _ (by decide) (h _ (List.mem_of_getElem? (i := 54) rfl)) (h _ (List.mem_of_getElem? (i := 56) rfl))
  · exact own_ek et A _ (by decide) (h _ (List.mem_of_getElem? (i := 58) rfl)) (h _ (List.mem_of_getElem? (i := 60) rfl))
  · exact own_ek et A _ (by decide) (h _ (List.mem_of_getElem? (i := 62) rfl)) (h _ (List.mem_of_getElem? (i := 64) rfl))
  · exact own_ek et A _ (by decide) (h _ (List.mem_of_getElem? (i := 66) rfl)) (h _ (List.mem_of_getElem? (i := 68) rfl))
  · exact own_ek et A _ (by decide) (h _ (List.mem_of_getElem? (i := 70) rfl)) (h _ (List.mem_of_getElem? (i := 72) rfl))
  · exact own_ek et A _ (by decide) (h _ (List.mem_of_getElem? (i := 74) rfl)) (h _ (List.mem_of_getElem? (i := 76) rfl))
theorem own_ic {Z : State} {args : Array Value} (h : ∀ c ∈ jdkStatics_1, c.before args Z = true) (hi : (Jvm.Cond.initialized "java/lang/Integer$IntegerCache").before args Z = true) : ∃ ca, own_IC Z ca := by
  obtain ⟨ca, et⟩ := arr_v (Cond.before_iff.mp (h _ (List.mem_of_getElem? (i := 81) rfl)))
  obtain ⟨cl, A⟩ := Arr.start et (Cond.before_iff.mp (h _ (List.mem_of_getElem? (i := 81) rfl)))
  have q := IntBox.length_fwd (h _ (List.mem_of_getElem? (i := 83) rfl)) et A.1 A.2.1 A.2.2
  have sz : cl.slots.size = 256 := own_size q.1 q.2 (by decide)
  refine ⟨ca, Sta.start (eqv_i (Term.int_eval (127 : Int32)) (Cond.before_iff.mp (h _ (List.mem_of_getElem? (i := 80) rfl)))) (Or.inl (h _ (List.mem_of_getElem? (i := 78) rfl))), Sta.start et (Or.inr ⟨hi, h _ (List.mem_of_getElem? (i := 79) rfl)⟩), cl, A, sz, fun k h0 h1 => ?_⟩
  have nn : ¬ k < 0 := fun q => by
    rw [Int32.lt_iff_toInt_lt] at q
    have : (0 : Int32).toInt = 0 := by decide
    omega
  have hlt : k.toNatClampNeg < cl.slots.size := by
    rw [sz]
    have e : k.toNatClampNeg = k.toInt.toNat := rfl
    omega
  obtain ⟨u1, -⟩ := and_e (Cond.all_elim et (A.fin (Vm.Alike.refl _)) (Cond.before_iff.mp (h _ (List.mem_of_getElem? (i := 84) rfl))) k.toNatClampNeg hlt)
  obtain ⟨b, eb⟩ := exa_v u1
  have et' : ∀ idx, (Term.static "java/lang/Integer$IntegerCache" "cache" "[Ljava/lang/Integer;").eval args Z none idx Z = some (.ref ca) := fun idx => by first | exact et | simpa only [Term.eval] using et
  exact ⟨b, (elem_f (et' _) (idx_at nn) (A.fin (Vm.Alike.refl _)) nn).symm.trans eb, exa_at eb u1⟩
theorem own_m12 {a r : Int32} (h : (((a &&& (2147483647 : Int32)) % (12 : Int32)) + (1 : Int32)) = r) : 1 ≤ r.toInt ∧ r.toInt ≤ 12 := by
  have b := own_masked (a := a) (m := (2147483647 : Int32)) (k := (12 : Int32)) (d := 12) (by decide) (by decide) (by decide) rfl
  have e1 : (1 : Int32).toInt = 1 := by decide
  rw [← h, own_addI] <;> rw [e1] <;> omega
theorem own_dnz (m : Int32) : (own_days m) ≠ (0 : Int32) := fun e => by have := own_db m; rw [e] at this; exact absurd this (by decide)
theorem own_dd {a m r : Int32} (h : (((a &&& (2147483647 : Int32)) % (own_days m)) + (1 : Int32)) = r) : 1 ≤ r.toInt ∧ r.toInt ≤ (own_days m).toInt := by
  have d := own_db m
  have b := own_masked (a := a) (m := (2147483647 : Int32)) (k := own_days m) (d := (own_days m).toInt) (by decide) (by omega) rfl rfl
  have e1 : (1 : Int32).toInt = 1 := by decide
  rw [← h, own_addI] <;> rw [e1] <;> omega
theorem own_dm {d m : Int32} {x : Int} (hd : 1 ≤ d.toInt ∧ d.toInt ≤ x) : 1 ≤ (if own_days m < d then own_days m else d).toInt ∧ (if own_days m < d then own_days m else d).toInt ≤ (own_days m).toInt := by
  have b := own_db m
  split
  · omega
  · rename_i q; rw [Int32.lt_iff_toInt_lt] at q; omega
theorem own_str {m d : Int32} (hm : 1 ≤ m.toInt ∧ m.toInt ≤ 12) (hd : 1 ≤ d.toInt ∧ d.toInt ≤ (own_days m).toInt) : 0 ≤ (((32 : Int32) * m) + d).toInt ∧ (((32 : Int32) * m) + d).toInt ≤ 1000 := by
  have b := own_db m
  have e : (32 : Int32).toInt = 32 := by decide
  have t : ((32 : Int32) * m).toInt = 32 * m.toInt := by rw [own_mulI] <;> rw [e]; omega
  rw [own_addI] <;> rw [t] <;> omega
theorem d3_0 : decode jdk_30_method_1_code 0 = .ok (.aload_n 0, 1) := by decide +kernel
theorem d3_1 : decode jdk_30_method_1_code 1 = .ok (.invokespecial 1, 3) := by decide +kernel
theorem d3_4 : decode jdk_30_method_1_code 4 = .ok (.return_, 1) := by decide +kernel
theorem pn_0 : plainName "java/lang/Record" = true := by first | (simp [plainName, overriddenIn]; done) | decide +kernel
theorem ef_3 (m : MethodId) (x0 : Addr) : entryFrame m #[(.ref x0)] 1 = mkF m 0 #[.val (.ref x0)] [] := by first | (simp [entryFrame, mkF, argsToLocals, Value.category]; done) | rfl
def Q3 (Z : State) (a0 : Addr) (h0 : Heap) (n0 : Nat) (vQ : Option Value) (hQ_ : Heap) (LQ : List Loc) : Prop := vQ = none ∧ Fr n0 LQ ∧ hQ_ = h0
def Fn3 (Z : State) (a0 : Addr) (h0 : Heap) (n0 : Nat) (sQ : State) (oQ : Outcome) (UQ : State) : Prop := ∃ vQ LQ, oQ = .returned vQ ∧ Q3 Z a0 h0 n0 vQ UQ.heap LQ ∧ FrameEnd sQ oQ UQ LQ ({ frames := 1, cells := 0, slots := 0, locals := 12 } : Room).cells ({ frames := 1, cells := 0, slots := 0, locals := 12 } : Room).slots
set_option maxRecDepth 65536 in
set_option maxHeartbeats 40000000 in
theorem rm3 (l : Launch) (Z : State) (aZ : Array Value) (hw : ∀ d ∈ tables_1, d.before aZ Z = true) (ws : List Jvm.Cond) (a0 : Addr) (h0 : Heap) (n0 : Nat) (Z0 : n0 ≤ h0.size) :
    MetFree l (⟨"java/lang/Record", "<init>", "()V"⟩ : MethodName) (head1 (Jvm.Cond.code (⟨"java/lang/Record", "<init>", "()V"⟩ : MethodName) jdk_30_method_1_code 1 none :: ws) ({ frames := 1, cells := 0, slots := 0, locals := 12 } : Room)) (fun aQ UQ => aQ = #[(.ref a0)] ∧ Z.Warmed39 UQ.vm ∧ UQ.heap = h0) (fun _ _ _ _ _ => True) (fun _ UQ oQ UR => ∃ vQ LQ, oQ = .returned vQ ∧ Q3 Z a0 h0 n0 vQ UR.heap LQ ∧ FrameEnd UQ oQ UR LQ ({ frames := 1, cells := 0, slots := 0, locals := 12 } : Room).cells ({ frames := 1, cells := 0, slots := 0, locals := 12 } : Room).slots) := by
  refine MetFree.of_bodySF (plainFor_of_name pn_0) hisR ?_
  intro p e s m args below meth c s₁ Bd hml0 hP hK
  obtain ⟨rfl, hZ, hh⟩ := hP
  have hx := Bd.exec
  have hby := Bd.bytes
  have hml : c.maxLocals = 1 := hml0
  have hown : s.vm.findClass "java/lang/Record" = some m.cls := findClass_of_methodNamed Bd.named
  have hnm := (name_of_methodNamed Bd.named Bd.method).1
  have X0 : Stand p l e ({ frames := 1, cells := 0, slots := 0, locals := 12 } : Room) s m #[(.ref a0)] below meth c s₁ [] 0 0 := Stand.of_body Bd
  have e0 : s₁.heap = h0 := by rw [← hh, Bd.state]; rfl
  have N0 := Fr.nil n0
  have K0 : Keep h0 h0 [] := Keep.refl _ _
  have w_16 := hw _ (List.mem_of_getElem? (i := 16) rfl)
  have w_17 := hw _ (List.mem_of_getElem? (i := 17) rfl)
  have w_18 := hw _ (List.mem_of_getElem? (i := 18) rfl)
  have first_ : Rn p e below (s₁.setTop (mkF m 0 #[.val (.ref a0)] [])) (Fn3 Z a0 h0 n0 s) := by
    generalize hG : (Fn3 Z a0 h0 n0 s) = G
    refine R.aloadN X0 hx (hb hby d3_0) rfl rfl (pc' := 1) rfl ?_
    refine R.initO X0 hx hZ hown w_16 w_17 w_18 e0 (by rw [hml]; rfl) (hb hby d3_1) (pc' := 4) rfl (by decide) (W := 0) (Nat.le_of_eq rfl) (by decide) ?_; intro T1 X1 e1
    rw [← hG]
    exact Rn.ret X1 (BodyLoose.notSynchronized Bd) (v := none) (fun _ => rfl) (Q := Q3 Z a0 h0 n0) e1 (fun fs hr => X1.returnOut hx Bd.returns (hb hby d3_4) hr) ⟨rfl, N0, rfl⟩ (by decide) (by decide)
  exact (Rn.st (fun t k => castTop (ef_3 m a0) k) first_ : Rn p e below (s₁.setTop (entryFrame m #[(.ref a0)] 1)) (Fn3 Z a0 h0 n0 s))
theorem d1_0 : decode method_2_code 0 = .ok (.iload_n 0, 1) := by decide +kernel
theorem d1_1 : decode method_2_code 1 = .ok (.iconst 2, 1) := by decide +kernel
theorem d1_2 : decode method_2_code 2 = .ok (.if_icmp .ne 6, 3) := by decide +kernel
theorem d1_5 : decode method_2_code 5 = .ok (.bipush 28, 2) := by decide +kernel
theorem d1_7 : decode method_2_code 7 = .ok (.ireturn, 1) := by decide +kernel
theorem d1_8 : decode method_2_code 8 = .ok (.iload_n 0, 1) := by decide +kernel
theorem d1_9 : decode method_2_code 9 = .ok (.iconst 4, 1) := by decide +kernel
theorem d1_10 : decode method_2_code 10 = .ok (.if_icmp .eq 21, 3) := by decide +kernel
theorem d1_31 : decode method_2_code 31 = .ok (.bipush 30, 2) := by decide +kernel
theorem d1_33 : decode method_2_code 33 = .ok (.ireturn, 1) := by decide +kernel
theorem d1_13 : decode method_2_code 13 = .ok (.iload_n 0, 1) := by decide +kernel
theorem d1_14 : decode method_2_code 14 = .ok (.bipush 6, 2) := by decide +kernel
theorem d1_16 : decode method_2_code 16 = .ok (.if_icmp .eq 15, 3) := by decide +kernel
theorem d1_19 : decode method_2_code 19 = .ok (.iload_n 0, 1) := by decide +kernel
theorem d1_20 : decode method_2_code 20 = .ok (.bipush 9, 2) := by decide +kernel
theorem d1_22 : decode method_2_code 22 = .ok (.if_icmp .eq 9, 3) := by decide +kernel
theorem d1_25 : decode method_2_code 25 = .ok (.iload_n 0, 1) := by decide +kernel
theorem d1_26 : decode method_2_code 26 = .ok (.bipush 11, 2) := by decide +kernel
theorem d1_28 : decode method_2_code 28 = .ok (.if_icmp .ne 6, 3) := by decide +kernel
theorem d1_34 : decode method_2_code 34 = .ok (.bipush 31, 2) := by decide +kernel
theorem d1_36 : decode method_2_code 36 = .ok (.ireturn, 1) := by decide +kernel
theorem pn_1 : plainName "com/example/vespera/vespera/calendar/DayOfYearEqualsPinLaw" = true := by first | (simp [plainName, overriddenIn]; done) | decide +kernel
theorem ef_1 (m : MethodId) (x0 : Int32) : entryFrame m #[(.int x0)] 1 = mkF m 0 #[.val (.int x0)] [] := by first | (simp [entryFrame, mkF, argsToLocals, Value.category]; done) | rfl
def Q1 (Z : State) (p0 : Int32) (h0 : Heap) (n0 : Nat) (vQ : Option Value) (hQ_ : Heap) (LQ : List Loc) : Prop := vQ = some (.int (own_days p0)) ∧ Fr n0 LQ ∧ hQ_ = h0
def Fn1 (Z : State) (p0 : Int32) (h0 : Heap) (n0 : Nat) (sQ : State) (oQ : Outcome) (UQ : State) : Prop := ∃ vQ LQ, oQ = .returned vQ ∧ Q1 Z p0 h0 n0 vQ UQ.heap LQ ∧ FrameEnd sQ oQ UQ LQ ({ frames := 0, cells := 0, slots := 0, locals := 0 } : Room).cells ({ frames := 0, cells := 0, slots := 0, locals := 0 } : Room).slots
set_option maxRecDepth 65536 in
set_option maxHeartbeats 40000000 in
theorem rm1 (l : Launch) (Z : State) (aZ : Array Value) (hw : ∀ d ∈ tables_1, d.before aZ Z = true) (ws : List Jvm.Cond) (p0 : Int32) (h0 : Heap) (n0 : Nat) (Z0 : n0 ≤ h0.size) :
    MetFree l (⟨"com/example/vespera/vespera/calendar/DayOfYearEqualsPinLaw", "days", "(I)I"⟩ : MethodName) (head1 (Jvm.Cond.code (⟨"com/example/vespera/vespera/calendar/DayOfYearEqualsPinLaw", "days", "(I)I"⟩ : MethodName) method_2_code 1 (some .int) :: ws) ({ frames := 0, cells := 0, slots := 0, locals := 0 } : Room)) (fun aQ UQ => aQ = #[(.int p0)] ∧ Z.Warmed39 UQ.vm ∧ UQ.heap = h0) (fun _ _ _ _ _ => True) (fun _ UQ oQ UR => ∃ vQ LQ, oQ = .returned vQ ∧ Q1 Z p0 h0 n0 vQ UR.heap LQ ∧ FrameEnd UQ oQ UR LQ ({ frames := 0, cells := 0, slots := 0, locals := 0 } : Room).cells ({ frames := 0, cells := 0, slots := 0, locals := 0 } : Room).slots) := by
  refine MetFree.of_bodySF (plainFor_of_name pn_1) hisR ?_
  intro p e s m args below meth c s₁ Bd hml0 hP hK
  obtain ⟨rfl, hZ, hh⟩ := hP
  have hx := Bd.exec
  have hby := Bd.bytes
  have hml : c.maxLocals = 1 := hml0
  have hown : s.vm.findClass "com/example/vespera/vespera/calendar/DayOfYearEqualsPinLaw" = some m.cls := findClass_of_methodNamed Bd.named
  have hnm := (name_of_methodNamed Bd.named Bd.method).1
  have X0 : Stand p l e ({ frames := 0, cells := 0, slots := 0, locals := 0 } : Room) s m #[(.int p0)] below meth c s₁ [] 0 0 := Stand.of_body Bd
  have e0 : s₁.heap = h0 := by rw [← hh, Bd.state]; rfl
  have N0 := Fr.nil n0
  have K0 : Keep h0 h0 [] := Keep.refl _ _
  have first_ : Rn p e below (s₁.setTop (mkF m 0 #[.val (.int p0)] [])) (Fn1 Z p0 h0 n0 s) := by
    generalize hG : (Fn1 Z p0 h0 n0 s) = G
    refine R.iloadN X0 hx (hb hby d1_0) rfl (pc' := 1) rfl ?_
    refine R.iconst X0 hx (hb hby d1_1) (v := (2 : Int32)) (by decide) (pc' := 2) rfl ?_
    by_cases hc2 : p0 = (2 : Int32)
    · refine R.icmpNo X0 hx (hb hby d1_2) (teq hc2).2 (pc' := 5) rfl ?_
      refine R.bipush X0 hx (hb hby d1_5) (v := (28 : Int32)) (by decide) (pc' := 7) rfl ?_
      rw [← hG]
      exact Rn.ret X0 (BodyLoose.notSynchronized Bd) (v := some (.int (28 : Int32))) (fun h => by rw [Bd.returns] at h; cases h) (Q := Q1 Z p0 h0 n0) e0 (fun fs hr => retOut X0 hx (t := .int) Bd.returns rfl (Or.inl ⟨rfl, Or.inl rfl, _, rfl⟩) (hb hby d1_7) hr) ⟨(by unfold own_days; rw [if_pos hc2]), N0, rfl⟩ (by decide) (by decide)
    · refine R.icmpYes X0 hx (hb hby d1_2) (feq hc2).2 (by decide) (pc' := 8) (by decide) ?_
      refine R.iloadN X0 hx (hb hby d1_8) rfl (pc' := 9) rfl ?_
      refine R.iconst X0 hx (hb hby d1_9) (v := (4 : Int32)) (by decide) (pc' := 10) rfl ?_
      by_cases hc10 : p0 = (4 : Int32)
      · refine R.icmpYes X0 hx (hb hby d1_10) (teq hc10).1 (by decide) (pc' := 31) (by decide) ?_
        refine R.bipush X0 hx (hb hby d1_31) (v := (30 : Int32)) (by decide) (pc' := 33) rfl ?_
        rw [← hG]
        exact Rn.ret X0 (BodyLoose.notSynchronized Bd) (v := some (.int (30 : Int32))) (fun h => by rw [Bd.returns] at h; cases h) (Q := Q1 Z p0 h0 n0) e0 (fun fs hr => retOut X0 hx (t := .int) Bd.returns rfl (Or.inl ⟨rfl, Or.inl rfl, _, rfl⟩) (hb hby d1_33) hr) ⟨(by unfold own_days; rw [if_neg hc2, if_pos (Or.inl hc10)]), N0, rfl⟩ (by decide) (by decide)
      · refine R.icmpNo X0 hx (hb hby d1_10) (feq hc10).1 (pc' := 13) rfl ?_
        refine R.iloadN X0 hx (hb hby d1_13) rfl (pc' := 14) rfl ?_
        refine R.bipush X0 hx (hb hby d1_14) (v := (6 : Int32)) (by decide) (pc' := 16) rfl ?_
        by_cases hc16 : p0 = (6 : Int32)
        · refine R.icmpYes X0 hx (hb hby d1_16) (teq hc16).1 (by decide) (pc' := 31) (by decide) ?_
          refine R.bipush X0 hx (hb hby d1_31) (v := (30 : Int32)) (by decide) (pc' := 33) rfl ?_
          rw [← hG]
          exact Rn.ret X0 (BodyLoose.notSynchronized Bd) (v := some (.int (30 : Int32))) (fun h => by rw [Bd.returns] at h; cases h) (Q := Q1 Z p0 h0 n0) e0 (fun fs hr => retOut X0 hx (t := .int) Bd.returns rfl (Or.inl ⟨rfl, Or.inl rfl, _, rfl⟩) (hb hby d1_33) hr) ⟨(by unfold own_days; rw [if_neg hc2, if_pos (Or.inr (Or.inl hc16))]), N0, rfl⟩ (by decide) (by decide)
        · refine R.icmpNo X0 hx (hb hby d1_16) (feq hc16).1 (pc' := 19) rfl ?_
          refine R.iloadN X0 hx (hb hby d1_19) rfl (pc' := 20) rfl ?_
          refine R.bipush X0 hx (hb hby d1_20) (v := (9 : Int32)) (by decide) (pc' := 22) rfl ?_
          by_cases hc22 : p0 = (9 : Int32)
          · refine R.icmpYes X0 hx (hb hby d1_22) (teq hc22).1 (by decide) (pc' := 31) (by decide) ?_
            refine R.bipush X0 hx (hb hby d1_31) (v := (30 : Int32)) (by decide) (pc' := 33) rfl ?_
            rw [← hG]
            exact Rn.ret X0 (BodyLoose.notSynchronized Bd) (v := some (.int (30 : Int32))) (fun h => by rw [Bd.returns] at h; cases h) (Q := Q1 Z p0 h0 n0) e0 (fun fs hr => retOut X0 hx (t := .int) Bd.returns rfl (Or.inl ⟨rfl, Or.inl rfl, _, rfl⟩) (hb hby d1_33) hr) ⟨(by unfold own_days; rw [if_neg hc2, if_pos (Or.inr (Or.inr (Or.inl hc22)))]), N0, rfl⟩ (by decide) (by decide)
          · refine R.icmpNo X0 hx (hb hby d1_22) (feq hc22).1 (pc' := 25) rfl ?_
            refine R.iloadN X0 hx (hb hby d1_25) rfl (pc' := 26) rfl ?_
            refine R.bipush X0 hx (hb hby d1_26) (v := (11 : Int32)) (by decide) (pc' := 28) rfl ?_
            by_cases hc28 : p0 = (11 : Int32)
            · refine R.icmpNo X0 hx (hb hby d1_28) (teq hc28).2 (pc' := 31) rfl ?_
              refine R.bipush X0 hx (hb hby d1_31) (v := (30 : Int32)) (by decide) (pc' := 33) rfl ?_
              rw [← hG]
              exact Rn.ret X0 (BodyLoose.notSynchronized Bd) (v := some (.int (30 : Int32))) (fun h => by rw [Bd.returns] at h; cases h) (Q := Q1 Z p0 h0 n0) e0 (fun fs hr => retOut X0 hx (t := .int) Bd.returns rfl (Or.inl ⟨rfl, Or.inl rfl, _, rfl⟩) (hb hby d1_33) hr) ⟨(by unfold own_days; rw [if_neg hc2, if_pos (Or.inr (Or.inr (Or.inr hc28)))]), N0, rfl⟩ (by decide) (by decide)
            · refine R.icmpYes X0 hx (hb hby d1_28) (feq hc28).2 (by decide) (pc' := 34) (by decide) ?_
              refine R.bipush X0 hx (hb hby d1_34) (v := (31 : Int32)) (by decide) (pc' := 36) rfl ?_
              rw [← hG]
              exact Rn.ret X0 (BodyLoose.notSynchronized Bd) (v := some (.int (31 : Int32))) (fun h => by rw [Bd.returns] at h; cases h) (Q := Q1 Z p0 h0 n0) e0 (fun fs hr => retOut X0 hx (t := .int) Bd.returns rfl (Or.inl ⟨rfl, Or.inl rfl, _, rfl⟩) (hb hby d1_36) hr) ⟨(by unfold own_days; rw [if_neg hc2, if_neg (fun q => q.elim hc10 (fun q => q.elim hc16 (fun q => q.elim hc22 hc28)))]), N0, rfl⟩ (by decide) (by decide)
  exact (Rn.st (fun t k => castTop (ef_1 m p0) k) first_ : Rn p e below (s₁.setTop (entryFrame m #[(.int p0)] 1)) (Fn1 Z p0 h0 n0 s))
theorem d5_0 : decode jdk_2329_method_4_code 0 = .ok (.iload_n 0, 1) := by decide +kernel
theorem d5_1 : decode jdk_2329_method_4_code 1 = .ok (.iconst 1, 1) := by decide +kernel
theorem d5_2 : decode jdk_2329_method_4_code 2 = .ok (.if_icmp .lt 9, 3) := by decide +kernel
theorem d5_5 : decode jdk_2329_method_4_code 5 = .ok (.iload_n 0, 1) := by decide +kernel
theorem d5_6 : decode jdk_2329_method_4_code 6 = .ok (.bipush 12, 2) := by decide +kernel
theorem d5_8 : decode jdk_2329_method_4_code 8 = .ok (.if_icmp .le 30, 3) := by decide +kernel
theorem d5_38 : decode jdk_2329_method_4_code 38 = .ok (.getstatic 82, 3) := by decide +kernel
theorem d5_41 : decode jdk_2329_method_4_code 41 = .ok (.iload_n 0, 1) := by decide +kernel
theorem d5_42 : decode jdk_2329_method_4_code 42 = .ok (.iconst 1, 1) := by decide +kernel
theorem d5_43 : decode jdk_2329_method_4_code 43 = .ok (.isub, 1) := by decide +kernel
theorem d5_44 : decode jdk_2329_method_4_code 44 = .ok (.aaload, 1) := by decide +kernel
theorem d5_45 : decode jdk_2329_method_4_code 45 = .ok (.areturn, 1) := by decide +kernel
theorem pn_2 : plainName "java/time/Month" = true := by first | (simp [plainName, overriddenIn]; done) | decide +kernel
theorem ef_5 (m : MethodId) (x0 : Int32) : entryFrame m #[(.int x0)] 1 = mkF m 0 #[.val (.int x0)] [] := by first | (simp [entryFrame, mkF, argsToLocals, Value.category]; done) | rfl
def Q5 (Z : State) (p0 : Int32) (en : Addr) (h0 : Heap) (n0 : Nat) (vQ : Option Value) (hQ_ : Heap) (LQ : List Loc) : Prop := ∃ b : Addr, vQ = some (.ref b) ∧ Fr n0 LQ ∧ hQ_ = h0 ∧ (Exa Z hQ_ b "java/time/Month") ∧ (Fld Z hQ_ b "java/lang/Enum" "ordinal" "I" (.int (p0 - (1 : Int32))))
def Fn5 (Z : State) (p0 : Int32) (en : Addr) (h0 : Heap) (n0 : Nat) (sQ : State) (oQ : Outcome) (UQ : State) : Prop := ∃ vQ LQ, oQ = .returned vQ ∧ Q5 Z p0 en h0 n0 vQ UQ.heap LQ ∧ FrameEnd sQ oQ UQ LQ ({ frames := 0, cells := 0, slots := 0, locals := 0 } : Room).cells ({ frames := 0, cells := 0, slots := 0, locals := 0 } : Room).slots
set_option maxRecDepth 65536 in
set_option maxHeartbeats 40000000 in
theorem rm5 (l : Launch) (Z : State) (aZ : Array Value) (hw : ∀ d ∈ tables_1, d.before aZ Z = true) (ws : List Jvm.Cond) (p0 : Int32) (en : Addr) (h0 : Heap) (n0 : Nat) (Z0 : n0 ≤ h0.size) (OL : Old Z n0 h0) (MF : own_MF Z en) (hm : 1 ≤ p0.toInt ∧ p0.toInt ≤ 12) :
    MetFree l (⟨"java/time/Month", "of", "(I)Ljava/time/Month;"⟩ : MethodName) (head1 (Jvm.Cond.code (⟨"java/time/Month", "of", "(I)Ljava/time/Month;"⟩ : MethodName) jdk_2329_method_4_code 1 (some (.object "java/time/Month")) :: ws) ({ frames := 0, cells := 0, slots := 0, locals := 0 } : Room)) (fun aQ UQ => aQ = #[(.int p0)] ∧ Z.Warmed39 UQ.vm ∧ UQ.heap = h0) (fun _ _ _ _ _ => True) (fun _ UQ oQ UR => ∃ vQ LQ, oQ = .returned vQ ∧ Q5 Z p0 en h0 n0 vQ UR.heap LQ ∧ FrameEnd UQ oQ UR LQ ({ frames := 0, cells := 0, slots := 0, locals := 0 } : Room).cells ({ frames := 0, cells := 0, slots := 0, locals := 0 } : Room).slots) := by
  refine MetFree.of_bodySF (plainFor_of_name pn_2) hisR ?_
  intro p e s m args below meth c s₁ Bd hml0 hP hK
  obtain ⟨rfl, hZ, hh⟩ := hP
  have hx := Bd.exec
  have hby := Bd.bytes
  have hml : c.maxLocals = 1 := hml0
  have hown : s.vm.findClass "java/time/Month" = some m.cls := findClass_of_methodNamed Bd.named
  have hnm := (name_of_methodNamed Bd.named Bd.method).1
  have X0 : Stand p l e ({ frames := 0, cells := 0, slots := 0, locals := 0 } : Room) s m #[(.int p0)] below meth c s₁ [] 0 0 := Stand.of_body Bd
  have e0 : s₁.heap = h0 := by rw [← hh, Bd.state]; rfl
  have N0 := Fr.nil n0
  have K0 : Keep h0 h0 [] := Keep.refl _ _
  have w_23 := hw _ (List.mem_of_getElem? (i := 23) rfl)
  have first_ : Rn p e below (s₁.setTop (mkF m 0 #[.val (.int p0)] [])) (Fn5 Z p0 en h0 n0 s) := by
    generalize hG : (Fn5 Z p0 en h0 n0 s) = G
    refine R.iloadN X0 hx (hb hby d5_0) rfl (pc' := 1) rfl ?_
    refine R.iconst X0 hx (hb hby d5_1) (v := (1 : Int32)) (by decide) (pc' := 2) rfl ?_
    refine R.icmpNo X0 hx (hb hby d5_2) (flt (fun q => absurd (Int32.lt_iff_toInt_lt.mp q) (by have t1 : (1 : Int32).toInt = 1 := (by decide); omega) : ¬ (p0 < (1 : Int32)))).1 (pc' := 5) rfl ?_
    refine R.iloadN X0 hx (hb hby d5_5) rfl (pc' := 6) rfl ?_
    refine R.bipush X0 hx (hb hby d5_6) (v := (12 : Int32)) (by decide) (pc' := 8) rfl ?_
    refine R.icmpYes X0 hx (hb hby d5_8) (flt (fun q => absurd (Int32.lt_iff_toInt_lt.mp q) (by have t1 : (12 : Int32).toInt = 12 := (by decide); omega) : ¬ ((12 : Int32) < p0))).2.2.2 (by decide) (pc' := 38) (by decide) ?_
    have S_EN := MF.1.ext OL.2
    refine R.getS X0 hx hZ hown (host := "") (Or.inl w_23) Via.refl e0 S_EN (hb hby d5_38) (pc' := 41) rfl ?_; intro T1 X1 e1
    refine R.iloadN X1 hx (hb hby d5_41) rfl (pc' := 42) rfl ?_
    refine R.iconst X1 hx (hb hby d5_42) (v := (1 : Int32)) (by decide) (pc' := 43) rfl ?_
    refine R.isub X1 hx (hb hby d5_43) rfl (pc' := 44) rfl ?_
    obtain ⟨cl, Ar0, hsz, hel⟩ := MF.2
    have Ar := Ar0.ext OL.2
    have tj := own_pred hm
    obtain ⟨b, hb_, Eb0, Fb0⟩ := hel (p0 - (1 : Int32)) (by omega) (by omega)
    have E_b := Eb0.ext OL.2
    have F_ordinal_b := Fb0.ext OL.2
    refine R.aaload X1 hx hZ e1 Ar rfl (own_inb hsz (by omega) (by omega)) hb_ (hb hby d5_44) (pc' := 45) rfl ?_
    rw [← hG]
    exact Rn.ret X1 (BodyLoose.notSynchronized Bd) (v := some (.ref b)) (fun h => by rw [Bd.returns] at h; cases h) (Q := Q5 Z p0 en h0 n0) e1 (fun fs hr => retOut X1 hx (t := (.object "java/time/Month")) Bd.returns rfl (Or.inr (Or.inr (Or.inr (Or.inr ⟨rfl, rfl, rfl⟩)))) (hb hby d5_45) hr) ⟨b, rfl, N0, rfl, E_b, F_ordinal_b⟩ (by decide) (by decide)
  exact (Rn.st (fun t k => castTop (ef_5 m p0) k) first_ : Rn p e below (s₁.setTop (entryFrame m #[(.int p0)] 1)) (Fn5 Z p0 en h0 n0 s))
theorem d7_0 : decode jdk_37_method_2_code 0 = .ok (.aload_n 0, 1) := by decide +kernel
theorem d7_1 : decode jdk_37_method_2_code 1 = .ok (.getfield 7, 3) := by decide +kernel
theorem d7_4 : decode jdk_37_method_2_code 4 = .ok (.ireturn, 1) := by decide +kernel
theorem pn_3 : plainName "java/lang/Enum" = true := by first | (simp [plainName, overriddenIn]; done) | decide +kernel
theorem ef_7 (m : MethodId) (x0 : Addr) : entryFrame m #[(.ref x0)] 1 = mkF m 0 #[.val (.ref x0)] [] := by first | (simp [entryFrame, mkF, argsToLocals, Value.category]; done) | rfl
def Q7 (Z : State) (a0 : Addr) (o : Int32) (h0 : Heap) (n0 : Nat) (vQ : Option Value) (hQ_ : Heap) (LQ : List Loc) : Prop := vQ = some (.int o) ∧ Fr n0 LQ ∧ hQ_ = h0
def Fn7 (Z : State) (a0 : Addr) (o : Int32) (h0 : Heap) (n0 : Nat) (sQ : State) (oQ : Outcome) (UQ : State) : Prop := ∃ vQ LQ, oQ = .returned vQ ∧ Q7 Z a0 o h0 n0 vQ UQ.heap LQ ∧ FrameEnd sQ oQ UQ LQ ({ frames := 0, cells := 0, slots := 0, locals := 0 } : Room).cells ({ frames := 0, cells := 0, slots := 0, locals := 0 } : Room).slots
set_option maxRecDepth 65536 in
set_option maxHeartbeats 40000000 in
theorem rm7 (l : Launch) (Z : State) (aZ : Array Value) (hw : ∀ d ∈ tables_1, d.before aZ Z = true) (ws : List Jvm.Cond) (a0 : Addr) (o : Int32) (h0 : Heap) (n0 : Nat) (Z0 : n0 ≤ h0.size) (F_ordinal_a0 : Fld Z h0 a0 "java/lang/Enum" "ordinal" "I" (.int o)) :
    MetFree l (⟨"java/lang/Enum", "ordinal", "()I"⟩ : MethodName) (head1 (Jvm.Cond.code (⟨"java/lang/Enum", "ordinal", "()I"⟩ : MethodName) jdk_37_method_2_code 1 (some .int) :: ws) ({ frames := 0, cells := 0, slots := 0, locals := 0 } : Room)) (fun aQ UQ => aQ = #[(.ref a0)] ∧ Z.Warmed39 UQ.vm ∧ UQ.heap = h0) (fun _ _ _ _ _ => True) (fun _ UQ oQ UR => ∃ vQ LQ, oQ = .returned vQ ∧ Q7 Z a0 o h0 n0 vQ UR.heap LQ ∧ FrameEnd UQ oQ UR LQ ({ frames := 0, cells := 0, slots := 0, locals := 0 } : Room).cells ({ frames := 0, cells := 0, slots := 0, locals := 0 } : Room).slots) := by
  refine MetFree.of_bodySF (plainFor_of_name pn_3) hisR ?_
  intro p e s m args below meth c s₁ Bd hml0 hP hK
  obtain ⟨rfl, hZ, hh⟩ := hP
  have hx := Bd.exec
  have hby := Bd.bytes
  have hml : c.maxLocals = 1 := hml0
  have hown : s.vm.findClass "java/lang/Enum" = some m.cls := findClass_of_methodNamed Bd.named
  have hnm := (name_of_methodNamed Bd.named Bd.method).1
  have X0 : Stand p l e ({ frames := 0, cells := 0, slots := 0, locals := 0 } : Room) s m #[(.ref a0)] below meth c s₁ [] 0 0 := Stand.of_body Bd
  have e0 : s₁.heap = h0 := by rw [← hh, Bd.state]; rfl
  have N0 := Fr.nil n0
  have K0 : Keep h0 h0 [] := Keep.refl _ _
  have w_36 := hw _ (List.mem_of_getElem? (i := 36) rfl)
  have first_ : Rn p e below (s₁.setTop (mkF m 0 #[.val (.ref a0)] [])) (Fn7 Z a0 o h0 n0 s) := by
    generalize hG : (Fn7 Z a0 o h0 n0 s) = G
    refine R.aloadN X0 hx (hb hby d7_0) rfl rfl (pc' := 1) rfl ?_
    refine R.getF X0 hx hZ hown (host := "") (Or.inl w_36) Via.refl e0 F_ordinal_a0 (hb hby d7_1) (pc' := 4) rfl ?_; intro T1 X1 e1
    rw [← hG]
    exact Rn.ret X1 (BodyLoose.notSynchronized Bd) (v := some (.int o)) (fun h => by rw [Bd.returns] at h; cases h) (Q := Q7 Z a0 o h0 n0) e1 (fun fs hr => retOut X1 hx (t := .int) Bd.returns rfl (Or.inl ⟨rfl, Or.inl rfl, _, rfl⟩) (hb hby d7_4) hr) ⟨rfl, N0, rfl⟩ (by decide) (by decide)
  exact (Rn.st (fun t k => castTop (ef_7 m a0) k) first_ : Rn p e below (s₁.setTop (entryFrame m #[(.ref a0)] 1)) (Fn7 Z a0 o h0 n0 s))
theorem d6_4 : decode jdk_2329_method_16_code 4 = .ok (.tableswitch 66 1 10 #[56, 66, 61, 66, 61, 66, 66, 61, 66, 61], 56) := by decide +kernel
theorem d6_0 : decode jdk_2329_method_16_code 0 = .ok (.aload_n 0, 1) := by decide +kernel
theorem d6_1 : decode jdk_2329_method_16_code 1 = .ok (.invokevirtual 141, 3) := by decide +kernel
theorem pd_0 : parseMethodDescriptor "()I" = some ⟨[], some .int⟩ := by decide +kernel
abbrev mY0 : MethodName := (⟨"java/time/Month", "ordinal", "()I"⟩ : MethodName)
abbrev mY1 : MethodName := (⟨"java/lang/Enum", "ordinal", "()I"⟩ : MethodName)
theorem d6_70 : decode jdk_2329_method_16_code 70 = .ok (.bipush 31, 2) := by decide +kernel
theorem d6_72 : decode jdk_2329_method_16_code 72 = .ok (.ireturn, 1) := by decide +kernel
theorem d6_60 : decode jdk_2329_method_16_code 60 = .ok (.bipush 29, 2) := by decide +kernel
theorem d6_62 : decode jdk_2329_method_16_code 62 = .ok (.goto 10, 3) := by decide +kernel
theorem d6_65 : decode jdk_2329_method_16_code 65 = .ok (.bipush 30, 2) := by decide +kernel
theorem d6_67 : decode jdk_2329_method_16_code 67 = .ok (.goto 5, 3) := by decide +kernel
theorem ef_6 (m : MethodId) (x0 : Addr) : entryFrame m #[(.ref x0)] 1 = mkF m 0 #[.val (.ref x0)] [] := by first | (simp [entryFrame, mkF, argsToLocals, Value.category]; done) | rfl
def Q6 (Z : State) (a0 : Addr) (o : Int32) (h0 : Heap) (n0 : Nat) (vQ : Option Value) (hQ_ : Heap) (LQ : List Loc) : Prop := vQ = some (.int (own_max o)) ∧ Fr n0 LQ ∧ hQ_ = h0
def Fn6 (Z : State) (a0 : Addr) (o : Int32) (h0 : Heap) (n0 : Nat) (sQ : State) (oQ : Outcome) (UQ : State) : Prop := ∃ vQ LQ, oQ = .returned vQ ∧ Q6 Z a0 o h0 n0 vQ UQ.heap LQ ∧ FrameEnd sQ oQ UQ LQ ({ frames := 1, cells := 0, slots := 0, locals := 12 } : Room).cells ({ frames := 1, cells := 0, slots := 0, locals := 12 } : Room).slots
set_option maxRecDepth 65536 in
set_option maxHeartbeats 40000000 in
theorem rm6 (l : Launch) (Z : State) (aZ : Array Value) (hw : ∀ d ∈ tables_1, d.before aZ Z = true) (ws : List Jvm.Cond) (a0 : Addr) (o : Int32) (h0 : Heap) (n0 : Nat) (Z0 : n0 ≤ h0.size) (E_a0 : Exa Z h0 a0 "java/time/Month") (F_ordinal_a0 : Fld Z h0 a0 "java/lang/Enum" "ordinal" "I" (.int o)) (ho : 0 ≤ o.toInt ∧ o.toInt ≤ 11) :
    MetFree l (⟨"java/time/Month", "maxLength", "()I"⟩ : MethodName) (head1 (Jvm.Cond.code (⟨"java/time/Month", "maxLength", "()I"⟩ : MethodName) jdk_2329_method_16_code 1 (some .int) :: ws) ({ frames := 1, cells := 0, slots := 0, locals := 12 } : Room)) (fun aQ UQ => aQ = #[(.ref a0)] ∧ Z.Warmed39 UQ.vm ∧ UQ.heap = h0) (fun _ _ _ _ _ => True) (fun _ UQ oQ UR => ∃ vQ LQ, oQ = .returned vQ ∧ Q6 Z a0 o h0 n0 vQ UR.heap LQ ∧ FrameEnd UQ oQ UR LQ ({ frames := 1, cells := 0, slots := 0, locals := 12 } : Room).cells ({ frames := 1, cells := 0, slots := 0, locals := 12 } : Room).slots) := by
  refine MetFree.of_bodySF (plainFor_of_name pn_2) hisR ?_
  intro p e s m args below meth c s₁ Bd hml0 hP hK
  obtain ⟨rfl, hZ, hh⟩ := hP
  have hx := Bd.exec
  have hby := Bd.bytes
  have hml : c.maxLocals = 1 := hml0
  have hown : s.vm.findClass "java/time/Month" = some m.cls := findClass_of_methodNamed Bd.named
  have hnm := (name_of_methodNamed Bd.named Bd.method).1
  have X0 : Stand p l e ({ frames := 1, cells := 0, slots := 0, locals := 12 } : Room) s m #[(.ref a0)] below meth c s₁ [] 0 0 := Stand.of_body Bd
  have e0 : s₁.heap = h0 := by rw [← hh, Bd.state]; rfl
  have N0 := Fr.nil n0
  have K0 : Keep h0 h0 [] := Keep.refl _ _
  have w_29 := hw _ (List.mem_of_getElem? (i := 29) rfl)
  have w_30 := hw _ (List.mem_of_getElem? (i := 30) rfl)
  have w_31 := hw _ (List.mem_of_getElem? (i := 31) rfl)
  have w_32 := hw _ (List.mem_of_getElem? (i := 32) rfl)
  have w_33 := hw _ (List.mem_of_getElem? (i := 33) rfl)
  have w_34 := hw _ (List.mem_of_getElem? (i := 34) rfl)
  have w_35 := hw _ (List.mem_of_getElem? (i := 35) rfl)
  have first_ : Rn p e below (s₁.setTop (mkF m 0 #[.val (.ref a0)] [])) (Fn6 Z a0 o h0 n0 s) := by
    generalize hG : (Fn6 Z a0 o h0 n0 s) = G
    refine R.aloadN X0 hx (hb hby d6_0) rfl rfl (pc' := 1) rfl ?_
    refine R.virtualUp X0 hx hZ (x := mY0) (y := mY1) (owner := "java/lang/Enum") hown w_29 w_30 w_31 w_33 w_32 w_34 w_35 (by decide) e0 E_a0 (rm7 l Z aZ hw [] a0 o h0 n0 Z0 F_ordinal_a0) (by decide) (W := 0) (Nat.le_of_eq rfl) (by decide) (by rw [hml]; rfl) (lenOf pd_0 rfl) rfl (hb hby d6_1) (pc' := 4) rfl (by decide) (by decide) ?_; intro v1 T1 L1 X1 hQ1
    obtain ⟨rfl, N1q, e1⟩ := hQ1
    have N1 := Fr.app N0 N1q
    have h12 := own_12 ho
    rcases h12 with rfl | rfl | rfl | rfl | rfl | rfl | rfl | rfl | rfl | rfl | rfl | rfl
    · refine R.tswD X1 hx (hb hby d6_4) (by decide) (by decide) (pc' := 70) (by decide) ?_
      refine R.bipush X1 hx (hb hby d6_70) (v := (31 : Int32)) (by decide) (pc' := 72) rfl ?_
      rw [← hG]
      exact Rn.ret X1 (BodyLoose.notSynchronized Bd) (v := some (.int (31 : Int32))) (fun h => by rw [Bd.returns] at h; cases h) (Q := Q6 Z a0 (0 : Int32) h0 n0) e1 (fun fs hr => retOut X1 hx (t := .int) Bd.returns rfl (Or.inl ⟨rfl, Or.inl rfl, _, rfl⟩) (hb hby d6_72) hr) ⟨rfl, N1, rfl⟩ (by decide) (by decide)
    · refine R.tsw X1 hx (hb hby d6_4) (o := 56) (by decide) (by decide) (by decide) (pc' := 60) (by decide) ?_
      refine R.bipush X1 hx (hb hby d6_60) (v := (29 : Int32)) (by decide) (pc' := 62) rfl ?_
      refine R.goto X1 hx (hb hby d6_62) (by decide) (pc' := 72) (by decide) ?_
      rw [← hG]
      exact Rn.ret X1 (BodyLoose.notSynchronized Bd) (v := some (.int (29 : Int32))) (fun h => by rw [Bd.returns] at h; cases h) (Q := Q6 Z a0 (1 : Int32) h0 n0) e1 (fun fs hr => retOut X1 hx (t := .int) Bd.returns rfl (Or.inl ⟨rfl, Or.inl rfl, _, rfl⟩) (hb hby d6_72) hr) ⟨rfl, N1, rfl⟩ (by decide) (by decide)
    · refine R.tsw X1 hx (hb hby d6_4) (o := 66) (by decide) (by decide) (by decide) (pc' := 70) (by decide) ?_
      refine R.bipush X1 hx (hb hby d6_70) (v := (31 : Int32)) (by decide) (pc' := 72) rfl ?_
      rw [← hG]
      exact Rn.ret X1 (BodyLoose.notSynchronized Bd) (v := some (.int (31 : Int32))) (fun h => by rw [Bd.returns] at h; cases h) (Q := Q6 Z a0 (2 : Int32) h0 n0) e1 (fun fs hr => retOut X1 hx (t := .int) Bd.returns rfl (Or.inl ⟨rfl, Or.inl rfl, _, rfl⟩) (hb hby d6_72) hr) ⟨rfl, N1, rfl⟩ (by decide) (by decide)
    · refine R.tsw X1 hx (hb hby d6_4) (o := 61) (by decide) (by decide) (by decide) (pc' := 65) (by decide) ?_
      refine R.bipush X1 hx (hb hby d6_65) (v := (30 : Int32)) (by decide) (pc' := 67) rfl ?_
      refine R.goto X1 hx (hb hby d6_67) (by decide) (pc' := 72) (by decide) ?_
      rw [← hG]
      exact Rn.ret X1 (BodyLoose.notSynchronized Bd) (v := some (.int (30 : Int32))) (fun h => by rw [Bd.returns] at h; cases h) (Q := Q6 Z a0 (3 : Int32) h0 n0) e1 (fun fs hr => retOut X1 hx (t := .int) Bd.returns rfl (Or.inl ⟨rfl, Or.inl rfl, _, rfl⟩) (hb hby d6_72) hr) ⟨rfl, N1, rfl⟩ (by decide) (by decide)
    · refine R.tsw X1 hx (hb hby d6_4) (o := 66) (by decide) (by decide) (by decide) (pc' := 70) (by decide) ?_
      refine R.bipush X1 hx (hb hby d6_70) (v := (31 : Int32)) (by decide) (pc' := 72) rfl ?_
      rw [← hG]
      exact Rn.ret X1 (BodyLoose.notSynchronized Bd) (v := some (.int (31 : Int32))) (fun h => by rw [Bd.returns] at h; cases h) (Q := Q6 Z a0 (4 : Int32) h0 n0) e1 (fun fs hr => retOut X1 hx (t := .int) Bd.returns rfl (Or.inl ⟨rfl, Or.inl rfl, _, rfl⟩) (hb hby d6_72) hr) ⟨rfl, N1, rfl⟩ (by decide) (by decide)
    · refine R.tsw X1 hx (hb hby d6_4) (o := 61) (by decide) (by decide) (by decide) (pc' := 65) (by decide) ?_
      refine R.bipush X1 hx (hb hby d6_65) (v := (30 : Int32)) (by decide) (pc' := 67) rfl ?_
      refine R.goto X1 hx (hb hby d6_67) (by decide) (pc' := 72) (by decide) ?_
      rw [← hG]
      exact Rn.ret X1 (BodyLoose.notSynchronized Bd) (v := some (.int (30 : Int32))) (fun h => by rw [Bd.returns] at h; cases h) (Q := Q6 Z a0 (5 : Int32) h0 n0) e1 (fun fs hr => retOut X1 hx (t := .int) Bd.returns rfl (Or.inl ⟨rfl, Or.inl rfl, _, rfl⟩) (hb hby d6_72) hr) ⟨rfl, N1, rfl⟩ (by decide) (by decide)
    · refine R.tsw X1 hx (hb hby d6_4) (o := 66) (by decide) (by decide) (by decide) (pc' := 70) (by decide) ?_
      refine R.bipush X1 hx (hb hby d6_70) (v := (31 : Int32)) (by decide) (pc' := 72) rfl ?_
      rw [← hG]
      exact Rn.ret X1 (BodyLoose.notSynchronized Bd) (v := some (.int (31 : Int32))) (fun h => by rw [Bd.returns] at h; cases h) (Q := Q6 Z a0 (6 : Int32) h0 n0) e1 (fun fs hr => retOut X1 hx (t := .int) Bd.returns rfl (Or.inl ⟨rfl, Or.inl rfl, _, rfl⟩) (hb hby d6_72) hr) ⟨rfl, N1, rfl⟩ (by decide) (by decide)
    · refine R.tsw X1 hx (hb hby d6_4) (o := 66) (by decide) (by decide) (by decide) (pc' := 70) (by decide) ?_
      refine R.bipush X1 hx (hb hby d6_70) (v := (31 : Int32)) (by decide) (pc' := 72) rfl ?_
      rw [← hG]
      exact Rn.ret X1 (BodyLoose.notSynchronized Bd) (v := some (.int (31 : Int32))) (fun h => by rw [Bd.returns] at h; cases h) (Q := Q6 Z a0 (7 : Int32) h0 n0) e1 (fun fs hr => retOut X1 hx (t := .int) Bd.returns rfl (Or.inl ⟨rfl, Or.inl rfl, _, rfl⟩) (hb hby d6_72) hr) ⟨rfl, N1, rfl⟩ (by decide) (by decide)
    · refine R.tsw X1 hx (hb hby d6_4) (o := 61) (by decide) (by decide) (by decide) (pc' := 65) (by decide) ?_
      refine R.bipush X1 hx (hb hby d6_65) (v := (30 : Int32)) (by decide) (pc' := 67) rfl ?_
      refine R.goto X1 hx (hb hby d6_67) (by decide) (pc' := 72) (by decide) ?_
      rw [← hG]
      exact Rn.ret X1 (BodyLoose.notSynchronized Bd) (v := some (.int (30 : Int32))) (fun h => by rw [Bd.returns] at h; cases h) (Q := Q6 Z a0 (8 : Int32) h0 n0) e1 (fun fs hr => retOut X1 hx (t := .int) Bd.returns rfl (Or.inl ⟨rfl, Or.inl rfl, _, rfl⟩) (hb hby d6_72) hr) ⟨rfl, N1, rfl⟩ (by decide) (by decide)
    · refine R.tsw X1 hx (hb hby d6_4) (o := 66) (by decide) (by decide) (by decide) (pc' := 70) (by decide) ?_
      refine R.bipush X1 hx (hb hby d6_70) (v := (31 : Int32)) (by decide) (pc' := 72) rfl ?_
      rw [← hG]
      exact Rn.ret X1 (BodyLoose.notSynchronized Bd) (v := some (.int (31 : Int32))) (fun h => by rw [Bd.returns] at h; cases h) (Q := Q6 Z a0 (9 : Int32) h0 n0) e1 (fun fs hr => retOut X1 hx (t := .int) Bd.returns rfl (Or.inl ⟨rfl, Or.inl rfl, _, rfl⟩) (hb hby d6_72) hr) ⟨rfl, N1, rfl⟩ (by decide) (by decide)
    · refine R.tsw X1 hx (hb hby d6_4) (o := 61) (by decide) (by decide) (by decide) (pc' := 65) (by decide) ?_
      refine R.bipush X1 hx (hb hby d6_65) (v := (30 : Int32)) (by decide) (pc' := 67) rfl ?_
      refine R.goto X1 hx (hb hby d6_67) (by decide) (pc' := 72) (by decide) ?_
      rw [← hG]
      exact Rn.ret X1 (BodyLoose.notSynchronized Bd) (v := some (.int (30 : Int32))) (fun h => by rw [Bd.returns] at h; cases h) (Q := Q6 Z a0 (10 : Int32) h0 n0) e1 (fun fs hr => retOut X1 hx (t := .int) Bd.returns rfl (Or.inl ⟨rfl, Or.inl rfl, _, rfl⟩) (hb hby d6_72) hr) ⟨rfl, N1, rfl⟩ (by decide) (by decide)
    · refine R.tswD X1 hx (hb hby d6_4) (by decide) (by decide) (pc' := 70) (by decide) ?_
      refine R.bipush X1 hx (hb hby d6_70) (v := (31 : Int32)) (by decide) (pc' := 72) rfl ?_
      rw [← hG]
      exact Rn.ret X1 (BodyLoose.notSynchronized Bd) (v := some (.int (31 : Int32))) (fun h => by rw [Bd.returns] at h; cases h) (Q := Q6 Z a0 (11 : Int32) h0 n0) e1 (fun fs hr => retOut X1 hx (t := .int) Bd.returns rfl (Or.inl ⟨rfl, Or.inl rfl, _, rfl⟩) (hb hby d6_72) hr) ⟨rfl, N1, rfl⟩ (by decide) (by decide)
  exact (Rn.st (fun t k => castTop (ef_6 m a0) k) first_ : Rn p e below (s₁.setTop (entryFrame m #[(.ref a0)] 1)) (Fn6 Z a0 o h0 n0 s))
theorem d8_4 : decode jdk_2329_method_15_code 4 = .ok (.tableswitch 66 1 10 #[56, 66, 61, 66, 61, 66, 66, 61, 66, 61], 56) := by decide +kernel
theorem d8_0 : decode jdk_2329_method_15_code 0 = .ok (.aload_n 0, 1) := by decide +kernel
theorem d8_1 : decode jdk_2329_method_15_code 1 = .ok (.invokevirtual 141, 3) := by decide +kernel
theorem d8_70 : decode jdk_2329_method_15_code 70 = .ok (.bipush 31, 2) := by decide +kernel
theorem d8_72 : decode jdk_2329_method_15_code 72 = .ok (.ireturn, 1) := by decide +kernel
theorem d8_60 : decode jdk_2329_method_15_code 60 = .ok (.bipush 28, 2) := by decide +kernel
theorem d8_62 : decode jdk_2329_method_15_code 62 = .ok (.goto 10, 3) := by decide +kernel
theorem d8_65 : decode jdk_2329_method_15_code 65 = .ok (.bipush 30, 2) := by decide +kernel
theorem d8_67 : decode jdk_2329_method_15_code 67 = .ok (.goto 5, 3) := by decide +kernel
theorem ef_8 (m : MethodId) (x0 : Addr) : entryFrame m #[(.ref x0)] 1 = mkF m 0 #[.val (.ref x0)] [] := by first | (simp [entryFrame, mkF, argsToLocals, Value.category]; done) | rfl
def Q8 (Z : State) (a0 : Addr) (o : Int32) (h0 : Heap) (n0 : Nat) (vQ : Option Value) (hQ_ : Heap) (LQ : List Loc) : Prop := vQ = some (.int (own_min o)) ∧ Fr n0 LQ ∧ hQ_ = h0
def Fn8 (Z : State) (a0 : Addr) (o : Int32) (h0 : Heap) (n0 : Nat) (sQ : State) (oQ : Outcome) (UQ : State) : Prop := ∃ vQ LQ, oQ = .returned vQ ∧ Q8 Z a0 o h0 n0 vQ UQ.heap LQ ∧ FrameEnd sQ oQ UQ LQ ({ frames := 1, cells := 0, slots := 0, locals := 12 } : Room).cells ({ frames := 1, cells := 0, slots := 0, locals := 12 } : Room).slots
set_option maxRecDepth 65536 in
set_option maxHeartbeats 40000000 in
theorem rm8 (l : Launch) (Z : State) (aZ : Array Value) (hw : ∀ d ∈ tables_1, d.before aZ Z = true) (ws : List Jvm.Cond) (a0 : Addr) (o : Int32) (h0 : Heap) (n0 : Nat) (Z0 : n0 ≤ h0.size) (E_a0 : Exa Z h0 a0 "java/time/Month") (F_ordinal_a0 : Fld Z h0 a0 "java/lang/Enum" "ordinal" "I" (.int o)) (ho : 0 ≤ o.toInt ∧ o.toInt ≤ 11) :
    MetFree l (⟨"java/time/Month", "minLength", "()I"⟩ : MethodName) (head1 (Jvm.Cond.code (⟨"java/time/Month", "minLength", "()I"⟩ : MethodName) jdk_2329_method_15_code 1 (some .int) :: ws) ({ frames := 1, cells := 0, slots := 0, locals := 12 } : Room)) (fun aQ UQ => aQ = #[(.ref a0)] ∧ Z.Warmed39 UQ.vm ∧ UQ.heap = h0) (fun _ _ _ _ _ => True) (fun _ UQ oQ UR => ∃ vQ LQ, oQ = .returned vQ ∧ Q8 Z a0 o h0 n0 vQ UR.heap LQ ∧ FrameEnd UQ oQ UR LQ ({ frames := 1, cells := 0, slots := 0, locals := 12 } : Room).cells ({ frames := 1, cells := 0, slots := 0, locals := 12 } : Room).slots) := by
  refine MetFree.of_bodySF (plainFor_of_name pn_2) hisR ?_
  intro p e s m args below meth c s₁ Bd hml0 hP hK
  obtain ⟨rfl, hZ, hh⟩ := hP
  have hx := Bd.exec
  have hby := Bd.bytes
  have hml : c.maxLocals = 1 := hml0
  have hown : s.vm.findClass "java/time/Month" = some m.cls := findClass_of_methodNamed Bd.named
  have hnm := (name_of_methodNamed Bd.named Bd.method).1
  have X0 : Stand p l e ({ frames := 1, cells := 0, slots := 0, locals := 12 } : Room) s m #[(.ref a0)] below meth c s₁ [] 0 0 := Stand.of_body Bd
  have e0 : s₁.heap = h0 := by rw [← hh, Bd.state]; rfl
  have N0 := Fr.nil n0
  have K0 : Keep h0 h0 [] := Keep.refl _ _
  have w_29 := hw _ (List.mem_of_getElem? (i := 29) rfl)
  have w_30 := hw _ (List.mem_of_getElem? (i := 30) rfl)
  have w_31 := hw _ (List.mem_of_getElem? (i := 31) rfl)
  have w_32 := hw _ (List.mem_of_getElem? (i := 32) rfl)
  have w_33 := hw _ (List.mem_of_getElem? (i := 33) rfl)
  have w_34 := hw _ (List.mem_of_getElem? (i := 34) rfl)
  have w_35 := hw _ (List.mem_of_getElem? (i := 35) rfl)
  have first_ : Rn p e below (s₁.setTop (mkF m 0 #[.val (.ref a0)] [])) (Fn8 Z a0 o h0 n0 s) := by
    generalize hG : (Fn8 Z a0 o h0 n0 s) = G
    refine R.aloadN X0 hx (hb hby d8_0) rfl rfl (pc' := 1) rfl ?_
    refine R.virtualUp X0 hx hZ (x := mY0) (y := mY1) (owner := "java/lang/Enum") hown w_29 w_30 w_31 w_33 w_32 w_34 w_35 (by decide) e0 E_a0 (rm7 l Z aZ hw [] a0 o h0 n0 Z0 F_ordinal_a0) (by decide) (W := 0) (Nat.le_of_eq rfl) (by decide) (by rw [hml]; rfl) (lenOf pd_0 rfl) rfl (hb hby d8_1) (pc' := 4) rfl (by decide) (by decide) ?_; intro v1 T1 L1 X1 hQ1
    obtain ⟨rfl, N1q, e1⟩ := hQ1
    have N1 := Fr.app N0 N1q
    have h12 := own_12 ho
    rcases h12 with rfl | rfl | rfl | rfl | rfl | rfl | rfl | rfl | rfl | rfl | rfl | rfl
    · refine R.tswD X1 hx (hb hby d8_4) (by decide) (by decide) (pc' := 70) (by decide) ?_
      refine R.bipush X1 hx (hb hby d8_70) (v := (31 : Int32)) (by decide) (pc' := 72) rfl ?_
      rw [← hG]
      exact Rn.ret X1 (BodyLoose.notSynchronized Bd) (v := some (.int (31 : Int32))) (fun h => by rw [Bd.returns] at h; cases h) (Q := Q8 Z a0 (0 : Int32) h0 n0) e1 (fun fs hr => retOut X1 hx (t := .int) Bd.returns rfl (Or.inl ⟨rfl, Or.inl rfl, _, rfl⟩) (hb hby d8_72) hr) ⟨rfl, N1, rfl⟩ (by decide) (by decide)
    · refine R.tsw X1 hx (hb hby d8_4) (o := 56) (by decide) (by decide) (by decide) (pc' := 60) (by decide) ?_
      refine R.bipush X1 hx (hb hby d8_60) (v := (28 : Int32)) (by decide) (pc' := 62) rfl ?_
      refine R.goto X1 hx (hb hby d8_62) (by decide) (pc' := 72) (by decide) ?_
      rw [← hG]
      exact Rn.ret X1 (BodyLoose.notSynchronized Bd) (v := some (.int (28 : Int32))) (fun h => by rw [Bd.returns] at h; cases h) (Q := Q8 Z a0 (1 : Int32) h0 n0) e1 (fun fs hr => retOut X1 hx (t := .int) Bd.returns rfl (Or.inl ⟨rfl, Or.inl rfl, _, rfl⟩) (hb hby d8_72) hr) ⟨rfl, N1, rfl⟩ (by decide) (by decide)
    · refine R.tsw X1 hx (hb hby d8_4) (o := 66) (by decide) (by decide) (by decide) (pc' := 70) (by decide) ?_
      refine R.bipush X1 hx (hb hby d8_70) (v := (31 : Int32)) (by decide) (pc' := 72) rfl ?_
      rw [← hG]
      exact Rn.ret X1 (BodyLoose.notSynchronized Bd) (v := some (.int (31 : Int32))) (fun h => by rw [Bd.returns] at h; cases h) (Q := Q8 Z a0 (2 : Int32) h0 n0) e1 (fun fs hr => retOut X1 hx (t := .int) Bd.returns rfl (Or.inl ⟨rfl, Or.inl rfl, _, rfl⟩) (hb hby d8_72) hr) ⟨rfl, N1, rfl⟩ (by decide) (by decide)
    · refine R.tsw X1 hx (hb hby d8_4) (o := 61) (by decide) (by decide) (by decide) (pc' := 65) (by decide) ?_
      refine R.bipush X1 hx (hb hby d8_65) (v := (30 : Int32)) (by decide) (pc' := 67) rfl ?_
      refine R.goto X1 hx (hb hby d8_67) (by decide) (pc' := 72) (by decide) ?_
      rw [← hG]
      exact Rn.ret X1 (BodyLoose.notSynchronized Bd) (v := some (.int (30 : Int32))) (fun h => by rw [Bd.returns] at h; cases h) (Q := Q8 Z a0 (3 : Int32) h0 n0) e1 (fun fs hr => retOut X1 hx (t := .int) Bd.returns rfl (Or.inl ⟨rfl, Or.inl rfl, _, rfl⟩) (hb hby d8_72) hr) ⟨rfl, N1, rfl⟩ (by decide) (by decide)
    · refine R.tsw X1 hx (hb hby d8_4) (o := 66) (by decide) (by decide) (by decide) (pc' := 70) (by decide) ?_
      refine R.bipush X1 hx (hb hby d8_70) (v := (31 : Int32)) (by decide) (pc' := 72) rfl ?_
      rw [← hG]
      exact Rn.ret X1 (BodyLoose.notSynchronized Bd) (v := some (.int (31 : Int32))) (fun h => by rw [Bd.returns] at h; cases h) (Q := Q8 Z a0 (4 : Int32) h0 n0) e1 (fun fs hr => retOut X1 hx (t := .int) Bd.returns rfl (Or.inl ⟨rfl, Or.inl rfl, _, rfl⟩) (hb hby d8_72) hr) ⟨rfl, N1, rfl⟩ (by decide) (by decide)
    · refine R.tsw X1 hx (hb hby d8_4) (o := 61) (by decide) (by decide) (by decide) (pc' := 65) (by decide) ?_
      refine R.bipush X1 hx (hb hby d8_65) (v := (30 : Int32)) (by decide) (pc' := 67) rfl ?_
      refine R.goto X1 hx (hb hby d8_67) (by decide) (pc' := 72) (by decide) ?_
      rw [← hG]
      exact Rn.ret X1 (BodyLoose.notSynchronized Bd) (v := some (.int (30 : Int32))) (fun h => by rw [Bd.returns] at h; cases h) (Q := Q8 Z a0 (5 : Int32) h0 n0) e1 (fun fs hr => retOut X1 hx (t := .int) Bd.returns rfl (Or.inl ⟨rfl, Or.inl rfl, _, rfl⟩) (hb hby d8_72) hr) ⟨rfl, N1, rfl⟩ (by decide) (by decide)
    · refine R.tsw X1 hx (hb hby d8_4) (o := 66) (by decide) (by decide) (by decide) (pc' := 70) (by decide) ?_
      refine R.bipush X1 hx (hb hby d8_70) (v := (31 : Int32)) (by decide) (pc' := 72) rfl ?_
      rw [← hG]
      exact Rn.ret X1 (BodyLoose.notSynchronized Bd) (v := some (.int (31 : Int32))) (fun h => by rw [Bd.returns] at h; cases h) (Q := Q8 Z a0 (6 : Int32) h0 n0) e1 (fun fs hr => retOut X1 hx (t := .int) Bd.returns rfl (Or.inl ⟨rfl, Or.inl rfl, _, rfl⟩) (hb hby d8_72) hr) ⟨rfl, N1, rfl⟩ (by decide) (by decide)
    · refine R.tsw X1 hx (hb hby d8_4) (o := 66) (by decide) (by decide) (by decide) (pc' := 70) (by decide) ?_
      refine R.bipush X1 hx (hb hby d8_70) (v := (31 : Int32)) (by decide) (pc' := 72) rfl ?_
      rw [← hG]
      exact Rn.ret X1 (BodyLoose.notSynchronized Bd) (v := some (.int (31 : Int32))) (fun h => by rw [Bd.returns] at h; cases h) (Q := Q8 Z a0 (7 : Int32) h0 n0) e1 (fun fs hr => retOut X1 hx (t := .int) Bd.returns rfl (Or.inl ⟨rfl, Or.inl rfl, _, rfl⟩) (hb hby d8_72) hr) ⟨rfl, N1, rfl⟩ (by decide) (by decide)
    · refine R.tsw X1 hx (hb hby d8_4) (o := 61) (by decide) (by decide) (by decide) (pc' := 65) (by decide) ?_
      refine R.bipush X1 hx (hb hby d8_65) (v := (30 : Int32)) (by decide) (pc' := 67) rfl ?_
      refine R.goto X1 hx (hb hby d8_67) (by decide) (pc' := 72) (by decide) ?_
      rw [← hG]
      exact Rn.ret X1 (BodyLoose.notSynchronized Bd) (v := some (.int (30 : Int32))) (fun h => by rw [Bd.returns] at h; cases h) (Q := Q8 Z a0 (8 : Int32) h0 n0) e1 (fun fs hr => retOut X1 hx (t := .int) Bd.returns rfl (Or.inl ⟨rfl, Or.inl rfl, _, rfl⟩) (hb hby d8_72) hr) ⟨rfl, N1, rfl⟩ (by decide) (by decide)
    · refine R.tsw X1 hx (hb hby d8_4) (o := 66) (by decide) (by decide) (by decide) (pc' := 70) (by decide) ?_
      refine R.bipush X1 hx (hb hby d8_70) (v := (31 : Int32)) (by decide) (pc' := 72) rfl ?_
      rw [← hG]
      exact Rn.ret X1 (BodyLoose.notSynchronized Bd) (v := some (.int (31 : Int32))) (fun h => by rw [Bd.returns] at h; cases h) (Q := Q8 Z a0 (9 : Int32) h0 n0) e1 (fun fs hr => retOut X1 hx (t := .int) Bd.returns rfl (Or.inl ⟨rfl, Or.inl rfl, _, rfl⟩) (hb hby d8_72) hr) ⟨rfl, N1, rfl⟩ (by decide) (by decide)
    · refine R.tsw X1 hx (hb hby d8_4) (o := 61) (by decide) (by decide) (by decide) (pc' := 65) (by decide) ?_
      refine R.bipush X1 hx (hb hby d8_65) (v := (30 : Int32)) (by decide) (pc' := 67) rfl ?_
      refine R.goto X1 hx (hb hby d8_67) (by decide) (pc' := 72) (by decide) ?_
      rw [← hG]
      exact Rn.ret X1 (BodyLoose.notSynchronized Bd) (v := some (.int (30 : Int32))) (fun h => by rw [Bd.returns] at h; cases h) (Q := Q8 Z a0 (10 : Int32) h0 n0) e1 (fun fs hr => retOut X1 hx (t := .int) Bd.returns rfl (Or.inl ⟨rfl, Or.inl rfl, _, rfl⟩) (hb hby d8_72) hr) ⟨rfl, N1, rfl⟩ (by decide) (by decide)
    · refine R.tswD X1 hx (hb hby d8_4) (by decide) (by decide) (pc' := 70) (by decide) ?_
      refine R.bipush X1 hx (hb hby d8_70) (v := (31 : Int32)) (by decide) (pc' := 72) rfl ?_
      rw [← hG]
      exact Rn.ret X1 (BodyLoose.notSynchronized Bd) (v := some (.int (31 : Int32))) (fun h => by rw [Bd.returns] at h; cases h) (Q := Q8 Z a0 (11 : Int32) h0 n0) e1 (fun fs hr => retOut X1 hx (t := .int) Bd.returns rfl (Or.inl ⟨rfl, Or.inl rfl, _, rfl⟩) (hb hby d8_72) hr) ⟨rfl, N1, rfl⟩ (by decide) (by decide)
  exact (Rn.st (fun t k => castTop (ef_8 m a0) k) first_ : Rn p e below (s₁.setTop (entryFrame m #[(.ref a0)] 1)) (Fn8 Z a0 o h0 n0 s))
theorem d2_0 : decode prog_8_method_1_code 0 = .ok (.aload_n 0, 1) := by decide +kernel
theorem d2_1 : decode prog_8_method_1_code 1 = .ok (.invokespecial 1, 3) := by decide +kernel
theorem pd_1 : parseMethodDescriptor "()V" = some ⟨[], none⟩ := by decide +kernel
abbrev mY2 : MethodName := (⟨"java/lang/Record", "<init>", "()V"⟩ : MethodName)
theorem d2_4 : decode prog_8_method_1_code 4 = .ok (.iload_n 1, 1) := by decide +kernel
theorem d2_5 : decode prog_8_method_1_code 5 = .ok (.iconst 1, 1) := by decide +kernel
theorem d2_6 : decode prog_8_method_1_code 6 = .ok (.if_icmp .lt 25, 3) := by decide +kernel
theorem d2_9 : decode prog_8_method_1_code 9 = .ok (.iload_n 1, 1) := by decide +kernel
theorem d2_10 : decode prog_8_method_1_code 10 = .ok (.bipush 12, 2) := by decide +kernel
theorem d2_12 : decode prog_8_method_1_code 12 = .ok (.if_icmp .gt 19, 3) := by decide +kernel
theorem d2_15 : decode prog_8_method_1_code 15 = .ok (.iload_n 2, 1) := by decide +kernel
theorem d2_16 : decode prog_8_method_1_code 16 = .ok (.iconst 1, 1) := by decide +kernel
theorem d2_17 : decode prog_8_method_1_code 17 = .ok (.if_icmp .lt 14, 3) := by decide +kernel
theorem d2_20 : decode prog_8_method_1_code 20 = .ok (.iload_n 2, 1) := by decide +kernel
theorem d2_21 : decode prog_8_method_1_code 21 = .ok (.iload_n 1, 1) := by decide +kernel
theorem d2_22 : decode prog_8_method_1_code 22 = .ok (.invokestatic 7, 3) := by decide +kernel
theorem pd_2 : parseMethodDescriptor "(I)Ljava/time/Month;" = some ⟨[.int], some (.object "java/time/Month")⟩ := by decide +kernel
abbrev mY3 : MethodName := (⟨"java/time/Month", "of", "(I)Ljava/time/Month;"⟩ : MethodName)
theorem d2_25 : decode prog_8_method_1_code 25 = .ok (.invokevirtual 13, 3) := by decide +kernel
abbrev mY4 : MethodName := (⟨"java/time/Month", "maxLength", "()I"⟩ : MethodName)
theorem d2_28 : decode prog_8_method_1_code 28 = .ok (.if_icmp .le 13, 3) := by decide +kernel
theorem d2_41 : decode prog_8_method_1_code 41 = .ok (.iload_n 2, 1) := by decide +kernel
theorem d2_42 : decode prog_8_method_1_code 42 = .ok (.iload_n 1, 1) := by decide +kernel
theorem d2_43 : decode prog_8_method_1_code 43 = .ok (.invokestatic 7, 3) := by decide +kernel
theorem d2_46 : decode prog_8_method_1_code 46 = .ok (.invokevirtual 24, 3) := by decide +kernel
abbrev mY5 : MethodName := (⟨"java/time/Month", "minLength", "()I"⟩ : MethodName)
theorem d2_49 : decode prog_8_method_1_code 49 = .ok (.if_icmp .le 13, 3) := by decide +kernel
theorem d2_62 : decode prog_8_method_1_code 62 = .ok (.aload_n 0, 1) := by decide +kernel
theorem d2_63 : decode prog_8_method_1_code 63 = .ok (.iload_n 1, 1) := by decide +kernel
theorem d2_64 : decode prog_8_method_1_code 64 = .ok (.putfield 29, 3) := by decide +kernel
theorem d2_67 : decode prog_8_method_1_code 67 = .ok (.aload_n 0, 1) := by decide +kernel
theorem d2_68 : decode prog_8_method_1_code 68 = .ok (.iload_n 2, 1) := by decide +kernel
theorem d2_69 : decode prog_8_method_1_code 69 = .ok (.putfield 35, 3) := by decide +kernel
theorem d2_72 : decode prog_8_method_1_code 72 = .ok (.return_, 1) := by decide +kernel
theorem pn_4 : plainName "com/example/vespera/vespera/calendar/DayOfYear" = true := by first | (simp [plainName, overriddenIn]; done) | decide +kernel
theorem ef_2 (m : MethodId) (x0 : Addr) (x1 : Int32) (x2 : Int32) : entryFrame m #[(.ref x0), (.int x1), (.int x2)] 3 = mkF m 0 #[.val (.ref x0), .val (.int x1), .val (.int x2)] [] := by first | (simp [entryFrame, mkF, argsToLocals, Value.category]; done) | rfl
def Q2 (Z : State) (a0 : Addr) (p1 : Int32) (p2 : Int32) (en : Addr) (h0 : Heap) (n0 : Nat) (vQ : Option Value) (hQ_ : Heap) (LQ : List Loc) : Prop := vQ = none ∧ Fr n0 LQ ∧ Keep h0 hQ_ [a0] ∧ (Exa Z hQ_ a0 "com/example/vespera/vespera/calendar/DayOfYear") ∧ (Fld Z hQ_ a0 "com/example/vespera/vespera/calendar/DayOfYear" "month" "I" (.int p1)) ∧ (Fld Z hQ_ a0 "com/example/vespera/vespera/calendar/DayOfYear" "dayOfMonth" "I" (.int p2))
def Fn2 (Z : State) (a0 : Addr) (p1 : Int32) (p2 : Int32) (en : Addr) (h0 : Heap) (n0 : Nat) (sQ : State) (oQ : Outcome) (UQ : State) : Prop := ∃ vQ LQ, oQ = .returned vQ ∧ Q2 Z a0 p1 p2 en h0 n0 vQ UQ.heap LQ ∧ FrameEnd sQ oQ UQ LQ ({ frames := 2, cells := 0, slots := 0, locals := 25 } : Room).cells ({ frames := 2, cells := 0, slots := 0, locals := 25 } : Room).slots
set_option maxRecDepth 65536 in
set_option maxHeartbeats 40000000 in
theorem rm2 (l : Launch) (Z : State) (aZ : Array Value) (hw : ∀ d ∈ tables_1, d.before aZ Z = true) (ws : List Jvm.Cond) (a0 : Addr) (p1 : Int32) (p2 : Int32) (en : Addr) (h0 : Heap) (n0 : Nat) (Z0 : n0 ≤ h0.size) (E_a0 : Exa Z h0 a0 "com/example/vespera/vespera/calendar/DayOfYear") (F_month_a0 : Fld Z h0 a0 "com/example/vespera/vespera/calendar/DayOfYear" "month" "I" (.int (0 : Int32))) (F_dayOfMonth_a0 : Fld Z h0 a0 "com/example/vespera/vespera/calendar/DayOfYear" "dayOfMonth" "I" (.int (0 : Int32))) (g_a0 : n0 ≤ a0) (OL : Old Z n0 h0) (MF : own_MF Z en) (hm : 1 ≤ p1.toInt ∧ p1.toInt ≤ 12) (hd_ : 1 ≤ p2.toInt ∧ p2.toInt ≤ (own_days p1).toInt) :
    MetFree l (⟨"com/example/vespera/vespera/calendar/DayOfYear", "<init>", "(II)V"⟩ : MethodName) (head1 (Jvm.Cond.code (⟨"com/example/vespera/vespera/calendar/DayOfYear", "<init>", "(II)V"⟩ : MethodName) prog_8_method_1_code 3 none :: ws) ({ frames := 2, cells := 0, slots := 0, locals := 25 } : Room)) (fun aQ UQ => aQ = #[(.ref a0), (.int p1), (.int p2)] ∧ Z.Warmed39 UQ.vm ∧ UQ.heap = h0) (fun _ _ _ _ _ => True) (fun _ UQ oQ UR => ∃ vQ LQ, oQ = .returned vQ ∧ Q2 Z a0 p1 p2 en h0 n0 vQ UR.heap LQ ∧ FrameEnd UQ oQ UR LQ ({ frames := 2, cells := 0, slots := 0, locals := 25 } : Room).cells ({ frames := 2, cells := 0, slots := 0, locals := 25 } : Room).slots) := by
  refine MetFree.of_bodySF (plainFor_of_name pn_4) hisR ?_
  intro p e s m args below meth c s₁ Bd hml0 hP hK
  obtain ⟨rfl, hZ, hh⟩ := hP
  have hx := Bd.exec
  have hby := Bd.bytes
  have hml : c.maxLocals = 3 := hml0
  have hown : s.vm.findClass "com/example/vespera/vespera/calendar/DayOfYear" = some m.cls := findClass_of_methodNamed Bd.named
  have hnm := (name_of_methodNamed Bd.named Bd.method).1
  have X0 : Stand p l e ({ frames := 2, cells := 0, slots := 0, locals := 25 } : Room) s m #[(.ref a0), (.int p1), (.int p2)] below meth c s₁ [] 0 0 := Stand.of_body Bd
  have e0 : s₁.heap = h0 := by rw [← hh, Bd.state]; rfl
  have N0 := Fr.nil n0
  have K0 : Keep h0 h0 [a0] := Keep.refl _ _
  have w_6 := hw _ (List.mem_of_getElem? (i := 6) rfl)
  have w_11 := hw _ (List.mem_of_getElem? (i := 11) rfl)
  have w_12 := hw _ (List.mem_of_getElem? (i := 12) rfl)
  have w_14 := hw _ (List.mem_of_getElem? (i := 14) rfl)
  have w_15 := hw _ (List.mem_of_getElem? (i := 15) rfl)
  have w_19 := hw _ (List.mem_of_getElem? (i := 19) rfl)
  have w_20 := hw _ (List.mem_of_getElem? (i := 20) rfl)
  have w_21 := hw _ (List.mem_of_getElem? (i := 21) rfl)
  have w_22 := hw _ (List.mem_of_getElem? (i := 22) rfl)
  have w_24 := hw _ (List.mem_of_getElem? (i := 24) rfl)
  have w_25 := hw _ (List.mem_of_getElem? (i := 25) rfl)
  have w_26 := hw _ (List.mem_of_getElem? (i := 26) rfl)
  have w_27 := hw _ (List.mem_of_getElem? (i := 27) rfl)
  have w_28 := hw _ (List.mem_of_getElem? (i := 28) rfl)
  have w_38 := hw _ (List.mem_of_getElem? (i := 38) rfl)
  have w_39 := hw _ (List.mem_of_getElem? (i := 39) rfl)
  have w_40 := hw _ (List.mem_of_getElem? (i := 40) rfl)
  have w_41 := hw _ (List.mem_of_getElem? (i := 41) rfl)
  have w_42 := hw _ (List.mem_of_getElem? (i := 42) rfl)
  have w_43 := hw _ (List.mem_of_getElem? (i := 43) rfl)
  have w_44 := hw _ (List.mem_of_getElem? (i := 44) rfl)
  have w_45 := hw _ (List.mem_of_getElem? (i := 45) rfl)
  have w_46 := hw _ (List.mem_of_getElem? (i := 46) rfl)
  have first_ : Rn p e below (s₁.setTop (mkF m 0 #[.val (.ref a0), .val (.int p1), .val (.int p2)] [])) (Fn2 Z a0 p1 p2 en h0 n0 s) := by
    generalize hG : (Fn2 Z a0 p1 p2 en h0 n0 s) = G
    refine R.aloadN X0 hx (hb hby d2_0) rfl rfl (pc' := 1) rfl ?_
    refine R.special X0 hx hZ (y := mY2) rfl hown w_11 w_12 w_14 w_15 (by decide) e0 (rm3 l Z aZ hw [] a0 h0 n0 Z0 ) (by decide) (W := 0) (Nat.le_of_eq rfl) (by decide) (by rw [hml]; rfl) (lenOf pd_1 rfl) rfl (hb hby d2_1) (pc' := 4) rfl (by decide) (by decide) ?_; intro v1 T1 L1 X1 hQ1
    obtain ⟨rfl, N1q, e1⟩ := hQ1
    have N1 := Fr.app N0 N1q
    refine R.iloadN X1 hx (hb hby d2_4) rfl (pc' := 5) rfl ?_
    refine R.iconst X1 hx (hb hby d2_5) (v := (1 : Int32)) (by decide) (pc' := 6) rfl ?_
    refine R.icmpNo X1 hx (hb hby d2_6) (flt (fun q => absurd (Int32.lt_iff_toInt_lt.mp q) (by have t1 : (1 : Int32).toInt = 1 := (by decide); have t2 : (12 : Int32).toInt = 12 := (by decide); omega) : ¬ (p1 < (1 : Int32)))).1 (pc' := 9) rfl ?_
    refine R.iloadN X1 hx (hb hby d2_9) rfl (pc' := 10) rfl ?_
    refine R.bipush X1 hx (hb hby d2_10) (v := (12 : Int32)) (by decide) (pc' := 12) rfl ?_
    refine R.icmpNo X1 hx (hb hby d2_12) (flt (fun q => absurd (Int32.lt_iff_toInt_lt.mp q) (by have t1 : (1 : Int32).toInt = 1 := (by decide); have t2 : (12 : Int32).toInt = 12 := (by decide); omega) : ¬ ((12 : Int32) < p1))).2.2.1 (pc' := 15) rfl ?_
    refine R.iloadN X1 hx (hb hby d2_15) rfl (pc' := 16) rfl ?_
    refine R.iconst X1 hx (hb hby d2_16) (v := (1 : Int32)) (by decide) (pc' := 17) rfl ?_
    refine R.icmpNo X1 hx (hb hby d2_17) (flt (fun q => absurd (Int32.lt_iff_toInt_lt.mp q) (by have t1 : (1 : Int32).toInt = 1 := (by decide); have t2 : (12 : Int32).toInt = 12 := (by decide); omega) : ¬ (p2 < (1 : Int32)))).1 (pc' := 20) rfl ?_
    refine R.iloadN X1 hx (hb hby d2_20) rfl (pc' := 21) rfl ?_
    refine R.iloadN X1 hx (hb hby d2_21) rfl (pc' := 22) rfl ?_
    refine R.callS X1 hx hZ (y := mY3) hown w_19 w_20 w_21 w_22 (by decide) e1 (rm5 l Z aZ hw [] p1 en h0 n0 Z0 OL (MF) (hm)) (by decide) (W := 1) (Nat.le_of_eq rfl) (by decide) (by rw [hml]; rfl) (lenOf pd_2 rfl) rfl (hb hby d2_22) (pc' := 25) rfl (by decide) (by decide) ?_; intro v2 T2 L2 X2 hQ2
    obtain ⟨b_2, rfl, N2q, e2, P2_0, P2_1⟩ := hQ2
    have N2 := Fr.app N1 N2q
    rw [e2] at P2_0 P2_1
    have E_b_2 : Exa Z h0 b_2 "java/time/Month" := P2_0
    have F_ordinal_b_2 : Fld Z h0 b_2 "java/lang/Enum" "ordinal" "I" (.int (p1 - (1 : Int32))) := P2_1
    refine R.virtual X2 hx hZ (y := mY4) (z := mY4) hown w_24 w_25 (notFace_of_selects (args := #[]) (mvT hZ w_27)) w_27 w_26 w_21 w_28 (by decide) e2 E_b_2 (rm6 l Z aZ hw [] b_2 (p1 - (1 : Int32)) h0 n0 Z0 E_b_2 F_ordinal_b_2 (by have q := own_pred hm; omega)) (by decide) (W := 1) (Nat.le_of_eq rfl) (by decide) (by rw [hml]; rfl) (lenOf pd_0 rfl) rfl (hb hby d2_25) (pc' := 28) rfl (by decide) (by decide) ?_; intro v3 T3 L3 X3 hQ3
    obtain ⟨rfl, N3q, e3⟩ := hQ3
    have N3 := Fr.app N2 N3q
    refine R.icmpYes X3 hx (hb hby d2_28) (flt (fun q => absurd (Int32.lt_iff_toInt_lt.mp q) (by have t1 : (1 : Int32).toInt = 1 := (by decide); have t2 : (12 : Int32).toInt = 12 := (by decide); have q1 := own_mx hm; omega) : ¬ ((own_max (p1 - (1 : Int32))) < p2))).2.2.2 (by decide) (pc' := 41) (by decide) ?_
    refine R.iloadN X3 hx (hb hby d2_41) rfl (pc' := 42) rfl ?_
    refine R.iloadN X3 hx (hb hby d2_42) rfl (pc' := 43) rfl ?_
    refine R.callS X3 hx hZ (y := mY3) hown w_19 w_20 w_21 w_22 (by decide) e3 (rm5 l Z aZ hw [] p1 en h0 n0 Z0 OL (MF) (hm)) (by decide) (W := 1) (Nat.le_of_eq rfl) (by decide) (by rw [hml]; rfl) (lenOf pd_2 rfl) rfl (hb hby d2_43) (pc' := 46) rfl (by decide) (by decide) ?_; intro v4 T4 L4 X4 hQ4
    obtain ⟨b_4, rfl, N4q, e4, P4_0, P4_1⟩ := hQ4
    have N4 := Fr.app N3 N4q
    rw [e4] at P4_0 P4_1
    have E_b_4 : Exa Z h0 b_4 "java/time/Month" := P4_0
    have F_ordinal_b_4 : Fld Z h0 b_4 "java/lang/Enum" "ordinal" "I" (.int (p1 - (1 : Int32))) := P4_1
    refine R.virtual X4 hx hZ (y := mY5) (z := mY5) hown w_38 w_39 (notFace_of_selects (args := #[]) (mvT hZ w_41)) w_41 w_40 w_21 w_42 (by decide) e4 E_b_4 (rm8 l Z aZ hw [] b_4 (p1 - (1 : Int32)) h0 n0 Z0 E_b_4 F_ordinal_b_4 (by have q := own_pred hm; omega)) (by decide) (W := 1) (Nat.le_of_eq rfl) (by decide) (by rw [hml]; rfl) (lenOf pd_0 rfl) rfl (hb hby d2_46) (pc' := 49) rfl (by decide) (by decide) ?_; intro v5 T5 L5 X5 hQ5
    obtain ⟨rfl, N5q, e5⟩ := hQ5
    have N5 := Fr.app N4 N5q
    refine R.icmpYes X5 hx (hb hby d2_49) (flt (fun q => absurd (Int32.lt_iff_toInt_lt.mp q) (by have t1 : (1 : Int32).toInt = 1 := (by decide); have t2 : (12 : Int32).toInt = 12 := (by decide); have q1 := own_mn hm; omega) : ¬ ((own_min (p1 - (1 : Int32))) < p2))).2.2.2 (by decide) (pc' := 62) (by decide) ?_
    refine R.aloadN X5 hx (hb hby d2_62) rfl rfl (pc' := 63) rfl ?_
    refine R.iloadN X5 hx (hb hby d2_63) rfl (pc' := 64) rfl ?_
    refine R.putF X5 hx hZ hown (host := "") (Or.inl w_43) Via.refl e5 F_month_a0 E_a0 (Or.inr ⟨w_44, rfl, hnm⟩) w_6 (ty := .int) (by decide) rfl rfl (hb hby d2_64) (pc' := 67) rfl ?_; intro T6 h6 X6 e6 W6
    have E_a0 := E_a0.wr W6
    have F_dayOfMonth_a0 := F_dayOfMonth_a0.other W6 (Or.inr (slot_ne (Or.inr w_46) (Or.inr w_44) (by decide) (t := .int) (t' := .int) (by decide) (by decide)))
    have OL := OL.wr W6 g_a0
    have F_month_a0 : Fld Z h6 a0 "com/example/vespera/vespera/calendar/DayOfYear" "month" "I" (.int p1) := F_month_a0.same W6
    have N6 := Fr.snoc X6 N5 g_a0
    have K6 : Keep h0 h6 [a0] := K0.wr W6 (Or.inl (List.mem_of_getElem? (i := 0) rfl))
    have Z6 : n0 ≤ h6.size := Nat.le_trans Z0 (Keep.of_wr W6).1
    refine R.aloadN X6 hx (hb hby d2_67) rfl rfl (pc' := 68) rfl ?_
    refine R.iloadN X6 hx (hb hby d2_68) rfl (pc' := 69) rfl ?_
    refine R.putF X6 hx hZ hown (host := "") (Or.inl w_45) Via.refl e6 F_dayOfMonth_a0 E_a0 (Or.inr ⟨w_46, rfl, hnm⟩) w_6 (ty := .int) (by decide) rfl rfl (hb hby d2_69) (pc' := 72) rfl ?_; intro T7 h7 X7 e7 W7
    have E_a0 := E_a0.wr W7
    have OL := OL.wr W7 g_a0
    have F_month_a0 := F_month_a0.other W7 (Or.inr (slot_ne (Or.inr w_44) (Or.inr w_46) (by decide) (t := .int) (t' := .int) (by decide) (by decide)))
    have F_dayOfMonth_a0 : Fld Z h7 a0 "com/example/vespera/vespera/calendar/DayOfYear" "dayOfMonth" "I" (.int p2) := F_dayOfMonth_a0.same W7
    have N7 := Fr.snoc X7 N6 g_a0
    have K7 : Keep h0 h7 [a0] := K6.wr W7 (Or.inl (List.mem_of_getElem? (i := 0) rfl))
    have Z7 : n0 ≤ h7.size := Nat.le_trans Z6 (Keep.of_wr W7).1
    rw [← hG]
    exact Rn.ret X7 (BodyLoose.notSynchronized Bd) (v := none) (fun _ => rfl) (Q := Q2 Z a0 p1 p2 en h0 n0) e7 (fun fs hr => X7.returnOut hx Bd.returns (hb hby d2_72) hr) ⟨rfl, N7, K7, E_a0, F_month_a0, F_dayOfMonth_a0⟩ (by decide) (by decide)
  exact (Rn.st (fun t k => castTop (ef_2 m a0 p1 p2) k) first_ : Rn p e below (s₁.setTop (entryFrame m #[(.ref a0), (.int p1), (.int p2)] 3)) (Fn2 Z a0 p1 p2 en h0 n0 s))
theorem d10_0 : decode prog_8_method_2_code 0 = .ok (.aload_n 1, 1) := by decide +kernel
theorem d10_1 : decode prog_8_method_2_code 1 = .ok (.instanceof 30, 3) := by decide +kernel
theorem d10_4 : decode prog_8_method_2_code 4 = .ok (.ifCond .eq 34, 3) := by decide +kernel
theorem d10_7 : decode prog_8_method_2_code 7 = .ok (.aload_n 1, 1) := by decide +kernel
theorem d10_8 : decode prog_8_method_2_code 8 = .ok (.checkcast 30, 3) := by decide +kernel
theorem d10_11 : decode prog_8_method_2_code 11 = .ok (.astore_n 2, 1) := by decide +kernel
theorem d10_12 : decode prog_8_method_2_code 12 = .ok (.aload_n 0, 1) := by decide +kernel
theorem d10_13 : decode prog_8_method_2_code 13 = .ok (.getfield 29, 3) := by decide +kernel
theorem d10_16 : decode prog_8_method_2_code 16 = .ok (.aload_n 2, 1) := by decide +kernel
theorem d10_17 : decode prog_8_method_2_code 17 = .ok (.getfield 29, 3) := by decide +kernel
theorem d10_20 : decode prog_8_method_2_code 20 = .ok (.if_icmp .ne 18, 3) := by decide +kernel
theorem d10_23 : decode prog_8_method_2_code 23 = .ok (.aload_n 0, 1) := by decide +kernel
theorem d10_24 : decode prog_8_method_2_code 24 = .ok (.getfield 35, 3) := by decide +kernel
theorem d10_27 : decode prog_8_method_2_code 27 = .ok (.aload_n 2, 1) := by decide +kernel
theorem d10_28 : decode prog_8_method_2_code 28 = .ok (.getfield 35, 3) := by decide +kernel
theorem d10_31 : decode prog_8_method_2_code 31 = .ok (.if_icmp .ne 7, 3) := by decide +kernel
theorem d10_34 : decode prog_8_method_2_code 34 = .ok (.iconst 1, 1) := by decide +kernel
theorem d10_35 : decode prog_8_method_2_code 35 = .ok (.goto 4, 3) := by decide +kernel
theorem d10_39 : decode prog_8_method_2_code 39 = .ok (.ireturn, 1) := by decide +kernel
theorem d10_38 : decode prog_8_method_2_code 38 = .ok (.iconst 0, 1) := by decide +kernel
theorem ef_eqD (m : MethodId) (x0 : Addr) (x1 : Addr) : entryFrame m #[(.ref x0), (.ref x1)] 3 = mkF m 0 #[.val (.ref x0), .val (.ref x1), .unset] [] := by first | (simp [entryFrame, mkF, argsToLocals, Value.category]; done) | rfl
def QeqD (Z : State) (a0 : Addr) (a1 : Addr) (x : Int32) (y : Int32) (u : Int32) (v : Int32) (h0 : Heap) (n0 : Nat) (vQ : Option Value) (hQ_ : Heap) (LQ : List Loc) : Prop := vQ = some (.int (if x = u ∧ y = v then (1 : Int32) else 0)) ∧ Fr n0 LQ ∧ hQ_ = h0
def FneqD (Z : State) (a0 : Addr) (a1 : Addr) (x : Int32) (y : Int32) (u : Int32) (v : Int32) (h0 : Heap) (n0 : Nat) (sQ : State) (oQ : Outcome) (UQ : State) : Prop := ∃ vQ LQ, oQ = .returned vQ ∧ QeqD Z a0 a1 x y u v h0 n0 vQ UQ.heap LQ ∧ FrameEnd sQ oQ UQ LQ ({ frames := 0, cells := 0, slots := 0, locals := 0 } : Room).cells ({ frames := 0, cells := 0, slots := 0, locals := 0 } : Room).slots
set_option maxRecDepth 65536 in
set_option maxHeartbeats 40000000 in
theorem rmeqD (l : Launch) (Z : State) (aZ : Array Value) (hw : ∀ d ∈ tables_1, d.before aZ Z = true) (ws : List Jvm.Cond) (a0 : Addr) (a1 : Addr) (x : Int32) (y : Int32) (u : Int32) (v : Int32) (h0 : Heap) (n0 : Nat) (Z0 : n0 ≤ h0.size) (F_month_a0 : Fld Z h0 a0 "com/example/vespera/vespera/calendar/DayOfYear" "month" "I" (.int x)) (F_dayOfMonth_a0 : Fld Z h0 a0 "com/example/vespera/vespera/calendar/DayOfYear" "dayOfMonth" "I" (.int y)) (F_month_a1 : Fld Z h0 a1 "com/example/vespera/vespera/calendar/DayOfYear" "month" "I" (.int u)) (F_dayOfMonth_a1 : Fld Z h0 a1 "com/example/vespera/vespera/calendar/DayOfYear" "dayOfMonth" "I" (.int v)) (E_a1 : Exa Z h0 a1 "com/example/vespera/vespera/calendar/DayOfYear") :
    MetFree l (⟨"com/example/vespera/vespera/calendar/DayOfYear", "equals", "(Ljava/lang/Object;)Z"⟩ : MethodName) (head1 (Jvm.Cond.code (⟨"com/example/vespera/vespera/calendar/DayOfYear", "equals", "(Ljava/lang/Object;)Z"⟩ : MethodName) prog_8_method_2_code 3 (some .boolean) :: ws) ({ frames := 0, cells := 0, slots := 0, locals := 0 } : Room)) (fun aQ UQ => aQ = #[(.ref a0), (.ref a1)] ∧ Z.Warmed39 UQ.vm ∧ UQ.heap = h0) (fun _ _ _ _ _ => True) (fun _ UQ oQ UR => ∃ vQ LQ, oQ = .returned vQ ∧ QeqD Z a0 a1 x y u v h0 n0 vQ UR.heap LQ ∧ FrameEnd UQ oQ UR LQ ({ frames := 0, cells := 0, slots := 0, locals := 0 } : Room).cells ({ frames := 0, cells := 0, slots := 0, locals := 0 } : Room).slots) := by
  refine MetFree.of_bodySF (plainFor_of_name pn_4) hisR ?_
  intro p e s m args below meth c s₁ Bd hml0 hP hK
  obtain ⟨rfl, hZ, hh⟩ := hP
  have hx := Bd.exec
  have hby := Bd.bytes
  have hml : c.maxLocals = 3 := hml0
  have hown : s.vm.findClass "com/example/vespera/vespera/calendar/DayOfYear" = some m.cls := findClass_of_methodNamed Bd.named
  have hnm := (name_of_methodNamed Bd.named Bd.method).1
  have X0 : Stand p l e ({ frames := 0, cells := 0, slots := 0, locals := 0 } : Room) s m #[(.ref a0), (.ref a1)] below meth c s₁ [] 0 0 := Stand.of_body Bd
  have e0 : s₁.heap = h0 := by rw [← hh, Bd.state]; rfl
  have N0 := Fr.nil n0
  have K0 : Keep h0 h0 [] := Keep.refl _ _
  have w_43 := hw _ (List.mem_of_getElem? (i := 43) rfl)
  have w_45 := hw _ (List.mem_of_getElem? (i := 45) rfl)
  have w_59 := hw _ (List.mem_of_getElem? (i := 59) rfl)
  have first_ : Rn p e below (s₁.setTop (mkF m 0 #[.val (.ref a0), .val (.ref a1), .unset] [])) (FneqD Z a0 a1 x y u v h0 n0 s) := by
    generalize hG : (FneqD Z a0 a1 x y u v h0 n0 s) = G
    refine R.aloadN X0 hx (hb hby d10_0) rfl rfl (pc' := 1) rfl ?_
    refine R.instY X0 hx hZ hown w_59 e0 (Ins.self E_a1) (hb hby d10_1) (pc' := 4) rfl ?_; intro T1 X1 e1
    refine R.ifNo X1 hx (hb hby d10_4) (feq (by decide : ¬ ((1 : Int32) = (0 : Int32)))).1 (pc' := 7) rfl ?_
    refine R.aloadN X1 hx (hb hby d10_7) rfl rfl (pc' := 8) rfl ?_
    refine R.castY X1 hx hZ hown w_59 e1 (Ins.self E_a1) (hb hby d10_8) (pc' := 11) rfl ?_; intro T2 X2 e2
    refine R.astoreN X2 hx (hb hby d10_11) rfl (L' := #[.val (.ref a0), .val (.ref a1), .val (.ref a1)]) rfl (pc' := 12) rfl ?_
    refine R.aloadN X2 hx (hb hby d10_12) rfl rfl (pc' := 13) rfl ?_
    refine R.getF X2 hx hZ hown (host := "") (Or.inl w_43) Via.refl e2 F_month_a0 (hb hby d10_13) (pc' := 16) rfl ?_; intro T3 X3 e3
    refine R.aloadN X3 hx (hb hby d10_16) rfl rfl (pc' := 17) rfl ?_
    refine R.getF X3 hx hZ hown (host := "") (Or.inl w_43) Via.refl e3 F_month_a1 (hb hby d10_17) (pc' := 20) rfl ?_; intro T4 X4 e4
    by_cases hc20 : x = u
    · refine R.icmpNo X4 hx (hb hby d10_20) (teq hc20).2 (pc' := 23) rfl ?_
      refine R.aloadN X4 hx (hb hby d10_23) rfl rfl (pc' := 24) rfl ?_
      refine R.getF X4 hx hZ hown (host := "") (Or.inl w_45) Via.refl e4 F_dayOfMonth_a0 (hb hby d10_24) (pc' := 27) rfl ?_; intro T5 X5 e5
      refine R.aloadN X5 hx (hb hby d10_27) rfl rfl (pc' := 28) rfl ?_
      refine R.getF X5 hx hZ hown (host := "") (Or.inl w_45) Via.refl e5 F_dayOfMonth_a1 (hb hby d10_28) (pc' := 31) rfl ?_; intro T6 X6 e6
      by_cases hc31 : y = v
      · refine R.icmpNo X6 hx (hb hby d10_31) (teq hc31).2 (pc' := 34) rfl ?_
        refine R.iconst X6 hx (hb hby d10_34) (v := (1 : Int32)) (by decide) (pc' := 35) rfl ?_
        refine R.goto X6 hx (hb hby d10_35) (by decide) (pc' := 39) (by decide) ?_
        rw [← hG]
        exact Rn.ret X6 (BodyLoose.notSynchronized Bd) (v := some (.int (1 : Int32))) (fun h => by rw [Bd.returns] at h; cases h) (Q := QeqD Z a0 a1 x y u v h0 n0) e6 (fun fs hr => retN X6 hx (t := .boolean) Bd.returns (by simp) (hb hby d10_39) hr) ⟨(by rw [if_pos ⟨hc20, hc31⟩]), N0, rfl⟩ (by decide) (by decide)
      · refine R.icmpYes X6 hx (hb hby d10_31) (feq hc31).2 (by decide) (pc' := 38) (by decide) ?_
        refine R.iconst X6 hx (hb hby d10_38) (v := (0 : Int32)) (by decide) (pc' := 39) rfl ?_
        rw [← hG]
        exact Rn.ret X6 (BodyLoose.notSynchronized Bd) (v := some (.int (0 : Int32))) (fun h => by rw [Bd.returns] at h; cases h) (Q := QeqD Z a0 a1 x y u v h0 n0) e6 (fun fs hr => retN X6 hx (t := .boolean) Bd.returns (by simp) (hb hby d10_39) hr) ⟨(by rw [if_neg (fun q => hc31 q.2)]), N0, rfl⟩ (by decide) (by decide)
    · refine R.icmpYes X4 hx (hb hby d10_20) (feq hc20).2 (by decide) (pc' := 38) (by decide) ?_
      refine R.iconst X4 hx (hb hby d10_38) (v := (0 : Int32)) (by decide) (pc' := 39) rfl ?_
      rw [← hG]
      exact Rn.ret X4 (BodyLoose.notSynchronized Bd) (v := some (.int (0 : Int32))) (fun h => by rw [Bd.returns] at h; cases h) (Q := QeqD Z a0 a1 x y u v h0 n0) e4 (fun fs hr => retN X4 hx (t := .boolean) Bd.returns (by simp) (hb hby d10_39) hr) ⟨(by rw [if_neg (fun q => hc20 q.1)]), N0, rfl⟩ (by decide) (by decide)
  exact (Rn.st (fun t k => castTop (ef_eqD m a0 a1) k) first_ : Rn p e below (s₁.setTop (entryFrame m #[(.ref a0), (.ref a1)] 3)) (FneqD Z a0 a1 x y u v h0 n0 s))
theorem ef_eqN (m : MethodId) (x0 : Addr) : entryFrame m #[(.ref x0), .null] 3 = mkF m 0 #[.val (.ref x0), .val .null, .unset] [] := by first | (simp [entryFrame, mkF, argsToLocals, Value.category]; done) | rfl
def QeqN (Z : State) (a0 : Addr) (h0 : Heap) (n0 : Nat) (vQ : Option Value) (hQ_ : Heap) (LQ : List Loc) : Prop := vQ = some (.int (0 : Int32)) ∧ Fr n0 LQ ∧ hQ_ = h0
def FneqN (Z : State) (a0 : Addr) (h0 : Heap) (n0 : Nat) (sQ : State) (oQ : Outcome) (UQ : State) : Prop := ∃ vQ LQ, oQ = .returned vQ ∧ QeqN Z a0 h0 n0 vQ UQ.heap LQ ∧ FrameEnd sQ oQ UQ LQ ({ frames := 0, cells := 0, slots := 0, locals := 0 } : Room).cells ({ frames := 0, cells := 0, slots := 0, locals := 0 } : Room).slots
set_option maxRecDepth 65536 in
set_option maxHeartbeats 40000000 in
theorem rmeqN (l : Launch) (Z : State) (aZ : Array Value) (hw : ∀ d ∈ tables_1, d.before aZ Z = true) (ws : List Jvm.Cond) (a0 : Addr) (h0 : Heap) (n0 : Nat) (Z0 : n0 ≤ h0.size) :
    MetFree l (⟨"com/example/vespera/vespera/calendar/DayOfYear", "equals", "(Ljava/lang/Object;)Z"⟩ : MethodName) (head1 (Jvm.Cond.code (⟨"com/example/vespera/vespera/calendar/DayOfYear", "equals", "(Ljava/lang/Object;)Z"⟩ : MethodName) prog_8_method_2_code 3 (some .boolean) :: ws) ({ frames := 0, cells := 0, slots := 0, locals := 0 } : Room)) (fun aQ UQ => aQ = #[(.ref a0), .null] ∧ Z.Warmed39 UQ.vm ∧ UQ.heap = h0) (fun _ _ _ _ _ => True) (fun _ UQ oQ UR => ∃ vQ LQ, oQ = .returned vQ ∧ QeqN Z a0 h0 n0 vQ UR.heap LQ ∧ FrameEnd UQ oQ UR LQ ({ frames := 0, cells := 0, slots := 0, locals := 0 } : Room).cells ({ frames := 0, cells := 0, slots := 0, locals := 0 } : Room).slots) := by
  refine MetFree.of_bodySF (plainFor_of_name pn_4) hisR ?_
  intro p e s m args below meth c s₁ Bd hml0 hP hK
  obtain ⟨rfl, hZ, hh⟩ := hP
  have hx := Bd.exec
  have hby := Bd.bytes
  have hml : c.maxLocals = 3 := hml0
  have hown : s.vm.findClass "com/example/vespera/vespera/calendar/DayOfYear" = some m.cls := findClass_of_methodNamed Bd.named
  have hnm := (name_of_methodNamed Bd.named Bd.method).1
  have X0 : Stand p l e ({ frames := 0, cells := 0, slots := 0, locals := 0 } : Room) s m #[(.ref a0), .null] below meth c s₁ [] 0 0 := Stand.of_body Bd
  have e0 : s₁.heap = h0 := by rw [← hh, Bd.state]; rfl
  have N0 := Fr.nil n0
  have K0 : Keep h0 h0 [] := Keep.refl _ _
  have first_ : Rn p e below (s₁.setTop (mkF m 0 #[.val (.ref a0), .val .null, .unset] [])) (FneqN Z a0 h0 n0 s) := by
    generalize hG : (FneqN Z a0 h0 n0 s) = G
    refine R.aloadN X0 hx (hb hby d10_0) rfl rfl (pc' := 1) rfl ?_
    refine Rn.st (fun t k => X0.instanceofNull hx (g := (mkF m 1 #[.val (.ref a0), .val .null, .unset] [.null])) rfl rfl (hb hby d10_1) _ k) ?_
    show Rn p e below (s₁.setTop (mkF m 4 #[.val (.ref a0), .val .null, .unset] [(.int (0 : Int32))])) G
    refine R.ifYes X0 hx (hb hby d10_4) (teq (by decide : (0 : Int32) = (0 : Int32))).1 (by decide) (pc' := 38) (by decide) ?_
    refine R.iconst X0 hx (hb hby d10_38) (v := (0 : Int32)) (by decide) (pc' := 39) rfl ?_
    rw [← hG]
    exact Rn.ret X0 (BodyLoose.notSynchronized Bd) (v := some (.int (0 : Int32))) (fun h => by rw [Bd.returns] at h; cases h) (Q := QeqN Z a0 h0 n0) e0 (fun fs hr => retN X0 hx (t := .boolean) Bd.returns (by simp) (hb hby d10_39) hr) ⟨rfl, N0, rfl⟩ (by decide) (by decide)
  exact (Rn.st (fun t k => castTop (ef_eqN m a0) k) first_ : Rn p e below (s₁.setTop (entryFrame m #[(.ref a0), .null] 3)) (FneqN Z a0 h0 n0 s))
theorem ef_eqI (m : MethodId) (x0 : Addr) (x1 : Addr) : entryFrame m #[(.ref x0), (.ref x1)] 3 = mkF m 0 #[.val (.ref x0), .val (.ref x1), .unset] [] := by first | (simp [entryFrame, mkF, argsToLocals, Value.category]; done) | rfl
def QeqI (Z : State) (a0 : Addr) (a1 : Addr) (h0 : Heap) (n0 : Nat) (vQ : Option Value) (hQ_ : Heap) (LQ : List Loc) : Prop := vQ = some (.int (0 : Int32)) ∧ Fr n0 LQ ∧ hQ_ = h0
def FneqI (Z : State) (a0 : Addr) (a1 : Addr) (h0 : Heap) (n0 : Nat) (sQ : State) (oQ : Outcome) (UQ : State) : Prop := ∃ vQ LQ, oQ = .returned vQ ∧ QeqI Z a0 a1 h0 n0 vQ UQ.heap LQ ∧ FrameEnd sQ oQ UQ LQ ({ frames := 0, cells := 0, slots := 0, locals := 0 } : Room).cells ({ frames := 0, cells := 0, slots := 0, locals := 0 } : Room).slots
set_option maxRecDepth 65536 in
set_option maxHeartbeats 40000000 in
theorem rmeqI (l : Launch) (Z : State) (aZ : Array Value) (hw : ∀ d ∈ tables_1, d.before aZ Z = true) (ws : List Jvm.Cond) (a0 : Addr) (a1 : Addr) (h0 : Heap) (n0 : Nat) (Z0 : n0 ≤ h0.size) (E_a1 : Exa Z h0 a1 "java/lang/Integer") :
    MetFree l (⟨"com/example/vespera/vespera/calendar/DayOfYear", "equals", "(Ljava/lang/Object;)Z"⟩ : MethodName) (head1 (Jvm.Cond.code (⟨"com/example/vespera/vespera/calendar/DayOfYear", "equals", "(Ljava/lang/Object;)Z"⟩ : MethodName) prog_8_method_2_code 3 (some .boolean) :: ws) ({ frames := 0, cells := 0, slots := 0, locals := 0 } : Room)) (fun aQ UQ => aQ = #[(.ref a0), (.ref a1)] ∧ Z.Warmed39 UQ.vm ∧ UQ.heap = h0) (fun _ _ _ _ _ => True) (fun _ UQ oQ UR => ∃ vQ LQ, oQ = .returned vQ ∧ QeqI Z a0 a1 h0 n0 vQ UR.heap LQ ∧ FrameEnd UQ oQ UR LQ ({ frames := 0, cells := 0, slots := 0, locals := 0 } : Room).cells ({ frames := 0, cells := 0, slots := 0, locals := 0 } : Room).slots) := by
  refine MetFree.of_bodySF (plainFor_of_name pn_4) hisR ?_
  intro p e s m args below meth c s₁ Bd hml0 hP hK
  obtain ⟨rfl, hZ, hh⟩ := hP
  have hx := Bd.exec
  have hby := Bd.bytes
  have hml : c.maxLocals = 3 := hml0
  have hown : s.vm.findClass "com/example/vespera/vespera/calendar/DayOfYear" = some m.cls := findClass_of_methodNamed Bd.named
  have hnm := (name_of_methodNamed Bd.named Bd.method).1
  have X0 : Stand p l e ({ frames := 0, cells := 0, slots := 0, locals := 0 } : Room) s m #[(.ref a0), (.ref a1)] below meth c s₁ [] 0 0 := Stand.of_body Bd
  have e0 : s₁.heap = h0 := by rw [← hh, Bd.state]; rfl
  have N0 := Fr.nil n0
  have K0 : Keep h0 h0 [] := Keep.refl _ _
  have w_6 := hw _ (List.mem_of_getElem? (i := 6) rfl)
  have w_59 := hw _ (List.mem_of_getElem? (i := 59) rfl)
  have w_61 := hw _ (List.mem_of_getElem? (i := 61) rfl)
  have w_62 := hw _ (List.mem_of_getElem? (i := 62) rfl)
  have w_63 := hw _ (List.mem_of_getElem? (i := 63) rfl)
  have first_ : Rn p e below (s₁.setTop (mkF m 0 #[.val (.ref a0), .val (.ref a1), .unset] [])) (FneqI Z a0 a1 h0 n0 s) := by
    generalize hG : (FneqI Z a0 a1 h0 n0 s) = G
    refine R.aloadN X0 hx (hb hby d10_0) rfl rfl (pc' := 1) rfl ?_
    have nI := own_no w_61 w_62 w_63 w_6
    refine R.instNo X0 hx hZ hown w_59 e0 E_a1 nI (hb hby d10_1) (pc' := 4) rfl ?_; intro T1 X1 e1
    refine R.ifYes X1 hx (hb hby d10_4) (teq (by decide : (0 : Int32) = (0 : Int32))).1 (by decide) (pc' := 38) (by decide) ?_
    refine R.iconst X1 hx (hb hby d10_38) (v := (0 : Int32)) (by decide) (pc' := 39) rfl ?_
    rw [← hG]
    exact Rn.ret X1 (BodyLoose.notSynchronized Bd) (v := some (.int (0 : Int32))) (fun h => by rw [Bd.returns] at h; cases h) (Q := QeqI Z a0 a1 h0 n0) e1 (fun fs hr => retN X1 hx (t := .boolean) Bd.returns (by simp) (hb hby d10_39) hr) ⟨rfl, N0, rfl⟩ (by decide) (by decide)
  exact (Rn.st (fun t k => castTop (ef_eqI m a0 a1) k) first_ : Rn p e below (s₁.setTop (entryFrame m #[(.ref a0), (.ref a1)] 3)) (FneqI Z a0 a1 h0 n0 s))
theorem d11_0 : decode jdk_29_method_69_code 0 = .ok (.iload_n 0, 1) := by decide +kernel
theorem d11_1 : decode jdk_29_method_69_code 1 = .ok (.iload_n 1, 1) := by decide +kernel
theorem d11_2 : decode jdk_29_method_69_code 2 = .ok (.if_icmp .gt 7, 3) := by decide +kernel
theorem d11_9 : decode jdk_29_method_69_code 9 = .ok (.iload_n 1, 1) := by decide +kernel
theorem d11_10 : decode jdk_29_method_69_code 10 = .ok (.ireturn, 1) := by decide +kernel
theorem d11_5 : decode jdk_29_method_69_code 5 = .ok (.iload_n 0, 1) := by decide +kernel
theorem d11_6 : decode jdk_29_method_69_code 6 = .ok (.goto 4, 3) := by decide +kernel
theorem ef_11 (m : MethodId) (x0 : Int32) (x1 : Int32) : entryFrame m #[(.int x0), (.int x1)] 2 = mkF m 0 #[.val (.int x0), .val (.int x1)] [] := by first | (simp [entryFrame, mkF, argsToLocals, Value.category]; done) | rfl
def Q11 (Z : State) (p0 : Int32) (p1 : Int32) (h0 : Heap) (n0 : Nat) (vQ : Option Value) (hQ_ : Heap) (LQ : List Loc) : Prop := vQ = some (.int (if p1 < p0 then p1 else p0)) ∧ Fr n0 LQ ∧ hQ_ = h0
def Fn11 (Z : State) (p0 : Int32) (p1 : Int32) (h0 : Heap) (n0 : Nat) (sQ : State) (oQ : Outcome) (UQ : State) : Prop := ∃ vQ LQ, oQ = .returned vQ ∧ Q11 Z p0 p1 h0 n0 vQ UQ.heap LQ ∧ FrameEnd sQ oQ UQ LQ ({ frames := 0, cells := 0, slots := 0, locals := 0 } : Room).cells ({ frames := 0, cells := 0, slots := 0, locals := 0 } : Room).slots
set_option maxRecDepth 65536 in
set_option maxHeartbeats 40000000 in
theorem rm11 (l : Launch) (Z : State) (aZ : Array Value) (hw : ∀ d ∈ tables_1, d.before aZ Z = true) (ws : List Jvm.Cond) (p0 : Int32) (p1 : Int32) (h0 : Heap) (n0 : Nat) (Z0 : n0 ≤ h0.size) :
    MetFree l (⟨"java/lang/Math", "min", "(II)I"⟩ : MethodName) (head1 (Jvm.Cond.code (⟨"java/lang/Math", "min", "(II)I"⟩ : MethodName) jdk_29_method_69_code 2 (some .int) :: ws) ({ frames := 0, cells := 0, slots := 0, locals := 0 } : Room)) (fun aQ UQ => aQ = #[(.int p0), (.int p1)] ∧ Z.Warmed39 UQ.vm ∧ UQ.heap = h0) (fun _ _ _ _ _ => True) (fun _ UQ oQ UR => ∃ vQ LQ, oQ = .returned vQ ∧ Q11 Z p0 p1 h0 n0 vQ UR.heap LQ ∧ FrameEnd UQ oQ UR LQ ({ frames := 0, cells := 0, slots := 0, locals := 0 } : Room).cells ({ frames := 0, cells := 0, slots := 0, locals := 0 } : Room).slots) := by
  refine MetFree.of_bodySF (Jvm.Free.JP.mathPlain rfl (by decide +kernel)) hisR ?_
  intro p e s m args below meth c s₁ Bd hml0 hP hK
  obtain ⟨rfl, hZ, hh⟩ := hP
  have hx := Bd.exec
  have hby := Bd.bytes
  have hml : c.maxLocals = 2 := hml0
  have hown : s.vm.findClass "java/lang/Math" = some m.cls := findClass_of_methodNamed Bd.named
  have hnm := (name_of_methodNamed Bd.named Bd.method).1
  have X0 : Stand p l e ({ frames := 0, cells := 0, slots := 0, locals := 0 } : Room) s m #[(.int p0), (.int p1)] below meth c s₁ [] 0 0 := Stand.of_body Bd
  have e0 : s₁.heap = h0 := by rw [← hh, Bd.state]; rfl
  have N0 := Fr.nil n0
  have K0 : Keep h0 h0 [] := Keep.refl _ _
  have first_ : Rn p e below (s₁.setTop (mkF m 0 #[.val (.int p0), .val (.int p1)] [])) (Fn11 Z p0 p1 h0 n0 s) := by
    generalize hG : (Fn11 Z p0 p1 h0 n0 s) = G
    refine R.iloadN X0 hx (hb hby d11_0) rfl (pc' := 1) rfl ?_
    refine R.iloadN X0 hx (hb hby d11_1) rfl (pc' := 2) rfl ?_
    by_cases hc2 : p1 < p0
    · refine R.icmpYes X0 hx (hb hby d11_2) (tlt hc2).2.2.1 (by decide) (pc' := 9) (by decide) ?_
      refine R.iloadN X0 hx (hb hby d11_9) rfl (pc' := 10) rfl ?_
      rw [← hG]
      exact Rn.ret X0 (BodyLoose.notSynchronized Bd) (v := some (.int p1)) (fun h => by rw [Bd.returns] at h; cases h) (Q := Q11 Z p0 p1 h0 n0) e0 (fun fs hr => retOut X0 hx (t := .int) Bd.returns rfl (Or.inl ⟨rfl, Or.inl rfl, _, rfl⟩) (hb hby d11_10) hr) ⟨(by rw [if_pos hc2]), N0, rfl⟩ (by decide) (by decide)
    · refine R.icmpNo X0 hx (hb hby d11_2) (flt hc2).2.2.1 (pc' := 5) rfl ?_
      refine R.iloadN X0 hx (hb hby d11_5) rfl (pc' := 6) rfl ?_
      refine R.goto X0 hx (hb hby d11_6) (by decide) (pc' := 10) (by decide) ?_
      rw [← hG]
      exact Rn.ret X0 (BodyLoose.notSynchronized Bd) (v := some (.int p0)) (fun h => by rw [Bd.returns] at h; cases h) (Q := Q11 Z p0 p1 h0 n0) e0 (fun fs hr => retOut X0 hx (t := .int) Bd.returns rfl (Or.inl ⟨rfl, Or.inl rfl, _, rfl⟩) (hb hby d11_10) hr) ⟨(by rw [if_neg hc2]), N0, rfl⟩ (by decide) (by decide)
  exact (Rn.st (fun t k => castTop (ef_11 m p0 p1) k) first_ : Rn p e below (s₁.setTop (entryFrame m #[(.int p0), (.int p1)] 2)) (Fn11 Z p0 p1 h0 n0 s))
theorem d13_0 : decode jdk_18_method_1_code 0 = .ok (.aload_n 0, 1) := by decide +kernel
theorem d13_1 : decode jdk_18_method_1_code 1 = .ok (.invokespecial 1, 3) := by decide +kernel
theorem d13_4 : decode jdk_18_method_1_code 4 = .ok (.return_, 1) := by decide +kernel
theorem pn_5 : plainName "java/lang/Number" = true := by first | (simp [plainName, overriddenIn]; done) | decide +kernel
theorem ef_13 (m : MethodId) (x0 : Addr) : entryFrame m #[(.ref x0)] 1 = mkF m 0 #[.val (.ref x0)] [] := by first | (simp [entryFrame, mkF, argsToLocals, Value.category]; done) | rfl
def Q13 (Z : State) (a0 : Addr) (h0 : Heap) (n0 : Nat) (vQ : Option Value) (hQ_ : Heap) (LQ : List Loc) : Prop := vQ = none ∧ Fr n0 LQ ∧ hQ_ = h0
def Fn13 (Z : State) (a0 : Addr) (h0 : Heap) (n0 : Nat) (sQ : State) (oQ : Outcome) (UQ : State) : Prop := ∃ vQ LQ, oQ = .returned vQ ∧ Q13 Z a0 h0 n0 vQ UQ.heap LQ ∧ FrameEnd sQ oQ UQ LQ ({ frames := 1, cells := 0, slots := 0, locals := 12 } : Room).cells ({ frames := 1, cells := 0, slots := 0, locals := 12 } : Room).slots
set_option maxRecDepth 65536 in
set_option maxHeartbeats 40000000 in
theorem rm13 (l : Launch) (Z : State) (aZ : Array Value) (hw : ∀ d ∈ tables_1, d.before aZ Z = true) (ws : List Jvm.Cond) (a0 : Addr) (h0 : Heap) (n0 : Nat) (Z0 : n0 ≤ h0.size) :
    MetFree l (⟨"java/lang/Number", "<init>", "()V"⟩ : MethodName) (head1 (Jvm.Cond.code (⟨"java/lang/Number", "<init>", "()V"⟩ : MethodName) jdk_18_method_1_code 1 none :: ws) ({ frames := 1, cells := 0, slots := 0, locals := 12 } : Room)) (fun aQ UQ => aQ = #[(.ref a0)] ∧ Z.Warmed39 UQ.vm ∧ UQ.heap = h0) (fun _ _ _ _ _ => True) (fun _ UQ oQ UR => ∃ vQ LQ, oQ = .returned vQ ∧ Q13 Z a0 h0 n0 vQ UR.heap LQ ∧ FrameEnd UQ oQ UR LQ ({ frames := 1, cells := 0, slots := 0, locals := 12 } : Room).cells ({ frames := 1, cells := 0, slots := 0, locals := 12 } : Room).slots) := by
  refine MetFree.of_bodySF (plainFor_of_name pn_5) hisR ?_
  intro p e s m args below meth c s₁ Bd hml0 hP hK
  obtain ⟨rfl, hZ, hh⟩ := hP
  have hx := Bd.exec
  have hby := Bd.bytes
  have hml : c.maxLocals = 1 := hml0
  have hown : s.vm.findClass "java/lang/Number" = some m.cls := findClass_of_methodNamed Bd.named
  have hnm := (name_of_methodNamed Bd.named Bd.method).1
  have X0 : Stand p l e ({ frames := 1, cells := 0, slots := 0, locals := 12 } : Room) s m #[(.ref a0)] below meth c s₁ [] 0 0 := Stand.of_body Bd
  have e0 : s₁.heap = h0 := by rw [← hh, Bd.state]; rfl
  have N0 := Fr.nil n0
  have K0 : Keep h0 h0 [] := Keep.refl _ _
  have w_17 := hw _ (List.mem_of_getElem? (i := 17) rfl)
  have w_18 := hw _ (List.mem_of_getElem? (i := 18) rfl)
  have w_80 := hw _ (List.mem_of_getElem? (i := 80) rfl)
  have first_ : Rn p e below (s₁.setTop (mkF m 0 #[.val (.ref a0)] [])) (Fn13 Z a0 h0 n0 s) := by
    generalize hG : (Fn13 Z a0 h0 n0 s) = G
    refine R.aloadN X0 hx (hb hby d13_0) rfl rfl (pc' := 1) rfl ?_
    refine R.initO X0 hx hZ hown w_80 w_17 w_18 e0 (by rw [hml]; rfl) (hb hby d13_1) (pc' := 4) rfl (by decide) (W := 0) (Nat.le_of_eq rfl) (by decide) ?_; intro T1 X1 e1
    rw [← hG]
    exact Rn.ret X1 (BodyLoose.notSynchronized Bd) (v := none) (fun _ => rfl) (Q := Q13 Z a0 h0 n0) e1 (fun fs hr => X1.returnOut hx Bd.returns (hb hby d13_4) hr) ⟨rfl, N0, rfl⟩ (by decide) (by decide)
  exact (Rn.st (fun t k => castTop (ef_13 m a0) k) first_ : Rn p e below (s₁.setTop (entryFrame m #[(.ref a0)] 1)) (Fn13 Z a0 h0 n0 s))
theorem d12_0 : decode jdk_33_method_23_code 0 = .ok (.aload_n 0, 1) := by decide +kernel
theorem d12_1 : decode jdk_33_method_23_code 1 = .ok (.invokespecial 202, 3) := by decide +kernel
abbrev mY6 : MethodName := (⟨"java/lang/Number", "<init>", "()V"⟩ : MethodName)
theorem d12_4 : decode jdk_33_method_23_code 4 = .ok (.aload_n 0, 1) := by decide +kernel
theorem d12_5 : decode jdk_33_method_23_code 5 = .ok (.iload_n 1, 1) := by decide +kernel
theorem d12_6 : decode jdk_33_method_23_code 6 = .ok (.putfield 205, 3) := by decide +kernel
theorem d12_9 : decode jdk_33_method_23_code 9 = .ok (.return_, 1) := by decide +kernel
theorem pn_6 : plainName "java/lang/Integer" = true := by first | (simp [plainName, overriddenIn]; done) | decide +kernel
theorem ef_12 (m : MethodId) (x0 : Addr) (x1 : Int32) : entryFrame m #[(.ref x0), (.int x1)] 2 = mkF m 0 #[.val (.ref x0), .val (.int x1)] [] := by first | (simp [entryFrame, mkF, argsToLocals, Value.category]; done) | rfl
def Q12 (Z : State) (a0 : Addr) (p1 : Int32) (h0 : Heap) (n0 : Nat) (vQ : Option Value) (hQ_ : Heap) (LQ : List Loc) : Prop := vQ = none ∧ Fr n0 LQ ∧ Keep h0 hQ_ [a0] ∧ (Exa Z hQ_ a0 "java/lang/Integer")
def Fn12 (Z : State) (a0 : Addr) (p1 : Int32) (h0 : Heap) (n0 : Nat) (sQ : State) (oQ : Outcome) (UQ : State) : Prop := ∃ vQ LQ, oQ = .returned vQ ∧ Q12 Z a0 p1 h0 n0 vQ UQ.heap LQ ∧ FrameEnd sQ oQ UQ LQ ({ frames := 2, cells := 0, slots := 0, locals := 24 } : Room).cells ({ frames := 2, cells := 0, slots := 0, locals := 24 } : Room).slots
set_option maxRecDepth 65536 in
set_option maxHeartbeats 40000000 in
theorem rm12 (l : Launch) (Z : State) (aZ : Array Value) (hw : ∀ d ∈ tables_1, d.before aZ Z = true) (ws : List Jvm.Cond) (a0 : Addr) (p1 : Int32) (h0 : Heap) (n0 : Nat) (Z0 : n0 ≤ h0.size) (E_a0 : Exa Z h0 a0 "java/lang/Integer") (F_value_a0 : Fld Z h0 a0 "java/lang/Integer" "value" "I" (.int (0 : Int32))) (g_a0 : n0 ≤ a0) :
    MetFree l (⟨"java/lang/Integer", "<init>", "(I)V"⟩ : MethodName) (head1 (Jvm.Cond.code (⟨"java/lang/Integer", "<init>", "(I)V"⟩ : MethodName) jdk_33_method_23_code 2 none :: ws) ({ frames := 2, cells := 0, slots := 0, locals := 24 } : Room)) (fun aQ UQ => aQ = #[(.ref a0), (.int p1)] ∧ Z.Warmed39 UQ.vm ∧ UQ.heap = h0) (fun _ _ _ _ _ => True) (fun _ UQ oQ UR => ∃ vQ LQ, oQ = .returned vQ ∧ Q12 Z a0 p1 h0 n0 vQ UR.heap LQ ∧ FrameEnd UQ oQ UR LQ ({ frames := 2, cells := 0, slots := 0, locals := 24 } : Room).cells ({ frames := 2, cells := 0, slots := 0, locals := 24 } : Room).slots) := by
  refine MetFree.of_bodySF (plainFor_of_name pn_6) hisR ?_
  intro p e s m args below meth c s₁ Bd hml0 hP hK
  obtain ⟨rfl, hZ, hh⟩ := hP
  have hx := Bd.exec
  have hby := Bd.bytes
  have hml : c.maxLocals = 2 := hml0
  have hown : s.vm.findClass "java/lang/Integer" = some m.cls := findClass_of_methodNamed Bd.named
  have hnm := (name_of_methodNamed Bd.named Bd.method).1
  have X0 : Stand p l e ({ frames := 2, cells := 0, slots := 0, locals := 24 } : Room) s m #[(.ref a0), (.int p1)] below meth c s₁ [] 0 0 := Stand.of_body Bd
  have e0 : s₁.heap = h0 := by rw [← hh, Bd.state]; rfl
  have N0 := Fr.nil n0
  have K0 : Keep h0 h0 [a0] := Keep.refl _ _
  have w_69 := hw _ (List.mem_of_getElem? (i := 69) rfl)
  have w_74 := hw _ (List.mem_of_getElem? (i := 74) rfl)
  have w_75 := hw _ (List.mem_of_getElem? (i := 75) rfl)
  have w_78 := hw _ (List.mem_of_getElem? (i := 78) rfl)
  have w_79 := hw _ (List.mem_of_getElem? (i := 79) rfl)
  have w_81 := hw _ (List.mem_of_getElem? (i := 81) rfl)
  have w_82 := hw _ (List.mem_of_getElem? (i := 82) rfl)
  have first_ : Rn p e below (s₁.setTop (mkF m 0 #[.val (.ref a0), .val (.int p1)] [])) (Fn12 Z a0 p1 h0 n0 s) := by
    generalize hG : (Fn12 Z a0 p1 h0 n0 s) = G
    refine R.aloadN X0 hx (hb hby d12_0) rfl rfl (pc' := 1) rfl ?_
    refine R.special X0 hx hZ (y := mY6) rfl hown w_74 w_75 w_78 w_79 (by decide) e0 (rm13 l Z aZ hw [] a0 h0 n0 Z0 ) (by decide) (W := 0) (Nat.le_of_eq rfl) (by decide) (by rw [hml]; rfl) (lenOf pd_1 rfl) rfl (hb hby d12_1) (pc' := 4) rfl (by decide) (by decide) ?_; intro v1 T1 L1 X1 hQ1
    obtain ⟨rfl, N1q, e1⟩ := hQ1
    have N1 := Fr.app N0 N1q
    refine R.aloadN X1 hx (hb hby d12_4) rfl rfl (pc' := 5) rfl ?_
    refine R.iloadN X1 hx (hb hby d12_5) rfl (pc' := 6) rfl ?_
    refine R.putF X1 hx hZ hown (host := "") (Or.inl w_81) Via.refl e1 F_value_a0 E_a0 (Or.inr ⟨w_82, rfl, hnm⟩) w_69 (ty := .int) (by decide) rfl rfl (hb hby d12_6) (pc' := 9) rfl ?_; intro T2 h2 X2 e2 W2
    have E_a0 := E_a0.wr W2
    have F_value_a0 : Fld Z h2 a0 "java/lang/Integer" "value" "I" (.int p1) := F_value_a0.same W2
    have N2 := Fr.snoc X2 N1 g_a0
    have K2 : Keep h0 h2 [a0] := K0.wr W2 (Or.inl (List.mem_of_getElem? (i := 0) rfl))
    have Z2 : n0 ≤ h2.size := Nat.le_trans Z0 (Keep.of_wr W2).1
    rw [← hG]
    exact Rn.ret X2 (BodyLoose.notSynchronized Bd) (v := none) (fun _ => rfl) (Q := Q12 Z a0 p1 h0 n0) e2 (fun fs hr => X2.returnOut hx Bd.returns (hb hby d12_9) hr) ⟨rfl, N2, K2, E_a0⟩ (by decide) (by decide)
  exact (Rn.st (fun t k => castTop (ef_12 m a0 p1) k) first_ : Rn p e below (s₁.setTop (entryFrame m #[(.ref a0), (.int p1)] 2)) (Fn12 Z a0 p1 h0 n0 s))
theorem d9_0 : decode jdk_33_method_22_code 0 = .ok (.iload_n 0, 1) := by decide +kernel
theorem d9_1 : decode jdk_33_method_22_code 1 = .ok (.bipush (-128), 2) := by decide +kernel
theorem d9_3 : decode jdk_33_method_22_code 3 = .ok (.if_icmp .lt 20, 3) := by decide +kernel
theorem d9_6 : decode jdk_33_method_22_code 6 = .ok (.iload_n 0, 1) := by decide +kernel
theorem d9_7 : decode jdk_33_method_22_code 7 = .ok (.getstatic 191, 3) := by decide +kernel
theorem d9_10 : decode jdk_33_method_22_code 10 = .ok (.if_icmp .gt 13, 3) := by decide +kernel
theorem d9_23 : decode jdk_33_method_22_code 23 = .ok (.new 1, 3) := by decide +kernel
theorem d9_26 : decode jdk_33_method_22_code 26 = .ok (.dup, 1) := by decide +kernel
theorem d9_27 : decode jdk_33_method_22_code 27 = .ok (.iload_n 0, 1) := by decide +kernel
theorem d9_28 : decode jdk_33_method_22_code 28 = .ok (.invokespecial 199, 3) := by decide +kernel
theorem pd_3 : parseMethodDescriptor "(I)V" = some ⟨[.int], none⟩ := by decide +kernel
abbrev mY7 : MethodName := (⟨"java/lang/Integer", "<init>", "(I)V"⟩ : MethodName)
theorem d9_31 : decode jdk_33_method_22_code 31 = .ok (.areturn, 1) := by decide +kernel
theorem d9_13 : decode jdk_33_method_22_code 13 = .ok (.getstatic 195, 3) := by decide +kernel
theorem d9_16 : decode jdk_33_method_22_code 16 = .ok (.iload_n 0, 1) := by decide +kernel
theorem d9_17 : decode jdk_33_method_22_code 17 = .ok (.sipush 128, 3) := by decide +kernel
theorem d9_20 : decode jdk_33_method_22_code 20 = .ok (.iadd, 1) := by decide +kernel
theorem d9_21 : decode jdk_33_method_22_code 21 = .ok (.aaload, 1) := by decide +kernel
theorem d9_22 : decode jdk_33_method_22_code 22 = .ok (.areturn, 1) := by decide +kernel
theorem ef_9 (m : MethodId) (x0 : Int32) : entryFrame m #[(.int x0)] 1 = mkF m 0 #[.val (.int x0)] [] := by first | (simp [entryFrame, mkF, argsToLocals, Value.category]; done) | rfl
def Q9 (Z : State) (p0 : Int32) (ca : Addr) (h0 : Heap) (n0 : Nat) (vQ : Option Value) (hQ_ : Heap) (LQ : List Loc) : Prop := ∃ b : Addr, vQ = some (.ref b) ∧ Fr n0 LQ ∧ Keep h0 hQ_ [] ∧ (Exa Z hQ_ b "java/lang/Integer")
def Fn9 (Z : State) (p0 : Int32) (ca : Addr) (h0 : Heap) (n0 : Nat) (sQ : State) (oQ : Outcome) (UQ : State) : Prop := ∃ vQ LQ, oQ = .returned vQ ∧ Q9 Z p0 ca h0 n0 vQ UQ.heap LQ ∧ FrameEnd sQ oQ UQ LQ ({ frames := 3, cells := 1, slots := 1, locals := 38 } : Room).cells ({ frames := 3, cells := 1, slots := 1, locals := 38 } : Room).slots
set_option maxRecDepth 65536 in
set_option maxHeartbeats 40000000 in
theorem rm9 (l : Launch) (Z : State) (aZ : Array Value) (hw : ∀ d ∈ tables_1, d.before aZ Z = true) (ws : List Jvm.Cond) (p0 : Int32) (ca : Addr) (h0 : Heap) (n0 : Nat) (Z0 : n0 ≤ h0.size) (OL : Old Z n0 h0) (IC : own_IC Z ca) (hr_ : 0 ≤ p0.toInt ∧ p0.toInt ≤ 1000) :
    MetFree l (⟨"java/lang/Integer", "valueOf", "(I)Ljava/lang/Integer;"⟩ : MethodName) (head1 (Jvm.Cond.code (⟨"java/lang/Integer", "valueOf", "(I)Ljava/lang/Integer;"⟩ : MethodName) jdk_33_method_22_code 1 (some (.object "java/lang/Integer")) :: ws) ({ frames := 3, cells := 1, slots := 1, locals := 38 } : Room)) (fun aQ UQ => aQ = #[(.int p0)] ∧ Z.Warmed39 UQ.vm ∧ UQ.heap = h0) (fun _ _ _ _ _ => True) (fun _ UQ oQ UR => ∃ vQ LQ, oQ = .returned vQ ∧ Q9 Z p0 ca h0 n0 vQ UR.heap LQ ∧ FrameEnd UQ oQ UR LQ ({ frames := 3, cells := 1, slots := 1, locals := 38 } : Room).cells ({ frames := 3, cells := 1, slots := 1, locals := 38 } : Room).slots) := by
  refine MetFree.of_bodySF (plainFor_of_name pn_6) hisR ?_
  intro p e s m args below meth c s₁ Bd hml0 hP hK
  obtain ⟨rfl, hZ, hh⟩ := hP
  have hx := Bd.exec
  have hby := Bd.bytes
  have hml : c.maxLocals = 1 := hml0
  have hown : s.vm.findClass "java/lang/Integer" = some m.cls := findClass_of_methodNamed Bd.named
  have hnm := (name_of_methodNamed Bd.named Bd.method).1
  have X0 : Stand p l e ({ frames := 3, cells := 1, slots := 1, locals := 38 } : Room) s m #[(.int p0)] below meth c s₁ [] 0 0 := Stand.of_body Bd
  have e0 : s₁.heap = h0 := by rw [← hh, Bd.state]; rfl
  have N0 := Fr.nil n0
  have K0 : Keep h0 h0 [] := Keep.refl _ _
  have w_49 := hw _ (List.mem_of_getElem? (i := 49) rfl)
  have w_51 := hw _ (List.mem_of_getElem? (i := 51) rfl)
  have w_53 := hw _ (List.mem_of_getElem? (i := 53) rfl)
  have w_68 := hw _ (List.mem_of_getElem? (i := 68) rfl)
  have w_69 := hw _ (List.mem_of_getElem? (i := 69) rfl)
  have w_70 := hw _ (List.mem_of_getElem? (i := 70) rfl)
  have w_71 := hw _ (List.mem_of_getElem? (i := 71) rfl)
  have w_73 := hw _ (List.mem_of_getElem? (i := 73) rfl)
  have w_82 := hw _ (List.mem_of_getElem? (i := 82) rfl)
  have first_ : Rn p e below (s₁.setTop (mkF m 0 #[.val (.int p0)] [])) (Fn9 Z p0 ca h0 n0 s) := by
    generalize hG : (Fn9 Z p0 ca h0 n0 s) = G
    refine R.iloadN X0 hx (hb hby d9_0) rfl (pc' := 1) rfl ?_
    refine R.bipush X0 hx (hb hby d9_1) (v := (-128 : Int32)) (by decide) (pc' := 3) rfl ?_
    refine R.icmpNo X0 hx (hb hby d9_3) (flt (fun q => absurd (Int32.lt_iff_toInt_lt.mp q) (by have t1 : (-128 : Int32).toInt = -128 := (by decide); omega) : ¬ (p0 < (-128 : Int32)))).1 (pc' := 6) rfl ?_
    refine R.iloadN X0 hx (hb hby d9_6) rfl (pc' := 7) rfl ?_
    have S_HI := IC.1.ext OL.2
    have S_CA := IC.2.1.ext OL.2
    refine R.getS X0 hx hZ hown (host := "") (Or.inl w_51) Via.refl e0 S_HI (hb hby d9_7) (pc' := 10) rfl ?_; intro T1 X1 e1
    by_cases hc10 : (127 : Int32) < p0
    · refine R.icmpYes X1 hx (hb hby d9_10) (tlt hc10).2.2.1 (by decide) (pc' := 23) (by decide) ?_
      refine R.newO X1 hx hZ hown w_68 w_69 w_49 e1 (hb hby d9_23) (pc' := 26) rfl (by decide) (by decide) ?_; intro T2 h2 b2 g2 X2 e2 E2 A2 D2
      have g_b2 : n0 ≤ b2 := Nat.le_trans Z0 (Nat.le_of_eq g2.symm)
      have sz_b2 : h0.size ≤ b2 := Nat.le_trans K0.1 (Nat.le_of_eq g2.symm)
      have K2 : Keep h0 h2 [] := K0.ext E2
      have Z2 : n0 ≤ h2.size := Nat.le_trans Z0 E2.1
      have OL := OL.ext E2
      have S_HI := S_HI.ext E2
      have S_CA := S_CA.ext E2
      have E_b2 := A2
      have F_value_b2 : Fld Z h2 b2 "java/lang/Integer" "value" "I" (.int (0 : Int32)) := D2 (Or.inr w_82) (ty := .int) (by decide)
      refine R.dup X2 hx (hb hby d9_26) rfl (pc' := 27) rfl ?_
      refine R.iloadN X2 hx (hb hby d9_27) rfl (pc' := 28) rfl ?_
      refine R.special X2 hx hZ (y := mY7) rfl hown w_70 w_71 w_49 w_73 (by decide) e2 (rm12 l Z aZ hw [] b2 p0 h2 n0 Z2 E_b2 F_value_b2 g_b2) (by decide) (W := 1) (Nat.le_of_eq rfl) (by decide) (by rw [hml]; rfl) (lenOf pd_3 rfl) rfl (hb hby d9_28) (pc' := 31) rfl (by decide) (by decide) ?_; intro v3 T3 L3 X3 hQ3
      obtain ⟨rfl, N3q, Kc3, P3_0⟩ := hQ3
      have N3 := Fr.app N0 N3q
      generalize e3 : T3.heap = h3 at Kc3 P3_0
      have K3 : Keep h0 h3 [] := K2.trans Kc3 ((allS (Or.inr sz_b2) all0))
      have Z3 : n0 ≤ h3.size := Nat.le_trans Z2 Kc3.1
      have S_HI := own_sta_keep S_HI Kc3 (nsS E_b2.nostat ns0)
      have S_CA := own_sta_keep S_CA Kc3 (nsS E_b2.nostat ns0)
      have OL := OL.keep Kc3 (allS g_b2 all0)
      have E_b2 : Exa Z h3 b2 "java/lang/Integer" := P3_0
      rw [← hG]
      exact Rn.ret X3 (BodyLoose.notSynchronized Bd) (v := some (.ref b2)) (fun h => by rw [Bd.returns] at h; cases h) (Q := Q9 Z p0 ca h0 n0) e3 (fun fs hr => retOut X3 hx (t := (.object "java/lang/Integer")) Bd.returns rfl (Or.inr (Or.inr (Or.inr (Or.inr ⟨rfl, rfl, rfl⟩)))) (hb hby d9_31) hr) ⟨b2, rfl, N3, K3, E_b2⟩ (by decide) (by decide)
    · refine R.icmpNo X1 hx (hb hby d9_10) (flt hc10).2.2.1 (pc' := 13) rfl ?_
      refine R.getS X1 hx hZ hown (host := "") (Or.inl w_53) Via.refl e1 S_CA (hb hby d9_13) (pc' := 16) rfl ?_; intro T4 X4 e4
      refine R.iloadN X4 hx (hb hby d9_16) rfl (pc' := 17) rfl ?_
      refine R.sipush X4 hx (hb hby d9_17) (v := (128 : Int32)) (by decide) (pc' := 20) rfl ?_
      refine R.iadd X4 hx (hb hby d9_20) rfl (pc' := 21) rfl ?_
      rw [Int32.lt_iff_toInt_lt] at hc10
      have t127 : (127 : Int32).toInt = 127 := by decide
      have tj : (p0 + (128 : Int32)).toInt = p0.toInt + 128 := own_p128 (by omega)
      obtain ⟨cl, Ar0, hsz, hel⟩ := IC.2.2
      have Ar := Ar0.ext OL.2
      obtain ⟨b, hb_, Eb0⟩ := hel (p0 + (128 : Int32)) (by omega) (by omega)
      have E_b := Eb0.ext OL.2
      refine R.aaload X4 hx hZ e4 Ar rfl (own_inb hsz (by omega) (by omega)) hb_ (hb hby d9_21) (pc' := 22) rfl ?_
      rw [← hG]
      exact Rn.ret X4 (BodyLoose.notSynchronized Bd) (v := some (.ref b)) (fun h => by rw [Bd.returns] at h; cases h) (Q := Q9 Z p0 ca h0 n0) e4 (fun fs hr => retOut X4 hx (t := (.object "java/lang/Integer")) Bd.returns rfl (Or.inr (Or.inr (Or.inr (Or.inr ⟨rfl, rfl, rfl⟩)))) (hb hby d9_22) hr) ⟨b, rfl, N0, K0, E_b⟩ (by decide) (by decide)
  exact (Rn.st (fun t k => castTop (ef_9 m p0) k) first_ : Rn p e below (s₁.setTop (entryFrame m #[(.int p0)] 1)) (Fn9 Z p0 ca h0 n0 s))
theorem pd_4 : parseMethodDescriptor "(I)I" = some ⟨[.int], some .int⟩ := by decide +kernel
abbrev mY8 : MethodName := (⟨"com/example/vespera/vespera/calendar/DayOfYearEqualsPinLaw", "days", "(I)I"⟩ : MethodName)
theorem pd_5 : parseMethodDescriptor "(II)V" = some ⟨[.int, .int], none⟩ := by decide +kernel
abbrev mY9 : MethodName := (⟨"com/example/vespera/vespera/calendar/DayOfYear", "<init>", "(II)V"⟩ : MethodName)
theorem pd_6 : parseMethodDescriptor "(I)Ljava/lang/Integer;" = some ⟨[.int], some (.object "java/lang/Integer")⟩ := by decide +kernel
abbrev mY10 : MethodName := (⟨"java/lang/Integer", "valueOf", "(I)Ljava/lang/Integer;"⟩ : MethodName)
theorem pd_7 : parseMethodDescriptor "(Ljava/lang/Object;)Z" = some ⟨[(.object "java/lang/Object")], some .boolean⟩ := by decide +kernel
abbrev mY11 : MethodName := (⟨"com/example/vespera/vespera/calendar/DayOfYear", "equals", "(Ljava/lang/Object;)Z"⟩ : MethodName)
theorem pd_8 : parseMethodDescriptor "(II)I" = some ⟨[.int, .int], some .int⟩ := by decide +kernel
abbrev mY12 : MethodName := (⟨"java/lang/Math", "min", "(II)I"⟩ : MethodName)
theorem ef_0 (m : MethodId) (x0 : Int32) (x1 : Int32) (x2 : Int32) (x3 : Int32) (x4 : Int32) : entryFrame m #[(.int x0), (.int x1), (.int x2), (.int x3), (.int x4)] maxLocals = mkF m 0 #[.val (.int x0), .val (.int x1), .val (.int x2), .val (.int x3), .val (.int x4), .unset, .unset, .unset, .unset, .unset, .unset, .unset, .unset] [] := by first | (simp [entryFrame, mkF, argsToLocals, Value.category, maxLocals]; done) | rfl
def Q0 (Z : State) (p0 : Int32) (p1 : Int32) (p2 : Int32) (p3 : Int32) (p4 : Int32) (en : Addr) (ca : Addr) (h0 : Heap) (n0 : Nat) (vQ : Option Value) (hQ_ : Heap) (LQ : List Loc) : Prop := vQ = some (.int 1) ∧ Fr n0 LQ
def Fn0 (Z : State) (p0 : Int32) (p1 : Int32) (p2 : Int32) (p3 : Int32) (p4 : Int32) (en : Addr) (ca : Addr) (h0 : Heap) (n0 : Nat) (sQ : State) (oQ : Outcome) (UQ : State) : Prop := ∃ vQ LQ, oQ = .returned vQ ∧ Q0 Z p0 p1 p2 p3 p4 en ca h0 n0 vQ UQ.heap LQ ∧ FrameEnd sQ oQ UQ LQ room_1.cells room_1.slots
set_option maxRecDepth 65536 in
set_option maxHeartbeats 40000000 in
theorem rm0 (l : Launch) (Z : State) (aZ : Array Value) (hw : ∀ d ∈ tables_1, d.before aZ Z = true) (ws : List Jvm.Cond) (p0 : Int32) (p1 : Int32) (p2 : Int32) (p3 : Int32) (p4 : Int32) (en : Addr) (ca : Addr) (h0 : Heap) (n0 : Nat) (Z0 : n0 ≤ h0.size) (OL : Old Z n0 h0) (MF : own_MF Z en) (IC : own_IC Z ca) :
    MetFree l x (head1 (Jvm.Cond.code x code maxLocals ret :: ws) room_1) (fun aQ UQ => aQ = #[(.int p0), (.int p1), (.int p2), (.int p3), (.int p4)] ∧ Z.Warmed39 UQ.vm ∧ UQ.heap = h0) (fun _ _ _ _ _ => True) (fun _ UQ oQ UR => ∃ vQ LQ, oQ = .returned vQ ∧ Q0 Z p0 p1 p2 p3 p4 en ca h0 n0 vQ UR.heap LQ ∧ FrameEnd UQ oQ UR LQ room_1.cells room_1.slots) := by
  refine MetFree.of_bodySF (plainFor_of_name pn_1) hisR ?_
  intro p e s m args below meth c s₁ Bd hml0 hP hK
  obtain ⟨rfl, hZ, hh⟩ := hP
  have hx := Bd.exec
  have hby := Bd.bytes
  have hml : c.maxLocals = 13 := hml0
  have hown : s.vm.findClass "com/example/vespera/vespera/calendar/DayOfYearEqualsPinLaw" = some m.cls := findClass_of_methodNamed Bd.named
  have hnm := (name_of_methodNamed Bd.named Bd.method).1
  have X0 : Stand p l e room_1 s m #[(.int p0), (.int p1), (.int p2), (.int p3), (.int p4)] below meth c s₁ [] 0 0 := Stand.of_body Bd
  have e0 : s₁.heap = h0 := by rw [← hh, Bd.state]; rfl
  have N0 := Fr.nil n0
  have K0 : Keep h0 h0 [] := Keep.refl _ _
  have w_0 := hw _ (List.mem_of_getElem? (i := 0) rfl)
  have w_1 := hw _ (List.mem_of_getElem? (i := 1) rfl)
  have w_2 := hw _ (List.mem_of_getElem? (i := 2) rfl)
  have w_3 := hw _ (List.mem_of_getElem? (i := 3) rfl)
  have w_4 := hw _ (List.mem_of_getElem? (i := 4) rfl)
  have w_5 := hw _ (List.mem_of_getElem? (i := 5) rfl)
  have w_6 := hw _ (List.mem_of_getElem? (i := 6) rfl)
  have w_7 := hw _ (List.mem_of_getElem? (i := 7) rfl)
  have w_8 := hw _ (List.mem_of_getElem? (i := 8) rfl)
  have w_9 := hw _ (List.mem_of_getElem? (i := 9) rfl)
  have w_10 := hw _ (List.mem_of_getElem? (i := 10) rfl)
  have w_44 := hw _ (List.mem_of_getElem? (i := 44) rfl)
  have w_46 := hw _ (List.mem_of_getElem? (i := 46) rfl)
  have w_47 := hw _ (List.mem_of_getElem? (i := 47) rfl)
  have w_48 := hw _ (List.mem_of_getElem? (i := 48) rfl)
  have w_49 := hw _ (List.mem_of_getElem? (i := 49) rfl)
  have w_50 := hw _ (List.mem_of_getElem? (i := 50) rfl)
  have w_54 := hw _ (List.mem_of_getElem? (i := 54) rfl)
  have w_55 := hw _ (List.mem_of_getElem? (i := 55) rfl)
  have w_56 := hw _ (List.mem_of_getElem? (i := 56) rfl)
  have w_57 := hw _ (List.mem_of_getElem? (i := 57) rfl)
  have w_58 := hw _ (List.mem_of_getElem? (i := 58) rfl)
  have w_64 := hw _ (List.mem_of_getElem? (i := 64) rfl)
  have w_65 := hw _ (List.mem_of_getElem? (i := 65) rfl)
  have w_66 := hw _ (List.mem_of_getElem? (i := 66) rfl)
  have w_67 := hw _ (List.mem_of_getElem? (i := 67) rfl)
  have first_ : Rn p e below (s₁.setTop (mkF m 0 #[.val (.int p0), .val (.int p1), .val (.int p2), .val (.int p3), .val (.int p4), .unset, .unset, .unset, .unset, .unset, .unset, .unset, .unset] [])) (Fn0 Z p0 p1 p2 p3 p4 en ca h0 n0 s) := by
    generalize hG : (Fn0 Z p0 p1 p2 p3 p4 en ca h0 n0 s) = G
    refine R.iloadN X0 hx (hb hby at_0) rfl (pc' := 1) rfl ?_
    refine R.ldcI X0 hx hZ hown w_0 (hb hby at_1) (pc' := 3) rfl ?_
    refine R.iand X0 hx (hb hby at_3) rfl (pc' := 4) rfl ?_
    refine R.bipush X0 hx (hb hby at_4) (v := (12 : Int32)) (by decide) (pc' := 6) rfl ?_
    refine R.irem X0 hx (hb hby at_6) (by decide : (12 : Int32) ≠ (0 : Int32)) (pc' := 7) rfl ?_
    refine R.iconst X0 hx (hb hby at_7) (v := (1 : Int32)) (by decide) (pc' := 8) rfl ?_
    refine R.iadd X0 hx (hb hby at_8) rfl (pc' := 9) rfl ?_
    show Rn p e below (s₁.setTop (mkF m 9 #[.val (.int p0), .val (.int p1), .val (.int p2), .val (.int p3), .val (.int p4), .unset, .unset, .unset, .unset, .unset, .unset, .unset, .unset] [(.int (((p0 &&& (2147483647 : Int32)) % (12 : Int32)) + (1 : Int32)))])) G
    generalize hi1 : (((p0 &&& (2147483647 : Int32)) % (12 : Int32)) + (1 : Int32)) = i1
    refine R.istore X0 hx (hb hby at_9) (L' := #[.val (.int p0), .val (.int p1), .val (.int p2), .val (.int p3), .val (.int p4), .val (.int i1), .unset, .unset, .unset, .unset, .unset, .unset, .unset]) rfl (pc' := 11) rfl ?_
    have m1 := own_m12 hi1
    refine R.iloadN X0 hx (hb hby at_11) rfl (pc' := 12) rfl ?_
    refine R.ldcI X0 hx hZ hown w_0 (hb hby at_12) (pc' := 14) rfl ?_
    refine R.iand X0 hx (hb hby at_14) rfl (pc' := 15) rfl ?_
    refine R.iload X0 hx (hb hby at_15) rfl (pc' := 17) rfl ?_
    refine R.callS X0 hx hZ (y := mY8) hown w_1 w_2 w_3 w_4 (by decide) e0 (rm1 l Z aZ hw [] i1 h0 n0 Z0 ) (by decide) (W := 1) (Nat.le_of_eq rfl) (by decide) (by rw [hml]; rfl) (lenOf pd_4 rfl) rfl (hb hby at_17) (pc' := 20) rfl (by decide) (by decide) ?_; intro v2 T2 L2 X2 hQ2
    obtain ⟨rfl, N2q, e2⟩ := hQ2
    have N2 := Fr.app N0 N2q
    refine R.irem X2 hx (hb hby at_20) (own_dnz _ : (own_days i1) ≠ (0 : Int32)) (pc' := 21) rfl ?_
    refine R.iconst X2 hx (hb hby at_21) (v := (1 : Int32)) (by decide) (pc' := 22) rfl ?_
    refine R.iadd X2 hx (hb hby at_22) rfl (pc' := 23) rfl ?_
    show Rn p e below (T2.setTop (mkF m 23 #[.val (.int p0), .val (.int p1), .val (.int p2), .val (.int p3), .val (.int p4), .val (.int i1), .unset, .unset, .unset, .unset, .unset, .unset, .unset] [(.int (((p1 &&& (2147483647 : Int32)) % (own_days i1)) + (1 : Int32)))])) G
    generalize hi3 : (((p1 &&& (2147483647 : Int32)) % (own_days i1)) + (1 : Int32)) = i3
    refine R.istore X2 hx (hb hby at_23) (L' := #[.val (.int p0), .val (.int p1), .val (.int p2), .val (.int p3), .val (.int p4), .val (.int i1), .val (.int i3), .unset, .unset, .unset, .unset, .unset, .unset]) rfl (pc' := 25) rfl ?_
    have d1 := own_dd hi3
    have J46 : ∀ (mm : Int32) (m2 : 1 ≤ mm.toInt ∧ mm.toInt ≤ 12), Rn p e below (T2.setTop (mkF m 46 #[.val (.int p0), .val (.int p1), .val (.int p2), .val (.int p3), .val (.int p4), .val (.int i1), .val (.int i3), .unset, .unset, .unset, .unset, .unset, .unset] [(.int mm)])) G := by
      intro mm m2
      refine R.istore X2 hx (hb hby at_46) (L' := #[.val (.int p0), .val (.int p1), .val (.int p2), .val (.int p3), .val (.int p4), .val (.int i1), .val (.int i3), .val (.int mm), .unset, .unset, .unset, .unset, .unset]) rfl (pc' := 48) rfl ?_
      have J80 : ∀ (TJ80 : State) (hJ80 : Heap) (lJ80 : List Loc) (XJ80 : Stand p l e room_1 s m #[(.int p0), (.int p1), (.int p2), (.int p3), (.int p4)] below meth c TJ80 lJ80 0 0) (eJ80 : TJ80.heap = hJ80) (NJ80 : Fr n0 lJ80) (KJ80 : Keep h0 hJ80 []) (ZJ80 : n0 ≤ hJ80.size) (dd : Int32) (d2 : 1 ≤ dd.toInt ∧ dd.toInt ≤ (own_days mm).toInt) (OL : Old Z n0 hJ80), Rn p e below (TJ80.setTop (mkF m 80 #[.val (.int p0), .val (.int p1), .val (.int p2), .val (.int p3), .val (.int p4), .val (.int i1), .val (.int i3), .val (.int mm), .unset, .unset, .unset, .unset, .unset] [(.int dd)])) G := by
        intro TJ80 hJ80 lJ80 XJ80 eJ80 NJ80 KJ80 ZJ80 dd d2 OL
        refine R.istore XJ80 hx (hb hby at_80) (L' := #[.val (.int p0), .val (.int p1), .val (.int p2), .val (.int p3), .val (.int p4), .val (.int i1), .val (.int i3), .val (.int mm), .val (.int dd), .unset, .unset, .unset, .unset]) rfl (pc' := 82) rfl ?_
        refine R.newO XJ80 hx hZ hown w_5 w_6 w_7 eJ80 (hb hby at_82) (pc' := 85) rfl (by decide) (by decide) ?_; intro T4 h4 b4 g4 X4 e4 E4 A4 D4
        have g_b4 : n0 ≤ b4 := Nat.le_trans ZJ80 (Nat.le_of_eq g4.symm)
        have sz_b4 : h0.size ≤ b4 := Nat.le_trans KJ80.1 (Nat.le_of_eq g4.symm)
        have K4 : Keep h0 h4 [] := KJ80.ext E4
        have Z4 : n0 ≤ h4.size := Nat.le_trans ZJ80 E4.1
        have OL := OL.ext E4
        have E_b4 := A4
        have F_month_b4 : Fld Z h4 b4 "com/example/vespera/vespera/calendar/DayOfYear" "month" "I" (.int (0 : Int32)) := D4 (Or.inr w_44) (ty := .int) (by decide)
        have F_dayOfMonth_b4 : Fld Z h4 b4 "com/example/vespera/vespera/calendar/DayOfYear" "dayOfMonth" "I" (.int (0 : Int32)) := D4 (Or.inr w_46) (ty := .int) (by decide)
        refine R.dup X4 hx (hb hby at_85) rfl (pc' := 86) rfl ?_
        refine R.iload X4 hx (hb hby at_86) rfl (pc' := 88) rfl ?_
        refine R.iload X4 hx (hb hby at_88) rfl (pc' := 90) rfl ?_
        refine R.special X4 hx hZ (y := mY9) rfl hown w_8 w_9 w_7 w_10 (by decide) e4 (rm2 l Z aZ hw [] b4 i1 i3 en h4 n0 Z4 E_b4 F_month_b4 F_dayOfMonth_b4 g_b4 OL (MF) (m1) (d1)) (by decide) (W := 1) (Nat.le_of_eq rfl) (by decide) (by rw [hml]; rfl) (lenOf pd_5 rfl) rfl (hb hby at_90) (pc' := 93) rfl (by decide) (by decide) ?_; intro v5 T5 L5 X5 hQ5
        obtain ⟨rfl, N5q, Kc5, P5_0, P5_1, P5_2⟩ := hQ5
        have N5 := Fr.app NJ80 N5q
        generalize e5 : T5.heap = h5 at Kc5 P5_0 P5_1 P5_2
        have K5 : Keep h0 h5 [] := K4.trans Kc5 ((allS (Or.inr sz_b4) all0))
        have Z5 : n0 ≤ h5.size := Nat.le_trans Z4 Kc5.1
        have OL := OL.keep Kc5 (allS g_b4 all0)
        have E_b4 : Exa Z h5 b4 "com/example/vespera/vespera/calendar/DayOfYear" := P5_0
        have F_month_b4 : Fld Z h5 b4 "com/example/vespera/vespera/calendar/DayOfYear" "month" "I" (.int i1) := P5_1
        have F_dayOfMonth_b4 : Fld Z h5 b4 "com/example/vespera/vespera/calendar/DayOfYear" "dayOfMonth" "I" (.int i3) := P5_2
        refine R.astore X5 hx (hb hby at_93) rfl (L' := #[.val (.int p0), .val (.int p1), .val (.int p2), .val (.int p3), .val (.int p4), .val (.int i1), .val (.int i3), .val (.int mm), .val (.int dd), .val (.ref b4), .unset, .unset, .unset]) rfl (pc' := 95) rfl ?_
        refine R.newO X5 hx hZ hown w_5 w_6 w_7 e5 (hb hby at_95) (pc' := 98) rfl (by decide) (by decide) ?_; intro T6 h6 b6 g6 X6 e6 E6 A6 D6
        have g_b6 : n0 ≤ b6 := Nat.le_trans Z5 (Nat.le_of_eq g6.symm)
        have sz_b6 : h0.size ≤ b6 := Nat.le_trans K5.1 (Nat.le_of_eq g6.symm)
        have ne_b4_b6 : b4 ≠ b6 := Nat.ne_of_lt (Nat.lt_of_lt_of_le E_b4.lt (Nat.le_of_eq g6.symm))
        have K6 : Keep h0 h6 [] := K5.ext E6
        have Z6 : n0 ≤ h6.size := Nat.le_trans Z5 E6.1
        have OL := OL.ext E6
        have E_b4 := E_b4.ext E6
        have F_month_b4 := F_month_b4.ext E6
        have F_dayOfMonth_b4 := F_dayOfMonth_b4.ext E6
        have E_b6 := A6
        have F_month_b6 : Fld Z h6 b6 "com/example/vespera/vespera/calendar/DayOfYear" "month" "I" (.int (0 : Int32)) := D6 (Or.inr w_44) (ty := .int) (by decide)
        have F_dayOfMonth_b6 : Fld Z h6 b6 "com/example/vespera/vespera/calendar/DayOfYear" "dayOfMonth" "I" (.int (0 : Int32)) := D6 (Or.inr w_46) (ty := .int) (by decide)
        refine R.dup X6 hx (hb hby at_98) rfl (pc' := 99) rfl ?_
        refine R.iload X6 hx (hb hby at_99) rfl (pc' := 101) rfl ?_
        refine R.iload X6 hx (hb hby at_101) rfl (pc' := 103) rfl ?_
        refine R.special X6 hx hZ (y := mY9) rfl hown w_8 w_9 w_7 w_10 (by decide) e6 (rm2 l Z aZ hw [] b6 mm dd en h6 n0 Z6 E_b6 F_month_b6 F_dayOfMonth_b6 g_b6 OL (MF) (m2) (d2)) (by decide) (W := 1) (Nat.le_of_eq rfl) (by decide) (by rw [hml]; rfl) (lenOf pd_5 rfl) rfl (hb hby at_103) (pc' := 106) rfl (by decide) (by decide) ?_; intro v7 T7 L7 X7 hQ7
        obtain ⟨rfl, N7q, Kc7, P7_0, P7_1, P7_2⟩ := hQ7
        have N7 := Fr.app N5 N7q
        generalize e7 : T7.heap = h7 at Kc7 P7_0 P7_1 P7_2
        have K7 : Keep h0 h7 [] := K6.trans Kc7 ((allS (Or.inr sz_b6) all0))
        have Z7 : n0 ≤ h7.size := Nat.le_trans Z6 Kc7.1
        have OL := OL.keep Kc7 (allS g_b6 all0)
        have E_b4 := E_b4.keep Kc7
        have F_month_b4 := F_month_b4.keep Kc7 (ninS ne_b4_b6 nin0)
        have F_dayOfMonth_b4 := F_dayOfMonth_b4.keep Kc7 (ninS ne_b4_b6 nin0)
        have E_b6 : Exa Z h7 b6 "com/example/vespera/vespera/calendar/DayOfYear" := P7_0
        have F_month_b6 : Fld Z h7 b6 "com/example/vespera/vespera/calendar/DayOfYear" "month" "I" (.int mm) := P7_1
        have F_dayOfMonth_b6 : Fld Z h7 b6 "com/example/vespera/vespera/calendar/DayOfYear" "dayOfMonth" "I" (.int dd) := P7_2
        refine R.astore X7 hx (hb hby at_106) rfl (L' := #[.val (.int p0), .val (.int p1), .val (.int p2), .val (.int p3), .val (.int p4), .val (.int i1), .val (.int i3), .val (.int mm), .val (.int dd), .val (.ref b4), .val (.ref b6), .unset, .unset]) rfl (pc' := 108) rfl ?_
        refine R.iload X7 hx (hb hby at_108) rfl (pc' := 110) rfl ?_
        refine R.iload X7 hx (hb hby at_110) rfl (pc' := 112) rfl ?_
        by_cases hc112 : i1 = mm
        · refine R.icmpNo X7 hx (hb hby at_112) (teq hc112).2 (pc' := 115) rfl ?_
          refine R.iload X7 hx (hb hby at_115) rfl (pc' := 117) rfl ?_
          refine R.iload X7 hx (hb hby at_117) rfl (pc' := 119) rfl ?_
          by_cases hc119 : i3 = dd
          · refine R.icmpNo X7 hx (hb hby at_119) (teq hc119).2 (pc' := 122) rfl ?_
            refine R.iconst X7 hx (hb hby at_122) (v := (1 : Int32)) (by decide) (pc' := 123) rfl ?_
            refine R.goto X7 hx (hb hby at_123) (by decide) (pc' := 127) (by decide) ?_
            refine R.istore X7 hx (hb hby at_127) (L' := #[.val (.int p0), .val (.int p1), .val (.int p2), .val (.int p3), .val (.int p4), .val (.int i1), .val (.int i3), .val (.int mm), .val (.int dd), .val (.ref b4), .val (.ref b6), .val (.int (1 : Int32)), .unset]) rfl (pc' := 129) rfl ?_
            refine R.bipush X7 hx (hb hby at_129) (v := (32 : Int32)) (by decide) (pc' := 131) rfl ?_
            refine R.iload X7 hx (hb hby at_131) rfl (pc' := 133) rfl ?_
            refine R.imul X7 hx (hb hby at_133) rfl (pc' := 134) rfl ?_
            refine R.iload X7 hx (hb hby at_134) rfl (pc' := 136) rfl ?_
            refine R.iadd X7 hx (hb hby at_136) rfl (pc' := 137) rfl ?_
            refine R.callS X7 hx hZ (y := mY10) hown w_47 w_48 w_49 w_50 (by decide) e7 (rm9 l Z aZ hw [] (((32 : Int32) * i1) + i3) ca h7 n0 Z7 OL (IC) (own_str m1 d1)) (by decide) (W := 0) (Nat.le_of_eq rfl) (by decide) (by rw [hml]; rfl) (lenOf pd_6 rfl) rfl (hb hby at_137) (pc' := 140) rfl (by decide) (by decide) ?_; intro v8 T8 L8 X8 hQ8
            obtain ⟨b_8, rfl, N8q, Kc8, P8_0⟩ := hQ8
            have N8 := Fr.app N7 N8q
            generalize e8 : T8.heap = h8 at Kc8 P8_0
            have K8 : Keep h0 h8 [] := K7.trans Kc8 (all0)
            have Z8 : n0 ≤ h8.size := Nat.le_trans Z7 Kc8.1
            have OL := OL.keep Kc8 all0
            have E_b4 := E_b4.keep Kc8
            have F_month_b4 := F_month_b4.keep Kc8 nin0
            have F_dayOfMonth_b4 := F_dayOfMonth_b4.keep Kc8 nin0
            have E_b6 := E_b6.keep Kc8
            have F_month_b6 := F_month_b6.keep Kc8 nin0
            have F_dayOfMonth_b6 := F_dayOfMonth_b6.keep Kc8 nin0
            have E_b_8 : Exa Z h8 b_8 "java/lang/Integer" := P8_0
            refine R.astore X8 hx (hb hby at_140) rfl (L' := #[.val (.int p0), .val (.int p1), .val (.int p2), .val (.int p3), .val (.int p4), .val (.int i1), .val (.int i3), .val (.int mm), .val (.int dd), .val (.ref b4), .val (.ref b6), .val (.int (1 : Int32)), .val (.ref b_8)]) rfl (pc' := 142) rfl ?_
            refine R.aload X8 hx (hb hby at_142) rfl rfl (pc' := 144) rfl ?_
            refine R.aload X8 hx (hb hby at_144) rfl rfl (pc' := 146) rfl ?_
            refine R.virtual X8 hx hZ (y := mY11) (z := mY11) hown w_54 w_55 (notFace_of_selects (args := #[]) (mvT hZ w_57)) w_57 w_56 w_7 w_58 (by decide) e8 E_b4 (rmeqD l Z aZ hw [] b4 b6 i1 i3 mm dd h8 n0 Z8 F_month_b4 F_dayOfMonth_b4 F_month_b6 F_dayOfMonth_b6 E_b6) (by decide) (W := 0) (Nat.le_of_eq rfl) (by decide) (by rw [hml]; rfl) (lenOf pd_7 rfl) rfl (hb hby at_146) (pc' := 149) rfl (by decide) (by decide) ?_; intro v9 T9 L9 X9 hQ9
            obtain ⟨rfl, N9q, e9⟩ := hQ9
            have N9 := Fr.app N8 N9q
            refine R.iload X9 hx (hb hby at_149) rfl (pc' := 151) rfl ?_
            refine R.icmpNo X9 hx (hb hby at_151) (teq (if_pos ⟨hc112, hc119⟩ : (if i1 = mm ∧ i3 = dd then (1 : Int32) else 0) = (1 : Int32))).2 (pc' := 154) rfl ?_
            refine R.aload X9 hx (hb hby at_154) rfl rfl (pc' := 156) rfl ?_
            refine R.aload X9 hx (hb hby at_156) rfl rfl (pc' := 158) rfl ?_
            refine R.virtual X9 hx hZ (y := mY11) (z := mY11) hown w_54 w_55 (notFace_of_selects (args := #[]) (mvT hZ w_57)) w_57 w_56 w_7 w_58 (by decide) e9 E_b6 (rmeqD l Z aZ hw [] b6 b4 mm dd i1 i3 h8 n0 Z8 F_month_b6 F_dayOfMonth_b6 F_month_b4 F_dayOfMonth_b4 E_b4) (by decide) (W := 0) (Nat.le_of_eq rfl) (by decide) (by rw [hml]; rfl) (lenOf pd_7 rfl) rfl (hb hby at_158) (pc' := 161) rfl (by decide) (by decide) ?_; intro v10 T10 L10 X10 hQ10
            obtain ⟨rfl, N10q, e10⟩ := hQ10
            have N10 := Fr.app N9 N10q
            refine R.iload X10 hx (hb hby at_161) rfl (pc' := 163) rfl ?_
            refine R.icmpNo X10 hx (hb hby at_163) (teq (if_pos ⟨hc112.symm, hc119.symm⟩ : (if mm = i1 ∧ dd = i3 then (1 : Int32) else 0) = (1 : Int32))).2 (pc' := 166) rfl ?_
            refine R.aload X10 hx (hb hby at_166) rfl rfl (pc' := 168) rfl ?_
            refine R.aload X10 hx (hb hby at_168) rfl rfl (pc' := 170) rfl ?_
            refine R.virtual X10 hx hZ (y := mY11) (z := mY11) hown w_54 w_55 (notFace_of_selects (args := #[]) (mvT hZ w_57)) w_57 w_56 w_7 w_58 (by decide) e10 E_b4 (rmeqD l Z aZ hw [] b4 b4 i1 i3 i1 i3 h8 n0 Z8 F_month_b4 F_dayOfMonth_b4 F_month_b4 F_dayOfMonth_b4 E_b4) (by decide) (W := 0) (Nat.le_of_eq rfl) (by decide) (by rw [hml]; rfl) (lenOf pd_7 rfl) rfl (hb hby at_170) (pc' := 173) rfl (by decide) (by decide) ?_; intro v11 T11 L11 X11 hQ11
            obtain ⟨rfl, N11q, e11⟩ := hQ11
            have N11 := Fr.app N10 N11q
            refine R.ifNo X11 hx (hb hby at_173) (feq (by rw [if_pos ⟨rfl, rfl⟩]; decide : ¬ ((if i1 = i1 ∧ i3 = i3 then (1 : Int32) else 0) = (0 : Int32)))).1 (pc' := 176) rfl ?_
            refine R.aload X11 hx (hb hby at_176) rfl rfl (pc' := 178) rfl ?_
            refine R.aconstNull X11 hx (hb hby at_178) (pc' := 179) rfl ?_
            refine R.virtual X11 hx hZ (y := mY11) (z := mY11) hown w_54 w_55 (notFace_of_selects (args := #[]) (mvT hZ w_57)) w_57 w_56 w_7 w_58 (by decide) e11 E_b4 (rmeqN l Z aZ hw [] b4 h8 n0 Z8 ) (by decide) (W := 0) (Nat.le_of_eq rfl) (by decide) (by rw [hml]; rfl) (lenOf pd_7 rfl) rfl (hb hby at_179) (pc' := 182) rfl (by decide) (by decide) ?_; intro v12 T12 L12 X12 hQ12
            obtain ⟨rfl, N12q, e12⟩ := hQ12
            have N12 := Fr.app N11 N12q
            refine R.ifNo X12 hx (hb hby at_182) (teq (by decide : (0 : Int32) = (0 : Int32))).2 (pc' := 185) rfl ?_
            refine R.aload X12 hx (hb hby at_185) rfl rfl (pc' := 187) rfl ?_
            refine R.aload X12 hx (hb hby at_187) rfl rfl (pc' := 189) rfl ?_
            refine R.virtual X12 hx hZ (y := mY11) (z := mY11) hown w_54 w_55 (notFace_of_selects (args := #[]) (mvT hZ w_57)) w_57 w_56 w_7 w_58 (by decide) e12 E_b4 (rmeqI l Z aZ hw [] b4 b_8 h8 n0 Z8 E_b_8) (by decide) (W := 0) (Nat.le_of_eq rfl) (by decide) (by rw [hml]; rfl) (lenOf pd_7 rfl) rfl (hb hby at_189) (pc' := 192) rfl (by decide) (by decide) ?_; intro v13 T13 L13 X13 hQ13
            obtain ⟨rfl, N13q, e13⟩ := hQ13
            have N13 := Fr.app N12 N13q
            refine R.ifNo X13 hx (hb hby at_192) (teq (by decide : (0 : Int32) = (0 : Int32))).2 (pc' := 195) rfl ?_
            refine R.iconst X13 hx (hb hby at_195) (v := (1 : Int32)) (by decide) (pc' := 196) rfl ?_
            refine R.goto X13 hx (hb hby at_196) (by decide) (pc' := 200) (by decide) ?_
            rw [← hG]
            exact Rn.ret X13 (BodyLoose.notSynchronized Bd) (v := some (.int (1 : Int32))) (fun h => by rw [Bd.returns] at h; cases h) (Q := Q0 Z p0 p1 p2 p3 p4 en ca h0 n0) e13 (fun fs hr => retN X13 hx (t := .boolean) Bd.returns (by simp) (hb hby at_200) hr) ⟨rfl, N13⟩ (by decide) (by decide)
          · refine R.icmpYes X7 hx (hb hby at_119) (feq hc119).2 (by decide) (pc' := 126) (by decide) ?_
            refine R.iconst X7 hx (hb hby at_126) (v := (0 : Int32)) (by decide) (pc' := 127) rfl ?_
            refine R.istore X7 hx (hb hby at_127) (L' := #[.val (.int p0), .val (.int p1), .val (.int p2), .val (.int p3), .val (.int p4), .val (.int i1), .val (.int i3), .val (.int mm), .val (.int dd), .val (.ref b4), .val (.ref b6), .val (.int (0 : Int32)), .unset]) rfl (pc' := 129) rfl ?_
            refine R.bipush X7 hx (hb hby at_129) (v := (32 : Int32)) (by decide) (pc' := 131) rfl ?_
            refine R.iload X7 hx (hb hby at_131) rfl (pc' := 133) rfl ?_
            refine R.imul X7 hx (hb hby at_133) rfl (pc' := 134) rfl ?_
            refine R.iload X7 hx (hb hby at_134) rfl (pc' := 136) rfl ?_
            refine R.iadd X7 hx (hb hby at_136) rfl (pc' := 137) rfl ?_
            refine R.callS X7 hx hZ (y := mY10) hown w_47 w_48 w_49 w_50 (by decide) e7 (rm9 l Z aZ hw [] (((32 : Int32) * i1) + i3) ca h7 n0 Z7 OL (IC) (own_str m1 d1)) (by decide) (W := 0) (Nat.le_of_eq rfl) (by decide) (by rw [hml]; rfl) (lenOf pd_6 rfl) rfl (hb hby at_137) (pc' := 140) rfl (by decide) (by decide) ?_; intro v14 T14 L14 X14 hQ14
            obtain ⟨b_14, rfl, N14q, Kc14, P14_0⟩ := hQ14
            have N14 := Fr.app N7 N14q
            generalize e14 : T14.heap = h14 at Kc14 P14_0
            have K14 : Keep h0 h14 [] := K7.trans Kc14 (all0)
            have Z14 : n0 ≤ h14.size := Nat.le_trans Z7 Kc14.1
            have OL := OL.keep Kc14 all0
            have E_b4 := E_b4.keep Kc14
            have F_month_b4 := F_month_b4.keep Kc14 nin0
            have F_dayOfMonth_b4 := F_dayOfMonth_b4.keep Kc14 nin0
            have E_b6 := E_b6.keep Kc14
            have F_month_b6 := F_month_b6.keep Kc14 nin0
            have F_dayOfMonth_b6 := F_dayOfMonth_b6.keep Kc14 nin0
            have E_b_14 : Exa Z h14 b_14 "java/lang/Integer" := P14_0
            refine R.astore X14 hx (hb hby at_140) rfl (L' := #[.val (.int p0), .val (.int p1), .val (.int p2), .val (.int p3), .val (.int p4), .val (.int i1), .val (.int i3), .val (.int mm), .val (.int dd), .val (.ref b4), .val (.ref b6), .val (.int (0 : Int32)), .val (.ref b_14)]) rfl (pc' := 142) rfl ?_
            refine R.aload X14 hx (hb hby at_142) rfl rfl (pc' := 144) rfl ?_
            refine R.aload X14 hx (hb hby at_144) rfl rfl (pc' := 146) rfl ?_
            refine R.virtual X14 hx hZ (y := mY11) (z := mY11) hown w_54 w_55 (notFace_of_selects (args := #[]) (mvT hZ w_57)) w_57 w_56 w_7 w_58 (by decide) e14 E_b4 (rmeqD l Z aZ hw [] b4 b6 i1 i3 mm dd h14 n0 Z14 F_month_b4 F_dayOfMonth_b4 F_month_b6 F_dayOfMonth_b6 E_b6) (by decide) (W := 0) (Nat.le_of_eq rfl) (by decide) (by rw [hml]; rfl) (lenOf pd_7 rfl) rfl (hb hby at_146) (pc' := 149) rfl (by decide) (by decide) ?_; intro v15 T15 L15 X15 hQ15
            obtain ⟨rfl, N15q, e15⟩ := hQ15
            have N15 := Fr.app N14 N15q
            refine R.iload X15 hx (hb hby at_149) rfl (pc' := 151) rfl ?_
            refine R.icmpNo X15 hx (hb hby at_151) (teq (if_neg (fun q => hc119 q.2) : (if i1 = mm ∧ i3 = dd then (1 : Int32) else 0) = (0 : Int32))).2 (pc' := 154) rfl ?_
            refine R.aload X15 hx (hb hby at_154) rfl rfl (pc' := 156) rfl ?_
            refine R.aload X15 hx (hb hby at_156) rfl rfl (pc' := 158) rfl ?_
            refine R.virtual X15 hx hZ (y := mY11) (z := mY11) hown w_54 w_55 (notFace_of_selects (args := #[]) (mvT hZ w_57)) w_57 w_56 w_7 w_58 (by decide) e15 E_b6 (rmeqD l Z aZ hw [] b6 b4 mm dd i1 i3 h14 n0 Z14 F_month_b6 F_dayOfMonth_b6 F_month_b4 F_dayOfMonth_b4 E_b4) (by decide) (W := 0) (Nat.le_of_eq rfl) (by decide) (by rw [hml]; rfl) (lenOf pd_7 rfl) rfl (hb hby at_158) (pc' := 161) rfl (by decide) (by decide) ?_; intro v16 T16 L16 X16 hQ16
            obtain ⟨rfl, N16q, e16⟩ := hQ16
            have N16 := Fr.app N15 N16q
            refine R.iload X16 hx (hb hby at_161) rfl (pc' := 163) rfl ?_
            refine R.icmpNo X16 hx (hb hby at_163) (teq (if_neg (fun q => hc119 q.2.symm) : (if mm = i1 ∧ dd = i3 then (1 : Int32) else 0) = (0 : Int32))).2 (pc' := 166) rfl ?_
            refine R.aload X16 hx (hb hby at_166) rfl rfl (pc' := 168) rfl ?_
            refine R.aload X16 hx (hb hby at_168) rfl rfl (pc' := 170) rfl ?_
            refine R.virtual X16 hx hZ (y := mY11) (z := mY11) hown w_54 w_55 (notFace_of_selects (args := #[]) (mvT hZ w_57)) w_57 w_56 w_7 w_58 (by decide) e16 E_b4 (rmeqD l Z aZ hw [] b4 b4 i1 i3 i1 i3 h14 n0 Z14 F_month_b4 F_dayOfMonth_b4 F_month_b4 F_dayOfMonth_b4 E_b4) (by decide) (W := 0) (Nat.le_of_eq rfl) (by decide) (by rw [hml]; rfl) (lenOf pd_7 rfl) rfl (hb hby at_170) (pc' := 173) rfl (by decide) (by decide) ?_; intro v17 T17 L17 X17 hQ17
            obtain ⟨rfl, N17q, e17⟩ := hQ17
            have N17 := Fr.app N16 N17q
            refine R.ifNo X17 hx (hb hby at_173) (feq (by rw [if_pos ⟨rfl, rfl⟩]; decide : ¬ ((if i1 = i1 ∧ i3 = i3 then (1 : Int32) else 0) = (0 : Int32)))).1 (pc' := 176) rfl ?_
            refine R.aload X17 hx (hb hby at_176) rfl rfl (pc' := 178) rfl ?_
            refine R.aconstNull X17 hx (hb hby at_178) (pc' := 179) rfl ?_
            refine R.virtual X17 hx hZ (y := mY11) (z := mY11) hown w_54 w_55 (notFace_of_selects (args := #[]) (mvT hZ w_57)) w_57 w_56 w_7 w_58 (by decide) e17 E_b4 (rmeqN l Z aZ hw [] b4 h14 n0 Z14 ) (by decide) (W := 0) (Nat.le_of_eq rfl) (by decide) (by rw [hml]; rfl) (lenOf pd_7 rfl) rfl (hb hby at_179) (pc' := 182) rfl (by decide) (by decide) ?_; intro v18 T18 L18 X18 hQ18
            obtain ⟨rfl, N18q, e18⟩ := hQ18
            have N18 := Fr.app N17 N18q
            refine R.ifNo X18 hx (hb hby at_182) (teq (by decide : (0 : Int32) = (0 : Int32))).2 (pc' := 185) rfl ?_
            refine R.aload X18 hx (hb hby at_185) rfl rfl (pc' := 187) rfl ?_
            refine R.aload X18 hx (hb hby at_187) rfl rfl (pc' := 189) rfl ?_
            refine R.virtual X18 hx hZ (y := mY11) (z := mY11) hown w_54 w_55 (notFace_of_selects (args := #[]) (mvT hZ w_57)) w_57 w_56 w_7 w_58 (by decide) e18 E_b4 (rmeqI l Z aZ hw [] b4 b_14 h14 n0 Z14 E_b_14) (by decide) (W := 0) (Nat.le_of_eq rfl) (by decide) (by rw [hml]; rfl) (lenOf pd_7 rfl) rfl (hb hby at_189) (pc' := 192) rfl (by decide) (by decide) ?_; intro v19 T19 L19 X19 hQ19
            obtain ⟨rfl, N19q, e19⟩ := hQ19
            have N19 := Fr.app N18 N19q
            refine R.ifNo X19 hx (hb hby at_192) (teq (by decide : (0 : Int32) = (0 : Int32))).2 (pc' := 195) rfl ?_
            refine R.iconst X19 hx (hb hby at_195) (v := (1 : Int32)) (by decide) (pc' := 196) rfl ?_
            refine R.goto X19 hx (hb hby at_196) (by decide) (pc' := 200) (by decide) ?_
            rw [← hG]
            exact Rn.ret X19 (BodyLoose.notSynchronized Bd) (v := some (.int (1 : Int32))) (fun h => by rw [Bd.returns] at h; cases h) (Q := Q0 Z p0 p1 p2 p3 p4 en ca h0 n0) e19 (fun fs hr => retN X19 hx (t := .boolean) Bd.returns (by simp) (hb hby at_200) hr) ⟨rfl, N19⟩ (by decide) (by decide)
        · refine R.icmpYes X7 hx (hb hby at_112) (feq hc112).2 (by decide) (pc' := 126) (by decide) ?_
          refine R.iconst X7 hx (hb hby at_126) (v := (0 : Int32)) (by decide) (pc' := 127) rfl ?_
          refine R.istore X7 hx (hb hby at_127) (L' := #[.val (.int p0), .val (.int p1), .val (.int p2), .val (.int p3), .val (.int p4), .val (.int i1), .val (.int i3), .val (.int mm), .val (.int dd), .val (.ref b4), .val (.ref b6), .val (.int (0 : Int32)), .unset]) rfl (pc' := 129) rfl ?_
          refine R.bipush X7 hx (hb hby at_129) (v := (32 : Int32)) (by decide) (pc' := 131) rfl ?_
          refine R.iload X7 hx (hb hby at_131) rfl (pc' := 133) rfl ?_
          refine R.imul X7 hx (hb hby at_133) rfl (pc' := 134) rfl ?_
          refine R.iload X7 hx (hb hby at_134) rfl (pc' := 136) rfl ?_
          refine R.iadd X7 hx (hb hby at_136) rfl (pc' := 137) rfl ?_
          refine R.callS X7 hx hZ (y := mY10) hown w_47 w_48 w_49 w_50 (by decide) e7 (rm9 l Z aZ hw [] (((32 : Int32) * i1) + i3) ca h7 n0 Z7 OL (IC) (own_str m1 d1)) (by decide) (W := 0) (Nat.le_of_eq rfl) (by decide) (by rw [hml]; rfl) (lenOf pd_6 rfl) rfl (hb hby at_137) (pc' := 140) rfl (by decide) (by decide) ?_; intro v20 T20 L20 X20 hQ20
          obtain ⟨b_20, rfl, N20q, Kc20, P20_0⟩ := hQ20
          have N20 := Fr.app N7 N20q
          generalize e20 : T20.heap = h20 at Kc20 P20_0
          have K20 : Keep h0 h20 [] := K7.trans Kc20 (all0)
          have Z20 : n0 ≤ h20.size := Nat.le_trans Z7 Kc20.1
          have OL := OL.keep Kc20 all0
          have E_b4 := E_b4.keep Kc20
          have F_month_b4 := F_month_b4.keep Kc20 nin0
          have F_dayOfMonth_b4 := F_dayOfMonth_b4.keep Kc20 nin0
          have E_b6 := E_b6.keep Kc20
          have F_month_b6 := F_month_b6.keep Kc20 nin0
          have F_dayOfMonth_b6 := F_dayOfMonth_b6.keep Kc20 nin0
          have E_b_20 : Exa Z h20 b_20 "java/lang/Integer" := P20_0
          refine R.astore X20 hx (hb hby at_140) rfl (L' := #[.val (.int p0), .val (.int p1), .val (.int p2), .val (.int p3), .val (.int p4), .val (.int i1), .val (.int i3), .val (.int mm), .val (.int dd), .val (.ref b4), .val (.ref b6), .val (.int (0 : Int32)), .val (.ref b_20)]) rfl (pc' := 142) rfl ?_
          refine R.aload X20 hx (hb hby at_142) rfl rfl (pc' := 144) rfl ?_
          refine R.aload X20 hx (hb hby at_144) rfl rfl (pc' := 146) rfl ?_
          refine R.virtual X20 hx hZ (y := mY11) (z := mY11) hown w_54 w_55 (notFace_of_selects (args := #[]) (mvT hZ w_57)) w_57 w_56 w_7 w_58 (by decide) e20 E_b4 (rmeqD l Z aZ hw [] b4 b6 i1 i3 mm dd h20 n0 Z20 F_month_b4 F_dayOfMonth_b4 F_month_b6 F_dayOfMonth_b6 E_b6) (by decide) (W := 0) (Nat.le_of_eq rfl) (by decide) (by rw [hml]; rfl) (lenOf pd_7 rfl) rfl (hb hby at_146) (pc' := 149) rfl (by decide) (by decide) ?_; intro v21 T21 L21 X21 hQ21
          obtain ⟨rfl, N21q, e21⟩ := hQ21
          have N21 := Fr.app N20 N21q
          refine R.iload X21 hx (hb hby at_149) rfl (pc' := 151) rfl ?_
          refine R.icmpNo X21 hx (hb hby at_151) (teq (if_neg (fun q => hc112 q.1) : (if i1 = mm ∧ i3 = dd then (1 : Int32) else 0) = (0 : Int32))).2 (pc' := 154) rfl ?_
          refine R.aload X21 hx (hb hby at_154) rfl rfl (pc' := 156) rfl ?_
          refine R.aload X21 hx (hb hby at_156) rfl rfl (pc' := 158) rfl ?_
          refine R.virtual X21 hx hZ (y := mY11) (z := mY11) hown w_54 w_55 (notFace_of_selects (args := #[]) (mvT hZ w_57)) w_57 w_56 w_7 w_58 (by decide) e21 E_b6 (rmeqD l Z aZ hw [] b6 b4 mm dd i1 i3 h20 n0 Z20 F_month_b6 F_dayOfMonth_b6 F_month_b4 F_dayOfMonth_b4 E_b4) (by decide) (W := 0) (Nat.le_of_eq rfl) (by decide) (by rw [hml]; rfl) (lenOf pd_7 rfl) rfl (hb hby at_158) (pc' := 161) rfl (by decide) (by decide) ?_; intro v22 T22 L22 X22 hQ22
          obtain ⟨rfl, N22q, e22⟩ := hQ22
          have N22 := Fr.app N21 N22q
          refine R.iload X22 hx (hb hby at_161) rfl (pc' := 163) rfl ?_
          refine R.icmpNo X22 hx (hb hby at_163) (teq (if_neg (fun q => hc112 q.1.symm) : (if mm = i1 ∧ dd = i3 then (1 : Int32) else 0) = (0 : Int32))).2 (pc' := 166) rfl ?_
          refine R.aload X22 hx (hb hby at_166) rfl rfl (pc' := 168) rfl ?_
          refine R.aload X22 hx (hb hby at_168) rfl rfl (pc' := 170) rfl ?_
          refine R.virtual X22 hx hZ (y := mY11) (z := mY11) hown w_54 w_55 (notFace_of_selects (args := #[]) (mvT hZ w_57)) w_57 w_56 w_7 w_58 (by decide) e22 E_b4 (rmeqD l Z aZ hw [] b4 b4 i1 i3 i1 i3 h20 n0 Z20 F_month_b4 F_dayOfMonth_b4 F_month_b4 F_dayOfMonth_b4 E_b4) (by decide) (W := 0) (Nat.le_of_eq rfl) (by decide) (by rw [hml]; rfl) (lenOf pd_7 rfl) rfl (hb hby at_170) (pc' := 173) rfl (by decide) (by decide) ?_; intro v23 T23 L23 X23 hQ23
          obtain ⟨rfl, N23q, e23⟩ := hQ23
          have N23 := Fr.app N22 N23q
          refine R.ifNo X23 hx (hb hby at_173) (feq (by rw [if_pos ⟨rfl, rfl⟩]; decide : ¬ ((if i1 = i1 ∧ i3 = i3 then (1 : Int32) else 0) = (0 : Int32)))).1 (pc' := 176) rfl ?_
          refine R.aload X23 hx (hb hby at_176) rfl rfl (pc' := 178) rfl ?_
          refine R.aconstNull X23 hx (hb hby at_178) (pc' := 179) rfl ?_
          refine R.virtual X23 hx hZ (y := mY11) (z := mY11) hown w_54 w_55 (notFace_of_selects (args := #[]) (mvT hZ w_57)) w_57 w_56 w_7 w_58 (by decide) e23 E_b4 (rmeqN l Z aZ hw [] b4 h20 n0 Z20 ) (by decide) (W := 0) (Nat.le_of_eq rfl) (by decide) (by rw [hml]; rfl) (lenOf pd_7 rfl) rfl (hb hby at_179) (pc' := 182) rfl (by decide) (by decide) ?_; intro v24 T24 L24 X24 hQ24
          obtain ⟨rfl, N24q, e24⟩ := hQ24
          have N24 := Fr.app N23 N24q
          refine R.ifNo X24 hx (hb hby at_182) (teq (by decide : (0 : Int32) = (0 : Int32))).2 (pc' := 185) rfl ?_
          refine R.aload X24 hx (hb hby at_185) rfl rfl (pc' := 187) rfl ?_
          refine R.aload X24 hx (hb hby at_187) rfl rfl (pc' := 189) rfl ?_
          refine R.virtual X24 hx hZ (y := mY11) (z := mY11) hown w_54 w_55 (notFace_of_selects (args := #[]) (mvT hZ w_57)) w_57 w_56 w_7 w_58 (by decide) e24 E_b4 (rmeqI l Z aZ hw [] b4 b_20 h20 n0 Z20 E_b_20) (by decide) (W := 0) (Nat.le_of_eq rfl) (by decide) (by rw [hml]; rfl) (lenOf pd_7 rfl) rfl (hb hby at_189) (pc' := 192) rfl (by decide) (by decide) ?_; intro v25 T25 L25 X25 hQ25
          obtain ⟨rfl, N25q, e25⟩ := hQ25
          have N25 := Fr.app N24 N25q
          refine R.ifNo X25 hx (hb hby at_192) (teq (by decide : (0 : Int32) = (0 : Int32))).2 (pc' := 195) rfl ?_
          refine R.iconst X25 hx (hb hby at_195) (v := (1 : Int32)) (by decide) (pc' := 196) rfl ?_
          refine R.goto X25 hx (hb hby at_196) (by decide) (pc' := 200) (by decide) ?_
          rw [← hG]
          exact Rn.ret X25 (BodyLoose.notSynchronized Bd) (v := some (.int (1 : Int32))) (fun h => by rw [Bd.returns] at h; cases h) (Q := Q0 Z p0 p1 p2 p3 p4 en ca h0 n0) e25 (fun fs hr => retN X25 hx (t := .boolean) Bd.returns (by simp) (hb hby at_200) hr) ⟨rfl, N25⟩ (by decide) (by decide)
      refine R.iload X2 hx (hb hby at_48) rfl (pc' := 50) rfl ?_
      refine R.iconst X2 hx (hb hby at_50) (v := (2 : Int32)) (by decide) (pc' := 51) rfl ?_
      refine R.iand X2 hx (hb hby at_51) rfl (pc' := 52) rfl ?_
      by_cases hc52 : (p4 &&& (2 : Int32)) = (0 : Int32)
      · refine R.ifYes X2 hx (hb hby at_52) (teq hc52).1 (by decide) (pc' := 68) (by decide) ?_
        refine R.iloadN X2 hx (hb hby at_68) rfl (pc' := 69) rfl ?_
        refine R.ldcI X2 hx hZ hown w_0 (hb hby at_69) (pc' := 71) rfl ?_
        refine R.iand X2 hx (hb hby at_71) rfl (pc' := 72) rfl ?_
        refine R.iload X2 hx (hb hby at_72) rfl (pc' := 74) rfl ?_
        refine R.callS X2 hx hZ (y := mY8) hown w_1 w_2 w_3 w_4 (by decide) e2 (rm1 l Z aZ hw [] mm h0 n0 Z0 ) (by decide) (W := 1) (Nat.le_of_eq rfl) (by decide) (by rw [hml]; rfl) (lenOf pd_4 rfl) rfl (hb hby at_74) (pc' := 77) rfl (by decide) (by decide) ?_; intro v26 T26 L26 X26 hQ26
        obtain ⟨rfl, N26q, e26⟩ := hQ26
        have N26 := Fr.app N2 N26q
        refine R.irem X26 hx (hb hby at_77) (own_dnz _ : (own_days mm) ≠ (0 : Int32)) (pc' := 78) rfl ?_
        refine R.iconst X26 hx (hb hby at_78) (v := (1 : Int32)) (by decide) (pc' := 79) rfl ?_
        refine R.iadd X26 hx (hb hby at_79) rfl (pc' := 80) rfl ?_
        exact J80 _ _ _ X26 e26 N26 K0 Z0 (((p3 &&& (2147483647 : Int32)) % (own_days mm)) + (1 : Int32)) (own_dd rfl) OL
      · refine R.ifNo X2 hx (hb hby at_52) (feq hc52).1 (pc' := 55) rfl ?_
        refine R.iload X2 hx (hb hby at_55) rfl (pc' := 57) rfl ?_
        refine R.iload X2 hx (hb hby at_57) rfl (pc' := 59) rfl ?_
        refine R.callS X2 hx hZ (y := mY8) hown w_1 w_2 w_3 w_4 (by decide) e2 (rm1 l Z aZ hw [] mm h0 n0 Z0 ) (by decide) (W := 1) (Nat.le_of_eq rfl) (by decide) (by rw [hml]; rfl) (lenOf pd_4 rfl) rfl (hb hby at_59) (pc' := 62) rfl (by decide) (by decide) ?_; intro v27 T27 L27 X27 hQ27
        obtain ⟨rfl, N27q, e27⟩ := hQ27
        have N27 := Fr.app N2 N27q
        refine R.callS X27 hx hZ (y := mY12) hown w_64 w_65 w_66 w_67 (by decide) e27 (rm11 l Z aZ hw [] i3 (own_days mm) h0 n0 Z0 ) (by decide) (W := 0) (Nat.le_of_eq rfl) (by decide) (by rw [hml]; rfl) (lenOf pd_8 rfl) rfl (hb hby at_62) (pc' := 65) rfl (by decide) (by decide) ?_; intro v28 T28 L28 X28 hQ28
        obtain ⟨rfl, N28q, e28⟩ := hQ28
        have N28 := Fr.app N27 N28q
        refine R.goto X28 hx (hb hby at_65) (by decide) (pc' := 80) (by decide) ?_
        exact J80 _ _ _ X28 e28 N28 K0 Z0 (if (own_days mm) < i3 then (own_days mm) else i3) (own_dm d1) OL
    refine R.iload X2 hx (hb hby at_25) rfl (pc' := 27) rfl ?_
    refine R.iconst X2 hx (hb hby at_27) (v := (1 : Int32)) (by decide) (pc' := 28) rfl ?_
    refine R.iand X2 hx (hb hby at_28) rfl (pc' := 29) rfl ?_
    by_cases hc29 : (p4 &&& (1 : Int32)) = (0 : Int32)
    · refine R.ifYes X2 hx (hb hby at_29) (teq hc29).1 (by decide) (pc' := 37) (by decide) ?_
      refine R.iloadN X2 hx (hb hby at_37) rfl (pc' := 38) rfl ?_
      refine R.ldcI X2 hx hZ hown w_0 (hb hby at_38) (pc' := 40) rfl ?_
      refine R.iand X2 hx (hb hby at_40) rfl (pc' := 41) rfl ?_
      refine R.bipush X2 hx (hb hby at_41) (v := (12 : Int32)) (by decide) (pc' := 43) rfl ?_
      refine R.irem X2 hx (hb hby at_43) (by decide : (12 : Int32) ≠ (0 : Int32)) (pc' := 44) rfl ?_
      refine R.iconst X2 hx (hb hby at_44) (v := (1 : Int32)) (by decide) (pc' := 45) rfl ?_
      refine R.iadd X2 hx (hb hby at_45) rfl (pc' := 46) rfl ?_
      exact J46 (((p2 &&& (2147483647 : Int32)) % (12 : Int32)) + (1 : Int32)) (own_m12 rfl)
    · refine R.ifNo X2 hx (hb hby at_29) (feq hc29).1 (pc' := 32) rfl ?_
      refine R.iload X2 hx (hb hby at_32) rfl (pc' := 34) rfl ?_
      refine R.goto X2 hx (hb hby at_34) (by decide) (pc' := 46) (by decide) ?_
      exact J46 i1 (m1)
  exact (Rn.st (fun t k => castTop (ef_0 m p0 p1 p2 p3 p4) k) first_ : Rn p e below (s₁.setTop (entryFrame m #[(.int p0), (.int p1), (.int p2), (.int p3), (.int p4)] maxLocals)) (Fn0 Z p0 p1 p2 p3 p4 en ca h0 n0 s))
set_option maxRecDepth 65536 in
set_option maxHeartbeats 40000000 in
theorem comes_1 {Post : Tables → Env → Array Value → State → Outcome → State → Prop} (hpost : ∀ tb e args s v u, (limb_1_1.after args s (.returned v) u = true ∧ limb_1_2.after args s (.returned v) u = true ∧ True) → FrameEnd s (.returned v) u (Jvm.fieldLocs frame_1_writes args s ++ Jvm.arrayLocs frame_1_arrays args s ++ Jvm.staticLocs frame_1_statics s) 16 128 → Post tb e args s (.returned v) u) :
    ArmFor flags0 classFile x code maxLocals ret World_1 tables_1 room_1 Calls_1 rest_1 Pre_1 Post := by
  intro l hfl _ _ p e ha hc hk s m args below hf hA hF happ hP
  obtain ⟨hcalls, hrest, hpre⟩ := hP
  obtain ⟨-, -, -, hnamed, -, -, -, hat⟩ := (Spec.applies_iff hf).mp happ
  obtain ⟨hg, hn⟩ := and_e (Cond.before_iff.mp (show (Jvm.Cond.and given_1 narrow_1).before args s = true from hpre))
  obtain ⟨g1, g2⟩ := and_e hg
  obtain ⟨g3, g4⟩ := and_e g2
  obtain ⟨g5, g6⟩ := and_e g4
  obtain ⟨g7, g8⟩ := and_e g6
  obtain ⟨g9, g10⟩ := and_e g8
  obtain ⟨w0, w1, w2, w3, w4, rfl⟩ : ∃ w0 w1 w2 w3 w4 : Value, args = #[w0, w1, w2, w3, w4] := by
    have hs : args.size = 5 := by simpa [Cond.value, given_1] using g1
    obtain ⟨L⟩ := args
    match L, hs with
    | [w0, w1, w2, w3, w4], _ => exact ⟨w0, w1, w2, w3, w4, rfl⟩
  have hw := fun d (hd : d ∈ tables_1) => atoms_spec (ws := Jvm.Cond.code x code maxLocals ret :: tables_1) hat d (List.mem_cons_of_mem _ hd)
  obtain ⟨hsets, hown0⟩ := atoms_of _ (rest_1_c_eq ▸ (show rest_1_c.before _ s = true from hrest))
  have hr0 := Cond.before_iff.mp hown0
  obtain ⟨en, MF⟩ := own_mf hsets
  obtain ⟨ca, IC⟩ := own_ic hsets (hw _ (List.mem_of_getElem? (i := 52) rfl))
  obtain ⟨i0, ei0⟩ := is_v g3
  obtain rfl : w0 = (.int i0) := Option.some.inj ei0
  obtain ⟨i1, ei1⟩ := is_v g5
  obtain rfl : w1 = (.int i1) := Option.some.inj ei1
  obtain ⟨i2, ei2⟩ := is_v g7
  obtain rfl : w2 = (.int i2) := Option.some.inj ei2
  obtain ⟨i3, ei3⟩ := is_v g9
  obtain rfl : w3 = (.int i3) := Option.some.inj ei3
  obtain ⟨i4, ei4⟩ := is_v g10
  obtain rfl : w4 = (.int i4) := Option.some.inj ei4
  obtain ⟨n, o, h1, h2, h3, _, L, rfl, ⟨rfl, N⟩, hq⟩ := rm0 l s _ hw tables_1 i0 i1 i2 i3 i4 en ca s.heap s.heap.size (Nat.le_refl _) (Old.start s) MF IC p e ha hc hk s m _ below hf ((Spec.applies_iff_loose hf).mp happ).1 ⟨rfl, State.Warmed39.refl s, rfl⟩ trivial
  refine ⟨n, _, h1, h2, h3, hpost _ _ _ _ _ _ ⟨Cond.after_iff.mpr rfl, Cond.after_iff.mpr (eq_i res_at (Term.int_eval (1)) rfl), trivial⟩ ⟨hq.1, hq.2.1, (hq.2.2.sift fun y hy => Or.inr (N y hy)).mono (by decide) (by decide)⟩⟩
theorem main_1_1 : Claimed_1_1 := comes_1 fun _ _ _ _ _ _ h hF => ⟨h.1, hF⟩
theorem main_1_2 : Claimed_1_2 := comes_1 fun _ _ _ _ _ _ h hF => ⟨h.2.1, hF⟩
end Jvm.Pilot.@@N@@
namespace Jvm.Pilot.@@N@@
open Jvm Jvm.ClassFile Sem Op Lib Jvm.Free Jvm.Stand Jvm.Pilot.@@N@@.Jvm.D
/-! MADE BY PROGRAM (witnessworld.py) out of the Statement's table words and the real class files: 25 classes; the members and pool entries that the words name. The judged class is class 1, her method 2. -/
namespace start1
open Jvm.ClassFile
def u (s : String) : CpInfo := .utf8 (stringToUtf16 s)
/-- a pool by its gaps: so many unusable entries, then the entry; so many at the end -/
def gap : Nat → List CpInfo → List CpInfo
  | 0, r => r
  | n + 1, r => .unusable :: gap n r
def poolList (es : List (Nat × CpInfo)) (last : Nat) : List CpInfo := es.foldr (fun e r => gap e.1 (e.2 :: r)) (gap last [])
def pool (es : List (Nat × CpInfo)) (last : Nat) : Array CpInfo := ⟨poolList es last⟩
def fileOf (pool : Array CpInfo) (this : Nat) (attrs : Array Attribute := #[]) (ms : Array MethodInfo := #[]) (fl : Nat := 33) (sup : Nat := 0) (ifs : Array Nat := #[]) (fds : Array FieldInfo := #[]) : ClassFile where
  minorVersion := 0
  majorVersion := 65
  constantPool := pool
  accessFlags := fl
  thisClass := this
  superClass := sup
  interfaces := ifs
  fields := fds
  methods := ms
  attributes := attrs
def plain (name : String) (sup : Option ClassId) : Class where
  name := name
  kind := .ordinary
  loader := none
  accessFlags := 33
  super := sup
  interfaces := #[]
  cf := none
  fields := #[]
  methods := #[]
  instanceTypes := #[]
  staticTypes := #[]
  resolved := #[]
  callSites := []
  init := .initialized
  statics := none
  mirror := none

def pool0 : Array CpInfo := pool [(5, u "<init>"), (0, u "()V"), (1, .class_ 10), (1, u "java/lang/Object")] 113

def k0c0 : Code := { maxStack := 0, maxLocals := 1, code := object_method_1_code, exceptionTable := #[], attributes := #[] }
def k0m0 : Method := { name := "<init>", desc := "()V", sig := { parameters := [], returnType := none }, accessFlags := 1, code := some k0c0 }
/-- java/lang/Object -/
def k0 : Class := { plain "java/lang/Object" none with
  accessFlags := 33
  interfaces := #[]
  cf := some (fileOf pool0 8 #[] #[{ accessFlags := 1, nameIndex := 5, descriptorIndex := 6, attributes := #[] }] 33 0 #[] #[])
  fields := #[]
  methods := #[k0m0]
  instanceTypes := #[]
  staticTypes := #[]
  resolved := Array.replicate 124 none
  statics := none }

def pool1 : Array CpInfo := pool [(2, .class_ 4), (1, u "java/lang/Object"), (0, u "<init>"), (0, u "()V"), (0, .integer 2147483647), (0, .methodref 9 10), (0, .class_ 11), (0, .nameAndType 12 13), (0, u "com/example/vespera/vespera/calendar/DayOfYearEqualsPinLaw"), (0, u "days"), (0, u "(I)I"), (0, .methodref 15 16), (0, .class_ 17), (0, .nameAndType 18 19), (0, u "java/lang/Math"), (0, u "min"), (0, u "(II)I"), (0, .class_ 21), (0, u "com/example/vespera/vespera/calendar/DayOfYear"), (0, .methodref 20 23), (0, .nameAndType 5 24), (0, u "(II)V"), (0, .methodref 26 27), (0, .class_ 28), (0, .nameAndType 29 30), (0, u "java/lang/Integer"), (0, u "valueOf"), (0, u "(I)Ljava/lang/Integer;"), (0, .methodref 20 32), (0, .nameAndType 33 34), (0, u "equals"), (0, u "(Ljava/lang/Object;)Z"), (3, u "law"), (0, u "(IIIII)Z")] 2

def k1m0 : Method := { name := "<init>", desc := "()V", sig := { parameters := [], returnType := none }, accessFlags := 1, code := none }
def k1c1 : Code := { maxStack := 2, maxLocals := 1, code := method_2_code, exceptionTable := #[], attributes := #[] }
def k1m1 : Method := { name := "days", desc := "(I)I", sig := { parameters := [.int], returnType := some .int }, accessFlags := 10, code := some k1c1 }
def k1c2 : Code := { maxStack := 4, maxLocals := 13, code := code, exceptionTable := #[], attributes := #[] }
def k1m2 : Method := { name := "law", desc := "(IIIII)Z", sig := { parameters := [.int, .int, .int, .int, .int], returnType := some .boolean }, accessFlags := 9, code := some k1c2 }
/-- com/example/vespera/vespera/calendar/DayOfYearEqualsPinLaw -/
def k1 : Class := { plain "com/example/vespera/vespera/calendar/DayOfYearEqualsPinLaw" (some 0) with
  accessFlags := 49
  interfaces := #[]
  cf := some (fileOf pool1 9 #[] #[{ accessFlags := 1, nameIndex := 5, descriptorIndex := 6, attributes := #[] }, { accessFlags := 10, nameIndex := 12, descriptorIndex := 13, attributes := #[] }, { accessFlags := 9, nameIndex := 38, descriptorIndex := 39, attributes := #[] }] 49 2 #[] #[])
  fields := #[]
  methods := #[k1m0, k1m1, k1m2]
  instanceTypes := #[]
  staticTypes := #[]
  resolved := Array.replicate 42 none
  statics := none }

def pool2 : Array CpInfo := pool [(1, .methodref 2 3), (0, .class_ 4), (0, .nameAndType 5 6), (0, u "java/lang/Object"), (0, u "<init>"), (0, u "()V"), (0, .class_ 8), (0, u "java/lang/Record")] 13

def k2c0 : Code := { maxStack := 1, maxLocals := 1, code := jdk_30_method_1_code, exceptionTable := #[], attributes := #[] }
def k2m0 : Method := { name := "<init>", desc := "()V", sig := { parameters := [], returnType := none }, accessFlags := 4, code := some k2c0 }
/-- java/lang/Record -/
def k2 : Class := { plain "java/lang/Record" (some 0) with
  accessFlags := 1057
  interfaces := #[]
  cf := some (fileOf pool2 7 #[] #[{ accessFlags := 4, nameIndex := 5, descriptorIndex := 6, attributes := #[] }] 1057 2 #[] #[])
  fields := #[]
  methods := #[k2m0]
  instanceTypes := #[]
  staticTypes := #[]
  resolved := Array.replicate 22 none
  statics := none }

def pool3 : Array CpInfo := pool [(1, .class_ 2), (0, u "java/lang/Comparable"), (0, .class_ 4), (0, u "java/lang/Object")] 7

/-- java/lang/Comparable -/
def k3 : Class := { plain "java/lang/Comparable" (some 0) with
  accessFlags := 1537
  interfaces := #[]
  cf := some (fileOf pool3 1 #[] #[] 1537 3 #[] #[])
  fields := #[]
  methods := #[]
  instanceTypes := #[]
  staticTypes := #[]
  resolved := Array.replicate 12 none
  statics := none }

def pool4 : Array CpInfo := pool [(1, .methodref 2 3), (0, .class_ 4), (0, .nameAndType 5 6), (0, u "java/lang/Record"), (0, u "<init>"), (0, u "()V"), (0, .methodref 8 9), (0, .class_ 10), (0, .nameAndType 11 12), (0, u "java/time/Month"), (0, u "of"), (0, u "(I)Ljava/time/Month;"), (0, .methodref 8 14), (0, .nameAndType 15 16), (0, u "maxLength"), (0, u "()I"), (7, .methodref 8 25), (0, .nameAndType 26 16), (0, u "minLength"), (2, .fieldref 30 31), (0, .class_ 32), (0, .nameAndType 33 34), (0, u "com/example/vespera/vespera/calendar/DayOfYear"), (0, u "month"), (0, u "I"), (0, .fieldref 30 36), (0, .nameAndType 37 34), (0, u "dayOfMonth"), (21, .class_ 60), (0, u "java/lang/Comparable"), (0, u "(II)V"), (4, u "equals"), (0, u "(Ljava/lang/Object;)Z")] 28

def k4c0 : Code := { maxStack := 3, maxLocals := 3, code := prog_8_method_1_code, exceptionTable := #[], attributes := #[] }
def k4m0 : Method := { name := "<init>", desc := "(II)V", sig := { parameters := [.int, .int], returnType := none }, accessFlags := 1, code := some k4c0 }
def k4c1 : Code := { maxStack := 2, maxLocals := 3, code := prog_8_method_2_code, exceptionTable := #[], attributes := #[] }
def k4m1 : Method := { name := "equals", desc := "(Ljava/lang/Object;)Z", sig := { parameters := [(.object "java/lang/Object")], returnType := some .boolean }, accessFlags := 1, code := some k4c1 }
/-- com/example/vespera/vespera/calendar/DayOfYear -/
def k4 : Class := { plain "com/example/vespera/vespera/calendar/DayOfYear" (some 2) with
  accessFlags := 49
  interfaces := #[3]
  cf := some (fileOf pool4 30 #[] #[{ accessFlags := 1, nameIndex := 5, descriptorIndex := 61, attributes := #[] }, { accessFlags := 1, nameIndex := 66, descriptorIndex := 67, attributes := #[] }] 49 2 #[59] #[{ accessFlags := 18, nameIndex := 33, descriptorIndex := 34, attributes := #[] }, { accessFlags := 18, nameIndex := 37, descriptorIndex := 34, attributes := #[] }])
  fields := #[{ name := "month", type := .int, accessFlags := 18, slot := 0, constantValue := 0 }, { name := "dayOfMonth", type := .int, accessFlags := 18, slot := 1, constantValue := 0 }]
  methods := #[k4m0, k4m1]
  instanceTypes := #[.int, .int]
  staticTypes := #[]
  resolved := Array.replicate 96 none
  statics := none }

def pool5 : Array CpInfo := pool [(1, .class_ 2), (0, u "java/lang/constant/Constable"), (0, .class_ 4), (0, u "java/lang/Object")] 6

/-- java/lang/constant/Constable -/
def k5 : Class := { plain "java/lang/constant/Constable" (some 0) with
  accessFlags := 1537
  interfaces := #[]
  cf := some (fileOf pool5 1 #[] #[] 1537 3 #[] #[])
  fields := #[]
  methods := #[]
  instanceTypes := #[]
  staticTypes := #[]
  resolved := Array.replicate 11 none
  statics := none }

def pool6 : Array CpInfo := pool [(1, .class_ 2), (0, u "java/io/Serializable"), (0, .class_ 4), (0, u "java/lang/Object")] 2

/-- java/io/Serializable -/
def k6 : Class := { plain "java/io/Serializable" (some 0) with
  accessFlags := 1537
  interfaces := #[]
  cf := some (fileOf pool6 1 #[] #[] 1537 3 #[] #[])
  fields := #[]
  methods := #[]
  instanceTypes := #[]
  staticTypes := #[]
  resolved := Array.replicate 7 none
  statics := none }

def pool7 : Array CpInfo := pool [(2, .class_ 4), (1, u "java/lang/Enum"), (0, u "name"), (0, u "Ljava/lang/String;"), (0, .fieldref 2 8), (0, .nameAndType 9 10), (0, u "ordinal"), (0, u "I"), (1, .class_ 14), (1, u "java/lang/Object"), (4, u "hash"), (86, .class_ 108), (1, u "java/lang/Enum$EnumDesc"), (2, .class_ 112), (0, u "java/lang/constant/Constable"), (0, .class_ 114), (0, u "java/lang/Comparable"), (0, .class_ 116), (0, u "java/io/Serializable"), (9, u "()I")] 77

def k7c0 : Code := { maxStack := 1, maxLocals := 1, code := jdk_37_method_2_code, exceptionTable := #[], attributes := #[] }
def k7m0 : Method := { name := "ordinal", desc := "()I", sig := { parameters := [], returnType := some .int }, accessFlags := 17, code := some k7c0 }
/-- java/lang/Enum -/
def k7 : Class := { plain "java/lang/Enum" (some 0) with
  accessFlags := 1057
  interfaces := #[5, 3, 6]
  cf := some (fileOf pool7 2 #[.nestMembers #[106]] #[{ accessFlags := 17, nameIndex := 9, descriptorIndex := 126, attributes := #[] }] 1057 12 #[111, 113, 115] #[{ accessFlags := 18, nameIndex := 5, descriptorIndex := 6, attributes := #[] }, { accessFlags := 18, nameIndex := 9, descriptorIndex := 10, attributes := #[] }, { accessFlags := 2, nameIndex := 19, descriptorIndex := 10, attributes := #[] }])
  fields := #[{ name := "name", type := (.object "java/lang/String"), accessFlags := 18, slot := 0, constantValue := 0 }, { name := "ordinal", type := .int, accessFlags := 18, slot := 1, constantValue := 0 }, { name := "hash", type := .int, accessFlags := 2, slot := 2, constantValue := 0 }]
  methods := #[k7m0]
  instanceTypes := #[(.object "java/lang/String"), .int, .int]
  staticTypes := #[]
  resolved := Array.replicate 204 none
  statics := none }

def pool8 : Array CpInfo := pool [(4, .class_ 6), (1, u "java/time/temporal/TemporalAccessor"), (95, .class_ 103), (0, u "java/lang/Object")] 21

/-- java/time/temporal/TemporalAccessor -/
def k8 : Class := { plain "java/time/temporal/TemporalAccessor" (some 0) with
  accessFlags := 1537
  interfaces := #[]
  cf := some (fileOf pool8 4 #[] #[] 1537 102 #[] #[])
  fields := #[]
  methods := #[]
  instanceTypes := #[]
  staticTypes := #[]
  resolved := Array.replicate 125 none
  statics := none }

def pool9 : Array CpInfo := pool [(1, .class_ 2), (0, u "java/time/temporal/TemporalAdjuster"), (0, .class_ 4), (0, u "java/lang/Object")] 6

/-- java/time/temporal/TemporalAdjuster -/
def k9 : Class := { plain "java/time/temporal/TemporalAdjuster" (some 0) with
  accessFlags := 1537
  interfaces := #[]
  cf := some (fileOf pool9 1 #[] #[] 1537 3 #[] #[])
  fields := #[]
  methods := #[]
  instanceTypes := #[]
  staticTypes := #[]
  resolved := Array.replicate 11 none
  statics := none }

def pool10 : Array CpInfo := pool [(1, .class_ 2), (0, u "java/time/Month"), (2, u "JANUARY"), (0, u "Ljava/time/Month;"), (2, u "FEBRUARY"), (2, u "MARCH"), (2, u "APRIL"), (2, u "MAY"), (2, u "JUNE"), (2, u "JULY"), (2, u "AUGUST"), (2, u "SEPTEMBER"), (2, u "OCTOBER"), (2, u "NOVEMBER"), (2, u "DECEMBER"), (2, u "$VALUES"), (0, u "[Ljava/time/Month;"), (6, .class_ 52), (1, u "java/lang/Enum"), (29, .fieldref 1 83), (0, .nameAndType 84 43), (0, u "ENUMS"), (28, .class_ 115), (1, u "java/time/temporal/TemporalAccessor"), (4, u "of"), (0, u "(I)Ljava/time/Month;"), (19, .methodref 1 142), (0, .nameAndType 143 144), (0, u "ordinal"), (0, u "()I"), (96, .class_ 242), (0, u "java/time/temporal/TemporalAdjuster"), (37, u "minLength"), (0, u "maxLength")] 15

def k10c0 : Code := { maxStack := 4, maxLocals := 1, code := jdk_2329_method_4_code, exceptionTable := #[], attributes := #[] }
def k10m0 : Method := { name := "of", desc := "(I)Ljava/time/Month;", sig := { parameters := [.int], returnType := some (.object "java/time/Month") }, accessFlags := 9, code := some k10c0 }
def k10c1 : Code := { maxStack := 1, maxLocals := 1, code := jdk_2329_method_15_code, exceptionTable := #[], attributes := #[] }
def k10m1 : Method := { name := "minLength", desc := "()I", sig := { parameters := [], returnType := some .int }, accessFlags := 1, code := some k10c1 }
def k10c2 : Code := { maxStack := 1, maxLocals := 1, code := jdk_2329_method_16_code, exceptionTable := #[], attributes := #[] }
def k10m2 : Method := { name := "maxLength", desc := "()I", sig := { parameters := [], returnType := some .int }, accessFlags := 1, code := some k10c2 }
/-- java/time/Month -/
def k10 : Class := { plain "java/time/Month" (some 7) with
  accessFlags := 16433
  interfaces := #[8, 9]
  cf := some (fileOf pool10 1 #[] #[{ accessFlags := 9, nameIndex := 120, descriptorIndex := 121, attributes := #[] }, { accessFlags := 1, nameIndex := 280, descriptorIndex := 144, attributes := #[] }, { accessFlags := 1, nameIndex := 281, descriptorIndex := 144, attributes := #[] }] 16433 50 #[113, 241] #[{ accessFlags := 16409, nameIndex := 5, descriptorIndex := 6, attributes := #[] }, { accessFlags := 16409, nameIndex := 9, descriptorIndex := 6, attributes := #[] }, { accessFlags := 16409, nameIndex := 12, descriptorIndex := 6, attributes := #[] }, { accessFlags := 16409, nameIndex := 15, descriptorIndex := 6, attributes := #[] }, { accessFlags := 16409, nameIndex := 18, descriptorIndex := 6, attributes := #[] }, { accessFlags := 16409, nameIndex := 21, descriptorIndex := 6, attributes := #[] }, { accessFlags := 16409, nameIndex := 24, descriptorIndex := 6, attributes := #[] }, { accessFlags := 16409, nameIndex := 27, descriptorIndex := 6, attributes := #[] }, { accessFlags := 16409, nameIndex := 30, descriptorIndex := 6, attributes := #[] }, { accessFlags := 16409, nameIndex := 33, descriptorIndex := 6, attributes := #[] }, { accessFlags := 16409, nameIndex := 36, descriptorIndex := 6, attributes := #[] }, { accessFlags := 16409, nameIndex := 39, descriptorIndex := 6, attributes := #[] }, { accessFlags := 26, nameIndex := 84, descriptorIndex := 43, attributes := #[] }, { accessFlags := 4122, nameIndex := 42, descriptorIndex := 43, attributes := #[] }])
  fields := #[{ name := "JANUARY", type := (.object "java/time/Month"), accessFlags := 16409, slot := 0, constantValue := 0 }, { name := "FEBRUARY", type := (.object "java/time/Month"), accessFlags := 16409, slot := 1, constantValue := 0 }, { name := "MARCH", type := (.object "java/time/Month"), accessFlags := 16409, slot := 2, constantValue := 0 }, { name := "APRIL", type := (.object "java/time/Month"), accessFlags := 16409, slot := 3, constantValue := 0 }, { name := "MAY", type := (.object "java/time/Month"), accessFlags := 16409, slot := 4, constantValue := 0 }, { name := "JUNE", type := (.object "java/time/Month"), accessFlags := 16409, slot := 5, constantValue := 0 }, { name := "JULY", type := (.object "java/time/Month"), accessFlags := 16409, slot := 6, constantValue := 0 }, { name := "AUGUST", type := (.object "java/time/Month"), accessFlags := 16409, slot := 7, constantValue := 0 }, { name := "SEPTEMBER", type := (.object "java/time/Month"), accessFlags := 16409, slot := 8, constantValue := 0 }, { name := "OCTOBER", type := (.object "java/time/Month"), accessFlags := 16409, slot := 9, constantValue := 0 }, { name := "NOVEMBER", type := (.object "java/time/Month"), accessFlags := 16409, slot := 10, constantValue := 0 }, { name := "DECEMBER", type := (.object "java/time/Month"), accessFlags := 16409, slot := 11, constantValue := 0 }, { name := "ENUMS", type := (.array (.object "java/time/Month")), accessFlags := 26, slot := 12, constantValue := 0 }, { name := "$VALUES", type := (.array (.object "java/time/Month")), accessFlags := 4122, slot := 13, constantValue := 0 }]
  methods := #[k10m0, k10m1, k10m2]
  instanceTypes := #[(.object "java/lang/String"), .int, .int]
  staticTypes := #[(.object "java/time/Month"), (.object "java/time/Month"), (.object "java/time/Month"), (.object "java/time/Month"), (.object "java/time/Month"), (.object "java/time/Month"), (.object "java/time/Month"), (.object "java/time/Month"), (.object "java/time/Month"), (.object "java/time/Month"), (.object "java/time/Month"), (.object "java/time/Month"), (.array (.object "java/time/Month")), (.array (.object "java/time/Month"))]
  resolved := Array.replicate 297 none
  statics := some 0 }

def pool11 : Array CpInfo := pool [(1, .methodref 2 3), (0, .class_ 4), (0, .nameAndType 5 6), (0, u "java/lang/Object"), (0, u "<init>"), (0, u "()V"), (1, .class_ 10), (1, u "java/lang/Number"), (2, .class_ 14), (0, u "java/io/Serializable"), (0, u "serialVersionUID"), (0, u "J")] 20

def k11c0 : Code := { maxStack := 1, maxLocals := 1, code := jdk_18_method_1_code, exceptionTable := #[], attributes := #[] }
def k11m0 : Method := { name := "<init>", desc := "()V", sig := { parameters := [], returnType := none }, accessFlags := 1, code := some k11c0 }
/-- java/lang/Number -/
def k11 : Class := { plain "java/lang/Number" (some 0) with
  accessFlags := 1057
  interfaces := #[6]
  cf := some (fileOf pool11 8 #[] #[{ accessFlags := 1, nameIndex := 5, descriptorIndex := 6, attributes := #[] }] 1057 2 #[13] #[{ accessFlags := 26, nameIndex := 15, descriptorIndex := 16, attributes := #[] }])
  fields := #[{ name := "serialVersionUID", type := .long, accessFlags := 26, slot := 0, constantValue := 0 }]
  methods := #[k11m0]
  instanceTypes := #[]
  staticTypes := #[.long]
  resolved := Array.replicate 37 none
  statics := none }

def pool12 : Array CpInfo := pool [(1, .class_ 2), (0, u "java/lang/constant/ConstantDesc"), (0, .class_ 4), (0, u "java/lang/Object")] 32

/-- java/lang/constant/ConstantDesc -/
def k12 : Class := { plain "java/lang/constant/ConstantDesc" (some 0) with
  accessFlags := 1537
  interfaces := #[]
  cf := some (fileOf pool12 1 #[] #[] 1537 3 #[] #[])
  fields := #[]
  methods := #[]
  instanceTypes := #[]
  staticTypes := #[]
  resolved := Array.replicate 37 none
  statics := none }

def pool13 : Array CpInfo := pool [(1, .class_ 2), (0, u "java/lang/Integer"), (16, u "digits"), (0, u "[C"), (46, u "<init>"), (17, u "DigitOnes"), (0, u "[B"), (2, u "DigitTens"), (10, .nameAndType 67 101), (0, u "()V"), (85, u "valueOf"), (0, u "(I)Ljava/lang/Integer;"), (0, .class_ 190), (0, u "java/lang/Integer$IntegerCache"), (0, .fieldref 189 192), (0, .nameAndType 193 194), (0, u "high"), (0, u "I"), (0, .fieldref 189 196), (0, .nameAndType 197 198), (0, u "cache"), (0, u "[Ljava/lang/Integer;"), (0, .methodref 1 200), (0, .nameAndType 67 201), (0, u "(I)V"), (0, .methodref 203 100), (0, .class_ 204), (0, u "java/lang/Number"), (0, .fieldref 1 206), (0, .nameAndType 207 194), (0, u "value"), (94, u "TYPE"), (0, u "Ljava/lang/Class;"), (0, .class_ 305), (0, u "java/lang/Comparable"), (0, .class_ 307), (0, u "java/lang/constant/Constable"), (0, .class_ 309), (0, u "java/lang/constant/ConstantDesc"), (0, u "MIN_VALUE"), (1, u "MAX_VALUE"), (3, u "SIZE"), (1, u "BYTES"), (1, u "serialVersionUID"), (0, u "J")] 131

def k13c0 : Code := { maxStack := 3, maxLocals := 1, code := jdk_33_method_22_code, exceptionTable := #[], attributes := #[] }
def k13m0 : Method := { name := "valueOf", desc := "(I)Ljava/lang/Integer;", sig := { parameters := [.int], returnType := some (.object "java/lang/Integer") }, accessFlags := 9, code := some k13c0 }
def k13c1 : Code := { maxStack := 2, maxLocals := 2, code := jdk_33_method_23_code, exceptionTable := #[], attributes := #[] }
def k13m1 : Method := { name := "<init>", desc := "(I)V", sig := { parameters := [.int], returnType := none }, accessFlags := 1, code := some k13c1 }
/-- java/lang/Integer -/
def k13 : Class := { plain "java/lang/Integer" (some 11) with
  accessFlags := 49
  interfaces := #[3, 5, 12]
  cf := some (fileOf pool13 1 #[.nestMembers #[189]] #[{ accessFlags := 9, nameIndex := 187, descriptorIndex := 188, attributes := #[] }, { accessFlags := 1, nameIndex := 67, descriptorIndex := 201, attributes := #[] }] 49 203 #[304, 306, 308] #[{ accessFlags := 25, nameIndex := 310, descriptorIndex := 194, attributes := #[] }, { accessFlags := 25, nameIndex := 312, descriptorIndex := 194, attributes := #[] }, { accessFlags := 25, nameIndex := 302, descriptorIndex := 303, attributes := #[] }, { accessFlags := 24, nameIndex := 19, descriptorIndex := 20, attributes := #[] }, { accessFlags := 24, nameIndex := 89, descriptorIndex := 86, attributes := #[] }, { accessFlags := 24, nameIndex := 85, descriptorIndex := 86, attributes := #[] }, { accessFlags := 18, nameIndex := 207, descriptorIndex := 194, attributes := #[] }, { accessFlags := 25, nameIndex := 316, descriptorIndex := 194, attributes := #[] }, { accessFlags := 25, nameIndex := 318, descriptorIndex := 194, attributes := #[] }, { accessFlags := 26, nameIndex := 320, descriptorIndex := 321, attributes := #[] }])
  fields := #[{ name := "MIN_VALUE", type := .int, accessFlags := 25, slot := 0, constantValue := 0 }, { name := "MAX_VALUE", type := .int, accessFlags := 25, slot := 1, constantValue := 0 }, { name := "TYPE", type := (.object "java/lang/Class"), accessFlags := 25, slot := 2, constantValue := 0 }, { name := "digits", type := (.array .char), accessFlags := 24, slot := 3, constantValue := 0 }, { name := "DigitTens", type := (.array .byte), accessFlags := 24, slot := 4, constantValue := 0 }, { name := "DigitOnes", type := (.array .byte), accessFlags := 24, slot := 5, constantValue := 0 }, { name := "value", type := .int, accessFlags := 18, slot := 0, constantValue := 0 }, { name := "SIZE", type := .int, accessFlags := 25, slot := 6, constantValue := 0 }, { name := "BYTES", type := .int, accessFlags := 25, slot := 7, constantValue := 0 }, { name := "serialVersionUID", type := .long, accessFlags := 26, slot := 8, constantValue := 0 }]
  methods := #[k13m0, k13m1]
  instanceTypes := #[.int]
  staticTypes := #[.int, .int, (.object "java/lang/Class"), (.array .char), (.array .byte), (.array .byte), .int, .int, .long]
  resolved := Array.replicate 453 none
  statics := none }

def pool14 : Array CpInfo := pool [(2, .class_ 4), (1, u "java/lang/Object"), (0, u "<init>"), (0, u "()V"), (0, .class_ 8), (0, u "java/lang/Integer"), (7, .class_ 18), (1, u "java/lang/Integer$IntegerCache"), (0, u "$assertionsDisabled"), (0, u "Z"), (26, u "high"), (0, u "I"), (8, u "archivedCache"), (0, u "[Ljava/lang/Integer;"), (12, u "cache"), (0, u "low")] 27

def k14m0 : Method := { name := "<init>", desc := "()V", sig := { parameters := [], returnType := none }, accessFlags := 2, code := none }
/-- java/lang/Integer$IntegerCache -/
def k14 : Class := { plain "java/lang/Integer$IntegerCache" (some 0) with
  accessFlags := 48
  interfaces := #[]
  cf := some (fileOf pool14 16 #[.nestHost 7] #[{ accessFlags := 2, nameIndex := 5, descriptorIndex := 6, attributes := #[] }] 48 2 #[] #[{ accessFlags := 24, nameIndex := 72, descriptorIndex := 48, attributes := #[] }, { accessFlags := 24, nameIndex := 47, descriptorIndex := 48, attributes := #[] }, { accessFlags := 24, nameIndex := 71, descriptorIndex := 58, attributes := #[] }, { accessFlags := 8, nameIndex := 57, descriptorIndex := 58, attributes := #[] }, { accessFlags := 4120, nameIndex := 19, descriptorIndex := 20, attributes := #[] }])
  fields := #[{ name := "low", type := .int, accessFlags := 24, slot := 0, constantValue := 0 }, { name := "high", type := .int, accessFlags := 24, slot := 1, constantValue := 0 }, { name := "cache", type := (.array (.object "java/lang/Integer")), accessFlags := 24, slot := 2, constantValue := 0 }, { name := "archivedCache", type := (.array (.object "java/lang/Integer")), accessFlags := 8, slot := 3, constantValue := 0 }, { name := "$assertionsDisabled", type := .boolean, accessFlags := 4120, slot := 4, constantValue := 0 }]
  methods := #[k14m0]
  instanceTypes := #[]
  staticTypes := #[.int, .int, (.array (.object "java/lang/Integer")), (.array (.object "java/lang/Integer")), .boolean]
  resolved := Array.replicate 100 none
  statics := some 1 }

def pool15 : Array CpInfo := pool [(1, .class_ 2), (0, u "java/lang/Math"), (1, .class_ 6), (1, u "java/lang/Object"), (0, u "<init>"), (0, u "()V"), (89, .class_ 100), (1, u "java/lang/Math$RandomNumberGeneratorHolder"), (71, u "negativeZeroFloatBits"), (0, u "J"), (2, u "negativeZeroDoubleBits"), (24, u "min"), (43, u "$assertionsDisabled"), (0, u "Z"), (88, u "(II)I"), (2, u "twoToTheDoubleScaleDown"), (0, u "D"), (4, u "twoToTheDoubleScaleUp"), (9, u "E"), (3, u "PI"), (2, u "TAU"), (2, u "DEGREES_TO_RADIANS"), (0, u "RADIANS_TO_DEGREES")] 94

def k15m0 : Method := { name := "<init>", desc := "()V", sig := { parameters := [], returnType := none }, accessFlags := 2, code := none }
def k15c1 : Code := { maxStack := 2, maxLocals := 2, code := jdk_29_method_69_code, exceptionTable := #[], attributes := #[] }
def k15m1 : Method := { name := "min", desc := "(II)I", sig := { parameters := [.int, .int], returnType := some .int }, accessFlags := 9, code := some k15c1 }
/-- java/lang/Math -/
def k15 : Class := { plain "java/lang/Math" (some 0) with
  accessFlags := 49
  interfaces := #[]
  cf := some (fileOf pool15 1 #[.nestMembers #[98]] #[{ accessFlags := 2, nameIndex := 7, descriptorIndex := 8, attributes := #[] }, { accessFlags := 9, nameIndex := 201, descriptorIndex := 335, attributes := #[] }] 49 4 #[] #[{ accessFlags := 25, nameIndex := 354, descriptorIndex := 339, attributes := #[] }, { accessFlags := 25, nameIndex := 358, descriptorIndex := 339, attributes := #[] }, { accessFlags := 25, nameIndex := 361, descriptorIndex := 339, attributes := #[] }, { accessFlags := 26, nameIndex := 364, descriptorIndex := 339, attributes := #[] }, { accessFlags := 26, nameIndex := 365, descriptorIndex := 339, attributes := #[] }, { accessFlags := 26, nameIndex := 172, descriptorIndex := 173, attributes := #[] }, { accessFlags := 26, nameIndex := 176, descriptorIndex := 173, attributes := #[] }, { accessFlags := 8, nameIndex := 344, descriptorIndex := 339, attributes := #[] }, { accessFlags := 8, nameIndex := 338, descriptorIndex := 339, attributes := #[] }, { accessFlags := 4120, nameIndex := 245, descriptorIndex := 246, attributes := #[] }])
  fields := #[{ name := "E", type := .double, accessFlags := 25, slot := 0, constantValue := 0 }, { name := "PI", type := .double, accessFlags := 25, slot := 1, constantValue := 0 }, { name := "TAU", type := .double, accessFlags := 25, slot := 2, constantValue := 0 }, { name := "DEGREES_TO_RADIANS", type := .double, accessFlags := 26, slot := 3, constantValue := 0 }, { name := "RADIANS_TO_DEGREES", type := .double, accessFlags := 26, slot := 4, constantValue := 0 }, { name := "negativeZeroFloatBits", type := .long, accessFlags := 26, slot := 5, constantValue := 0 }, { name := "negativeZeroDoubleBits", type := .long, accessFlags := 26, slot := 6, constantValue := 0 }, { name := "twoToTheDoubleScaleUp", type := .double, accessFlags := 8, slot := 7, constantValue := 0 }, { name := "twoToTheDoubleScaleDown", type := .double, accessFlags := 8, slot := 8, constantValue := 0 }, { name := "$assertionsDisabled", type := .boolean, accessFlags := 4120, slot := 9, constantValue := 0 }]
  methods := #[k15m0, k15m1]
  instanceTypes := #[]
  staticTypes := #[.double, .double, .double, .double, .double, .long, .long, .double, .double, .boolean]
  resolved := Array.replicate 460 none
  statics := none }

def pool16 : Array CpInfo := pool [(2, .class_ 4), (1, u "java/lang/CharSequence"), (42, .class_ 48), (0, u "java/lang/CharSequence$1CodePointIterator"), (10, .class_ 60), (0, u "java/lang/CharSequence$1CharIterator"), (5, .class_ 67), (0, u "java/lang/Object")] 63

/-- java/lang/CharSequence -/
def k16 : Class := { plain "java/lang/CharSequence" (some 0) with
  accessFlags := 1537
  interfaces := #[]
  cf := some (fileOf pool16 2 #[.nestMembers #[47, 59]] #[] 1537 66 #[] #[])
  fields := #[]
  methods := #[]
  instanceTypes := #[]
  staticTypes := #[]
  resolved := Array.replicate 131 none
  statics := none }

def pool17 : Array CpInfo := pool [(2, .class_ 4), (1, u "java/lang/Object"), (0, u "<init>"), (0, u "()V"), (3, .class_ 12), (1, u "java/lang/String"), (0, u "value"), (0, u "[B"), (2, u "coder"), (0, u "B"), (2, u "hash"), (0, u "I"), (2, u "hashIsZero"), (0, u "Z"), (13, u "COMPACT_STRINGS"), (534, .class_ 576), (0, u "java/lang/CharSequence"), (22, u "CASE_INSENSITIVE_ORDER"), (0, u "Ljava/util/Comparator;"), (500, u "serialPersistentFields"), (0, u "[Ljava/io/ObjectStreamField;"), (0, .class_ 1104), (0, u "java/lang/String$CaseInsensitiveComparator"), (1, .class_ 1107), (0, u "java/io/Serializable"), (0, .class_ 1109), (0, u "java/lang/Comparable"), (0, .class_ 1111), (0, u "java/lang/constant/Constable"), (0, .class_ 1113), (0, u "java/lang/constant/ConstantDesc"), (2, u "serialVersionUID"), (0, u "J"), (3, u "REPL"), (0, u "C"), (2, u "LATIN1"), (1, u "UTF16")] 323

def k17m0 : Method := { name := "<init>", desc := "()V", sig := { parameters := [], returnType := none }, accessFlags := 1, code := none }
/-- java/lang/String -/
def k17 : Class := { plain "java/lang/String" (some 0) with
  accessFlags := 49
  interfaces := #[6, 3, 16, 5, 12]
  cf := some (fileOf pool17 10 #[.nestMembers #[1103]] #[{ accessFlags := 1, nameIndex := 5, descriptorIndex := 6, attributes := #[] }] 49 2 #[1106, 1108, 575, 1110, 1112] #[{ accessFlags := 18, nameIndex := 13, descriptorIndex := 14, attributes := #[] }, { accessFlags := 18, nameIndex := 17, descriptorIndex := 18, attributes := #[] }, { accessFlags := 2, nameIndex := 21, descriptorIndex := 22, attributes := #[] }, { accessFlags := 2, nameIndex := 25, descriptorIndex := 26, attributes := #[] }, { accessFlags := 26, nameIndex := 1116, descriptorIndex := 1117, attributes := #[] }, { accessFlags := 24, nameIndex := 40, descriptorIndex := 26, attributes := #[] }, { accessFlags := 26, nameIndex := 1101, descriptorIndex := 1102, attributes := #[] }, { accessFlags := 26, nameIndex := 1121, descriptorIndex := 1122, attributes := #[] }, { accessFlags := 25, nameIndex := 599, descriptorIndex := 600, attributes := #[] }, { accessFlags := 24, nameIndex := 1125, descriptorIndex := 18, attributes := #[] }, { accessFlags := 24, nameIndex := 1127, descriptorIndex := 18, attributes := #[] }])
  fields := #[{ name := "value", type := (.array .byte), accessFlags := 18, slot := 0, constantValue := 0 }, { name := "coder", type := .byte, accessFlags := 18, slot := 1, constantValue := 0 }, { name := "hash", type := .int, accessFlags := 2, slot := 2, constantValue := 0 }, { name := "hashIsZero", type := .boolean, accessFlags := 2, slot := 3, constantValue := 0 }, { name := "serialVersionUID", type := .long, accessFlags := 26, slot := 0, constantValue := 0 }, { name := "COMPACT_STRINGS", type := .boolean, accessFlags := 24, slot := 1, constantValue := 0 }, { name := "serialPersistentFields", type := (.array (.object "java/io/ObjectStreamField")), accessFlags := 26, slot := 2, constantValue := 0 }, { name := "REPL", type := .char, accessFlags := 26, slot := 3, constantValue := 0 }, { name := "CASE_INSENSITIVE_ORDER", type := (.object "java/util/Comparator"), accessFlags := 25, slot := 4, constantValue := 0 }, { name := "LATIN1", type := .byte, accessFlags := 24, slot := 5, constantValue := 0 }, { name := "UTF16", type := .byte, accessFlags := 24, slot := 6, constantValue := 0 }]
  methods := #[k17m0]
  instanceTypes := #[(.array .byte), .byte, .int, .boolean]
  staticTypes := #[.long, .boolean, (.array (.object "java/io/ObjectStreamField")), .char, (.object "java/util/Comparator"), .byte, .byte]
  resolved := Array.replicate 1451 none
  statics := none }

def pool18 : Array CpInfo := pool [(1, u "java/lang/Cloneable"), (0, .class_ 1), (0, u "java/lang/Object"), (0, .class_ 3)] 3

/-- java/lang/Cloneable -/
def k18 : Class := { plain "java/lang/Cloneable" (some 0) with
  accessFlags := 1537
  interfaces := #[]
  cf := some (fileOf pool18 2 #[] #[] 1537 4 #[] #[])
  fields := #[]
  methods := #[]
  instanceTypes := #[]
  staticTypes := #[]
  resolved := Array.replicate 8 none
  statics := none }

/-- the primitive byte -/
def k19 : Class := { plain "byte" none with kind := .primitive 'B', accessFlags := 0x411 }
/-- [B -/
def k20 : Class := { plain "[B" (some 0) with kind := .array 19 .byte, interfaces := #[18, 6], accessFlags := 1041 }

/-- the primitive int -/
def k21 : Class := { plain "int" none with kind := .primitive 'I', accessFlags := 0x411 }
/-- [I -/
def k22 : Class := { plain "[I" (some 0) with kind := .array 21 .int, interfaces := #[18, 6], accessFlags := 1041 }

/-- [Ljava/lang/Integer; -/
def k23 : Class := { plain "[Ljava/lang/Integer;" (some 0) with kind := .array 13 (.object "java/lang/Integer"), interfaces := #[18, 6], accessFlags := 1041 }

/-- [Ljava/time/Month; -/
def k24 : Class := { plain "[Ljava/time/Month;" (some 0) with kind := .array 10 (.object "java/time/Month"), interfaces := #[18, 6], accessFlags := 1041 }

def heap : Heap := #[{ cls := 10, slots := #[.ref 260, .ref 261, .ref 262, .ref 263, .ref 264, .ref 265, .ref 266, .ref 267, .ref 268, .ref 269, .ref 270, .ref 271, .ref 3, .null], vm := .statics 10 },
  { cls := 14, slots := #[.int 0, .int 127, .ref 2, .null, .int 0], vm := .statics 14 },
  { cls := 23, slots := #[.ref 4, .ref 5, .ref 6, .ref 7, .ref 8, .ref 9, .ref 10, .ref 11, .ref 12, .ref 13, .ref 14, .ref 15, .ref 16, .ref 17, .ref 18, .ref 19, .ref 20, .ref 21, .ref 22, .ref 23, .ref 24, .ref 25, .ref 26, .ref 27, .ref 28, .ref 29, .ref 30, .ref 31, .ref 32, .ref 33, .ref 34, .ref 35, .ref 36, .ref 37, .ref 38, .ref 39, .ref 40, .ref 41, .ref 42, .ref 43, .ref 44, .ref 45, .ref 46, .ref 47, .ref 48, .ref 49, .ref 50, .ref 51, .ref 52, .ref 53, .ref 54, .ref 55, .ref 56, .ref 57, .ref 58, .ref 59, .ref 60, .ref 61, .ref 62, .ref 63, .ref 64, .ref 65, .ref 66, .ref 67, .ref 68, .ref 69, .ref 70, .ref 71, .ref 72, .ref 73, .ref 74, .ref 75, .ref 76, .ref 77, .ref 78, .ref 79, .ref 80, .ref 81, .ref 82, .ref 83, .ref 84, .ref 85, .ref 86, .ref 87, .ref 88, .ref 89, .ref 90, .ref 91, .ref 92, .ref 93, .ref 94, .ref 95, .ref 96, .ref 97, .ref 98, .ref 99, .ref 100, .ref 101, .ref 102, .ref 103, .ref 104, .ref 105, .ref 106, .ref 107, .ref 108, .ref 109, .ref 110, .ref 111, .ref 112, .ref 113, .ref 114, .ref 115, .ref 116, .ref 117, .ref 118, .ref 119, .ref 120, .ref 121, .ref 122, .ref 123, .ref 124, .ref 125, .ref 126, .ref 127, .ref 128, .ref 129, .ref 130, .ref 131, .ref 132, .ref 133, .ref 134, .ref 135, .ref 136, .ref 137, .ref 138, .ref 139, .ref 140, .ref 141, .ref 142, .ref 143, .ref 144, .ref 145, .ref 146, .ref 147, .ref 148, .ref 149, .ref 150, .ref 151, .ref 152, .ref 153, .ref 154, .ref 155, .ref 156, .ref 157, .ref 158, .ref 159, .ref 160, .ref 161, .ref 162, .ref 163, .ref 164, .ref 165, .ref 166, .ref 167, .ref 168, .ref 169, .ref 170, .ref 171, .ref 172, .ref 173, .ref 174, .ref 175, .ref 176, .ref 177, .ref 178, .ref 179, .ref 180, .ref 181, .ref 182, .ref 183, .ref 184, .ref 185, .ref 186, .ref 187, .ref 188, .ref 189, .ref 190, .ref 191, .ref 192, .ref 193, .ref 194, .ref 195, .ref 196, .ref 197, .ref 198, .ref 199, .ref 200, .ref 201, .ref 202, .ref 203, .ref 204, .ref 205, .ref 206, .ref 207, .ref 208, .ref 209, .ref 210, .ref 211, .ref 212, .ref 213, .ref 214, .ref 215, .ref 216, .ref 217, .ref 218, .ref 219, .ref 220, .ref 221, .ref 222, .ref 223, .ref 224, .ref 225, .ref 226, .ref 227, .ref 228, .ref 229, .ref 230, .ref 231, .ref 232, .ref 233, .ref 234, .ref 235, .ref 236, .ref 237, .ref 238, .ref 239, .ref 240, .ref 241, .ref 242, .ref 243, .ref 244, .ref 245, .ref 246, .ref 247, .ref 248, .ref 249, .ref 250, .ref 251, .ref 252, .ref 253, .ref 254, .ref 255, .ref 256, .ref 257, .ref 258, .ref 259], vm := .none },
  { cls := 24, slots := #[.ref 260, .ref 261, .ref 262, .ref 263, .ref 264, .ref 265, .ref 266, .ref 267, .ref 268, .ref 269, .ref 270, .ref 271], vm := .none },
  { cls := 13, slots := #[.int (-128)], vm := .none },
  { cls := 13, slots := #[.int (-127)], vm := .none },
  { cls := 13, slots := #[.int (-126)], vm := .none },
  { cls := 13, slots := #[.int (-125)], vm := .none },
  { cls := 13, slots := #[.int (-124)], vm := .none },
  { cls := 13, slots := #[.int (-123)], vm := .none },
  { cls := 13, slots := #[.int (-122)], vm := .none },
  { cls := 13, slots := #[.int (-121)], vm := .none },
  { cls := 13, slots := #[.int (-120)], vm := .none },
  { cls := 13, slots := #[.int (-119)], vm := .none },
  { cls := 13, slots := #[.int (-118)], vm := .none },
  { cls := 13, slots := #[.int (-117)], vm := .none },
  { cls := 13, slots := #[.int (-116)], vm := .none },
  { cls := 13, slots := #[.int (-115)], vm := .none },
  { cls := 13, slots := #[.int (-114)], vm := .none },
  { cls := 13, slots := #[.int (-113)], vm := .none },
  { cls := 13, slots := #[.int (-112)], vm := .none },
  { cls := 13, slots := #[.int (-111)], vm := .none },
  { cls := 13, slots := #[.int (-110)], vm := .none },
  { cls := 13, slots := #[.int (-109)], vm := .none },
  { cls := 13, slots := #[.int (-108)], vm := .none },
  { cls := 13, slots := #[.int (-107)], vm := .none },
  { cls := 13, slots := #[.int (-106)], vm := .none },
  { cls := 13, slots := #[.int (-105)], vm := .none },
  { cls := 13, slots := #[.int (-104)], vm := .none },
  { cls := 13, slots := #[.int (-103)], vm := .none },
  { cls := 13, slots := #[.int (-102)], vm := .none },
  { cls := 13, slots := #[.int (-101)], vm := .none },
  { cls := 13, slots := #[.int (-100)], vm := .none },
  { cls := 13, slots := #[.int (-99)], vm := .none },
  { cls := 13, slots := #[.int (-98)], vm := .none },
  { cls := 13, slots := #[.int (-97)], vm := .none },
  { cls := 13, slots := #[.int (-96)], vm := .none },
  { cls := 13, slots := #[.int (-95)], vm := .none },
  { cls := 13, slots := #[.int (-94)], vm := .none },
  { cls := 13, slots := #[.int (-93)], vm := .none },
  { cls := 13, slots := #[.int (-92)], vm := .none },
  { cls := 13, slots := #[.int (-91)], vm := .none },
  { cls := 13, slots := #[.int (-90)], vm := .none },
  { cls := 13, slots := #[.int (-89)], vm := .none },
  { cls := 13, slots := #[.int (-88)], vm := .none },
  { cls := 13, slots := #[.int (-87)], vm := .none },
  { cls := 13, slots := #[.int (-86)], vm := .none },
  { cls := 13, slots := #[.int (-85)], vm := .none },
  { cls := 13, slots := #[.int (-84)], vm := .none },
  { cls := 13, slots := #[.int (-83)], vm := .none },
  { cls := 13, slots := #[.int (-82)], vm := .none },
  { cls := 13, slots := #[.int (-81)], vm := .none },
  { cls := 13, slots := #[.int (-80)], vm := .none },
  { cls := 13, slots := #[.int (-79)], vm := .none },
  { cls := 13, slots := #[.int (-78)], vm := .none },
  { cls := 13, slots := #[.int (-77)], vm := .none },
  { cls := 13, slots := #[.int (-76)], vm := .none },
  { cls := 13, slots := #[.int (-75)], vm := .none },
  { cls := 13, slots := #[.int (-74)], vm := .none },
  { cls := 13, slots := #[.int (-73)], vm := .none },
  { cls := 13, slots := #[.int (-72)], vm := .none },
  { cls := 13, slots := #[.int (-71)], vm := .none },
  { cls := 13, slots := #[.int (-70)], vm := .none },
  { cls := 13, slots := #[.int (-69)], vm := .none },
  { cls := 13, slots := #[.int (-68)], vm := .none },
  { cls := 13, slots := #[.int (-67)], vm := .none },
  { cls := 13, slots := #[.int (-66)], vm := .none },
  { cls := 13, slots := #[.int (-65)], vm := .none },
  { cls := 13, slots := #[.int (-64)], vm := .none },
  { cls := 13, slots := #[.int (-63)], vm := .none },
  { cls := 13, slots := #[.int (-62)], vm := .none },
  { cls := 13, slots := #[.int (-61)], vm := .none },
  { cls := 13, slots := #[.int (-60)], vm := .none },
  { cls := 13, slots := #[.int (-59)], vm := .none },
  { cls := 13, slots := #[.int (-58)], vm := .none },
  { cls := 13, slots := #[.int (-57)], vm := .none },
  { cls := 13, slots := #[.int (-56)], vm := .none },
  { cls := 13, slots := #[.int (-55)], vm := .none },
  { cls := 13, slots := #[.int (-54)], vm := .none },
  { cls := 13, slots := #[.int (-53)], vm := .none },
  { cls := 13, slots := #[.int (-52)], vm := .none },
  { cls := 13, slots := #[.int (-51)], vm := .none },
  { cls := 13, slots := #[.int (-50)], vm := .none },
  { cls := 13, slots := #[.int (-49)], vm := .none },
  { cls := 13, slots := #[.int (-48)], vm := .none },
  { cls := 13, slots := #[.int (-47)], vm := .none },
  { cls := 13, slots := #[.int (-46)], vm := .none },
  { cls := 13, slots := #[.int (-45)], vm := .none },
  { cls := 13, slots := #[.int (-44)], vm := .none },
  { cls := 13, slots := #[.int (-43)], vm := .none },
  { cls := 13, slots := #[.int (-42)], vm := .none },
  { cls := 13, slots := #[.int (-41)], vm := .none },
  { cls := 13, slots := #[.int (-40)], vm := .none },
  { cls := 13, slots := #[.int (-39)], vm := .none },
  { cls := 13, slots := #[.int (-38)], vm := .none },
  { cls := 13, slots := #[.int (-37)], vm := .none },
  { cls := 13, slots := #[.int (-36)], vm := .none },
  { cls := 13, slots := #[.int (-35)], vm := .none },
  { cls := 13, slots := #[.int (-34)], vm := .none },
  { cls := 13, slots := #[.int (-33)], vm := .none },
  { cls := 13, slots := #[.int (-32)], vm := .none },
  { cls := 13, slots := #[.int (-31)], vm := .none },
  { cls := 13, slots := #[.int (-30)], vm := .none },
  { cls := 13, slots := #[.int (-29)], vm := .none },
  { cls := 13, slots := #[.int (-28)], vm := .none },
  { cls := 13, slots := #[.int (-27)], vm := .none },
  { cls := 13, slots := #[.int (-26)], vm := .none },
  { cls := 13, slots := #[.int (-25)], vm := .none },
  { cls := 13, slots := #[.int (-24)], vm := .none },
  { cls := 13, slots := #[.int (-23)], vm := .none },
  { cls := 13, slots := #[.int (-22)], vm := .none },
  { cls := 13, slots := #[.int (-21)], vm := .none },
  { cls := 13, slots := #[.int (-20)], vm := .none },
  { cls := 13, slots := #[.int (-19)], vm := .none },
  { cls := 13, slots := #[.int (-18)], vm := .none },
  { cls := 13, slots := #[.int (-17)], vm := .none },
  { cls := 13, slots := #[.int (-16)], vm := .none },
  { cls := 13, slots := #[.int (-15)], vm := .none },
  { cls := 13, slots := #[.int (-14)], vm := .none },
  { cls := 13, slots := #[.int (-13)], vm := .none },
  { cls := 13, slots := #[.int (-12)], vm := .none },
  { cls := 13, slots := #[.int (-11)], vm := .none },
  { cls := 13, slots := #[.int (-10)], vm := .none },
  { cls := 13, slots := #[.int (-9)], vm := .none },
  { cls := 13, slots := #[.int (-8)], vm := .none },
  { cls := 13, slots := #[.int (-7)], vm := .none },
  { cls := 13, slots := #[.int (-6)], vm := .none },
  { cls := 13, slots := #[.int (-5)], vm := .none },
  { cls := 13, slots := #[.int (-4)], vm := .none },
  { cls := 13, slots := #[.int (-3)], vm := .none },
  { cls := 13, slots := #[.int (-2)], vm := .none },
  { cls := 13, slots := #[.int (-1)], vm := .none },
  { cls := 13, slots := #[.int 0], vm := .none },
  { cls := 13, slots := #[.int 1], vm := .none },
  { cls := 13, slots := #[.int 2], vm := .none },
  { cls := 13, slots := #[.int 3], vm := .none },
  { cls := 13, slots := #[.int 4], vm := .none },
  { cls := 13, slots := #[.int 5], vm := .none },
  { cls := 13, slots := #[.int 6], vm := .none },
  { cls := 13, slots := #[.int 7], vm := .none },
  { cls := 13, slots := #[.int 8], vm := .none },
  { cls := 13, slots := #[.int 9], vm := .none },
  { cls := 13, slots := #[.int 10], vm := .none },
  { cls := 13, slots := #[.int 11], vm := .none },
  { cls := 13, slots := #[.int 12], vm := .none },
  { cls := 13, slots := #[.int 13], vm := .none },
  { cls := 13, slots := #[.int 14], vm := .none },
  { cls := 13, slots := #[.int 15], vm := .none },
  { cls := 13, slots := #[.int 16], vm := .none },
  { cls := 13, slots := #[.int 17], vm := .none },
  { cls := 13, slots := #[.int 18], vm := .none },
  { cls := 13, slots := #[.int 19], vm := .none },
  { cls := 13, slots := #[.int 20], vm := .none },
  { cls := 13, slots := #[.int 21], vm := .none },
  { cls := 13, slots := #[.int 22], vm := .none },
  { cls := 13, slots := #[.int 23], vm := .none },
  { cls := 13, slots := #[.int 24], vm := .none },
  { cls := 13, slots := #[.int 25], vm := .none },
  { cls := 13, slots := #[.int 26], vm := .none },
  { cls := 13, slots := #[.int 27], vm := .none },
  { cls := 13, slots := #[.int 28], vm := .none },
  { cls := 13, slots := #[.int 29], vm := .none },
  { cls := 13, slots := #[.int 30], vm := .none },
  { cls := 13, slots := #[.int 31], vm := .none },
  { cls := 13, slots := #[.int 32], vm := .none },
  { cls := 13, slots := #[.int 33], vm := .none },
  { cls := 13, slots := #[.int 34], vm := .none },
  { cls := 13, slots := #[.int 35], vm := .none },
  { cls := 13, slots := #[.int 36], vm := .none },
  { cls := 13, slots := #[.int 37], vm := .none },
  { cls := 13, slots := #[.int 38], vm := .none },
  { cls := 13, slots := #[.int 39], vm := .none },
  { cls := 13, slots := #[.int 40], vm := .none },
  { cls := 13, slots := #[.int 41], vm := .none },
  { cls := 13, slots := #[.int 42], vm := .none },
  { cls := 13, slots := #[.int 43], vm := .none },
  { cls := 13, slots := #[.int 44], vm := .none },
  { cls := 13, slots := #[.int 45], vm := .none },
  { cls := 13, slots := #[.int 46], vm := .none },
  { cls := 13, slots := #[.int 47], vm := .none },
  { cls := 13, slots := #[.int 48], vm := .none },
  { cls := 13, slots := #[.int 49], vm := .none },
  { cls := 13, slots := #[.int 50], vm := .none },
  { cls := 13, slots := #[.int 51], vm := .none },
  { cls := 13, slots := #[.int 52], vm := .none },
  { cls := 13, slots := #[.int 53], vm := .none },
  { cls := 13, slots := #[.int 54], vm := .none },
  { cls := 13, slots := #[.int 55], vm := .none },
  { cls := 13, slots := #[.int 56], vm := .none },
  { cls := 13, slots := #[.int 57], vm := .none },
  { cls := 13, slots := #[.int 58], vm := .none },
  { cls := 13, slots := #[.int 59], vm := .none },
  { cls := 13, slots := #[.int 60], vm := .none },
  { cls := 13, slots := #[.int 61], vm := .none },
  { cls := 13, slots := #[.int 62], vm := .none },
  { cls := 13, slots := #[.int 63], vm := .none },
  { cls := 13, slots := #[.int 64], vm := .none },
  { cls := 13, slots := #[.int 65], vm := .none },
  { cls := 13, slots := #[.int 66], vm := .none },
  { cls := 13, slots := #[.int 67], vm := .none },
  { cls := 13, slots := #[.int 68], vm := .none },
  { cls := 13, slots := #[.int 69], vm := .none },
  { cls := 13, slots := #[.int 70], vm := .none },
  { cls := 13, slots := #[.int 71], vm := .none },
  { cls := 13, slots := #[.int 72], vm := .none },
  { cls := 13, slots := #[.int 73], vm := .none },
  { cls := 13, slots := #[.int 74], vm := .none },
  { cls := 13, slots := #[.int 75], vm := .none },
  { cls := 13, slots := #[.int 76], vm := .none },
  { cls := 13, slots := #[.int 77], vm := .none },
  { cls := 13, slots := #[.int 78], vm := .none },
  { cls := 13, slots := #[.int 79], vm := .none },
  { cls := 13, slots := #[.int 80], vm := .none },
  { cls := 13, slots := #[.int 81], vm := .none },
  { cls := 13, slots := #[.int 82], vm := .none },
  { cls := 13, slots := #[.int 83], vm := .none },
  { cls := 13, slots := #[.int 84], vm := .none },
  { cls := 13, slots := #[.int 85], vm := .none },
  { cls := 13, slots := #[.int 86], vm := .none },
  { cls := 13, slots := #[.int 87], vm := .none },
  { cls := 13, slots := #[.int 88], vm := .none },
  { cls := 13, slots := #[.int 89], vm := .none },
  { cls := 13, slots := #[.int 90], vm := .none },
  { cls := 13, slots := #[.int 91], vm := .none },
  { cls := 13, slots := #[.int 92], vm := .none },
  { cls := 13, slots := #[.int 93], vm := .none },
  { cls := 13, slots := #[.int 94], vm := .none },
  { cls := 13, slots := #[.int 95], vm := .none },
  { cls := 13, slots := #[.int 96], vm := .none },
  { cls := 13, slots := #[.int 97], vm := .none },
  { cls := 13, slots := #[.int 98], vm := .none },
  { cls := 13, slots := #[.int 99], vm := .none },
  { cls := 13, slots := #[.int 100], vm := .none },
  { cls := 13, slots := #[.int 101], vm := .none },
  { cls := 13, slots := #[.int 102], vm := .none },
  { cls := 13, slots := #[.int 103], vm := .none },
  { cls := 13, slots := #[.int 104], vm := .none },
  { cls := 13, slots := #[.int 105], vm := .none },
  { cls := 13, slots := #[.int 106], vm := .none },
  { cls := 13, slots := #[.int 107], vm := .none },
  { cls := 13, slots := #[.int 108], vm := .none },
  { cls := 13, slots := #[.int 109], vm := .none },
  { cls := 13, slots := #[.int 110], vm := .none },
  { cls := 13, slots := #[.int 111], vm := .none },
  { cls := 13, slots := #[.int 112], vm := .none },
  { cls := 13, slots := #[.int 113], vm := .none },
  { cls := 13, slots := #[.int 114], vm := .none },
  { cls := 13, slots := #[.int 115], vm := .none },
  { cls := 13, slots := #[.int 116], vm := .none },
  { cls := 13, slots := #[.int 117], vm := .none },
  { cls := 13, slots := #[.int 118], vm := .none },
  { cls := 13, slots := #[.int 119], vm := .none },
  { cls := 13, slots := #[.int 120], vm := .none },
  { cls := 13, slots := #[.int 121], vm := .none },
  { cls := 13, slots := #[.int 122], vm := .none },
  { cls := 13, slots := #[.int 123], vm := .none },
  { cls := 13, slots := #[.int 124], vm := .none },
  { cls := 13, slots := #[.int 125], vm := .none },
  { cls := 13, slots := #[.int 126], vm := .none },
  { cls := 13, slots := #[.int 127], vm := .none },
  { cls := 10, slots := #[.ref 272, .int 0, .int 0], vm := .none },
  { cls := 10, slots := #[.ref 272, .int 1, .int 0], vm := .none },
  { cls := 10, slots := #[.ref 272, .int 2, .int 0], vm := .none },
  { cls := 10, slots := #[.ref 272, .int 3, .int 0], vm := .none },
  { cls := 10, slots := #[.ref 272, .int 4, .int 0], vm := .none },
  { cls := 10, slots := #[.ref 272, .int 5, .int 0], vm := .none },
  { cls := 10, slots := #[.ref 272, .int 6, .int 0], vm := .none },
  { cls := 10, slots := #[.ref 272, .int 7, .int 0], vm := .none },
  { cls := 10, slots := #[.ref 272, .int 8, .int 0], vm := .none },
  { cls := 10, slots := #[.ref 272, .int 9, .int 0], vm := .none },
  { cls := 10, slots := #[.ref 272, .int 10, .int 0], vm := .none },
  { cls := 10, slots := #[.ref 272, .int 11, .int 0], vm := .none },
  { cls := 17, slots := #[.null, .int 0, .int 0, .int 0], vm := .none }]
def classes : Array Class := #[k0, k1, k2, k3, k4, k5, k6, k7, k8, k9, k10, k11, k12, k13, k14, k15, k16, k17, k18, k19, k20, k21, k22, k23, k24]
def interned : List (Array UInt16 × Addr) := []
def slotsUsed : Nat := 583
def theMethod : MethodId := ⟨1, 2⟩
def args0 : Array Value := #[.int 5, .int 5, .int 5, .int 5, .int 5]
def aboutOver (below : List Frame) : State where
  vm := { classes := classes, interned := interned.toArray }
  heap := heap
  slotsUsed := slotsUsed
  threads := #[{ frames := .invoking theMethod args0 :: below }]
def below0 : List Frame := [.native { method := ⟨0, 0⟩, args := #[] }]
def about1 : State := aboutOver below0
def p0 : Program := .bare "" "" ""
def e0 : Env := launch0.env 0 0 0
theorem w_frames : about1.frames = Frame.invoking theMethod args0 :: below0 := rfl
set_option maxRecDepth 65536 in
theorem w_args : argsFit about1.vm theMethod args0 = true := by decide +kernel
set_option maxRecDepth 65536 in
theorem w_heap : heapFits about1 = true := by decide +kernel
set_option maxRecDepth 65536 in
theorem w_runnable : about1.curStatus? = some .runnable := by decide +kernel
set_option maxRecDepth 65536 in
theorem w_alone : about1.alone = true := by decide +kernel
set_option maxRecDepth 65536 in
theorem w_named : about1.methodNamed? x = some theMethod := by decide +kernel
set_option maxRecDepth 65536 in
theorem w_hears : about1.hears theMethod below0 = true := by decide +kernel
set_option maxRecDepth 65536 in
theorem w_ripe : about1.ripe theMethod args0 below0 = true := by decide +kernel
theorem w_running : about1.status = .running := rfl
set_option maxRecDepth 65536 in
theorem w_room : about1.hasRoom e0.platform room_1 = true :=
  launch0.hasRoom_least _ room_1 (by decide +kernel) (by decide +kernel) (by decide +kernel) (by decide +kernel) (by decide +kernel) (by decide +kernel)
theorem allAtoms_all (ts : List Jvm.Cond) (a : Array Jvm.Value) (st : Jvm.State) : (allAtoms ts).before a st = ts.all (fun c => c.before a st) := by
  induction ts with
  | nil => rfl
  | cons c t ih =>
    show (Jvm.Cond.and c (allAtoms t)).before a st = _
    rw [Jvm.Cond.before_and, ih, List.all_cons]
def words1 : List Jvm.Cond := Jvm.Cond.code x code maxLocals ret :: tables_1
/-- a 'code' word, met by the world's own term for the bytes: nothing is compared byte by byte -/
theorem code_word {y : MethodName} {bytes : ByteArray} {mx : Nat} {rt : Option FieldType} {a : Array Value} {s : State} {m : MethodId} {meth : Method} {c : Code} (h1 : s.methodNamed? y = some m) (h2 : s.vm.method? m = some meth) (h3 : meth.code = some c) (h4 : c.code = bytes)
    (h5 : (c.maxLocals == mx && c.exceptionTable.isEmpty && decide (c.maxStack ≤ mostOperands) && decide (meth.sig.returnType = rt) && !meth.locks && decide (parseMethodDescriptor y.desc = some meth.sig)) = true) : (Jvm.Cond.code y bytes mx rt).before a s = true := by
  simp only [Bool.and_eq_true, beq_iff_eq, Bool.not_eq_true', decide_eq_true_eq] at h5
  obtain ⟨⟨⟨⟨⟨g1, g2⟩, g3⟩, g4⟩, g5⟩, g6⟩ := h5
  simp [Cond.before, Cond.holds, Cond.value, h1, h2, h3, h4, g1, g2, g3, g4, g5, g6]
def isCode : Jvm.Cond → Bool
  | .code _ _ _ _ => true
  | _ => false
theorem all_split {L : List Jvm.Cond} {P : Jvm.Cond → Bool} (h1 : L.all (fun c => isCode c || P c) = true) (h2 : ∀ c ∈ L.filter isCode, P c = true) : L.all P = true := by
  refine List.all_eq_true.mpr fun c hc => ?_
  have h := List.all_eq_true.mp h1 c hc
  rcases Bool.eq_false_or_eq_true (isCode c) with hi | hi
  · exact h2 c (List.mem_filter.mpr ⟨hc, hi⟩)
  · simpa [hi] using h
set_option maxRecDepth 65536 in
theorem w_c0 : (Jvm.Cond.code x code maxLocals ret).before args0 about1 = true := code_word (m := ⟨1, 2⟩) (meth := k1m2) (c := k1c2) (by decide +kernel) rfl rfl rfl (by decide +kernel)
set_option maxRecDepth 65536 in
theorem w_c1 : (Jvm.Cond.code ({ cls := "com/example/vespera/vespera/calendar/DayOfYearEqualsPinLaw", name := "days", desc := "(I)I" } : Jvm.MethodName) method_2_code (1 : Nat) (Option.some Jvm.ClassFile.FieldType.int)).before args0 about1 = true := code_word (m := ⟨1, 1⟩) (meth := k1m1) (c := k1c1) (by decide +kernel) rfl rfl rfl (by decide +kernel)
set_option maxRecDepth 65536 in
theorem w_c2 : (Jvm.Cond.code ({ cls := "com/example/vespera/vespera/calendar/DayOfYear", name := "<init>", desc := "(II)V" } : Jvm.MethodName) prog_8_method_1_code (3 : Nat) (Option.none : Option Jvm.ClassFile.FieldType)).before args0 about1 = true := code_word (m := ⟨4, 0⟩) (meth := k4m0) (c := k4c0) (by decide +kernel) rfl rfl rfl (by decide +kernel)
set_option maxRecDepth 65536 in
theorem w_c3 : (Jvm.Cond.code ({ cls := "java/lang/Record", name := "<init>", desc := "()V" } : Jvm.MethodName) jdk_30_method_1_code (1 : Nat) (Option.none : Option Jvm.ClassFile.FieldType)).before args0 about1 = true := code_word (m := ⟨2, 0⟩) (meth := k2m0) (c := k2c0) (by decide +kernel) rfl rfl rfl (by decide +kernel)
set_option maxRecDepth 65536 in
theorem w_c4 : (Jvm.Cond.code ({ cls := "java/lang/Object", name := "<init>", desc := "()V" } : Jvm.MethodName) object_method_1_code (1 : Nat) (Option.none : Option Jvm.ClassFile.FieldType)).before args0 about1 = true := code_word (m := ⟨0, 0⟩) (meth := k0m0) (c := k0c0) (by decide +kernel) rfl rfl rfl (by decide +kernel)
set_option maxRecDepth 65536 in
theorem w_c5 : (Jvm.Cond.code ({ cls := "java/time/Month", name := "of", desc := "(I)Ljava/time/Month;" } : Jvm.MethodName) jdk_2329_method_4_code (1 : Nat) (Option.some (Jvm.ClassFile.FieldType.object "java/time/Month"))).before args0 about1 = true := code_word (m := ⟨10, 0⟩) (meth := k10m0) (c := k10c0) (by decide +kernel) rfl rfl rfl (by decide +kernel)
set_option maxRecDepth 65536 in
theorem w_c6 : (Jvm.Cond.code ({ cls := "java/time/Month", name := "maxLength", desc := "()I" } : Jvm.MethodName) jdk_2329_method_16_code (1 : Nat) (Option.some Jvm.ClassFile.FieldType.int)).before args0 about1 = true := code_word (m := ⟨10, 2⟩) (meth := k10m2) (c := k10c2) (by decide +kernel) rfl rfl rfl (by decide +kernel)
set_option maxRecDepth 65536 in
theorem w_c7 : (Jvm.Cond.code ({ cls := "java/lang/Enum", name := "ordinal", desc := "()I" } : Jvm.MethodName) jdk_37_method_2_code (1 : Nat) (Option.some Jvm.ClassFile.FieldType.int)).before args0 about1 = true := code_word (m := ⟨7, 0⟩) (meth := k7m0) (c := k7c0) (by decide +kernel) rfl rfl rfl (by decide +kernel)
set_option maxRecDepth 65536 in
theorem w_c8 : (Jvm.Cond.code ({ cls := "java/time/Month", name := "minLength", desc := "()I" } : Jvm.MethodName) jdk_2329_method_15_code (1 : Nat) (Option.some Jvm.ClassFile.FieldType.int)).before args0 about1 = true := code_word (m := ⟨10, 1⟩) (meth := k10m1) (c := k10c1) (by decide +kernel) rfl rfl rfl (by decide +kernel)
set_option maxRecDepth 65536 in
theorem w_c9 : (Jvm.Cond.code ({ cls := "java/lang/Integer", name := "valueOf", desc := "(I)Ljava/lang/Integer;" } : Jvm.MethodName) jdk_33_method_22_code (1 : Nat) (Option.some (Jvm.ClassFile.FieldType.object "java/lang/Integer"))).before args0 about1 = true := code_word (m := ⟨13, 0⟩) (meth := k13m0) (c := k13c0) (by decide +kernel) rfl rfl rfl (by decide +kernel)
set_option maxRecDepth 65536 in
theorem w_c10 : (Jvm.Cond.code ({ cls := "com/example/vespera/vespera/calendar/DayOfYear", name := "equals", desc := "(Ljava/lang/Object;)Z" } : Jvm.MethodName) prog_8_method_2_code (3 : Nat) (Option.some Jvm.ClassFile.FieldType.boolean)).before args0 about1 = true := code_word (m := ⟨4, 1⟩) (meth := k4m1) (c := k4c1) (by decide +kernel) rfl rfl rfl (by decide +kernel)
set_option maxRecDepth 65536 in
theorem w_c11 : (Jvm.Cond.code ({ cls := "java/lang/Math", name := "min", desc := "(II)I" } : Jvm.MethodName) jdk_29_method_69_code (2 : Nat) (Option.some Jvm.ClassFile.FieldType.int)).before args0 about1 = true := code_word (m := ⟨15, 1⟩) (meth := k15m1) (c := k15c1) (by decide +kernel) rfl rfl rfl (by decide +kernel)
set_option maxRecDepth 65536 in
theorem w_c12 : (Jvm.Cond.code ({ cls := "java/lang/Integer", name := "<init>", desc := "(I)V" } : Jvm.MethodName) jdk_33_method_23_code (2 : Nat) (Option.none : Option Jvm.ClassFile.FieldType)).before args0 about1 = true := code_word (m := ⟨13, 1⟩) (meth := k13m1) (c := k13c1) (by decide +kernel) rfl rfl rfl (by decide +kernel)
set_option maxRecDepth 65536 in
theorem w_c13 : (Jvm.Cond.code ({ cls := "java/lang/Number", name := "<init>", desc := "()V" } : Jvm.MethodName) jdk_18_method_1_code (1 : Nat) (Option.none : Option Jvm.ClassFile.FieldType)).before args0 about1 = true := code_word (m := ⟨11, 0⟩) (meth := k11m0) (c := k11c0) (by decide +kernel) rfl rfl rfl (by decide +kernel)
def codes1 : List Jvm.Cond := [Jvm.Cond.code x code maxLocals ret, Jvm.Cond.code ({ cls := "com/example/vespera/vespera/calendar/DayOfYearEqualsPinLaw", name := "days", desc := "(I)I" } : Jvm.MethodName) method_2_code (1 : Nat) (Option.some Jvm.ClassFile.FieldType.int), Jvm.Cond.code ({ cls := "com/example/vespera/vespera/calendar/DayOfYear", name := "<init>", desc := "(II)V" } : Jvm.MethodName) prog_8_method_1_code (3 : Nat) (Option.none : Option Jvm.ClassFile.FieldType), Jvm.Cond.code ({ cls := "java/lang/Record", name := "<init>", desc := "()V" } : Jvm.MethodName) jdk_30_method_1_code (1 : Nat) (Option.none : Option Jvm.ClassFile.FieldType), Jvm.Cond.code ({ cls := "java/lang/Object", name := "<init>", desc := "()V" } : Jvm.MethodName) object_method_1_code (1 : Nat) (Option.none : Option Jvm.ClassFile.FieldType), Jvm.Cond.code ({ cls := "java/time/Month", name := "of", desc := "(I)Ljava/time/Month;" } : Jvm.MethodName) jdk_2329_method_4_code (1 : Nat) (Option.some (Jvm.ClassFile.FieldType.object "java/time/Month")), Jvm.Cond.code ({ cls := "java/time/Month", name := "maxLength", desc := "()I" } : Jvm.MethodName) jdk_2329_method_16_code (1 : Nat) (Option.some Jvm.ClassFile.FieldType.int), Jvm.Cond.code ({ cls := "java/lang/Enum", name := "ordinal", desc := "()I" } : Jvm.MethodName) jdk_37_method_2_code (1 : Nat) (Option.some Jvm.ClassFile.FieldType.int), Jvm.Cond.code ({ cls := "java/time/Month", name := "minLength", desc := "()I" } : Jvm.MethodName) jdk_2329_method_15_code (1 : Nat) (Option.some Jvm.ClassFile.FieldType.int), Jvm.Cond.code ({ cls := "java/lang/Integer", name := "valueOf", desc := "(I)Ljava/lang/Integer;" } : Jvm.MethodName) jdk_33_method_22_code (1 : Nat) (Option.some (Jvm.ClassFile.FieldType.object "java/lang/Integer")), Jvm.Cond.code ({ cls := "com/example/vespera/vespera/calendar/DayOfYear", name := "equals", desc := "(Ljava/lang/Object;)Z" } : Jvm.MethodName) prog_8_method_2_code (3 : Nat) (Option.some Jvm.ClassFile.FieldType.boolean), Jvm.Cond.code ({ cls := "java/lang/Math", name := "min", desc := "(II)I" } : Jvm.MethodName) jdk_29_method_69_code (2 : Nat) (Option.some Jvm.ClassFile.FieldType.int), Jvm.Cond.code ({ cls := "java/lang/Integer", name := "<init>", desc := "(I)V" } : Jvm.MethodName) jdk_33_method_23_code (2 : Nat) (Option.none : Option Jvm.ClassFile.FieldType), Jvm.Cond.code ({ cls := "java/lang/Number", name := "<init>", desc := "()V" } : Jvm.MethodName) jdk_18_method_1_code (1 : Nat) (Option.none : Option Jvm.ClassFile.FieldType)]
set_option maxRecDepth 65536 in
theorem codes_eq : words1.filter isCode = codes1 := rfl
theorem w_codes : ∀ c ∈ words1.filter isCode, c.before args0 about1 = true := by
  rw [codes_eq]
  intro c hc
  simp only [codes1, List.mem_cons, List.not_mem_nil, or_false] at hc
  rcases hc with rfl | rfl | rfl | rfl | rfl | rfl | rfl | rfl | rfl | rfl | rfl | rfl | rfl | rfl
  · exact w_c0
  · exact w_c1
  · exact w_c2
  · exact w_c3
  · exact w_c4
  · exact w_c5
  · exact w_c6
  · exact w_c7
  · exact w_c8
  · exact w_c9
  · exact w_c10
  · exact w_c11
  · exact w_c12
  · exact w_c13
set_option maxRecDepth 65536 in
theorem w_t1 : (words1.take 24).all (fun c => isCode c || c.before args0 about1) = true := by decide +kernel
set_option maxRecDepth 65536 in
theorem w_t2 : ((words1.drop 24).take 24).all (fun c => isCode c || c.before args0 about1) = true := by decide +kernel
set_option maxRecDepth 65536 in
theorem w_t3 : (((words1.drop 24).drop 24).take 24).all (fun c => isCode c || c.before args0 about1) = true := by decide +kernel
set_option maxRecDepth 65536 in
theorem w_t4 : (((words1.drop 24).drop 24).drop 24).all (fun c => isCode c || c.before args0 about1) = true := by decide +kernel
theorem w_tables : (allAtoms (Jvm.Cond.code x code maxLocals ret :: tables_1)).before args0 about1 = true := by
  rw [allAtoms_all]
  show words1.all (fun c => c.before args0 about1) = true
  refine all_split ?_ w_codes
  rw [← List.take_append_drop 24 words1, List.all_append, w_t1, ← List.take_append_drop 24 (words1.drop 24), List.all_append, w_t2, ← List.take_append_drop 24 ((words1.drop 24).drop 24), List.all_append, w_t3, w_t4]
  rfl
set_option maxRecDepth 65536 in
theorem w_rest : rest_1_c.before args0 about1 = true := by decide +kernel
set_option maxRecDepth 65536 in
theorem w_case : (Jvm.Cond.and given_1 narrow_1).before args0 about1 = true := by decide +kernel
theorem w_applies : (headSpec (Jvm.Cond.code x code maxLocals ret :: tables_1) room_1).applies x e0.platform about1 = true :=
  (Spec.applies_iff w_frames).mpr ⟨w_running, w_runnable, w_alone, w_named, w_hears, w_ripe, w_room, w_tables⟩
theorem atStart : AtStart classFile x code maxLocals ret World_1 tables_1 room_1 Calls_1 rest_1 Pre_1 launch0 p0 e0 about1 theMethod args0 below0 :=
  ⟨lists_1, trivial, launch0.admits_env _ _ _, launch0.least_env, fairChoices_fair.cas, fairChoices_fair.clock, w_frames, w_args, w_heap, w_applies, trivial, w_rest, w_case⟩
end start1
theorem witness_1 : WitnessClaimed_1 := ⟨start1.p0, start1.e0, start1.about1, start1.theMethod, start1.args0, start1.below0, start1.atStart⟩
end Jvm.Pilot.@@N@@

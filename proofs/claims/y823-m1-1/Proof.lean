import JvmDerived
import JvmDerived.Pilot.@@N@@Statement
import JvmDerived.Pilot.@@N@@Code
set_option linter.unusedVariables false
set_option linter.unusedSimpArgs false
namespace Jvm.Pilot.@@N@@
section OwnFP
open Jvm.FP Jvm.FP.Core Jvm.Free.Fl
/-- what x stands for, in units of the least double -/
def own_zv (x : UInt64) : Int := zval b64 (val64 x)
/-- x is finite and stands for a / 2^k -/
def Dy (x : UInt64) (a : Int) (k : Nat) : Prop := DFin x ∧ own_zv x * ((2 ^ k : Nat) : Int) = a * (one64 : Int)
theorem Dy.nn {x : UInt64} {a : Int} {k : Nat} (h : Dy x a k) : NoNaN64 x := (fin64_core.mpr h.1).noNaN
theorem own_pp (k : Nat) : (0 : Int) < ((2 ^ k : Nat) : Int) := Int.natCast_pos.mpr (Nat.two_pow_pos k)
theorem own_up : (0 : Int) < (one64 : Int) := Int.natCast_pos.mpr one64_pos
theorem own_signed_abs (a : Int) : signed (decide (a < 0)) a.natAbs = a := by
  unfold signed
  by_cases h : a < 0
  · simp [h]; omega
  · simp [h]; omega
theorem own_datum (a : Int) (n : Nat) (ha : a.natAbs < 2 ^ 53) (hn : n ≤ 1074) : ∃ V : Datum, Core.fits b64 V ∧ V ≠ .nan ∧ zval b64 V = a * ((2 ^ n : Nat) : Int) := by
  have hq : b64.qmin = -1074 := qmin_b64
  have hqx : b64.qmax = 971 := by decide
  obtain ⟨c', q', hr, hu⟩ := round_exact good_b64 (decide (a < 0)) (c := a.natAbs) (q := (n : Int) - 1074) ha (by rw [hq]; omega) (by rw [hqx]; omega)
  have hV := round_fits good_b64 (.fin (decide (a < 0)) a.natAbs ((n : Int) - 1074))
  rw [hr] at hV
  refine ⟨_, hV, by simp, ?_⟩
  show signed (decide (a < 0)) (inUnits c' q' b64.qmin) = _
  rw [hu]
  unfold inUnits
  rw [signed_mul, own_signed_abs, hq, show (((n : Int) - 1074) - -1074).toNat = n by omega]
theorem own_notinf {a : Int} {n : Nat} {t : Bool} (ha : a.natAbs < 2 ^ 53) (hn : n ≤ 1074) : ¬ zval b64 (.inf t) = a * ((2 ^ n : Nat) : Int) := by
  intro e
  have q := congrArg Int.natAbs e
  rw [show zval b64 (.inf t) = signed t (b64.tails * 2 ^ (b64.exps - 2)) from rfl, natAbs_signed, Int.natAbs_mul, Int.natAbs_natCast] at q
  have l1 : a.natAbs * 2 ^ n < 2 ^ 53 * 2 ^ 1074 := Nat.mul_lt_mul_of_lt_of_le ha (Nat.pow_le_pow_right (by decide) hn) (Nat.two_pow_pos _)
  have l2 : 2 ^ 53 * 2 ^ 1074 < b64.tails * 2 ^ (b64.exps - 2) := by
    rw [tails_b64, show b64.exps - 2 = 2046 by decide, ← Nat.pow_add, ← Nat.pow_add]
    exact Nat.pow_lt_pow_right (by decide) (by decide)
  exact Nat.lt_irrefl _ (Nat.lt_trans l2 (by rw [q]; exact l1))
theorem own_round {s : Bool} {c : Nat} {q e0 a : Int} {k : Nat} (ha : a.natAbs < 2 ^ 53) (hk : k ≤ 1074) (h0 : e0 ≤ -1074) (h0e : e0 ≤ q)
    (h : signed s (inUnits c q e0) * ((2 ^ k : Nat) : Int) = a * ((2 ^ (-e0).toNat : Nat) : Int)) :
    (∃ s' c' q', round b64 (.fin s c q) = .fin s' c' q') ∧ zval b64 (round b64 (.fin s c q)) * ((2 ^ k : Nat) : Int) = a * (one64 : Int) := by
  have hq : b64.qmin = -1074 := qmin_b64
  obtain ⟨V, hV, hVn, hz⟩ := own_datum a (1074 - k) ha (by omega)
  have hs : zval b64 V * ((2 ^ (b64.qmin - e0).toNat : Nat) : Int) = signed s (inUnits c q e0) := by
    apply Int.eq_of_mul_eq_mul_right (a := ((2 ^ k : Nat) : Int)) (Int.ne_of_gt (own_pp k))
    rw [h, hz, hq, Int.mul_assoc, Int.mul_assoc, ← Int.natCast_mul, ← Int.natCast_mul, ← Nat.pow_add, ← Nat.pow_add]
    rw [show 1074 - k + ((-1074 - e0).toNat + k) = (-e0).toNat by omega]
  have le := zval_round_le good_b64 (s := s) (c := c) (q := q) (e0 := e0) hV hVn (by rw [hq]; exact h0) h0e (by rw [hs]; exact Int.le_refl _)
  have ge := zval_round_ge good_b64 (s := s) (c := c) (q := q) (e0 := e0) hV hVn (by rw [hq]; exact h0) h0e (by rw [hs]; exact Int.le_refl _)
  have e : zval b64 (round b64 (.fin s c q)) = a * ((2 ^ (1074 - k) : Nat) : Int) := by rw [← hz]; exact Int.le_antisymm le ge
  refine ⟨?_, by rw [e, Int.mul_assoc, ← Int.natCast_mul, ← Nat.pow_add, show 1074 - k + k = 1074 by omega]; rfl⟩
  cases hc : round b64 (.fin s c q) with
  | nan => exact absurd hc (roundRatio_ne_nan _ _ _ _ _)
  | fin s' c' q' => exact ⟨_, _, _, rfl⟩
  | inf t => rw [hc] at e; exact absurd e (own_notinf ha (by omega))
theorem Dy.add {x y : UInt64} {a b : Int} {k : Nat} (hx : Dy x a k) (hy : Dy y b k) (h : (a + b).natAbs < 2 ^ 53) (hk : k ≤ 1074) : Dy (FP.dadd x y) (a + b) k := by
  obtain ⟨⟨s, c, q, ex⟩, zx⟩ := hx
  obtain ⟨⟨t, d, r, ey⟩, zy⟩ := hy
  have fx := val64_fits x
  have fy := val64_fits y
  unfold own_zv at zx zy
  rw [ex] at fx zx
  rw [ey] at fy zy
  obtain ⟨sg, n, e, hs, he, hv⟩ := sum_units fx fy
  have hd : val64 (FP.dadd x y) = round b64 (.fin sg n e) := by rw [show FP.dadd x y = Core.dadd x y from rfl, val64_dadd, ex, ey, hs]
  obtain ⟨⟨s', c', q', h1⟩, h2⟩ := own_round (s := sg) (c := n) (q := e) (e0 := b64.qmin) (a := a + b) (k := k) h hk (Int.le_of_eq qmin_b64) he (by rw [hv, Int.add_mul, zx, zy, ← Int.add_mul, pow_qmin64])
  exact ⟨⟨s', c', q', hd.trans h1⟩, by unfold own_zv; rw [hd]; exact h2⟩
theorem Dy.sub {x y : UInt64} {a b : Int} {k : Nat} (hx : Dy x a k) (hy : Dy y b k) (h : (a - b).natAbs < 2 ^ 53) (hk : k ≤ 1074) : Dy (FP.dsub x y) (a - b) k := by
  obtain ⟨⟨s, c, q, ex⟩, zx⟩ := hx
  obtain ⟨⟨t, d, r, ey⟩, zy⟩ := hy
  have fx := val64_fits x
  have fy := negate_fits (val64_fits y)
  have zn := zval_negate b64 (val64 y)
  unfold own_zv at zx zy
  rw [ex] at fx zx
  rw [ey] at fy zy zn
  have fy' : Core.fits b64 (.fin (!t) d r) := fy
  have zn' : zval b64 (.fin (!t) d r) = -zval b64 (.fin t d r) := zn
  obtain ⟨sg, n, e, hs, he, hv⟩ := sum_units fx fy'
  have hd : val64 (FP.dsub x y) = round b64 (.fin sg n e) := by
    rw [show FP.dsub x y = Core.dsub x y from rfl, val64_dsub, ex, ey]
    exact congrArg (round b64) hs
  obtain ⟨⟨s', c', q', h1⟩, h2⟩ := own_round (s := sg) (c := n) (q := e) (e0 := b64.qmin) (a := a - b) (k := k) h hk (Int.le_of_eq qmin_b64) he (by rw [hv, zn', Int.add_mul, Int.neg_mul, zx, zy, ← Int.sub_eq_add_neg, ← Int.sub_mul, pow_qmin64])
  exact ⟨⟨s', c', q', hd.trans h1⟩, by unfold own_zv; rw [hd]; exact h2⟩
theorem own_two_qmin : 2 ^ (-(2 * b64.qmin)).toNat = one64 * one64 := by
  rw [show (-(2 * b64.qmin)).toNat = (-b64.qmin).toNat + (-b64.qmin).toNat by rw [qmin_b64]; decide, Nat.pow_add, pow_qmin64]
theorem Dy.mul {x y : UInt64} {a b : Int} {k j : Nat} (hx : Dy x a k) (hy : Dy y b j) (h : (a * b).natAbs < 2 ^ 53) (hk : k + j ≤ 1074) : Dy (FP.dmul x y) (a * b) (k + j) := by
  obtain ⟨⟨s, c, q, ex⟩, zx⟩ := hx
  obtain ⟨⟨t, d, r, ey⟩, zy⟩ := hy
  have fx := val64_fits x
  have fy := val64_fits y
  unfold own_zv at zx zy
  rw [ex] at fx zx
  rw [ey] at fy zy
  obtain ⟨hp, he, hv⟩ := product_units fx fy
  have hd : val64 (FP.dmul x y) = round b64 (.fin (s != t) (c * d) (q + r)) := by rw [show FP.dmul x y = Core.dmul x y from rfl, val64_dmul, ex, ey, hp]
  have hg : signed (s != t) (inUnits (c * d) (q + r) (2 * b64.qmin)) = zval b64 (.fin s c q) * zval b64 (.fin t d r) := by rw [hv, signed_xor]; rfl
  obtain ⟨⟨s', c', q', h1⟩, h2⟩ := own_round (s := s != t) (c := c * d) (q := q + r) (e0 := 2 * b64.qmin) (a := a * b) (k := k + j) h hk (by rw [qmin_b64]; decide) he (by
    rw [hg, own_two_qmin, Nat.pow_add, Int.natCast_mul, Int.natCast_mul]
    rw [show ∀ A B P Q : Int, A * B * (P * Q) = (A * P) * (B * Q) from fun A B P Q => by ac_rfl, zx, zy]
    exact (fun A B P : Int => by ac_rfl : ∀ A B P : Int, A * P * (B * P) = A * B * (P * P)) _ _ _)
  exact ⟨⟨s', c', q', hd.trans h1⟩, by unfold own_zv; rw [hd]; exact h2⟩
theorem own_units {c : Nat} {q r e0 : Int} (hq : b64.qmin ≤ q) (hr : b64.qmin ≤ r) (h1 : e0 ≤ q - r) (h2 : e0 ≤ b64.qmin) :
    inUnits c (q - r) e0 * 2 ^ (r - b64.qmin).toNat = inUnits c q b64.qmin * one64 * 2 ^ (b64.qmin - e0).toNat := by
  unfold inUnits one64
  rw [qmin_b64] at *
  rw [Nat.mul_assoc, ← Nat.pow_add, Nat.mul_assoc, Nat.mul_assoc, ← Nat.pow_add, ← Nat.pow_add]
  rw [show (q - r - e0).toNat + (r - -1074).toNat = (q - -1074).toNat + (1074 + (-1074 - e0).toNat) by omega]
theorem own_ddiv {x y : UInt64} {s t : Bool} {c d : Nat} {q r : Int} (ex : val64 x = .fin s c q) (ey : val64 y = .fin t d r) (hd : d ≠ 0) : val64 (FP.ddiv x y) = roundRatio b64 (s != t) c d (q - r) := by
  rw [show FP.ddiv x y = Core.ddiv x y from rfl, val64_ddiv, ex, ey]
  simp [quotient, hd]
theorem own_div_le {x y : UInt64} {s t : Bool} {c d : Nat} {q r : Int} (ex : val64 x = .fin s c q) (ey : val64 y = .fin t d r) (hd : d ≠ 0) {V : Datum} (hV : Core.fits b64 V) (hn : V ≠ .nan)
    (h : zmag b64 (val64 x) * one64 ≤ zmag b64 V * zmag b64 (val64 y)) : zmag b64 (val64 (FP.ddiv x y)) ≤ zmag b64 V := by
  have fx := val64_fits x
  have fy := val64_fits y
  rw [ex] at fx h
  rw [ey] at fy h
  rw [own_ddiv ex ey hd]
  refine zmag_roundRatio_le good_b64 (e0 := min (q - r) b64.qmin) (Nat.pos_of_ne_zero hd) hV hn (Int.min_le_right _ _) (Int.min_le_left _ _) ?_
  refine Nat.le_of_mul_le_mul_right (c := 2 ^ (r - b64.qmin).toNat) ?_ (Nat.two_pow_pos _)
  rw [own_units fx.2.1 fy.2.1 (Int.min_le_left _ _) (Int.min_le_right _ _)]
  refine Nat.le_trans (Nat.mul_le_mul_right _ h) (Nat.le_of_eq ?_)
  show zmag b64 V * inUnits d r b64.qmin * _ = _
  unfold inUnits
  exact (fun A B P Q : Nat => by ac_rfl : ∀ A B P Q : Nat, A * (B * P) * Q = A * Q * B * P) _ _ _ _
theorem own_div_ge {x y : UInt64} {s t : Bool} {c d : Nat} {q r : Int} (ex : val64 x = .fin s c q) (ey : val64 y = .fin t d r) (hd : d ≠ 0) {V : Datum} (hV : Core.fits b64 V)
    (h : zmag b64 V * zmag b64 (val64 y) ≤ zmag b64 (val64 x) * one64) : zmag b64 V ≤ zmag b64 (val64 (FP.ddiv x y)) := by
  have fx := val64_fits x
  have fy := val64_fits y
  rw [ex] at fx h
  rw [ey] at fy h
  rw [own_ddiv ex ey hd]
  refine zmag_roundRatio_ge good_b64 (e0 := min (q - r) b64.qmin) (Nat.pos_of_ne_zero hd) hV (Int.min_le_right _ _) (Int.min_le_left _ _) ?_
  refine Nat.le_of_mul_le_mul_right (c := 2 ^ (r - b64.qmin).toNat) ?_ (Nat.two_pow_pos _)
  rw [own_units fx.2.1 fy.2.1 (Int.min_le_left _ _) (Int.min_le_right _ _)]
  refine Nat.le_trans (Nat.le_of_eq ?_) (Nat.mul_le_mul_right _ h)
  show _ = zmag b64 V * inUnits d r b64.qmin * _
  unfold inUnits
  exact (fun A B P Q : Nat => by ac_rfl : ∀ A B P Q : Nat, A * Q * B * P = A * (B * P) * Q) _ _ _ _
theorem own_zval_abs (d : Datum) : (zval b64 d).natAbs = zmag b64 d := by unfold zval; exact natAbs_signed _ _
theorem Dy.div {x y : UInt64} {a b m : Int} {k j n : Nat} (hx : Dy x a k) (hy : Dy y b j) (hb : b ≠ 0) (hm : m.natAbs < 2 ^ 53) (hn : n ≤ 1074)
    (h : a * ((2 ^ j : Nat) : Int) * ((2 ^ n : Nat) : Int) = m * b * ((2 ^ k : Nat) : Int)) : Dy (FP.ddiv x y) m n := by
  obtain ⟨⟨s, c, q, ex⟩, zx⟩ := hx
  obtain ⟨⟨t, d, r, ey⟩, zy⟩ := hy
  unfold own_zv at zx zy
  obtain ⟨V, hV, hVn, hz⟩ := own_datum m (1074 - n) hm (by omega)
  have hzn : zval b64 V * ((2 ^ n : Nat) : Int) = m * (one64 : Int) := by rw [hz, Int.mul_assoc, ← Int.natCast_mul, ← Nat.pow_add, show 1074 - n + n = 1074 by omega]; rfl
  have hyn : zval b64 (val64 y) ≠ 0 := fun e => by
    rw [e, Int.zero_mul] at zy
    rcases Int.mul_eq_zero.mp zy.symm with q | q
    · exact hb q
    · exact absurd q (Int.ne_of_gt own_up)
  have hd : d ≠ 0 := fun e => by
    subst e
    rw [ey] at hyn
    exact hyn (by show signed t (inUnits 0 r b64.qmin) = 0; unfold inUnits; rw [Nat.zero_mul, signed_zero])
  have key : zval b64 V * zval b64 (val64 y) = zval b64 (val64 x) * (one64 : Int) := by
    have e1 : (zval b64 V * zval b64 (val64 y)) * (((2 ^ n : Nat) : Int) * ((2 ^ j : Nat) : Int) * ((2 ^ k : Nat) : Int)) = (zval b64 (val64 x) * (one64 : Int)) * (((2 ^ n : Nat) : Int) * ((2 ^ j : Nat) : Int) * ((2 ^ k : Nat) : Int)) := by
      rw [(fun A B P Q R : Int => by ac_rfl : ∀ A B P Q R : Int, A * B * (P * Q * R) = (A * P) * (B * Q) * R), hzn, zy,
        (fun A B P Q R : Int => by ac_rfl : ∀ A B P Q R : Int, A * B * (P * Q * R) = (A * R) * (B * P * Q)) (zval b64 (val64 x)), zx,
        (fun M B U K : Int => by ac_rfl : ∀ M B U K : Int, M * U * (B * U) * K = (M * B * K) * (U * U)), ← h]
      exact (fun A U P Q : Int => by ac_rfl : ∀ A U P Q : Int, A * Q * P * (U * U) = A * U * (U * P * Q)) _ _ _ _
    exact Int.eq_of_mul_eq_mul_right (Int.ne_of_gt (Int.mul_pos (Int.mul_pos (own_pp n) (own_pp j)) (own_pp k))) e1
  have kn : zmag b64 V * zmag b64 (val64 y) = zmag b64 (val64 x) * one64 := by
    have q := congrArg Int.natAbs key
    rw [Int.natAbs_mul, Int.natAbs_mul, own_zval_abs, own_zval_abs, own_zval_abs, Int.natAbs_natCast] at q
    exact q
  have le := own_div_le ex ey hd hV hVn (Nat.le_of_eq kn.symm)
  have ge := own_div_ge ex ey hd hV (Nat.le_of_eq kn)
  have em : zmag b64 (val64 (FP.ddiv x y)) = zmag b64 V := Nat.le_antisymm le ge
  have er := own_ddiv ex ey hd
  have es : sgn (val64 (FP.ddiv x y)) = (s != t) := by rw [er, sgn_roundRatio]
  have prod : zval b64 (val64 (FP.ddiv x y)) * zval b64 (val64 y) = zval b64 (val64 x) * (one64 : Int) := by
    unfold zval
    rw [es, em, ← signed_xor, kn, signed_mul, ex, ey]
    show signed ((s != t) != t) _ * _ = signed s _ * _
    rw [show ((s != t) != t) = s by cases s <;> cases t <;> rfl]
  have eq : zval b64 (val64 (FP.ddiv x y)) = zval b64 V := Int.eq_of_mul_eq_mul_right hyn (prod.trans key.symm)
  refine ⟨?_, by unfold own_zv; rw [eq]; exact hzn⟩
  cases hc : val64 (FP.ddiv x y) with
  | nan => exact absurd (er.symm.trans hc) (roundRatio_ne_nan _ _ _ _ _)
  | fin s' c' q' => exact ⟨_, _, _, hc⟩
  | inf t => rw [hc, hz] at eq; exact absurd eq (own_notinf hm (by omega))
theorem own_ofInt {x : UInt64} {i : Int} (hx : val64 x = round b64 (ofInt i)) (h : i.natAbs < 2 ^ 53) : Dy x i 0 := by
  obtain ⟨⟨s', c', q', h1⟩, h2⟩ := own_round (s := decide (i < 0)) (c := i.natAbs) (q := 0) (e0 := b64.qmin) (a := i) (k := 0) h (by decide) (Int.le_of_eq qmin_b64) (by rw [qmin_b64]; decide) (by
    unfold inUnits
    rw [signed_mul, own_signed_abs, show (0 - b64.qmin) = -b64.qmin by omega, pow_qmin64]; simp)
  exact ⟨⟨s', c', q', hx.trans h1⟩, by unfold own_zv; rw [hx]; exact h2⟩
theorem Dy.i2d (v : Int32) : Dy (FP.i2d v) v.toInt 0 := own_ofInt (val64_i2d v) (by have h1 := Int32.toInt_lt v; have h2 := Int32.le_toInt v; omega)
theorem Dy.l2d {v : Int64} (h : v.toInt.natAbs < 2 ^ 53) : Dy (FP.l2d v) v.toInt 0 := own_ofInt (val64_l2d v) h
theorem Dy.lit {x : UInt64} {a : Int} {k : Nat} (s : Bool) (c : Nat) (q : Int) (h : val64 x = .fin s c q) (h2 : signed s (inUnits c q b64.qmin) * ((2 ^ k : Nat) : Int) = a * (one64 : Int)) : Dy x a k :=
  ⟨⟨s, c, q, h⟩, by unfold own_zv; rw [h]; exact h2⟩
theorem Dy.up {x : UInt64} {a : Int} {k : Nat} (i : Nat) (h : Dy x a k) : Dy x (a * ((2 ^ i : Nat) : Int)) (k + i) :=
  ⟨h.1, by rw [Nat.pow_add, Int.natCast_mul, ← Int.mul_assoc, h.2]; exact (fun A B C : Int => by ac_rfl : ∀ A B C : Int, A * B * C = A * C * B) _ _ _⟩
theorem Dy.cast {x : UInt64} {a b : Int} {k j : Nat} (h : Dy x a k) (e : a = b) (e2 : k = j) : Dy x b j := e ▸ e2 ▸ h
/-- the int that dcmpl and dcmpg push for two numbers -/
def own_ci (a b : Int) : Int32 := if a < b then -1 else if a = b then 0 else 1
theorem own_ci_eq {a b : Int} : own_ci a b = 0 ↔ a = b := by unfold own_ci; split <;> (try split) <;> simp_all <;> omega
theorem own_dcmp {x y : UInt64} (hx : DFin x) (hy : DFin y) : FP.dcmp x y = some (compare (own_zv x) (own_zv y)) := by
  obtain ⟨s, c, q, ex⟩ := hx
  obtain ⟨t, d, r, ey⟩ := hy
  exact order_zval good_b64 (val64_fits x) (val64_fits y) (fun e => by cases ex.symm.trans e) (fun e => by cases ey.symm.trans e)
theorem Dy.dcmp {x y : UInt64} {a b : Int} {k : Nat} (hx : Dy x a k) (hy : Dy y b k) : FP.dcmp x y = some (compare a b) := by
  rw [own_dcmp hx.1 hy.1]
  congr 1
  refine compare_congr ?_ ?_
  · rw [← Int.mul_lt_mul_right (own_pp k), hx.2, hy.2, Int.mul_lt_mul_right own_up]
  · constructor
    · intro e
      have q := hx.2
      rw [e, hy.2] at q
      exact (Int.eq_of_mul_eq_mul_right (Int.ne_of_gt own_up) q).symm
    · intro e
      have q := hx.2
      rw [e, ← hy.2] at q
      exact Int.eq_of_mul_eq_mul_right (Int.ne_of_gt (own_pp k)) q
theorem Dy.cmp {x y : UInt64} {a b : Int} {k : Nat} (hx : Dy x a k) (hy : Dy y b k) (o : Jvm.ClassFile.CmpOp) : Jvm.Op.cmpValue (FP.dcmp x y) o = own_ci a b := by
  rw [hx.dcmp hy]
  unfold own_ci
  show Jvm.Op.cmpValue (some (compareOfLessAndEq a b)) o = _
  unfold compareOfLessAndEq
  by_cases h1 : a < b
  · simp [h1]; cases o <;> rfl
  · by_cases h2 : a = b
    · simp [h2]; cases o <;> rfl
    · simp [h1, h2]; cases o <;> rfl
end OwnFP
end Jvm.Pilot.@@N@@
namespace Jvm.Pilot.@@N@@
open Jvm Jvm.ClassFile Sem Op Lib Jvm.Free Jvm.Stand Jvm.LawKit Jvm.RoadKit Jvm.Free.Fl Bundle Jvm.Pilot.@@N@@.Jvm.D
/-- the run from A ends, and what it leaves meets F -/
def Rn (p : Program) (e : Env) (below : List Frame) (A : State) (F : Outcome → State → Prop) : Prop := ∃ s₂ o, Steps p.tables e below A s₂ ∧ s₂.status = .running ∧ Ended s₂ below o ∧ F o s₂
theorem Rn.st {p : Program} {e : Env} {below : List Frame} {A B : State} {F : Outcome → State → Prop} (h : ∀ t, Steps p.tables e below B t → Steps p.tables e below A t) (r : Rn p e below B F) : Rn p e below A F := by
  obtain ⟨s₂, o, h1, h2⟩ := r
  exact ⟨s₂, o, h _ h1, h2⟩
theorem Rn.ret {p : Program} {l : Launch} {e : Env} {R : Room} {s : State} {m : MethodId} {args : Array Value} {below : List Frame} {meth : Method} {c : Code} {T : State} {locs : List Loc} {cells slots k n : Nat} {A : State} {h : Heap}
    (X : Stand p l e R s m args below meth c T locs cells slots) (hlk : meth.locks = false) {v : Option Value} (hv : meth.sig.returnType = none → v = none) {Q : Option Value → Heap → List Loc → Prop} (eT : T.heap = h)
    (last : ∀ fs, (∀ (f : JFrame) (acts : List Action), f.method = m → f.locked = none → f.entered = [] → (doReturn e (T.setTop f) acts v).1 = T.setFrames fs) → Steps p.tables e below A (T.setFrames fs))
    (q : Q v h locs) (hc : cells ≤ k) (hs : slots ≤ n) : Rn p e below A (fun o U' => ∃ v L, o = .returned v ∧ Q v U'.heap L ∧ FrameEnd s o U' L k n) := by
  obtain ⟨fs, hr, hrun, hended, hW, hsame⟩ := X.leave hv hlk
  refine ⟨_, _, last fs hr, hrun, hended, _, _, rfl, ?_, ⟨_, rfl⟩, hW, hsame.mono hc hs⟩
  show Q v T.heap locs
  rw [eT]; exact q
theorem own_addI {a b : Int32} (h : -2147483648 ≤ a.toInt + b.toInt ∧ a.toInt + b.toInt < 2147483648) : (a + b).toInt = a.toInt + b.toInt := by
  rw [Int32.toInt_add, Int.bmod_eq_of_le (by omega) (by omega)]
theorem own_mulI {a b : Int32} (h : (a.toInt * b.toInt).natAbs < 2147483648) : (a * b).toInt = a.toInt * b.toInt := by
  rw [Int32.toInt_mul, Int.bmod_eq_of_le (by omega) (by omega)]
theorem own_masked {a r m : Int32} {d : Int} (hm : 0 ≤ m.toInt) (hd : 0 < d) {k : Int32} (hk : k.toInt = d) (h : (a &&& m) % k = r) : 0 ≤ r.toInt ∧ r.toInt < d := by
  have q := c_and a m hm
  have t := (c_irem (a &&& m) k d hk).1 q.1
  rw [h] at t
  rw [t]
  exact ⟨Int.emod_nonneg _ (Int.ne_of_gt hd), Int.emod_lt_of_pos _ hd⟩
theorem own_bd {j n : Int32} (h : 0 ≤ j.toInt ∧ j.toInt < n.toInt) : ¬ j < 0 ∧ j < n := by
  constructor
  · rw [Int32.lt_iff_toInt_lt]; have : (0 : Int32).toInt = 0 := by decide
    omega
  · rw [Int32.lt_iff_toInt_lt]; exact h.2
theorem own_pb {a b : Int} {A B : Nat} (ha : a.natAbs ≤ A) (hb : b.natAbs ≤ B) : (a * b).natAbs ≤ A * B := by rw [Int.natAbs_mul]; exact Nat.mul_le_mul ha hb
section RSteps
variable {p : Program} {l : Launch} {e : Env} {R : Room} {s : State} {m : MethodId} {args : Array Value} {below : List Frame} {meth : Method} {c : Code} {T : State} {locs : List Loc} {cells slots : Nat} {G : Outcome → State → Prop} {L L' : Array Slot} {S : List Value} {pc pc' : Nat}
theorem R.iloadN (X : Stand p l e R s m args below meth c T locs cells slots) (hx : p.tables.exec = Jvm.exec) {k : Fin 4} {v : Int32} (hd : decode c.code pc = .ok (.iload_n k, 1)) (hl : L[k.val]? = some (.val (.int v))) (hp : pc + 1 = pc') (r : Rn p e below (T.setTop (mkF m pc' L (.int v :: S))) G) : Rn p e below (T.setTop (mkF m pc L (S))) G := by
  subst hp; exact Rn.st (fun t q => XS.iloadN X.here hx rfl hd hl q) r
theorem R.iload (X : Stand p l e R s m args below meth c T locs cells slots) (hx : p.tables.exec = Jvm.exec) {k : Nat} {v : Int32} (hd : decode c.code pc = .ok (.iload k, 2)) (hl : L[k]? = some (.val (.int v))) (hp : pc + 2 = pc') (r : Rn p e below (T.setTop (mkF m pc' L (.int v :: S))) G) : Rn p e below (T.setTop (mkF m pc L (S))) G := by
  subst hp; exact Rn.st (fun t q => XS.iload X.here hx rfl hd hl q) r
theorem R.istoreN (X : Stand p l e R s m args below meth c T locs cells slots) (hx : p.tables.exec = Jvm.exec) {k : Fin 4} {v : Int32} (hd : decode c.code pc = .ok (.istore_n k, 1)) (hl : storeLocals L k.val (.int v) = some L') (hp : pc + 1 = pc') (r : Rn p e below (T.setTop (mkF m pc' L' (S))) G) : Rn p e below (T.setTop (mkF m pc L (.int v :: S))) G := by
  subst hp; exact Rn.st (fun t q => XS.istoreN X.here hx rfl hd rfl hl q) r
theorem R.istore (X : Stand p l e R s m args below meth c T locs cells slots) (hx : p.tables.exec = Jvm.exec) {k : Nat} {v : Int32} (hd : decode c.code pc = .ok (.istore k, 2)) (hl : storeLocals L k (.int v) = some L') (hp : pc + 2 = pc') (r : Rn p e below (T.setTop (mkF m pc' L' (S))) G) : Rn p e below (T.setTop (mkF m pc L (.int v :: S))) G := by
  subst hp; exact Rn.st (fun t q => XS.istore X.here hx rfl hd rfl hl q) r
theorem R.aloadN (X : Stand p l e R s m args below meth c T locs cells slots) (hx : p.tables.exec = Jvm.exec) {k : Fin 4} {v : Value} (hd : decode c.code pc = .ok (.aload_n k, 1)) (hl : L[k.val]? = some (.val v)) (hv : v.isRef = true) (hp : pc + 1 = pc') (r : Rn p e below (T.setTop (mkF m pc' L (v :: S))) G) : Rn p e below (T.setTop (mkF m pc L (S))) G := by
  subst hp; exact Rn.st (fun t q => XS.aloadN X.here hx rfl hd hl hv q) r
theorem R.aload (X : Stand p l e R s m args below meth c T locs cells slots) (hx : p.tables.exec = Jvm.exec) {k : Nat} {v : Value} (hd : decode c.code pc = .ok (.aload k, 2)) (hl : L[k]? = some (.val v)) (hv : v.isRef = true) (hp : pc + 2 = pc') (r : Rn p e below (T.setTop (mkF m pc' L (v :: S))) G) : Rn p e below (T.setTop (mkF m pc L (S))) G := by
  subst hp; exact Rn.st (fun t q => XS.aload X.here hx rfl hd hl hv q) r
theorem R.astoreN (X : Stand p l e R s m args below meth c T locs cells slots) (hx : p.tables.exec = Jvm.exec) {k : Fin 4} {v : Value} (hd : decode c.code pc = .ok (.astore_n k, 1)) (hv : v.isRef = true) (hl : storeLocals L k.val v = some L') (hp : pc + 1 = pc') (r : Rn p e below (T.setTop (mkF m pc' L' (S))) G) : Rn p e below (T.setTop (mkF m pc L (v :: S))) G := by
  subst hp; exact Rn.st (fun t q => XS.astoreN X.here hx rfl hd rfl hv hl q) r
theorem R.astore (X : Stand p l e R s m args below meth c T locs cells slots) (hx : p.tables.exec = Jvm.exec) {k : Nat} {v : Value} (hd : decode c.code pc = .ok (.astore k, 2)) (hv : v.isRef = true) (hl : storeLocals L k v = some L') (hp : pc + 2 = pc') (r : Rn p e below (T.setTop (mkF m pc' L' (S))) G) : Rn p e below (T.setTop (mkF m pc L (v :: S))) G := by
  subst hp; exact Rn.st (fun t q => XS.astore X.here hx rfl hd rfl hv hl q) r
theorem R.iconst (X : Stand p l e R s m args below meth c T locs cells slots) (hx : p.tables.exec = Jvm.exec) {i : Int} {v : Int32} (hd : decode c.code pc = .ok (.iconst i, 1)) (hv : Int32.ofInt i = v) (hp : pc + 1 = pc') (r : Rn p e below (T.setTop (mkF m pc' L (.int v :: S))) G) : Rn p e below (T.setTop (mkF m pc L (S))) G := by
  subst hp hv; exact Rn.st (fun t q => XS.iconst X.here hx rfl hd q) r
theorem R.bipush (X : Stand p l e R s m args below meth c T locs cells slots) (hx : p.tables.exec = Jvm.exec) {i : Int} {v : Int32} (hd : decode c.code pc = .ok (.bipush i, 2)) (hv : (Int8.ofInt i).toInt32 = v) (hp : pc + 2 = pc') (r : Rn p e below (T.setTop (mkF m pc' L (.int v :: S))) G) : Rn p e below (T.setTop (mkF m pc L (S))) G := by
  subst hp hv; exact Rn.st (fun t q => XS.bipush X.here hx rfl hd q) r
theorem R.sipush (X : Stand p l e R s m args below meth c T locs cells slots) (hx : p.tables.exec = Jvm.exec) {i : Int} {v : Int32} (hd : decode c.code pc = .ok (.sipush i, 3)) (hv : (Int16.ofInt i).toInt32 = v) (hp : pc + 3 = pc') (r : Rn p e below (T.setTop (mkF m pc' L (.int v :: S))) G) : Rn p e below (T.setTop (mkF m pc L (S))) G := by
  subst hp hv; exact Rn.st (fun t q => XS.sipush X.here hx rfl hd q) r
theorem R.iadd (X : Stand p l e R s m args below meth c T locs cells slots) (hx : p.tables.exec = Jvm.exec) {x y v : Int32} (hd : decode c.code pc = .ok (.iadd, 1)) (hv : x + y = v) (hp : pc + 1 = pc') (r : Rn p e below (T.setTop (mkF m pc' L (.int v :: S))) G) : Rn p e below (T.setTop (mkF m pc L (.int y :: .int x :: S))) G := by
  subst hp hv; exact Rn.st (fun t q => XS.iadd X.here hx rfl hd rfl q) r
theorem R.isub (X : Stand p l e R s m args below meth c T locs cells slots) (hx : p.tables.exec = Jvm.exec) {x y v : Int32} (hd : decode c.code pc = .ok (.isub, 1)) (hv : x - y = v) (hp : pc + 1 = pc') (r : Rn p e below (T.setTop (mkF m pc' L (.int v :: S))) G) : Rn p e below (T.setTop (mkF m pc L (.int y :: .int x :: S))) G := by
  subst hp hv; exact Rn.st (fun t q => XS.isub X.here hx rfl hd rfl q) r
theorem R.imul (X : Stand p l e R s m args below meth c T locs cells slots) (hx : p.tables.exec = Jvm.exec) {x y v : Int32} (hd : decode c.code pc = .ok (.imul, 1)) (hv : x * y = v) (hp : pc + 1 = pc') (r : Rn p e below (T.setTop (mkF m pc' L (.int v :: S))) G) : Rn p e below (T.setTop (mkF m pc L (.int y :: .int x :: S))) G := by
  subst hp hv; exact Rn.st (fun t q => XS.imul X.here hx rfl hd rfl q) r
theorem R.iand (X : Stand p l e R s m args below meth c T locs cells slots) (hx : p.tables.exec = Jvm.exec) {x y v : Int32} (hd : decode c.code pc = .ok (.iand, 1)) (hv : x &&& y = v) (hp : pc + 1 = pc') (r : Rn p e below (T.setTop (mkF m pc' L (.int v :: S))) G) : Rn p e below (T.setTop (mkF m pc L (.int y :: .int x :: S))) G := by
  subst hp hv; exact Rn.st (fun t q => XS.iand X.here hx rfl hd rfl q) r
theorem R.ineg (X : Stand p l e R s m args below meth c T locs cells slots) (hx : p.tables.exec = Jvm.exec) {x : Int32} (hd : decode c.code pc = .ok (.ineg, 1)) (hp : pc + 1 = pc') (r : Rn p e below (T.setTop (mkF m pc' L (.int (-x) :: S))) G) : Rn p e below (T.setTop (mkF m pc L (.int x :: S))) G := by
  subst hp; exact Rn.st (fun t q => XS.ineg X.here hx rfl hd rfl q) r
theorem R.i2b (X : Stand p l e R s m args below meth c T locs cells slots) (hx : p.tables.exec = Jvm.exec) {x : Int32} (hd : decode c.code pc = .ok (.i2b, 1)) (hp : pc + 1 = pc') (r : Rn p e below (T.setTop (mkF m pc' L (.int (x.toInt8.toInt32) :: S))) G) : Rn p e below (T.setTop (mkF m pc L (.int x :: S))) G := by
  subst hp; exact Rn.st (fun t q => XS.i2b X.here hx rfl hd rfl q) r
theorem R.ishl (X : Stand p l e R s m args below meth c T locs cells slots) (hx : p.tables.exec = Jvm.exec) {x : Int32} {y : Int32} (hd : decode c.code pc = .ok (.ishl, 1)) (hp : pc + 1 = pc') (r : Rn p e below (T.setTop (mkF m pc' L (.int (x <<< (y &&& 31)) :: S))) G) : Rn p e below (T.setTop (mkF m pc L (.int y :: .int x :: S))) G := by
  subst hp; exact Rn.st (fun t q => XS.ishl X.here hx rfl hd rfl q) r
theorem R.ishr (X : Stand p l e R s m args below meth c T locs cells slots) (hx : p.tables.exec = Jvm.exec) {x : Int32} {y : Int32} (hd : decode c.code pc = .ok (.ishr, 1)) (hp : pc + 1 = pc') (r : Rn p e below (T.setTop (mkF m pc' L (.int (x >>> (y &&& 31)) :: S))) G) : Rn p e below (T.setTop (mkF m pc L (.int y :: .int x :: S))) G := by
  subst hp; exact Rn.st (fun t q => XS.ishr X.here hx rfl hd rfl q) r
theorem R.irem (X : Stand p l e R s m args below meth c T locs cells slots) (hx : p.tables.exec = Jvm.exec) {x y : Int32} (hd : decode c.code pc = .ok (.irem, 1)) (hy : y ≠ 0) (hp : pc + 1 = pc') (r : Rn p e below (T.setTop (mkF m pc' L (.int (x % y) :: S))) G) : Rn p e below (T.setTop (mkF m pc L (.int y :: .int x :: S))) G := by
  subst hp; exact Rn.st (fun t q => iremM X hx rfl hd rfl hy q) r
theorem R.i2d (X : Stand p l e R s m args below meth c T locs cells slots) (hx : p.tables.exec = Jvm.exec) {x : Int32} (hd : decode c.code pc = .ok (.i2d, 1)) (hp : pc + 1 = pc') (r : Rn p e below (T.setTop (mkF m pc' L (.double (FP.i2d x) :: S))) G) : Rn p e below (T.setTop (mkF m pc L (.int x :: S))) G := by
  subst hp; exact Rn.st (fun t q => XS.i2dS X.here hx rfl hd rfl rfl q) r
theorem R.dsub (X : Stand p l e R s m args below meth c T locs cells slots) (hx : p.tables.exec = Jvm.exec) {x y : UInt64} (hd : decode c.code pc = .ok (.dsub, 1)) (hn : NoNaN64 (FP.dsub x y)) (hp : pc + 1 = pc') (r : Rn p e below (T.setTop (mkF m pc' L (.double (FP.dsub x y) :: S))) G) : Rn p e below (T.setTop (mkF m pc L (.double y :: .double x :: S))) G := by
  subst hp; exact Rn.st (fun t q => XS.dsubS X.here hx rfl hd rfl hn rfl q) r
theorem R.dmul (X : Stand p l e R s m args below meth c T locs cells slots) (hx : p.tables.exec = Jvm.exec) {x y : UInt64} (hd : decode c.code pc = .ok (.dmul, 1)) (hn : NoNaN64 (FP.dmul x y)) (hp : pc + 1 = pc') (r : Rn p e below (T.setTop (mkF m pc' L (.double (FP.dmul x y) :: S))) G) : Rn p e below (T.setTop (mkF m pc L (.double y :: .double x :: S))) G := by
  subst hp; exact Rn.st (fun t q => XS.dmulS X.here hx rfl hd rfl hn rfl q) r
theorem R.ddiv (X : Stand p l e R s m args below meth c T locs cells slots) (hx : p.tables.exec = Jvm.exec) {x y : UInt64} (hd : decode c.code pc = .ok (.ddiv, 1)) (hn : NoNaN64 (FP.ddiv x y)) (hp : pc + 1 = pc') (r : Rn p e below (T.setTop (mkF m pc' L (.double (FP.ddiv x y) :: S))) G) : Rn p e below (T.setTop (mkF m pc L (.double y :: .double x :: S))) G := by
  subst hp; exact Rn.st (fun t q => XS.ddivS X.here hx rfl hd rfl hn rfl q) r
theorem R.dcmp (X : Stand p l e R s m args below meth c T locs cells slots) (hx : p.tables.exec = Jvm.exec) {o : CmpOp} {x y : UInt64} {v : Int32} (hd : decode c.code pc = .ok (.dcmp o, 1)) (hv : cmpValue (FP.dcmp x y) o = v) (hp : pc + 1 = pc') (r : Rn p e below (T.setTop (mkF m pc' L (.int v :: S))) G) : Rn p e below (T.setTop (mkF m pc L (.double y :: .double x :: S))) G := by
  subst hp; exact Rn.st (fun t q => XS.dcmpS X.here hx rfl hd rfl hv q) r
theorem R.iinc (X : Stand p l e R s m args below meth c T locs cells slots) (hx : p.tables.exec = Jvm.exec) {k : Nat} {cst : Int} {x : Int32} (hd : decode c.code pc = .ok (.iinc k cst, 3)) (hl : L[k]? = some (.val (.int x))) (hl' : storeLocals L k (.int (x + Int32.ofInt cst)) = some L') (hp : pc + 3 = pc') (r : Rn p e below (T.setTop (mkF m pc' L' (S))) G) : Rn p e below (T.setTop (mkF m pc L (S))) G := by
  subst hp; exact Rn.st (fun t q => XS.iinc X.here hx rfl hd hl hl' q) r
theorem R.dup2 (X : Stand p l e R s m args below meth c T locs cells slots) (hx : p.tables.exec = Jvm.exec) {x y : Value} (hd : decode c.code pc = .ok (.dup2, 1)) (hc : x.category = 1) (hc' : y.category = 1) (hp : pc + 1 = pc') (r : Rn p e below (T.setTop (mkF m pc' L (x :: y :: x :: y :: S))) G) : Rn p e below (T.setTop (mkF m pc L (x :: y :: S))) G := by
  subst hp; exact Rn.st (fun t q => Jvm.Free.XT.dup2 X.here hx rfl hd rfl hc hc' q) r
theorem R.ifYes (X : Stand p l e R s m args below meth c T locs cells slots) (hx : p.tables.exec = Jvm.exec) {cd : ClassFile.Cond} {x : Int32} {o : Int} (hd : decode c.code pc = .ok (.ifCond cd o, 3)) (hc : if_icmp.holds cd x 0 = true) (ho : 0 ≤ (pc : Int) + o) (hp : ((pc : Int) + o).toNat = pc') (r : Rn p e below (T.setTop (mkF m pc' L S)) G) : Rn p e below (T.setTop (mkF m pc L (.int x :: S))) G :=
  Rn.st (fun t q => XS.ifYes X.here hx rfl rfl hd rfl ((if0 _ _).trans hc) ho hp q) r
theorem R.ifNo (X : Stand p l e R s m args below meth c T locs cells slots) (hx : p.tables.exec = Jvm.exec) {cd : ClassFile.Cond} {x : Int32} {o : Int} (hd : decode c.code pc = .ok (.ifCond cd o, 3)) (hc : if_icmp.holds cd x 0 = false) (hp : pc + 3 = pc') (r : Rn p e below (T.setTop (mkF m pc' L (S))) G) : Rn p e below (T.setTop (mkF m pc L (.int x :: S))) G := by
  subst hp; exact Rn.st (fun t q => XS.ifNo X.here hx rfl hd rfl ((if0 _ _).trans hc) q) r
theorem R.icmpYes (X : Stand p l e R s m args below meth c T locs cells slots) (hx : p.tables.exec = Jvm.exec) {cd : ClassFile.Cond} {x y : Int32} {o : Int} (hd : decode c.code pc = .ok (.if_icmp cd o, 3)) (hc : if_icmp.holds cd x y = true) (ho : 0 ≤ (pc : Int) + o) (hp : ((pc : Int) + o).toNat = pc') (r : Rn p e below (T.setTop (mkF m pc' L S)) G) : Rn p e below (T.setTop (mkF m pc L (.int y :: .int x :: S))) G :=
  Rn.st (fun t q => XS.icmpYes X.here hx rfl rfl hd rfl hc ho hp q) r
theorem R.icmpNo (X : Stand p l e R s m args below meth c T locs cells slots) (hx : p.tables.exec = Jvm.exec) {cd : ClassFile.Cond} {x y : Int32} {o : Int} (hd : decode c.code pc = .ok (.if_icmp cd o, 3)) (hc : if_icmp.holds cd x y = false) (hp : pc + 3 = pc') (r : Rn p e below (T.setTop (mkF m pc' L (S))) G) : Rn p e below (T.setTop (mkF m pc L (.int y :: .int x :: S))) G := by
  subst hp; exact Rn.st (fun t q => XS.icmpNo X.here hx rfl hd rfl hc q) r
theorem R.goto (X : Stand p l e R s m args below meth c T locs cells slots) (hx : p.tables.exec = Jvm.exec)  {o : Int} (hd : decode c.code pc = .ok (.goto o, 3)) (ho : 0 ≤ (pc : Int) + o) (hp : ((pc : Int) + o).toNat = pc') (r : Rn p e below (T.setTop (mkF m pc' L S)) G) : Rn p e below (T.setTop (mkF m pc L (S))) G :=
  Rn.st (fun t q => XS.goto X.here hx rfl rfl hd ho hp q) r
end RSteps
section RBig
variable {p : Program} {l : Launch} {e : Env} {R : Room} {s : State} {m : MethodId} {args : Array Value} {below : List Frame} {meth : Method} {c : Code} {T : State} {locs : List Loc} {cells slots : Nat} {G : Outcome → State → Prop} {L L' : Array Slot} {S : List Value} {pc pc' : Nat} {Z : State} {a0 : Array Value} {h : Heap} {a : Addr} {own : String} {index : Nat}
theorem R.newP (X : Stand p l e R s m args below meth c T locs cells slots) (hx : p.tables.exec = Jvm.exec) (hZ : Z.Warmed39 s.vm) {aty : ArrayType} {ty : FieldType} (hty : newarray.typeOf aty = ty) (w : (Jvm.Cond.arrayClass ty).before a0 Z = true) (eT : T.heap = h) {n : Int32} (hn : ¬ n < 0) {cap : Nat} (hcap : n.toNatClampNeg ≤ cap) (hb : cap * 8 ≤ 536870912) {ad : String} (had : "[" ++ ty.toString = ad)
    (hd : decode c.code pc = .ok (.newarray aty, 2)) (hp : pc + 2 = pc') (hc : cells + 1 ≤ R.cells) (hl : slots + cap ≤ R.slots)
    (K : ∀ T' h' b k, b = h.size → Stand p l e R s m args below meth c T' locs (cells + 1) (slots + cap) → T'.heap = h' → Ext h h' → Exa Z h' b ad → Arh Z h' b k ty n [] [] (defaultValue ty) → Rn p e below (T'.setTop (mkF m pc' L (.ref b :: S))) G) : Rn p e below (T.setTop (mkF m pc L (.int n :: S))) G := by
  subst hp hty
  obtain ⟨T', h', k, X', e', E', A', EE, st⟩ := newPE X hx hZ w eT (g := mkF m pc L (.int n :: S)) rfl hd rfl hn hcap hb hc hl had
  exact Rn.st st (K T' h' _ k rfl X' e' E' EE (Arv.new A' hn).arh)
section Arr
variable {k : ClassId} {z : Int32} {hs : List (Int32 × Value)} {vs : List Value} {dv : Value} {j : Int32}
theorem R.alen (X : Stand p l e R s m args below meth c T locs cells slots) (hx : p.tables.exec = Jvm.exec) (hZ : Z.Warmed39 s.vm) (eT : T.heap = h) {ty : FieldType} (F : Arh Z h a k ty z hs vs dv) (hd : decode c.code pc = .ok (.arraylength, 1)) (hp : pc + 1 = pc') (r : Rn p e below (T.setTop (mkF m pc' L (.int z :: S))) G) : Rn p e below (T.setTop (mkF m pc L (.ref a :: S))) G := by
  subst hp
  obtain ⟨cl, Ar, qA, SA, NA, HA, GA⟩ := F
  exact Rn.st (fun t q => X.arraylength hx (by rw [eT]; exact Ar.1) (State.isArrayOf_alike hZ.alike Ar.2.1) (g := mkF m pc L (.ref a :: S)) rfl rfl hd _ (by rw [len_of SA NA]; exact q)) r
theorem R.daload (X : Stand p l e R s m args below meth c T locs cells slots) (hx : p.tables.exec = Jvm.exec) (hZ : Z.Warmed39 s.vm) (eT : T.heap = h) (F : Arh Z h a k .double z hs vs dv) (hb : ¬ j < 0 ∧ j < z) {v : Value} (hv : getH hs vs dv j.toNatClampNeg = v) (hd : decode c.code pc = .ok (.daload, 1)) (hp : pc + 1 = pc') (r : Rn p e below (T.setTop (mkF m pc' L (v :: S))) G) : Rn p e below (T.setTop (mkF m pc L (.int j :: .ref a :: S))) G := by
  subst hp
  obtain ⟨cl, Ar, qA, SA, NA, HA, GA⟩ := F
  have hin := inb_of SA hb
  exact Rn.st (fun t q => X.daload hx (by rw [eT]; exact Ar.1) (State.isArrayOf_alike hZ.alike Ar.2.1) Ar.2.2 hin (atH HA hin hv) (g := mkF m pc L (.int j :: .ref a :: S)) rfl rfl hd _ q) r
theorem R.iaload (X : Stand p l e R s m args below meth c T locs cells slots) (hx : p.tables.exec = Jvm.exec) (hZ : Z.Warmed39 s.vm) (eT : T.heap = h) (F : Arh Z h a k .int z hs vs dv) (hb : ¬ j < 0 ∧ j < z) {v : Value} (hv : getH hs vs dv j.toNatClampNeg = v) (hd : decode c.code pc = .ok (.iaload, 1)) (hp : pc + 1 = pc') (r : Rn p e below (T.setTop (mkF m pc' L (v :: S))) G) : Rn p e below (T.setTop (mkF m pc L (.int j :: .ref a :: S))) G := by
  subst hp
  obtain ⟨cl, Ar, qA, SA, NA, HA, GA⟩ := F
  have hin := inb_of SA hb
  exact Rn.st (fun t q => X.iaload hx (by rw [eT]; exact Ar.1) (State.isArrayOf_alike hZ.alike Ar.2.1) Ar.2.2 hin (atH HA hin hv) (g := mkF m pc L (.int j :: .ref a :: S)) rfl rfl hd _ q) r
theorem R.dastore (X : Stand p l e R s m args below meth c T locs cells slots) (hx : p.tables.exec = Jvm.exec) (hZ : Z.Warmed39 s.vm) (eT : T.heap = h) (F : Arh Z h a k .double z hs vs dv) (hb : ¬ j < 0 ∧ j < z) {x : UInt64} (hd : decode c.code pc = .ok (.dastore, 1)) (hp : pc + 1 = pc')
    (K : ∀ T' h', Stand p l e R s m args below meth c T' (locs ++ [⟨a, j.toNatClampNeg⟩]) cells slots → T'.heap = h' → Wr h h' a j.toNatClampNeg (.double x) → Arh Z h' a k .double z ((j, .double x) :: hs) vs dv → Rn p e below (T'.setTop (mkF m pc' L S)) G) : Rn p e below (T.setTop (mkF m pc L (.double x :: .int j :: .ref a :: S))) G := by
  subst hp
  obtain ⟨cl, Ar, qA, SA, NA, HA, GA⟩ := F
  have hin := inb_of SA hb
  obtain ⟨T', h', X', e', W', st⟩ := stD X hx hZ eT Ar (j := j) hin (g := mkF m pc L (.double x :: .int j :: .ref a :: S)) rfl rfl hd
  exact Rn.st st (K T' h' X' e' W' (Arh.push Ar qA SA NA HA GA rfl W' hin))
theorem R.iastore (X : Stand p l e R s m args below meth c T locs cells slots) (hx : p.tables.exec = Jvm.exec) (hZ : Z.Warmed39 s.vm) (eT : T.heap = h) (F : Arh Z h a k .int z hs vs dv) (hb : ¬ j < 0 ∧ j < z) {x : Int32} (hd : decode c.code pc = .ok (.iastore, 1)) (hp : pc + 1 = pc')
    (K : ∀ T' h', Stand p l e R s m args below meth c T' (locs ++ [⟨a, j.toNatClampNeg⟩]) cells slots → T'.heap = h' → Wr h h' a j.toNatClampNeg (.int x) → Arh Z h' a k .int z ((j, .int x) :: hs) vs dv → Rn p e below (T'.setTop (mkF m pc' L S)) G) : Rn p e below (T.setTop (mkF m pc L (.int x :: .int j :: .ref a :: S))) G := by
  subst hp
  obtain ⟨cl, Ar, qA, SA, NA, HA, GA⟩ := F
  have hin := inb_of SA hb
  obtain ⟨T', h', X', e', W', st⟩ := stI X hx hZ eT Ar (j := j) hin (g := mkF m pc L (.int x :: .int j :: .ref a :: S)) rfl rfl hd
  exact Rn.st st (K T' h' X' e' W' (Arh.push Ar qA SA NA HA GA rfl W' hin))
end Arr
theorem R.castY (X : Stand p l e R s m args below meth c T locs cells slots) (hx : p.tables.exec = Jvm.exec) (hZ : Z.Warmed39 s.vm) {C : String} (hown : s.vm.findClass own = some m.cls) (w : (Jvm.Cond.classLink own index C).before a0 Z = true) (eT : T.heap = h) (F : Ins Z h a C true) (hd : decode c.code pc = .ok (.checkcast index, 3)) (hp : pc + 3 = pc')
    (K : ∀ T', Stand p l e R s m args below meth c T' locs cells slots → T'.heap = h → Rn p e below (T'.setTop (mkF m pc' L (.ref a :: S))) G) : Rn p e below (T.setTop (mkF m pc L (.ref a :: S))) G := by
  subst hp
  obtain ⟨T', X', e', st⟩ := castY X hx hZ hown w eT F (g := mkF m pc L (.ref a :: S)) rfl rfl hd
  exact Rn.st st (K T' X' e')
section Calls
variable {y : MethodName} {bytes : ByteArray} {maxL : Nat} {ret : Option FieldType} {rm : Room} {as' : List Value} {Q : Option Value → Heap → List Loc → Prop} {S0 : List Value} {W : Nat}
theorem R.callS (X : Stand p l e R s m args below meth c T locs cells slots) (hx : p.tables.exec = Jvm.exec) (hZ : Z.Warmed39 s.vm) (hown : s.vm.findClass own = some m.cls) (w1 : (Jvm.Cond.methodLink own index y).before a0 Z = true) (w2 : (Jvm.Cond.static y).before a0 Z = true) (w3 : (Jvm.Cond.initialized y.cls).before a0 Z = true) (w4 : (Jvm.Cond.code y bytes maxL ret).before a0 Z = true) (hy : y.cls ≠ "java/lang/invoke/MethodHandle" ∧ y.cls ≠ "java/lang/invoke/VarHandle") (eT : T.heap = h)
    (hM : MetFree l y (head1 [Jvm.Cond.code y bytes maxL ret] rm) (fun a U => a = as'.toArray ∧ Z.Warmed39 U.vm ∧ U.heap = h) (fun _ _ _ _ _ => True) (fun _ U o U' => ∃ v L, o = .returned v ∧ Q v U'.heap L ∧ FrameEnd U o U' L rm.cells rm.slots))
    (hf : rm.frames + 1 ≤ R.frames) (hW : (S.map fun v => v.category).sum ≤ W) (hl : W + (maxL + 11) + rm.locals ≤ R.locals) (hsize : L.size = c.maxLocals) (hlen : ∀ sig, parseMethodDescriptor y.desc = some sig → as'.length = sig.parameters.length) (hst : S0 = as'.reverse ++ S) (hd : decode c.code pc = .ok (.invokestatic index, 3)) (hp : pc + 3 = pc') (hc : cells + rm.cells ≤ R.cells) (hs : slots + rm.slots ≤ R.slots)
    (K : ∀ v T' L1, Stand p l e R s m args below meth c T' (locs ++ L1) (cells + rm.cells) (slots + rm.slots) → Q v T'.heap L1 → Rn p e below (T'.setTop (mkF m pc' L (v.toList ++ S))) G) : Rn p e below (T.setTop (mkF m pc L S0)) G := by
  subst hp
  obtain ⟨v, vm1, ⟨T', L2, k', n'⟩, -, X', ⟨Lc, hQ, l1, y1, z1⟩, st⟩ := Jvm.LawKit.callS X hx (y := y) hown (mvT hZ w1) (mvT hZ w2) (mvT hZ w3) (mvT hZ w4) hy (backOf (W := W) hM hZ w4 w3 hf hl) (g := mkF m pc L S0) rfl hsize (argsL := as') (rest := S) hlen hst (by show 2 * 0 + _ ≤ W; rw [Nat.mul_zero, Nat.zero_add]; exact hW) hd (fun _ _ => ⟨rfl, eT, hc, hs⟩)
  dsimp only [Pt.U, Pt.locs, Pt.cells, Pt.slots] at X' l1 y1 z1 st hQ
  subst l1 y1 z1
  exact Rn.st st (K v T' Lc X' hQ)
end Calls
end RBig
/-- |x| is at most n, kept from omega's eyes -/
def own_ab (x : Int) (n : Nat) : Prop := x.natAbs ≤ n
theorem own_ab.mul {a b : Int} {A B : Nat} (ha : own_ab a A) (hb : own_ab b B) : own_ab (a * b) (A * B) := own_pb ha hb
theorem own_ab.add {a b : Int} {A B : Nat} (ha : own_ab a A) (hb : own_ab b B) : own_ab (a + b) (A + B) := Nat.le_trans (Int.natAbs_add_le a b) (Nat.add_le_add ha hb)
theorem own_ab.sub {a b : Int} {A B : Nat} (ha : own_ab a A) (hb : own_ab b B) : own_ab (a - b) (A + B) := Nat.le_trans (Int.natAbs_sub_le a b) (Nat.add_le_add ha hb)
theorem own_ab.lt {a : Int} {A : Nat} (ha : own_ab a A) (h : A < 2 ^ 53) : a.natAbs < 2 ^ 53 := Nat.lt_of_le_of_lt ha h
theorem own_one (a : Int) : a * ((2 ^ 0 : Nat) : Int) = a := by simp
theorem own_dl {a r : Int32} (h : (((a &&& (255 : Int32)) % (3 : Int32)) + (1 : Int32)) = r) : r = (1 : Int32) ∨ r = (2 : Int32) ∨ r = (3 : Int32) := by
  have b := own_masked (a := a) (m := (255 : Int32)) (k := (3 : Int32)) (d := 3) (by decide) (by decide) (by decide) rfl
  have e1 : (1 : Int32).toInt = 1 := by decide
  have er : r.toInt = ((a &&& (255 : Int32)) % (3 : Int32)).toInt + 1 := by rw [← h, own_addI] <;> rw [e1]; omega
  have k : r.toInt = 1 ∨ r.toInt = 2 ∨ r.toInt = 3 := by omega
  rcases k with k | k | k
  · exact Or.inl (Int32.toInt_inj.mp (k.trans (by decide)))
  · exact Or.inr (Or.inl (Int32.toInt_inj.mp (k.trans (by decide))))
  · exact Or.inr (Or.inr (Int32.toInt_inj.mp (k.trans (by decide))))
theorem own_03 {a r : Int32} (h : (a &&& (3 : Int32)) = r) : r = (0 : Int32) ∨ r = (1 : Int32) ∨ r = (2 : Int32) ∨ r = (3 : Int32) := by
  have b := c_and a (3 : Int32) (by decide)
  rw [h] at b
  have e3 : (3 : Int32).toInt = 3 := by decide
  have k : r.toInt = 0 ∨ r.toInt = 1 ∨ r.toInt = 2 ∨ r.toInt = 3 := by omega
  rcases k with k | k | k | k
  · exact Or.inl (Int32.toInt_inj.mp (k.trans (by decide)))
  · exact Or.inr (Or.inl (Int32.toInt_inj.mp (k.trans (by decide))))
  · exact Or.inr (Or.inr (Or.inl (Int32.toInt_inj.mp (k.trans (by decide)))))
  · exact Or.inr (Or.inr (Or.inr (Int32.toInt_inj.mp (k.trans (by decide)))))
theorem own_lead {a r : Int32} (h : ((1 : Int32) <<< ((a &&& (3 : Int32)) &&& 31)) = r) : 1 ≤ r.toInt ∧ r.toInt ≤ 8 := by
  rcases own_03 (a := a) rfl with q | q | q | q <;> rw [q] at h <;> rw [← h] <;> decide
theorem own_leadn {r : Int32} (h : 1 ≤ r.toInt ∧ r.toInt ≤ 8) : (-r).toInt = -r.toInt := by
  rw [Int32.toInt_neg, Int.bmod_eq_of_le (by omega) (by omega)]
theorem own_byte {a r : Int32} (h : a.toInt8.toInt32 = r) : r.toInt.natAbs ≤ 128 := by have b := c_i2b a; rw [h] at b; omega
theorem own_z0 : (0 : Int32).toInt.natAbs ≤ 128 := by decide
theorem own_zi : (0 : Int32).toInt = 0 := by decide
/-- the int of a coefficient -/
theorem own_cf {a b c d e f r v : Int32} (ha : a.toInt.natAbs ≤ 128) (hbb : b.toInt.natAbs ≤ 128) (hc : c.toInt.natAbs ≤ 128) (hd : d.toInt.natAbs ≤ 128) (he : e.toInt.natAbs ≤ 128) (hf : f.toInt.natAbs ≤ 128) (hr : r.toInt.natAbs ≤ 128) (h : ((((a * b) + (c * d)) + (e * f)) + r) = v) : v.toInt = a.toInt * b.toInt + c.toInt * d.toInt + e.toInt * f.toInt + r.toInt := by
  have p1 := own_pb ha hbb
  have p2 := own_pb hc hd
  have p3 := own_pb he hf
  have t1 : (a * b).toInt = a.toInt * b.toInt := own_mulI (by omega)
  have t2 : (c * d).toInt = c.toInt * d.toInt := own_mulI (by omega)
  have t3 : (e * f).toInt = e.toInt * f.toInt := own_mulI (by omega)
  have s1 : ((a * b) + (c * d)).toInt = a.toInt * b.toInt + c.toInt * d.toInt := by rw [own_addI] <;> rw [t1, t2]; omega
  have s2 : (((a * b) + (c * d)) + (e * f)).toInt = a.toInt * b.toInt + c.toInt * d.toInt + e.toInt * f.toInt := by rw [own_addI] <;> rw [s1, t3]; omega
  rw [← h, own_addI] <;> rw [s2]; omega
theorem own_m {a z r : Int32} (hz : z = (1 : Int32) ∨ z = (2 : Int32) ∨ z = (3 : Int32)) (h : ((a &&& (3 : Int32)) % z) = r) : 0 ≤ r.toInt ∧ r.toInt < z.toInt := own_masked (by decide) (by rcases hz with rfl | rfl | rfl <;> decide) rfl h
theorem own_nneg {n : Int32} (h : 0 ≤ n.toInt) : ¬ n < 0 := by
  rw [Int32.lt_iff_toInt_lt]
  have : (0 : Int32).toInt = 0 := by decide
  omega
theorem d4_0 : decode method_3_code 0 = .ok (.iload_n 1, 1) := by decide +kernel
theorem d4_1 : decode method_3_code 1 = .ok (.ifCond .lt 15, 3) := by decide +kernel
theorem d4_16 : decode method_3_code 16 = .ok (.iconst 0, 1) := by decide +kernel
theorem d4_17 : decode method_3_code 17 = .ok (.ireturn, 1) := by decide +kernel
theorem d4_4 : decode method_3_code 4 = .ok (.iload_n 1, 1) := by decide +kernel
theorem d4_5 : decode method_3_code 5 = .ok (.aload_n 0, 1) := by decide +kernel
theorem d4_6 : decode method_3_code 6 = .ok (.arraylength, 1) := by decide +kernel
theorem d4_7 : decode method_3_code 7 = .ok (.if_icmp .ge 9, 3) := by decide +kernel
theorem d4_10 : decode method_3_code 10 = .ok (.aload_n 0, 1) := by decide +kernel
theorem d4_11 : decode method_3_code 11 = .ok (.iload_n 1, 1) := by decide +kernel
theorem d4_12 : decode method_3_code 12 = .ok (.iaload, 1) := by decide +kernel
theorem d4_13 : decode method_3_code 13 = .ok (.goto 4, 3) := by decide +kernel
theorem pn_0 : plainName "com/example/deseason/deseason/arima/PolynomialsQuotientPinLaw" = true := by first | (simp [plainName, overriddenIn]; done) | decide +kernel
theorem ef_4 (m : MethodId) (x0 : Addr) (x1 : Int32) : entryFrame m #[(.ref x0), (.int x1)] 2 = mkF m 0 #[.val (.ref x0), .val (.int x1)] [] := by first | (simp [entryFrame, mkF, argsToLocals, Value.category]; done) | rfl
def Q4 (Z : State) (a0 : Addr) (p1 : Int32) (ka : ClassId) (z : Int32) (ha : List (Int32 × Value)) (x : Int32) (h0 : Heap) (n0 : Nat) (vQ : Option Value) (hQ_ : Heap) (LQ : List Loc) : Prop := vQ = some (.int x) ∧ Fr n0 LQ ∧ hQ_ = h0
def Fn4 (Z : State) (a0 : Addr) (p1 : Int32) (ka : ClassId) (z : Int32) (ha : List (Int32 × Value)) (x : Int32) (h0 : Heap) (n0 : Nat) (sQ : State) (oQ : Outcome) (UQ : State) : Prop := ∃ vQ LQ, oQ = .returned vQ ∧ Q4 Z a0 p1 ka z ha x h0 n0 vQ UQ.heap LQ ∧ FrameEnd sQ oQ UQ LQ ({ frames := 0, cells := 0, slots := 0, locals := 0 } : Room).cells ({ frames := 0, cells := 0, slots := 0, locals := 0 } : Room).slots
set_option maxRecDepth 65536 in
set_option maxHeartbeats 40000000 in
theorem rm4 (l : Launch) (Z : State) (aZ : Array Value) (hw : ∀ d ∈ tables_1, d.before aZ Z = true) (ws : List Jvm.Cond) (a0 : Addr) (p1 : Int32) (ka : ClassId) (z : Int32) (ha : List (Int32 × Value)) (x : Int32) (h0 : Heap) (n0 : Nat) (Z0 : n0 ≤ h0.size) (V_a0 : Arh Z h0 a0 ka .int z ha [] (.int (0 : Int32))) (rd : ¬ p1 < (0 : Int32) → p1 < z → getH ha [] (.int (0 : Int32)) (p1).toNatClampNeg = (.int x)) (rz : (p1 < (0 : Int32) ∨ ¬ p1 < z) → x = (0 : Int32)) :
    MetFree l (⟨"com/example/deseason/deseason/arima/PolynomialsQuotientPinLaw", "at", "([II)I"⟩ : MethodName) (head1 (Jvm.Cond.code (⟨"com/example/deseason/deseason/arima/PolynomialsQuotientPinLaw", "at", "([II)I"⟩ : MethodName) method_3_code 2 (some .int) :: ws) ({ frames := 0, cells := 0, slots := 0, locals := 0 } : Room)) (fun aQ UQ => aQ = #[(.ref a0), (.int p1)] ∧ Z.Warmed39 UQ.vm ∧ UQ.heap = h0) (fun _ _ _ _ _ => True) (fun _ UQ oQ UR => ∃ vQ LQ, oQ = .returned vQ ∧ Q4 Z a0 p1 ka z ha x h0 n0 vQ UR.heap LQ ∧ FrameEnd UQ oQ UR LQ ({ frames := 0, cells := 0, slots := 0, locals := 0 } : Room).cells ({ frames := 0, cells := 0, slots := 0, locals := 0 } : Room).slots) := by
  refine MetFree.of_bodySF (plainFor_of_name pn_0) hisR ?_
  intro p e s m args below meth c s₁ Bd hml0 hP hK
  obtain ⟨rfl, hZ, hh⟩ := hP
  have hx := Bd.exec
  have hby := Bd.bytes
  have hml : c.maxLocals = 2 := hml0
  have hown : s.vm.findClass "com/example/deseason/deseason/arima/PolynomialsQuotientPinLaw" = some m.cls := findClass_of_methodNamed Bd.named
  have hnm := (name_of_methodNamed Bd.named Bd.method).1
  have X0 : Stand p l e ({ frames := 0, cells := 0, slots := 0, locals := 0 } : Room) s m #[(.ref a0), (.int p1)] below meth c s₁ [] 0 0 := Stand.of_body Bd
  have e0 : s₁.heap = h0 := by rw [← hh, Bd.state]; rfl
  have N0 := Fr.nil n0
  have K0 : Keep h0 h0 [] := Keep.refl _ _
  have first_ : Rn p e below (s₁.setTop (mkF m 0 #[.val (.ref a0), .val (.int p1)] [])) (Fn4 Z a0 p1 ka z ha x h0 n0 s) := by
    generalize hG : (Fn4 Z a0 p1 ka z ha x h0 n0 s) = G
    refine R.iloadN X0 hx (hb hby d4_0) rfl (pc' := 1) rfl ?_
    by_cases hc1 : p1 < (0 : Int32)
    · refine R.ifYes X0 hx (hb hby d4_1) (tlt hc1).1 (by decide) (pc' := 16) (by decide) ?_
      refine R.iconst X0 hx (hb hby d4_16) (v := (0 : Int32)) (by decide) (pc' := 17) rfl ?_
      rw [← hG]
      exact Rn.ret X0 (BodyLoose.notSynchronized Bd) (v := some (.int (0 : Int32))) (fun h => by rw [Bd.returns] at h; cases h) (Q := Q4 Z a0 p1 ka z ha x h0 n0) e0 (fun fs hr => retOut X0 hx (t := .int) Bd.returns rfl (Or.inl ⟨rfl, Or.inl rfl, _, rfl⟩) (hb hby d4_17) hr) ⟨(by rw [rz (Or.inl hc1)]), N0, rfl⟩ (by decide) (by decide)
    · refine R.ifNo X0 hx (hb hby d4_1) (flt hc1).1 (pc' := 4) rfl ?_
      refine R.iloadN X0 hx (hb hby d4_4) rfl (pc' := 5) rfl ?_
      refine R.aloadN X0 hx (hb hby d4_5) rfl rfl (pc' := 6) rfl ?_
      refine R.alen X0 hx hZ e0 V_a0 (hb hby d4_6) (pc' := 7) rfl ?_
      by_cases hc7 : p1 < z
      · refine R.icmpNo X0 hx (hb hby d4_7) (tlt hc7).2.1 (pc' := 10) rfl ?_
        refine R.aloadN X0 hx (hb hby d4_10) rfl rfl (pc' := 11) rfl ?_
        refine R.iloadN X0 hx (hb hby d4_11) rfl (pc' := 12) rfl ?_
        refine R.iaload X0 hx hZ e0 V_a0 (⟨hc1, hc7⟩ : ¬ p1 < 0 ∧ p1 < z) (v := (.int x)) (rd hc1 hc7) (hb hby d4_12) (pc' := 13) rfl ?_
        refine R.goto X0 hx (hb hby d4_13) (by decide) (pc' := 17) (by decide) ?_
        rw [← hG]
        exact Rn.ret X0 (BodyLoose.notSynchronized Bd) (v := some (.int x)) (fun h => by rw [Bd.returns] at h; cases h) (Q := Q4 Z a0 p1 ka z ha x h0 n0) e0 (fun fs hr => retOut X0 hx (t := .int) Bd.returns rfl (Or.inl ⟨rfl, Or.inl rfl, _, rfl⟩) (hb hby d4_17) hr) ⟨rfl, N0, rfl⟩ (by decide) (by decide)
      · refine R.icmpYes X0 hx (hb hby d4_7) (flt hc7).2.1 (by decide) (pc' := 16) (by decide) ?_
        refine R.iconst X0 hx (hb hby d4_16) (v := (0 : Int32)) (by decide) (pc' := 17) rfl ?_
        rw [← hG]
        exact Rn.ret X0 (BodyLoose.notSynchronized Bd) (v := some (.int (0 : Int32))) (fun h => by rw [Bd.returns] at h; cases h) (Q := Q4 Z a0 p1 ka z ha x h0 n0) e0 (fun fs hr => retOut X0 hx (t := .int) Bd.returns rfl (Or.inl ⟨rfl, Or.inl rfl, _, rfl⟩) (hb hby d4_17) hr) ⟨(by rw [rz (Or.inr hc7)]), N0, rfl⟩ (by decide) (by decide)
  exact (Rn.st (fun t k => castTop (ef_4 m a0 p1) k) first_ : Rn p e below (s₁.setTop (entryFrame m #[(.ref a0), (.int p1)] 2)) (Fn4 Z a0 p1 ka z ha x h0 n0 s))
theorem d3_0 : decode method_4_code 0 = .ok (.aload_n 0, 1) := by decide +kernel
theorem d3_1 : decode method_4_code 1 = .ok (.iconst 0, 1) := by decide +kernel
theorem d3_2 : decode method_4_code 2 = .ok (.invokestatic 27, 3) := by decide +kernel
theorem pd_0 : parseMethodDescriptor "([II)I" = some ⟨[(.array .int), .int], some .int⟩ := by decide +kernel
abbrev mY0 : MethodName := (⟨"com/example/deseason/deseason/arima/PolynomialsQuotientPinLaw", "at", "([II)I"⟩ : MethodName)
theorem d3_5 : decode method_4_code 5 = .ok (.aload_n 1, 1) := by decide +kernel
theorem d3_6 : decode method_4_code 6 = .ok (.iload_n 3, 1) := by decide +kernel
theorem d3_7 : decode method_4_code 7 = .ok (.invokestatic 27, 3) := by decide +kernel
theorem d3_10 : decode method_4_code 10 = .ok (.imul, 1) := by decide +kernel
theorem d3_11 : decode method_4_code 11 = .ok (.aload_n 0, 1) := by decide +kernel
theorem d3_12 : decode method_4_code 12 = .ok (.iconst 1, 1) := by decide +kernel
theorem d3_13 : decode method_4_code 13 = .ok (.invokestatic 27, 3) := by decide +kernel
theorem d3_16 : decode method_4_code 16 = .ok (.aload_n 1, 1) := by decide +kernel
theorem d3_17 : decode method_4_code 17 = .ok (.iload_n 3, 1) := by decide +kernel
theorem d3_18 : decode method_4_code 18 = .ok (.iconst 1, 1) := by decide +kernel
theorem d3_19 : decode method_4_code 19 = .ok (.isub, 1) := by decide +kernel
theorem d3_20 : decode method_4_code 20 = .ok (.invokestatic 27, 3) := by decide +kernel
theorem d3_23 : decode method_4_code 23 = .ok (.imul, 1) := by decide +kernel
theorem d3_24 : decode method_4_code 24 = .ok (.iadd, 1) := by decide +kernel
theorem d3_25 : decode method_4_code 25 = .ok (.aload_n 0, 1) := by decide +kernel
theorem d3_26 : decode method_4_code 26 = .ok (.iconst 2, 1) := by decide +kernel
theorem d3_27 : decode method_4_code 27 = .ok (.invokestatic 27, 3) := by decide +kernel
theorem d3_30 : decode method_4_code 30 = .ok (.aload_n 1, 1) := by decide +kernel
theorem d3_31 : decode method_4_code 31 = .ok (.iload_n 3, 1) := by decide +kernel
theorem d3_32 : decode method_4_code 32 = .ok (.iconst 2, 1) := by decide +kernel
theorem d3_33 : decode method_4_code 33 = .ok (.isub, 1) := by decide +kernel
theorem d3_34 : decode method_4_code 34 = .ok (.invokestatic 27, 3) := by decide +kernel
theorem d3_37 : decode method_4_code 37 = .ok (.imul, 1) := by decide +kernel
theorem d3_38 : decode method_4_code 38 = .ok (.iadd, 1) := by decide +kernel
theorem d3_39 : decode method_4_code 39 = .ok (.aload_n 2, 1) := by decide +kernel
theorem d3_40 : decode method_4_code 40 = .ok (.iload_n 3, 1) := by decide +kernel
theorem d3_41 : decode method_4_code 41 = .ok (.invokestatic 27, 3) := by decide +kernel
theorem d3_44 : decode method_4_code 44 = .ok (.iadd, 1) := by decide +kernel
theorem d3_45 : decode method_4_code 45 = .ok (.ireturn, 1) := by decide +kernel
theorem ef_cf0 (m : MethodId) (x0 : Addr) (x1 : Addr) (x2 : Addr) : entryFrame m #[(.ref x0), (.ref x1), (.ref x2), (.int (0 : Int32))] 4 = mkF m 0 #[.val (.ref x0), .val (.ref x1), .val (.ref x2), .val (.int (0 : Int32))] [] := by first | (simp [entryFrame, mkF, argsToLocals, Value.category]; done) | rfl
def Qcf0 (Z : State) (a0 : Addr) (a1 : Addr) (a2 : Addr) (kq : ClassId) (kd : ClassId) (kr : ClassId) (hq : List (Int32 × Value)) (hd_ : List (Int32 × Value)) (hr_ : List (Int32 × Value)) (q0 : Int32) (q1 : Int32) (q2 : Int32) (D0 : Int32) (D1 : Int32) (D2 : Int32) (R0 : Int32) (R1 : Int32) (h0 : Heap) (n0 : Nat) (vQ : Option Value) (hQ_ : Heap) (LQ : List Loc) : Prop := vQ = some (.int ((((q0 * D0) + (q1 * (0 : Int32))) + (q2 * (0 : Int32))) + R0)) ∧ Fr n0 LQ ∧ hQ_ = h0
def Fncf0 (Z : State) (a0 : Addr) (a1 : Addr) (a2 : Addr) (kq : ClassId) (kd : ClassId) (kr : ClassId) (hq : List (Int32 × Value)) (hd_ : List (Int32 × Value)) (hr_ : List (Int32 × Value)) (q0 : Int32) (q1 : Int32) (q2 : Int32) (D0 : Int32) (D1 : Int32) (D2 : Int32) (R0 : Int32) (R1 : Int32) (h0 : Heap) (n0 : Nat) (sQ : State) (oQ : Outcome) (UQ : State) : Prop := ∃ vQ LQ, oQ = .returned vQ ∧ Qcf0 Z a0 a1 a2 kq kd kr hq hd_ hr_ q0 q1 q2 D0 D1 D2 R0 R1 h0 n0 vQ UQ.heap LQ ∧ FrameEnd sQ oQ UQ LQ ({ frames := 1, cells := 0, slots := 0, locals := 15 } : Room).cells ({ frames := 1, cells := 0, slots := 0, locals := 15 } : Room).slots
set_option maxRecDepth 65536 in
set_option maxHeartbeats 40000000 in
theorem rmcf0 (l : Launch) (Z : State) (aZ : Array Value) (hw : ∀ d ∈ tables_1, d.before aZ Z = true) (ws : List Jvm.Cond) (a0 : Addr) (a1 : Addr) (a2 : Addr) (kq : ClassId) (kd : ClassId) (kr : ClassId) (hq : List (Int32 × Value)) (hd_ : List (Int32 × Value)) (hr_ : List (Int32 × Value)) (q0 : Int32) (q1 : Int32) (q2 : Int32) (D0 : Int32) (D1 : Int32) (D2 : Int32) (R0 : Int32) (R1 : Int32) (h0 : Heap) (n0 : Nat) (Z0 : n0 ≤ h0.size) (V_a0 : Arh Z h0 a0 kq .int (3 : Int32) hq [] (.int (0 : Int32))) (V_a1 : Arh Z h0 a1 kd .int (3 : Int32) hd_ [] (.int (0 : Int32))) (V_a2 : Arh Z h0 a2 kr .int (2 : Int32) hr_ [] (.int (0 : Int32))) (rq0 : getH hq [] (.int (0 : Int32)) ((0 : Int32)).toNatClampNeg = (.int q0)) (rq1 : getH hq [] (.int (0 : Int32)) ((1 : Int32)).toNatClampNeg = (.int q1)) (rq2 : getH hq [] (.int (0 : Int32)) ((2 : Int32)).toNatClampNeg = (.int q2)) (rd0 : getH hd_ [] (.int (0 : Int32)) ((0 : Int32)).toNatClampNeg = (.int D0)) (rd1 : getH hd_ [] (.int (0 : Int32)) ((1 : Int32)).toNatClampNeg = (.int D1)) (rd2 : getH hd_ [] (.int (0 : Int32)) ((2 : Int32)).toNatClampNeg = (.int D2)) (rr0 : getH hr_ [] (.int (0 : Int32)) ((0 : Int32)).toNatClampNeg = (.int R0)) (rr1 : getH hr_ [] (.int (0 : Int32)) ((1 : Int32)).toNatClampNeg = (.int R1)) :
    MetFree l (⟨"com/example/deseason/deseason/arima/PolynomialsQuotientPinLaw", "coef", "([I[I[II)I"⟩ : MethodName) (head1 (Jvm.Cond.code (⟨"com/example/deseason/deseason/arima/PolynomialsQuotientPinLaw", "coef", "([I[I[II)I"⟩ : MethodName) method_4_code 4 (some .int) :: ws) ({ frames := 1, cells := 0, slots := 0, locals := 15 } : Room)) (fun aQ UQ => aQ = #[(.ref a0), (.ref a1), (.ref a2), (.int (0 : Int32))] ∧ Z.Warmed39 UQ.vm ∧ UQ.heap = h0) (fun _ _ _ _ _ => True) (fun _ UQ oQ UR => ∃ vQ LQ, oQ = .returned vQ ∧ Qcf0 Z a0 a1 a2 kq kd kr hq hd_ hr_ q0 q1 q2 D0 D1 D2 R0 R1 h0 n0 vQ UR.heap LQ ∧ FrameEnd UQ oQ UR LQ ({ frames := 1, cells := 0, slots := 0, locals := 15 } : Room).cells ({ frames := 1, cells := 0, slots := 0, locals := 15 } : Room).slots) := by
  refine MetFree.of_bodySF (plainFor_of_name pn_0) hisR ?_
  intro p e s m args below meth c s₁ Bd hml0 hP hK
  obtain ⟨rfl, hZ, hh⟩ := hP
  have hx := Bd.exec
  have hby := Bd.bytes
  have hml : c.maxLocals = 4 := hml0
  have hown : s.vm.findClass "com/example/deseason/deseason/arima/PolynomialsQuotientPinLaw" = some m.cls := findClass_of_methodNamed Bd.named
  have hnm := (name_of_methodNamed Bd.named Bd.method).1
  have X0 : Stand p l e ({ frames := 1, cells := 0, slots := 0, locals := 15 } : Room) s m #[(.ref a0), (.ref a1), (.ref a2), (.int (0 : Int32))] below meth c s₁ [] 0 0 := Stand.of_body Bd
  have e0 : s₁.heap = h0 := by rw [← hh, Bd.state]; rfl
  have N0 := Fr.nil n0
  have K0 : Keep h0 h0 [] := Keep.refl _ _
  have w_8 := hw _ (List.mem_of_getElem? (i := 8) rfl)
  have w_13 := hw _ (List.mem_of_getElem? (i := 13) rfl)
  have w_14 := hw _ (List.mem_of_getElem? (i := 14) rfl)
  have w_15 := hw _ (List.mem_of_getElem? (i := 15) rfl)
  have first_ : Rn p e below (s₁.setTop (mkF m 0 #[.val (.ref a0), .val (.ref a1), .val (.ref a2), .val (.int (0 : Int32))] [])) (Fncf0 Z a0 a1 a2 kq kd kr hq hd_ hr_ q0 q1 q2 D0 D1 D2 R0 R1 h0 n0 s) := by
    generalize hG : (Fncf0 Z a0 a1 a2 kq kd kr hq hd_ hr_ q0 q1 q2 D0 D1 D2 R0 R1 h0 n0 s) = G
    refine R.aloadN X0 hx (hb hby d3_0) rfl rfl (pc' := 1) rfl ?_
    refine R.iconst X0 hx (hb hby d3_1) (v := (0 : Int32)) (by decide) (pc' := 2) rfl ?_
    refine R.callS X0 hx hZ (y := mY0) hown w_13 w_14 w_8 w_15 (by decide) e0 (rm4 l Z aZ hw [] a0 (0 : Int32) kq (3 : Int32) hq q0 h0 n0 Z0 V_a0 (fun _ _ => rq0) (fun q => absurd q (by decide))) (by decide) (W := 0) (Nat.le_of_eq rfl) (by decide) (by rw [hml]; rfl) (lenOf pd_0 rfl) rfl (hb hby d3_2) (pc' := 5) rfl (by decide) (by decide) ?_; intro v1 T1 L1 X1 hQ1
    obtain ⟨rfl, N1q, e1⟩ := hQ1
    have N1 := Fr.app N0 N1q
    refine R.aloadN X1 hx (hb hby d3_5) rfl rfl (pc' := 6) rfl ?_
    refine R.iloadN X1 hx (hb hby d3_6) rfl (pc' := 7) rfl ?_
    refine R.callS X1 hx hZ (y := mY0) hown w_13 w_14 w_8 w_15 (by decide) e1 (rm4 l Z aZ hw [] a1 (0 : Int32) kd (3 : Int32) hd_ D0 h0 n0 Z0 V_a1 (fun _ _ => rd0) (fun q => absurd q (by decide))) (by decide) (W := 1) (Nat.le_of_eq rfl) (by decide) (by rw [hml]; rfl) (lenOf pd_0 rfl) rfl (hb hby d3_7) (pc' := 10) rfl (by decide) (by decide) ?_; intro v2 T2 L2 X2 hQ2
    obtain ⟨rfl, N2q, e2⟩ := hQ2
    have N2 := Fr.app N1 N2q
    refine R.imul X2 hx (hb hby d3_10) rfl (pc' := 11) rfl ?_
    refine R.aloadN X2 hx (hb hby d3_11) rfl rfl (pc' := 12) rfl ?_
    refine R.iconst X2 hx (hb hby d3_12) (v := (1 : Int32)) (by decide) (pc' := 13) rfl ?_
    refine R.callS X2 hx hZ (y := mY0) hown w_13 w_14 w_8 w_15 (by decide) e2 (rm4 l Z aZ hw [] a0 (1 : Int32) kq (3 : Int32) hq q1 h0 n0 Z0 V_a0 (fun _ _ => rq1) (fun q => absurd q (by decide))) (by decide) (W := 1) (Nat.le_of_eq rfl) (by decide) (by rw [hml]; rfl) (lenOf pd_0 rfl) rfl (hb hby d3_13) (pc' := 16) rfl (by decide) (by decide) ?_; intro v3 T3 L3 X3 hQ3
    obtain ⟨rfl, N3q, e3⟩ := hQ3
    have N3 := Fr.app N2 N3q
    refine R.aloadN X3 hx (hb hby d3_16) rfl rfl (pc' := 17) rfl ?_
    refine R.iloadN X3 hx (hb hby d3_17) rfl (pc' := 18) rfl ?_
    refine R.iconst X3 hx (hb hby d3_18) (v := (1 : Int32)) (by decide) (pc' := 19) rfl ?_
    refine R.isub X3 hx (hb hby d3_19) (v := (-1 : Int32)) (by decide) (pc' := 20) rfl ?_
    refine R.callS X3 hx hZ (y := mY0) hown w_13 w_14 w_8 w_15 (by decide) e3 (rm4 l Z aZ hw [] a1 (-1 : Int32) kd (3 : Int32) hd_ (0 : Int32) h0 n0 Z0 V_a1 (fun a b => absurd (And.intro a b) (by decide)) (fun _ => rfl)) (by decide) (W := 2) (Nat.le_of_eq rfl) (by decide) (by rw [hml]; rfl) (lenOf pd_0 rfl) rfl (hb hby d3_20) (pc' := 23) rfl (by decide) (by decide) ?_; intro v4 T4 L4 X4 hQ4
    obtain ⟨rfl, N4q, e4⟩ := hQ4
    have N4 := Fr.app N3 N4q
    refine R.imul X4 hx (hb hby d3_23) rfl (pc' := 24) rfl ?_
    refine R.iadd X4 hx (hb hby d3_24) rfl (pc' := 25) rfl ?_
    refine R.aloadN X4 hx (hb hby d3_25) rfl rfl (pc' := 26) rfl ?_
    refine R.iconst X4 hx (hb hby d3_26) (v := (2 : Int32)) (by decide) (pc' := 27) rfl ?_
    refine R.callS X4 hx hZ (y := mY0) hown w_13 w_14 w_8 w_15 (by decide) e4 (rm4 l Z aZ hw [] a0 (2 : Int32) kq (3 : Int32) hq q2 h0 n0 Z0 V_a0 (fun _ _ => rq2) (fun q => absurd q (by decide))) (by decide) (W := 1) (Nat.le_of_eq rfl) (by decide) (by rw [hml]; rfl) (lenOf pd_0 rfl) rfl (hb hby d3_27) (pc' := 30) rfl (by decide) (by decide) ?_; intro v5 T5 L5 X5 hQ5
    obtain ⟨rfl, N5q, e5⟩ := hQ5
    have N5 := Fr.app N4 N5q
    refine R.aloadN X5 hx (hb hby d3_30) rfl rfl (pc' := 31) rfl ?_
    refine R.iloadN X5 hx (hb hby d3_31) rfl (pc' := 32) rfl ?_
    refine R.iconst X5 hx (hb hby d3_32) (v := (2 : Int32)) (by decide) (pc' := 33) rfl ?_
    refine R.isub X5 hx (hb hby d3_33) (v := (-2 : Int32)) (by decide) (pc' := 34) rfl ?_
    refine R.callS X5 hx hZ (y := mY0) hown w_13 w_14 w_8 w_15 (by decide) e5 (rm4 l Z aZ hw [] a1 (-2 : Int32) kd (3 : Int32) hd_ (0 : Int32) h0 n0 Z0 V_a1 (fun a b => absurd (And.intro a b) (by decide)) (fun _ => rfl)) (by decide) (W := 2) (Nat.le_of_eq rfl) (by decide) (by rw [hml]; rfl) (lenOf pd_0 rfl) rfl (hb hby d3_34) (pc' := 37) rfl (by decide) (by decide) ?_; intro v6 T6 L6 X6 hQ6
    obtain ⟨rfl, N6q, e6⟩ := hQ6
    have N6 := Fr.app N5 N6q
    refine R.imul X6 hx (hb hby d3_37) rfl (pc' := 38) rfl ?_
    refine R.iadd X6 hx (hb hby d3_38) rfl (pc' := 39) rfl ?_
    refine R.aloadN X6 hx (hb hby d3_39) rfl rfl (pc' := 40) rfl ?_
    refine R.iloadN X6 hx (hb hby d3_40) rfl (pc' := 41) rfl ?_
    refine R.callS X6 hx hZ (y := mY0) hown w_13 w_14 w_8 w_15 (by decide) e6 (rm4 l Z aZ hw [] a2 (0 : Int32) kr (2 : Int32) hr_ R0 h0 n0 Z0 V_a2 (fun _ _ => rr0) (fun q => absurd q (by decide))) (by decide) (W := 1) (Nat.le_of_eq rfl) (by decide) (by rw [hml]; rfl) (lenOf pd_0 rfl) rfl (hb hby d3_41) (pc' := 44) rfl (by decide) (by decide) ?_; intro v7 T7 L7 X7 hQ7
    obtain ⟨rfl, N7q, e7⟩ := hQ7
    have N7 := Fr.app N6 N7q
    refine R.iadd X7 hx (hb hby d3_44) rfl (pc' := 45) rfl ?_
    rw [← hG]
    exact Rn.ret X7 (BodyLoose.notSynchronized Bd) (v := some (.int ((((q0 * D0) + (q1 * (0 : Int32))) + (q2 * (0 : Int32))) + R0))) (fun h => by rw [Bd.returns] at h; cases h) (Q := Qcf0 Z a0 a1 a2 kq kd kr hq hd_ hr_ q0 q1 q2 D0 D1 D2 R0 R1 h0 n0) e7 (fun fs hr => retOut X7 hx (t := .int) Bd.returns rfl (Or.inl ⟨rfl, Or.inl rfl, _, rfl⟩) (hb hby d3_45) hr) ⟨rfl, N7, rfl⟩ (by decide) (by decide)
  exact (Rn.st (fun t k => castTop (ef_cf0 m a0 a1 a2) k) first_ : Rn p e below (s₁.setTop (entryFrame m #[(.ref a0), (.ref a1), (.ref a2), (.int (0 : Int32))] 4)) (Fncf0 Z a0 a1 a2 kq kd kr hq hd_ hr_ q0 q1 q2 D0 D1 D2 R0 R1 h0 n0 s))
theorem ef_cf1 (m : MethodId) (x0 : Addr) (x1 : Addr) (x2 : Addr) : entryFrame m #[(.ref x0), (.ref x1), (.ref x2), (.int (1 : Int32))] 4 = mkF m 0 #[.val (.ref x0), .val (.ref x1), .val (.ref x2), .val (.int (1 : Int32))] [] := by first | (simp [entryFrame, mkF, argsToLocals, Value.category]; done) | rfl
def Qcf1 (Z : State) (a0 : Addr) (a1 : Addr) (a2 : Addr) (kq : ClassId) (kd : ClassId) (kr : ClassId) (hq : List (Int32 × Value)) (hd_ : List (Int32 × Value)) (hr_ : List (Int32 × Value)) (q0 : Int32) (q1 : Int32) (q2 : Int32) (D0 : Int32) (D1 : Int32) (D2 : Int32) (R0 : Int32) (R1 : Int32) (h0 : Heap) (n0 : Nat) (vQ : Option Value) (hQ_ : Heap) (LQ : List Loc) : Prop := vQ = some (.int ((((q0 * D1) + (q1 * D0)) + (q2 * (0 : Int32))) + R1)) ∧ Fr n0 LQ ∧ hQ_ = h0
def Fncf1 (Z : State) (a0 : Addr) (a1 : Addr) (a2 : Addr) (kq : ClassId) (kd : ClassId) (kr : ClassId) (hq : List (Int32 × Value)) (hd_ : List (Int32 × Value)) (hr_ : List (Int32 × Value)) (q0 : Int32) (q1 : Int32) (q2 : Int32) (D0 : Int32) (D1 : Int32) (D2 : Int32) (R0 : Int32) (R1 : Int32) (h0 : Heap) (n0 : Nat) (sQ : State) (oQ : Outcome) (UQ : State) : Prop := ∃ vQ LQ, oQ = .returned vQ ∧ Qcf1 Z a0 a1 a2 kq kd kr hq hd_ hr_ q0 q1 q2 D0 D1 D2 R0 R1 h0 n0 vQ UQ.heap LQ ∧ FrameEnd sQ oQ UQ LQ ({ frames := 1, cells := 0, slots := 0, locals := 15 } : Room).cells ({ frames := 1, cells := 0, slots := 0, locals := 15 } : Room).slots
set_option maxRecDepth 65536 in
set_option maxHeartbeats 40000000 in
theorem rmcf1 (l : Launch) (Z : State) (aZ : Array Value) (hw : ∀ d ∈ tables_1, d.before aZ Z = true) (ws : List Jvm.Cond) (a0 : Addr) (a1 : Addr) (a2 : Addr) (kq : ClassId) (kd : ClassId) (kr : ClassId) (hq : List (Int32 × Value)) (hd_ : List (Int32 × Value)) (hr_ : List (Int32 × Value)) (q0 : Int32) (q1 : Int32) (q2 : Int32) (D0 : Int32) (D1 : Int32) (D2 : Int32) (R0 : Int32) (R1 : Int32) (h0 : Heap) (n0 : Nat) (Z0 : n0 ≤ h0.size) (V_a0 : Arh Z h0 a0 kq .int (3 : Int32) hq [] (.int (0 : Int32))) (V_a1 : Arh Z h0 a1 kd .int (3 : Int32) hd_ [] (.int (0 : Int32))) (V_a2 : Arh Z h0 a2 kr .int (2 : Int32) hr_ [] (.int (0 : Int32))) (rq0 : getH hq [] (.int (0 : Int32)) ((0 : Int32)).toNatClampNeg = (.int q0)) (rq1 : getH hq [] (.int (0 : Int32)) ((1 : Int32)).toNatClampNeg = (.int q1)) (rq2 : getH hq [] (.int (0 : Int32)) ((2 : Int32)).toNatClampNeg = (.int q2)) (rd0 : getH hd_ [] (.int (0 : Int32)) ((0 : Int32)).toNatClampNeg = (.int D0)) (rd1 : getH hd_ [] (.int (0 : Int32)) ((1 : Int32)).toNatClampNeg = (.int D1)) (rd2 : getH hd_ [] (.int (0 : Int32)) ((2 : Int32)).toNatClampNeg = (.int D2)) (rr0 : getH hr_ [] (.int (0 : Int32)) ((0 : Int32)).toNatClampNeg = (.int R0)) (rr1 : getH hr_ [] (.int (0 : Int32)) ((1 : Int32)).toNatClampNeg = (.int R1)) :
    MetFree l (⟨"com/example/deseason/deseason/arima/PolynomialsQuotientPinLaw", "coef", "([I[I[II)I"⟩ : MethodName) (head1 (Jvm.Cond.code (⟨"com/example/deseason/deseason/arima/PolynomialsQuotientPinLaw", "coef", "([I[I[II)I"⟩ : MethodName) method_4_code 4 (some .int) :: ws) ({ frames := 1, cells := 0, slots := 0, locals := 15 } : Room)) (fun aQ UQ => aQ = #[(.ref a0), (.ref a1), (.ref a2), (.int (1 : Int32))] ∧ Z.Warmed39 UQ.vm ∧ UQ.heap = h0) (fun _ _ _ _ _ => True) (fun _ UQ oQ UR => ∃ vQ LQ, oQ = .returned vQ ∧ Qcf1 Z a0 a1 a2 kq kd kr hq hd_ hr_ q0 q1 q2 D0 D1 D2 R0 R1 h0 n0 vQ UR.heap LQ ∧ FrameEnd UQ oQ UR LQ ({ frames := 1, cells := 0, slots := 0, locals := 15 } : Room).cells ({ frames := 1, cells := 0, slots := 0, locals := 15 } : Room).slots) := by
  refine MetFree.of_bodySF (plainFor_of_name pn_0) hisR ?_
  intro p e s m args below meth c s₁ Bd hml0 hP hK
  obtain ⟨rfl, hZ, hh⟩ := hP
  have hx := Bd.exec
  have hby := Bd.bytes
  have hml : c.maxLocals = 4 := hml0
  have hown : s.vm.findClass "com/example/deseason/deseason/arima/PolynomialsQuotientPinLaw" = some m.cls := findClass_of_methodNamed Bd.named
  have hnm := (name_of_methodNamed Bd.named Bd.method).1
  have X0 : Stand p l e ({ frames := 1, cells := 0, slots := 0, locals := 15 } : Room) s m #[(.ref a0), (.ref a1), (.ref a2), (.int (1 : Int32))] below meth c s₁ [] 0 0 := Stand.of_body Bd
  have e0 : s₁.heap = h0 := by rw [← hh, Bd.state]; rfl
  have N0 := Fr.nil n0
  have K0 : Keep h0 h0 [] := Keep.refl _ _
  have w_8 := hw _ (List.mem_of_getElem? (i := 8) rfl)
  have w_13 := hw _ (List.mem_of_getElem? (i := 13) rfl)
  have w_14 := hw _ (List.mem_of_getElem? (i := 14) rfl)
  have w_15 := hw _ (List.mem_of_getElem? (i := 15) rfl)
  have first_ : Rn p e below (s₁.setTop (mkF m 0 #[.val (.ref a0), .val (.ref a1), .val (.ref a2), .val (.int (1 : Int32))] [])) (Fncf1 Z a0 a1 a2 kq kd kr hq hd_ hr_ q0 q1 q2 D0 D1 D2 R0 R1 h0 n0 s) := by
    generalize hG : (Fncf1 Z a0 a1 a2 kq kd kr hq hd_ hr_ q0 q1 q2 D0 D1 D2 R0 R1 h0 n0 s) = G
    refine R.aloadN X0 hx (hb hby d3_0) rfl rfl (pc' := 1) rfl ?_
    refine R.iconst X0 hx (hb hby d3_1) (v := (0 : Int32)) (by decide) (pc' := 2) rfl ?_
    refine R.callS X0 hx hZ (y := mY0) hown w_13 w_14 w_8 w_15 (by decide) e0 (rm4 l Z aZ hw [] a0 (0 : Int32) kq (3 : Int32) hq q0 h0 n0 Z0 V_a0 (fun _ _ => rq0) (fun q => absurd q (by decide))) (by decide) (W := 0) (Nat.le_of_eq rfl) (by decide) (by rw [hml]; rfl) (lenOf pd_0 rfl) rfl (hb hby d3_2) (pc' := 5) rfl (by decide) (by decide) ?_; intro v1 T1 L1 X1 hQ1
    obtain ⟨rfl, N1q, e1⟩ := hQ1
    have N1 := Fr.app N0 N1q
    refine R.aloadN X1 hx (hb hby d3_5) rfl rfl (pc' := 6) rfl ?_
    refine R.iloadN X1 hx (hb hby d3_6) rfl (pc' := 7) rfl ?_
    refine R.callS X1 hx hZ (y := mY0) hown w_13 w_14 w_8 w_15 (by decide) e1 (rm4 l Z aZ hw [] a1 (1 : Int32) kd (3 : Int32) hd_ D1 h0 n0 Z0 V_a1 (fun _ _ => rd1) (fun q => absurd q (by decide))) (by decide) (W := 1) (Nat.le_of_eq rfl) (by decide) (by rw [hml]; rfl) (lenOf pd_0 rfl) rfl (hb hby d3_7) (pc' := 10) rfl (by decide) (by decide) ?_; intro v2 T2 L2 X2 hQ2
    obtain ⟨rfl, N2q, e2⟩ := hQ2
    have N2 := Fr.app N1 N2q
    refine R.imul X2 hx (hb hby d3_10) rfl (pc' := 11) rfl ?_
    refine R.aloadN X2 hx (hb hby d3_11) rfl rfl (pc' := 12) rfl ?_
    refine R.iconst X2 hx (hb hby d3_12) (v := (1 : Int32)) (by decide) (pc' := 13) rfl ?_
    refine R.callS X2 hx hZ (y := mY0) hown w_13 w_14 w_8 w_15 (by decide) e2 (rm4 l Z aZ hw [] a0 (1 : Int32) kq (3 : Int32) hq q1 h0 n0 Z0 V_a0 (fun _ _ => rq1) (fun q => absurd q (by decide))) (by decide) (W := 1) (Nat.le_of_eq rfl) (by decide) (by rw [hml]; rfl) (lenOf pd_0 rfl) rfl (hb hby d3_13) (pc' := 16) rfl (by decide) (by decide) ?_; intro v3 T3 L3 X3 hQ3
    obtain ⟨rfl, N3q, e3⟩ := hQ3
    have N3 := Fr.app N2 N3q
    refine R.aloadN X3 hx (hb hby d3_16) rfl rfl (pc' := 17) rfl ?_
    refine R.iloadN X3 hx (hb hby d3_17) rfl (pc' := 18) rfl ?_
    refine R.iconst X3 hx (hb hby d3_18) (v := (1 : Int32)) (by decide) (pc' := 19) rfl ?_
    refine R.isub X3 hx (hb hby d3_19) (v := (0 : Int32)) (by decide) (pc' := 20) rfl ?_
    refine R.callS X3 hx hZ (y := mY0) hown w_13 w_14 w_8 w_15 (by decide) e3 (rm4 l Z aZ hw [] a1 (0 : Int32) kd (3 : Int32) hd_ D0 h0 n0 Z0 V_a1 (fun _ _ => rd0) (fun q => absurd q (by decide))) (by decide) (W := 2) (Nat.le_of_eq rfl) (by decide) (by rw [hml]; rfl) (lenOf pd_0 rfl) rfl (hb hby d3_20) (pc' := 23) rfl (by decide) (by decide) ?_; intro v4 T4 L4 X4 hQ4
    obtain ⟨rfl, N4q, e4⟩ := hQ4
    have N4 := Fr.app N3 N4q
    refine R.imul X4 hx (hb hby d3_23) rfl (pc' := 24) rfl ?_
    refine R.iadd X4 hx (hb hby d3_24) rfl (pc' := 25) rfl ?_
    refine R.aloadN X4 hx (hb hby d3_25) rfl rfl (pc' := 26) rfl ?_
    refine R.iconst X4 hx (hb hby d3_26) (v := (2 : Int32)) (by decide) (pc' := 27) rfl ?_
    refine R.callS X4 hx hZ (y := mY0) hown w_13 w_14 w_8 w_15 (by decide) e4 (rm4 l Z aZ hw [] a0 (2 : Int32) kq (3 : Int32) hq q2 h0 n0 Z0 V_a0 (fun _ _ => rq2) (fun q => absurd q (by decide))) (by decide) (W := 1) (Nat.le_of_eq rfl) (by decide) (by rw [hml]; rfl) (lenOf pd_0 rfl) rfl (hb hby d3_27) (pc' := 30) rfl (by decide) (by decide) ?_; intro v5 T5 L5 X5 hQ5
    obtain ⟨rfl, N5q, e5⟩ := hQ5
    have N5 := Fr.app N4 N5q
    refine R.aloadN X5 hx (hb hby d3_30) rfl rfl (pc' := 31) rfl ?_
    refine R.iloadN X5 hx (hb hby d3_31) rfl (pc' := 32) rfl ?_
    refine R.iconst X5 hx (hb hby d3_32) (v := (2 : Int32)) (by decide) (pc' := 33) rfl ?_
    refine R.isub X5 hx (hb hby d3_33) (v := (-1 : Int32)) (by decide) (pc' := 34) rfl ?_
    refine R.callS X5 hx hZ (y := mY0) hown w_13 w_14 w_8 w_15 (by decide) e5 (rm4 l Z aZ hw [] a1 (-1 : Int32) kd (3 : Int32) hd_ (0 : Int32) h0 n0 Z0 V_a1 (fun a b => absurd (And.intro a b) (by decide)) (fun _ => rfl)) (by decide) (W := 2) (Nat.le_of_eq rfl) (by decide) (by rw [hml]; rfl) (lenOf pd_0 rfl) rfl (hb hby d3_34) (pc' := 37) rfl (by decide) (by decide) ?_; intro v6 T6 L6 X6 hQ6
    obtain ⟨rfl, N6q, e6⟩ := hQ6
    have N6 := Fr.app N5 N6q
    refine R.imul X6 hx (hb hby d3_37) rfl (pc' := 38) rfl ?_
    refine R.iadd X6 hx (hb hby d3_38) rfl (pc' := 39) rfl ?_
    refine R.aloadN X6 hx (hb hby d3_39) rfl rfl (pc' := 40) rfl ?_
    refine R.iloadN X6 hx (hb hby d3_40) rfl (pc' := 41) rfl ?_
    refine R.callS X6 hx hZ (y := mY0) hown w_13 w_14 w_8 w_15 (by decide) e6 (rm4 l Z aZ hw [] a2 (1 : Int32) kr (2 : Int32) hr_ R1 h0 n0 Z0 V_a2 (fun _ _ => rr1) (fun q => absurd q (by decide))) (by decide) (W := 1) (Nat.le_of_eq rfl) (by decide) (by rw [hml]; rfl) (lenOf pd_0 rfl) rfl (hb hby d3_41) (pc' := 44) rfl (by decide) (by decide) ?_; intro v7 T7 L7 X7 hQ7
    obtain ⟨rfl, N7q, e7⟩ := hQ7
    have N7 := Fr.app N6 N7q
    refine R.iadd X7 hx (hb hby d3_44) rfl (pc' := 45) rfl ?_
    rw [← hG]
    exact Rn.ret X7 (BodyLoose.notSynchronized Bd) (v := some (.int ((((q0 * D1) + (q1 * D0)) + (q2 * (0 : Int32))) + R1))) (fun h => by rw [Bd.returns] at h; cases h) (Q := Qcf1 Z a0 a1 a2 kq kd kr hq hd_ hr_ q0 q1 q2 D0 D1 D2 R0 R1 h0 n0) e7 (fun fs hr => retOut X7 hx (t := .int) Bd.returns rfl (Or.inl ⟨rfl, Or.inl rfl, _, rfl⟩) (hb hby d3_45) hr) ⟨rfl, N7, rfl⟩ (by decide) (by decide)
  exact (Rn.st (fun t k => castTop (ef_cf1 m a0 a1 a2) k) first_ : Rn p e below (s₁.setTop (entryFrame m #[(.ref a0), (.ref a1), (.ref a2), (.int (1 : Int32))] 4)) (Fncf1 Z a0 a1 a2 kq kd kr hq hd_ hr_ q0 q1 q2 D0 D1 D2 R0 R1 h0 n0 s))
theorem ef_cf2 (m : MethodId) (x0 : Addr) (x1 : Addr) (x2 : Addr) : entryFrame m #[(.ref x0), (.ref x1), (.ref x2), (.int (2 : Int32))] 4 = mkF m 0 #[.val (.ref x0), .val (.ref x1), .val (.ref x2), .val (.int (2 : Int32))] [] := by first | (simp [entryFrame, mkF, argsToLocals, Value.category]; done) | rfl
def Qcf2 (Z : State) (a0 : Addr) (a1 : Addr) (a2 : Addr) (kq : ClassId) (kd : ClassId) (kr : ClassId) (hq : List (Int32 × Value)) (hd_ : List (Int32 × Value)) (hr_ : List (Int32 × Value)) (q0 : Int32) (q1 : Int32) (q2 : Int32) (D0 : Int32) (D1 : Int32) (D2 : Int32) (R0 : Int32) (R1 : Int32) (h0 : Heap) (n0 : Nat) (vQ : Option Value) (hQ_ : Heap) (LQ : List Loc) : Prop := vQ = some (.int ((((q0 * D2) + (q1 * D1)) + (q2 * D0)) + (0 : Int32))) ∧ Fr n0 LQ ∧ hQ_ = h0
def Fncf2 (Z : State) (a0 : Addr) (a1 : Addr) (a2 : Addr) (kq : ClassId) (kd : ClassId) (kr : ClassId) (hq : List (Int32 × Value)) (hd_ : List (Int32 × Value)) (hr_ : List (Int32 × Value)) (q0 : Int32) (q1 : Int32) (q2 : Int32) (D0 : Int32) (D1 : Int32) (D2 : Int32) (R0 : Int32) (R1 : Int32) (h0 : Heap) (n0 : Nat) (sQ : State) (oQ : Outcome) (UQ : State) : Prop := ∃ vQ LQ, oQ = .returned vQ ∧ Qcf2 Z a0 a1 a2 kq kd kr hq hd_ hr_ q0 q1 q2 D0 D1 D2 R0 R1 h0 n0 vQ UQ.heap LQ ∧ FrameEnd sQ oQ UQ LQ ({ frames := 1, cells := 0, slots := 0, locals := 15 } : Room).cells ({ frames := 1, cells := 0, slots := 0, locals := 15 } : Room).slots
set_option maxRecDepth 65536 in
set_option maxHeartbeats 40000000 in
theorem rmcf2 (l : Launch) (Z : State) (aZ : Array Value) (hw : ∀ d ∈ tables_1, d.before aZ Z = true) (ws : List Jvm.Cond) (a0 : Addr) (a1 : Addr) (a2 : Addr) (kq : ClassId) (kd : ClassId) (kr : ClassId) (hq : List (Int32 × Value)) (hd_ : List (Int32 × Value)) (hr_ : List (Int32 × Value)) (q0 : Int32) (q1 : Int32) (q2 : Int32) (D0 : Int32) (D1 : Int32) (D2 : Int32) (R0 : Int32) (R1 : Int32) (h0 : Heap) (n0 : Nat) (Z0 : n0 ≤ h0.size) (V_a0 : Arh Z h0 a0 kq .int (3 : Int32) hq [] (.int (0 : Int32))) (V_a1 : Arh Z h0 a1 kd .int (3 : Int32) hd_ [] (.int (0 : Int32))) (V_a2 : Arh Z h0 a2 kr .int (2 : Int32) hr_ [] (.int (0 : Int32))) (rq0 : getH hq [] (.int (0 : Int32)) ((0 : Int32)).toNatClampNeg = (.int q0)) (rq1 : getH hq [] (.int (0 : Int32)) ((1 : Int32)).toNatClampNeg = (.int q1)) (rq2 : getH hq [] (.int (0 : Int32)) ((2 : Int32)).toNatClampNeg = (.int q2)) (rd0 : getH hd_ [] (.int (0 : Int32)) ((0 : Int32)).toNatClampNeg = (.int D0)) (rd1 : getH hd_ [] (.int (0 : Int32)) ((1 : Int32)).toNatClampNeg = (.int D1)) (rd2 : getH hd_ [] (.int (0 : Int32)) ((2 : Int32)).toNatClampNeg = (.int D2)) (rr0 : getH hr_ [] (.int (0 : Int32)) ((0 : Int32)).toNatClampNeg = (.int R0)) (rr1 : getH hr_ [] (.int (0 : Int32)) ((1 : Int32)).toNatClampNeg = (.int R1)) :
    MetFree l (⟨"com/example/deseason/deseason/arima/PolynomialsQuotientPinLaw", "coef", "([I[I[II)I"⟩ : MethodName) (head1 (Jvm.Cond.code (⟨"com/example/deseason/deseason/arima/PolynomialsQuotientPinLaw", "coef", "([I[I[II)I"⟩ : MethodName) method_4_code 4 (some .int) :: ws) ({ frames := 1, cells := 0, slots := 0, locals := 15 } : Room)) (fun aQ UQ => aQ = #[(.ref a0), (.ref a1), (.ref a2), (.int (2 : Int32))] ∧ Z.Warmed39 UQ.vm ∧ UQ.heap = h0) (fun _ _ _ _ _ => True) (fun _ UQ oQ UR => ∃ vQ LQ, oQ = .returned vQ ∧ Qcf2 Z a0 a1 a2 kq kd kr hq hd_ hr_ q0 q1 q2 D0 D1 D2 R0 R1 h0 n0 vQ UR.heap LQ ∧ FrameEnd UQ oQ UR LQ ({ frames := 1, cells := 0, slots := 0, locals := 15 } : Room).cells ({ frames := 1, cells := 0, slots := 0, locals := 15 } : Room).slots) := by
  refine MetFree.of_bodySF (plainFor_of_name pn_0) hisR ?_
  intro p e s m args below meth c s₁ Bd hml0 hP hK
  obtain ⟨rfl, hZ, hh⟩ := hP
  have hx := Bd.exec
  have hby := Bd.bytes
  have hml : c.maxLocals = 4 := hml0
  have hown : s.vm.findClass "com/example/deseason/deseason/arima/PolynomialsQuotientPinLaw" = some m.cls := findClass_of_methodNamed Bd.named
  have hnm := (name_of_methodNamed Bd.named Bd.method).1
  have X0 : Stand p l e ({ frames := 1, cells := 0, slots := 0, locals := 15 } : Room) s m #[(.ref a0), (.ref a1), (.ref a2), (.int (2 : Int32))] below meth c s₁ [] 0 0 := Stand.of_body Bd
  have e0 : s₁.heap = h0 := by rw [← hh, Bd.state]; rfl
  have N0 := Fr.nil n0
  have K0 : Keep h0 h0 [] := Keep.refl _ _
  have w_8 := hw _ (List.mem_of_getElem? (i := 8) rfl)
  have w_13 := hw _ (List.mem_of_getElem? (i := 13) rfl)
  have w_14 := hw _ (List.mem_of_getElem? (i := 14) rfl)
  have w_15 := hw _ (List.mem_of_getElem? (i := 15) rfl)
  have first_ : Rn p e below (s₁.setTop (mkF m 0 #[.val (.ref a0), .val (.ref a1), .val (.ref a2), .val (.int (2 : Int32))] [])) (Fncf2 Z a0 a1 a2 kq kd kr hq hd_ hr_ q0 q1 q2 D0 D1 D2 R0 R1 h0 n0 s) := by
    generalize hG : (Fncf2 Z a0 a1 a2 kq kd kr hq hd_ hr_ q0 q1 q2 D0 D1 D2 R0 R1 h0 n0 s) = G
    refine R.aloadN X0 hx (hb hby d3_0) rfl rfl (pc' := 1) rfl ?_
    refine R.iconst X0 hx (hb hby d3_1) (v := (0 : Int32)) (by decide) (pc' := 2) rfl ?_
    refine R.callS X0 hx hZ (y := mY0) hown w_13 w_14 w_8 w_15 (by decide) e0 (rm4 l Z aZ hw [] a0 (0 : Int32) kq (3 : Int32) hq q0 h0 n0 Z0 V_a0 (fun _ _ => rq0) (fun q => absurd q (by decide))) (by decide) (W := 0) (Nat.le_of_eq rfl) (by decide) (by rw [hml]; rfl) (lenOf pd_0 rfl) rfl (hb hby d3_2) (pc' := 5) rfl (by decide) (by decide) ?_; intro v1 T1 L1 X1 hQ1
    obtain ⟨rfl, N1q, e1⟩ := hQ1
    have N1 := Fr.app N0 N1q
    refine R.aloadN X1 hx (hb hby d3_5) rfl rfl (pc' := 6) rfl ?_
    refine R.iloadN X1 hx (hb hby d3_6) rfl (pc' := 7) rfl ?_
    refine R.callS X1 hx hZ (y := mY0) hown w_13 w_14 w_8 w_15 (by decide) e1 (rm4 l Z aZ hw [] a1 (2 : Int32) kd (3 : Int32) hd_ D2 h0 n0 Z0 V_a1 (fun _ _ => rd2) (fun q => absurd q (by decide))) (by decide) (W := 1) (Nat.le_of_eq rfl) (by decide) (by rw [hml]; rfl) (lenOf pd_0 rfl) rfl (hb hby d3_7) (pc' := 10) rfl (by decide) (by decide) ?_; intro v2 T2 L2 X2 hQ2
    obtain ⟨rfl, N2q, e2⟩ := hQ2
    have N2 := Fr.app N1 N2q
    refine R.imul X2 hx (hb hby d3_10) rfl (pc' := 11) rfl ?_
    refine R.aloadN X2 hx (hb hby d3_11) rfl rfl (pc' := 12) rfl ?_
    refine R.iconst X2 hx (hb hby d3_12) (v := (1 : Int32)) (by decide) (pc' := 13) rfl ?_
    refine R.callS X2 hx hZ (y := mY0) hown w_13 w_14 w_8 w_15 (by decide) e2 (rm4 l Z aZ hw [] a0 (1 : Int32) kq (3 : Int32) hq q1 h0 n0 Z0 V_a0 (fun _ _ => rq1) (fun q => absurd q (by decide))) (by decide) (W := 1) (Nat.le_of_eq rfl) (by decide) (by rw [hml]; rfl) (lenOf pd_0 rfl) rfl (hb hby d3_13) (pc' := 16) rfl (by decide) (by decide) ?_; intro v3 T3 L3 X3 hQ3
    obtain ⟨rfl, N3q, e3⟩ := hQ3
    have N3 := Fr.app N2 N3q
    refine R.aloadN X3 hx (hb hby d3_16) rfl rfl (pc' := 17) rfl ?_
    refine R.iloadN X3 hx (hb hby d3_17) rfl (pc' := 18) rfl ?_
    refine R.iconst X3 hx (hb hby d3_18) (v := (1 : Int32)) (by decide) (pc' := 19) rfl ?_
    refine R.isub X3 hx (hb hby d3_19) (v := (1 : Int32)) (by decide) (pc' := 20) rfl ?_
    refine R.callS X3 hx hZ (y := mY0) hown w_13 w_14 w_8 w_15 (by decide) e3 (rm4 l Z aZ hw [] a1 (1 : Int32) kd (3 : Int32) hd_ D1 h0 n0 Z0 V_a1 (fun _ _ => rd1) (fun q => absurd q (by decide))) (by decide) (W := 2) (Nat.le_of_eq rfl) (by decide) (by rw [hml]; rfl) (lenOf pd_0 rfl) rfl (hb hby d3_20) (pc' := 23) rfl (by decide) (by decide) ?_; intro v4 T4 L4 X4 hQ4
    obtain ⟨rfl, N4q, e4⟩ := hQ4
    have N4 := Fr.app N3 N4q
    refine R.imul X4 hx (hb hby d3_23) rfl (pc' := 24) rfl ?_
    refine R.iadd X4 hx (hb hby d3_24) rfl (pc' := 25) rfl ?_
    refine R.aloadN X4 hx (hb hby d3_25) rfl rfl (pc' := 26) rfl ?_
    refine R.iconst X4 hx (hb hby d3_26) (v := (2 : Int32)) (by decide) (pc' := 27) rfl ?_
    refine R.callS X4 hx hZ (y := mY0) hown w_13 w_14 w_8 w_15 (by decide) e4 (rm4 l Z aZ hw [] a0 (2 : Int32) kq (3 : Int32) hq q2 h0 n0 Z0 V_a0 (fun _ _ => rq2) (fun q => absurd q (by decide))) (by decide) (W := 1) (Nat.le_of_eq rfl) (by decide) (by rw [hml]; rfl) (lenOf pd_0 rfl) rfl (hb hby d3_27) (pc' := 30) rfl (by decide) (by decide) ?_; intro v5 T5 L5 X5 hQ5
    obtain ⟨rfl, N5q, e5⟩ := hQ5
    have N5 := Fr.app N4 N5q
    refine R.aloadN X5 hx (hb hby d3_30) rfl rfl (pc' := 31) rfl ?_
    refine R.iloadN X5 hx (hb hby d3_31) rfl (pc' := 32) rfl ?_
    refine R.iconst X5 hx (hb hby d3_32) (v := (2 : Int32)) (by decide) (pc' := 33) rfl ?_
    refine R.isub X5 hx (hb hby d3_33) (v := (0 : Int32)) (by decide) (pc' := 34) rfl ?_
    refine R.callS X5 hx hZ (y := mY0) hown w_13 w_14 w_8 w_15 (by decide) e5 (rm4 l Z aZ hw [] a1 (0 : Int32) kd (3 : Int32) hd_ D0 h0 n0 Z0 V_a1 (fun _ _ => rd0) (fun q => absurd q (by decide))) (by decide) (W := 2) (Nat.le_of_eq rfl) (by decide) (by rw [hml]; rfl) (lenOf pd_0 rfl) rfl (hb hby d3_34) (pc' := 37) rfl (by decide) (by decide) ?_; intro v6 T6 L6 X6 hQ6
    obtain ⟨rfl, N6q, e6⟩ := hQ6
    have N6 := Fr.app N5 N6q
    refine R.imul X6 hx (hb hby d3_37) rfl (pc' := 38) rfl ?_
    refine R.iadd X6 hx (hb hby d3_38) rfl (pc' := 39) rfl ?_
    refine R.aloadN X6 hx (hb hby d3_39) rfl rfl (pc' := 40) rfl ?_
    refine R.iloadN X6 hx (hb hby d3_40) rfl (pc' := 41) rfl ?_
    refine R.callS X6 hx hZ (y := mY0) hown w_13 w_14 w_8 w_15 (by decide) e6 (rm4 l Z aZ hw [] a2 (2 : Int32) kr (2 : Int32) hr_ (0 : Int32) h0 n0 Z0 V_a2 (fun a b => absurd (And.intro a b) (by decide)) (fun _ => rfl)) (by decide) (W := 1) (Nat.le_of_eq rfl) (by decide) (by rw [hml]; rfl) (lenOf pd_0 rfl) rfl (hb hby d3_41) (pc' := 44) rfl (by decide) (by decide) ?_; intro v7 T7 L7 X7 hQ7
    obtain ⟨rfl, N7q, e7⟩ := hQ7
    have N7 := Fr.app N6 N7q
    refine R.iadd X7 hx (hb hby d3_44) rfl (pc' := 45) rfl ?_
    rw [← hG]
    exact Rn.ret X7 (BodyLoose.notSynchronized Bd) (v := some (.int ((((q0 * D2) + (q1 * D1)) + (q2 * D0)) + (0 : Int32)))) (fun h => by rw [Bd.returns] at h; cases h) (Q := Qcf2 Z a0 a1 a2 kq kd kr hq hd_ hr_ q0 q1 q2 D0 D1 D2 R0 R1 h0 n0) e7 (fun fs hr => retOut X7 hx (t := .int) Bd.returns rfl (Or.inl ⟨rfl, Or.inl rfl, _, rfl⟩) (hb hby d3_45) hr) ⟨rfl, N7, rfl⟩ (by decide) (by decide)
  exact (Rn.st (fun t k => castTop (ef_cf2 m a0 a1 a2) k) first_ : Rn p e below (s₁.setTop (entryFrame m #[(.ref a0), (.ref a1), (.ref a2), (.int (2 : Int32))] 4)) (Fncf2 Z a0 a1 a2 kq kd kr hq hd_ hr_ q0 q1 q2 D0 D1 D2 R0 R1 h0 n0 s))
theorem ef_cf3 (m : MethodId) (x0 : Addr) (x1 : Addr) (x2 : Addr) : entryFrame m #[(.ref x0), (.ref x1), (.ref x2), (.int (3 : Int32))] 4 = mkF m 0 #[.val (.ref x0), .val (.ref x1), .val (.ref x2), .val (.int (3 : Int32))] [] := by first | (simp [entryFrame, mkF, argsToLocals, Value.category]; done) | rfl
def Qcf3 (Z : State) (a0 : Addr) (a1 : Addr) (a2 : Addr) (kq : ClassId) (kd : ClassId) (kr : ClassId) (hq : List (Int32 × Value)) (hd_ : List (Int32 × Value)) (hr_ : List (Int32 × Value)) (q0 : Int32) (q1 : Int32) (q2 : Int32) (D0 : Int32) (D1 : Int32) (D2 : Int32) (R0 : Int32) (R1 : Int32) (h0 : Heap) (n0 : Nat) (vQ : Option Value) (hQ_ : Heap) (LQ : List Loc) : Prop := vQ = some (.int ((((q0 * (0 : Int32)) + (q1 * D2)) + (q2 * D1)) + (0 : Int32))) ∧ Fr n0 LQ ∧ hQ_ = h0
def Fncf3 (Z : State) (a0 : Addr) (a1 : Addr) (a2 : Addr) (kq : ClassId) (kd : ClassId) (kr : ClassId) (hq : List (Int32 × Value)) (hd_ : List (Int32 × Value)) (hr_ : List (Int32 × Value)) (q0 : Int32) (q1 : Int32) (q2 : Int32) (D0 : Int32) (D1 : Int32) (D2 : Int32) (R0 : Int32) (R1 : Int32) (h0 : Heap) (n0 : Nat) (sQ : State) (oQ : Outcome) (UQ : State) : Prop := ∃ vQ LQ, oQ = .returned vQ ∧ Qcf3 Z a0 a1 a2 kq kd kr hq hd_ hr_ q0 q1 q2 D0 D1 D2 R0 R1 h0 n0 vQ UQ.heap LQ ∧ FrameEnd sQ oQ UQ LQ ({ frames := 1, cells := 0, slots := 0, locals := 15 } : Room).cells ({ frames := 1, cells := 0, slots := 0, locals := 15 } : Room).slots
set_option maxRecDepth 65536 in
set_option maxHeartbeats 40000000 in
theorem rmcf3 (l : Launch) (Z : State) (aZ : Array Value) (hw : ∀ d ∈ tables_1, d.before aZ Z = true) (ws : List Jvm.Cond) (a0 : Addr) (a1 : Addr) (a2 : Addr) (kq : ClassId) (kd : ClassId) (kr : ClassId) (hq : List (Int32 × Value)) (hd_ : List (Int32 × Value)) (hr_ : List (Int32 × Value)) (q0 : Int32) (q1 : Int32) (q2 : Int32) (D0 : Int32) (D1 : Int32) (D2 : Int32) (R0 : Int32) (R1 : Int32) (h0 : Heap) (n0 : Nat) (Z0 : n0 ≤ h0.size) (V_a0 : Arh Z h0 a0 kq .int (3 : Int32) hq [] (.int (0 : Int32))) (V_a1 : Arh Z h0 a1 kd .int (3 : Int32) hd_ [] (.int (0 : Int32))) (V_a2 : Arh Z h0 a2 kr .int (2 : Int32) hr_ [] (.int (0 : Int32))) (rq0 : getH hq [] (.int (0 : Int32)) ((0 : Int32)).toNatClampNeg = (.int q0)) (rq1 : getH hq [] (.int (0 : Int32)) ((1 : Int32)).toNatClampNeg = (.int q1)) (rq2 : getH hq [] (.int (0 : Int32)) ((2 : Int32)).toNatClampNeg = (.int q2)) (rd0 : getH hd_ [] (.int (0 : Int32)) ((0 : Int32)).toNatClampNeg = (.int D0)) (rd1 : getH hd_ [] (.int (0 : Int32)) ((1 : Int32)).toNatClampNeg = (.int D1)) (rd2 : getH hd_ [] (.int (0 : Int32)) ((2 : Int32)).toNatClampNeg = (.int D2)) (rr0 : getH hr_ [] (.int (0 : Int32)) ((0 : Int32)).toNatClampNeg = (.int R0)) (rr1 : getH hr_ [] (.int (0 : Int32)) ((1 : Int32)).toNatClampNeg = (.int R1)) :
    MetFree l (⟨"com/example/deseason/deseason/arima/PolynomialsQuotientPinLaw", "coef", "([I[I[II)I"⟩ : MethodName) (head1 (Jvm.Cond.code (⟨"com/example/deseason/deseason/arima/PolynomialsQuotientPinLaw", "coef", "([I[I[II)I"⟩ : MethodName) method_4_code 4 (some .int) :: ws) ({ frames := 1, cells := 0, slots := 0, locals := 15 } : Room)) (fun aQ UQ => aQ = #[(.ref a0), (.ref a1), (.ref a2), (.int (3 : Int32))] ∧ Z.Warmed39 UQ.vm ∧ UQ.heap = h0) (fun _ _ _ _ _ => True) (fun _ UQ oQ UR => ∃ vQ LQ, oQ = .returned vQ ∧ Qcf3 Z a0 a1 a2 kq kd kr hq hd_ hr_ q0 q1 q2 D0 D1 D2 R0 R1 h0 n0 vQ UR.heap LQ ∧ FrameEnd UQ oQ UR LQ ({ frames := 1, cells := 0, slots := 0, locals := 15 } : Room).cells ({ frames := 1, cells := 0, slots := 0, locals := 15 } : Room).slots) := by
  refine MetFree.of_bodySF (plainFor_of_name pn_0) hisR ?_
  intro p e s m args below meth c s₁ Bd hml0 hP hK
  obtain ⟨rfl, hZ, hh⟩ := hP
  have hx := Bd.exec
  have hby := Bd.bytes
  have hml : c.maxLocals = 4 := hml0
  have hown : s.vm.findClass "com/example/deseason/deseason/arima/PolynomialsQuotientPinLaw" = some m.cls := findClass_of_methodNamed Bd.named
  have hnm := (name_of_methodNamed Bd.named Bd.method).1
  have X0 : Stand p l e ({ frames := 1, cells := 0, slots := 0, locals := 15 } : Room) s m #[(.ref a0), (.ref a1), (.ref a2), (.int (3 : Int32))] below meth c s₁ [] 0 0 := Stand.of_body Bd
  have e0 : s₁.heap = h0 := by rw [← hh, Bd.state]; rfl
  have N0 := Fr.nil n0
  have K0 : Keep h0 h0 [] := Keep.refl _ _
  have w_8 := hw _ (List.mem_of_getElem? (i := 8) rfl)
  have w_13 := hw _ (List.mem_of_getElem? (i := 13) rfl)
  have w_14 := hw _ (List.mem_of_getElem? (i := 14) rfl)
  have w_15 := hw _ (List.mem_of_getElem? (i := 15) rfl)
  have first_ : Rn p e below (s₁.setTop (mkF m 0 #[.val (.ref a0), .val (.ref a1), .val (.ref a2), .val (.int (3 : Int32))] [])) (Fncf3 Z a0 a1 a2 kq kd kr hq hd_ hr_ q0 q1 q2 D0 D1 D2 R0 R1 h0 n0 s) := by
    generalize hG : (Fncf3 Z a0 a1 a2 kq kd kr hq hd_ hr_ q0 q1 q2 D0 D1 D2 R0 R1 h0 n0 s) = G
    refine R.aloadN X0 hx (hb hby d3_0) rfl rfl (pc' := 1) rfl ?_
    refine R.iconst X0 hx (hb hby d3_1) (v := (0 : Int32)) (by decide) (pc' := 2) rfl ?_
    refine R.callS X0 hx hZ (y := mY0) hown w_13 w_14 w_8 w_15 (by decide) e0 (rm4 l Z aZ hw [] a0 (0 : Int32) kq (3 : Int32) hq q0 h0 n0 Z0 V_a0 (fun _ _ => rq0) (fun q => absurd q (by decide))) (by decide) (W := 0) (Nat.le_of_eq rfl) (by decide) (by rw [hml]; rfl) (lenOf pd_0 rfl) rfl (hb hby d3_2) (pc' := 5) rfl (by decide) (by decide) ?_; intro v1 T1 L1 X1 hQ1
    obtain ⟨rfl, N1q, e1⟩ := hQ1
    have N1 := Fr.app N0 N1q
    refine R.aloadN X1 hx (hb hby d3_5) rfl rfl (pc' := 6) rfl ?_
    refine R.iloadN X1 hx (hb hby d3_6) rfl (pc' := 7) rfl ?_
    refine R.callS X1 hx hZ (y := mY0) hown w_13 w_14 w_8 w_15 (by decide) e1 (rm4 l Z aZ hw [] a1 (3 : Int32) kd (3 : Int32) hd_ (0 : Int32) h0 n0 Z0 V_a1 (fun a b => absurd (And.intro a b) (by decide)) (fun _ => rfl)) (by decide) (W := 1) (Nat.le_of_eq rfl) (by decide) (by rw [hml]; rfl) (lenOf pd_0 rfl) rfl (hb hby d3_7) (pc' := 10) rfl (by decide) (by decide) ?_; intro v2 T2 L2 X2 hQ2
    obtain ⟨rfl, N2q, e2⟩ := hQ2
    have N2 := Fr.app N1 N2q
    refine R.imul X2 hx (hb hby d3_10) rfl (pc' := 11) rfl ?_
    refine R.aloadN X2 hx (hb hby d3_11) rfl rfl (pc' := 12) rfl ?_
    refine R.iconst X2 hx (hb hby d3_12) (v := (1 : Int32)) (by decide) (pc' := 13) rfl ?_
    refine R.callS X2 hx hZ (y := mY0) hown w_13 w_14 w_8 w_15 (by decide) e2 (rm4 l Z aZ hw [] a0 (1 : Int32) kq (3 : Int32) hq q1 h0 n0 Z0 V_a0 (fun _ _ => rq1) (fun q => absurd q (by decide))) (by decide) (W := 1) (Nat.le_of_eq rfl) (by decide) (by rw [hml]; rfl) (lenOf pd_0 rfl) rfl (hb hby d3_13) (pc' := 16) rfl (by decide) (by decide) ?_; intro v3 T3 L3 X3 hQ3
    obtain ⟨rfl, N3q, e3⟩ := hQ3
    have N3 := Fr.app N2 N3q
    refine R.aloadN X3 hx (hb hby d3_16) rfl rfl (pc' := 17) rfl ?_
    refine R.iloadN X3 hx (hb hby d3_17) rfl (pc' := 18) rfl ?_
    refine R.iconst X3 hx (hb hby d3_18) (v := (1 : Int32)) (by decide) (pc' := 19) rfl ?_
    refine R.isub X3 hx (hb hby d3_19) (v := (2 : Int32)) (by decide) (pc' := 20) rfl ?_
    refine R.callS X3 hx hZ (y := mY0) hown w_13 w_14 w_8 w_15 (by decide) e3 (rm4 l Z aZ hw [] a1 (2 : Int32) kd (3 : Int32) hd_ D2 h0 n0 Z0 V_a1 (fun _ _ => rd2) (fun q => absurd q (by decide))) (by decide) (W := 2) (Nat.le_of_eq rfl) (by decide) (by rw [hml]; rfl) (lenOf pd_0 rfl) rfl (hb hby d3_20) (pc' := 23) rfl (by decide) (by decide) ?_; intro v4 T4 L4 X4 hQ4
    obtain ⟨rfl, N4q, e4⟩ := hQ4
    have N4 := Fr.app N3 N4q
    refine R.imul X4 hx (hb hby d3_23) rfl (pc' := 24) rfl ?_
    refine R.iadd X4 hx (hb hby d3_24) rfl (pc' := 25) rfl ?_
    refine R.aloadN X4 hx (hb hby d3_25) rfl rfl (pc' := 26) rfl ?_
    refine R.iconst X4 hx (hb hby d3_26) (v := (2 : Int32)) (by decide) (pc' := 27) rfl ?_
    refine R.callS X4 hx hZ (y := mY0) hown w_13 w_14 w_8 w_15 (by decide) e4 (rm4 l Z aZ hw [] a0 (2 : Int32) kq (3 : Int32) hq q2 h0 n0 Z0 V_a0 (fun _ _ => rq2) (fun q => absurd q (by decide))) (by decide) (W := 1) (Nat.le_of_eq rfl) (by decide) (by rw [hml]; rfl) (lenOf pd_0 rfl) rfl (hb hby d3_27) (pc' := 30) rfl (by decide) (by decide) ?_; intro v5 T5 L5 X5 hQ5
    obtain ⟨rfl, N5q, e5⟩ := hQ5
    have N5 := Fr.app N4 N5q
    refine R.aloadN X5 hx (hb hby d3_30) rfl rfl (pc' := 31) rfl ?_
    refine R.iloadN X5 hx (hb hby d3_31) rfl (pc' := 32) rfl ?_
    refine R.iconst X5 hx (hb hby d3_32) (v := (2 : Int32)) (by decide) (pc' := 33) rfl ?_
    refine R.isub X5 hx (hb hby d3_33) (v := (1 : Int32)) (by decide) (pc' := 34) rfl ?_
    refine R.callS X5 hx hZ (y := mY0) hown w_13 w_14 w_8 w_15 (by decide) e5 (rm4 l Z aZ hw [] a1 (1 : Int32) kd (3 : Int32) hd_ D1 h0 n0 Z0 V_a1 (fun _ _ => rd1) (fun q => absurd q (by decide))) (by decide) (W := 2) (Nat.le_of_eq rfl) (by decide) (by rw [hml]; rfl) (lenOf pd_0 rfl) rfl (hb hby d3_34) (pc' := 37) rfl (by decide) (by decide) ?_; intro v6 T6 L6 X6 hQ6
    obtain ⟨rfl, N6q, e6⟩ := hQ6
    have N6 := Fr.app N5 N6q
    refine R.imul X6 hx (hb hby d3_37) rfl (pc' := 38) rfl ?_
    refine R.iadd X6 hx (hb hby d3_38) rfl (pc' := 39) rfl ?_
    refine R.aloadN X6 hx (hb hby d3_39) rfl rfl (pc' := 40) rfl ?_
    refine R.iloadN X6 hx (hb hby d3_40) rfl (pc' := 41) rfl ?_
    refine R.callS X6 hx hZ (y := mY0) hown w_13 w_14 w_8 w_15 (by decide) e6 (rm4 l Z aZ hw [] a2 (3 : Int32) kr (2 : Int32) hr_ (0 : Int32) h0 n0 Z0 V_a2 (fun a b => absurd (And.intro a b) (by decide)) (fun _ => rfl)) (by decide) (W := 1) (Nat.le_of_eq rfl) (by decide) (by rw [hml]; rfl) (lenOf pd_0 rfl) rfl (hb hby d3_41) (pc' := 44) rfl (by decide) (by decide) ?_; intro v7 T7 L7 X7 hQ7
    obtain ⟨rfl, N7q, e7⟩ := hQ7
    have N7 := Fr.app N6 N7q
    refine R.iadd X7 hx (hb hby d3_44) rfl (pc' := 45) rfl ?_
    rw [← hG]
    exact Rn.ret X7 (BodyLoose.notSynchronized Bd) (v := some (.int ((((q0 * (0 : Int32)) + (q1 * D2)) + (q2 * D1)) + (0 : Int32)))) (fun h => by rw [Bd.returns] at h; cases h) (Q := Qcf3 Z a0 a1 a2 kq kd kr hq hd_ hr_ q0 q1 q2 D0 D1 D2 R0 R1 h0 n0) e7 (fun fs hr => retOut X7 hx (t := .int) Bd.returns rfl (Or.inl ⟨rfl, Or.inl rfl, _, rfl⟩) (hb hby d3_45) hr) ⟨rfl, N7, rfl⟩ (by decide) (by decide)
  exact (Rn.st (fun t k => castTop (ef_cf3 m a0 a1 a2) k) first_ : Rn p e below (s₁.setTop (entryFrame m #[(.ref a0), (.ref a1), (.ref a2), (.int (3 : Int32))] 4)) (Fncf3 Z a0 a1 a2 kq kd kr hq hd_ hr_ q0 q1 q2 D0 D1 D2 R0 R1 h0 n0 s))
theorem ef_cf4 (m : MethodId) (x0 : Addr) (x1 : Addr) (x2 : Addr) : entryFrame m #[(.ref x0), (.ref x1), (.ref x2), (.int (4 : Int32))] 4 = mkF m 0 #[.val (.ref x0), .val (.ref x1), .val (.ref x2), .val (.int (4 : Int32))] [] := by first | (simp [entryFrame, mkF, argsToLocals, Value.category]; done) | rfl
def Qcf4 (Z : State) (a0 : Addr) (a1 : Addr) (a2 : Addr) (kq : ClassId) (kd : ClassId) (kr : ClassId) (hq : List (Int32 × Value)) (hd_ : List (Int32 × Value)) (hr_ : List (Int32 × Value)) (q0 : Int32) (q1 : Int32) (q2 : Int32) (D0 : Int32) (D1 : Int32) (D2 : Int32) (R0 : Int32) (R1 : Int32) (h0 : Heap) (n0 : Nat) (vQ : Option Value) (hQ_ : Heap) (LQ : List Loc) : Prop := vQ = some (.int ((((q0 * (0 : Int32)) + (q1 * (0 : Int32))) + (q2 * D2)) + (0 : Int32))) ∧ Fr n0 LQ ∧ hQ_ = h0
def Fncf4 (Z : State) (a0 : Addr) (a1 : Addr) (a2 : Addr) (kq : ClassId) (kd : ClassId) (kr : ClassId) (hq : List (Int32 × Value)) (hd_ : List (Int32 × Value)) (hr_ : List (Int32 × Value)) (q0 : Int32) (q1 : Int32) (q2 : Int32) (D0 : Int32) (D1 : Int32) (D2 : Int32) (R0 : Int32) (R1 : Int32) (h0 : Heap) (n0 : Nat) (sQ : State) (oQ : Outcome) (UQ : State) : Prop := ∃ vQ LQ, oQ = .returned vQ ∧ Qcf4 Z a0 a1 a2 kq kd kr hq hd_ hr_ q0 q1 q2 D0 D1 D2 R0 R1 h0 n0 vQ UQ.heap LQ ∧ FrameEnd sQ oQ UQ LQ ({ frames := 1, cells := 0, slots := 0, locals := 15 } : Room).cells ({ frames := 1, cells := 0, slots := 0, locals := 15 } : Room).slots
set_option maxRecDepth 65536 in
set_option maxHeartbeats 40000000 in
theorem rmcf4 (l : Launch) (Z : State) (aZ : Array Value) (hw : ∀ d ∈ tables_1, d.before aZ Z = true) (ws : List Jvm.Cond) (a0 : Addr) (a1 : Addr) (a2 : Addr) (kq : ClassId) (kd : ClassId) (kr : ClassId) (hq : List (Int32 × Value)) (hd_ : List (Int32 × Value)) (hr_ : List (Int32 × Value)) (q0 : Int32) (q1 : Int32) (q2 : Int32) (D0 : Int32) (D1 : Int32) (D2 : Int32) (R0 : Int32) (R1 : Int32) (h0 : Heap) (n0 : Nat) (Z0 : n0 ≤ h0.size) (V_a0 : Arh Z h0 a0 kq .int (3 : Int32) hq [] (.int (0 : Int32))) (V_a1 : Arh Z h0 a1 kd .int (3 : Int32) hd_ [] (.int (0 : Int32))) (V_a2 : Arh Z h0 a2 kr .int (2 : Int32) hr_ [] (.int (0 : Int32))) (rq0 : getH hq [] (.int (0 : Int32)) ((0 : Int32)).toNatClampNeg = (.int q0)) (rq1 : getH hq [] (.int (0 : Int32)) ((1 : Int32)).toNatClampNeg = (.int q1)) (rq2 : getH hq [] (.int (0 : Int32)) ((2 : Int32)).toNatClampNeg = (.int q2)) (rd0 : getH hd_ [] (.int (0 : Int32)) ((0 : Int32)).toNatClampNeg = (.int D0)) (rd1 : getH hd_ [] (.int (0 : Int32)) ((1 : Int32)).toNatClampNeg = (.int D1)) (rd2 : getH hd_ [] (.int (0 : Int32)) ((2 : Int32)).toNatClampNeg = (.int D2)) (rr0 : getH hr_ [] (.int (0 : Int32)) ((0 : Int32)).toNatClampNeg = (.int R0)) (rr1 : getH hr_ [] (.int (0 : Int32)) ((1 : Int32)).toNatClampNeg = (.int R1)) :
    MetFree l (⟨"com/example/deseason/deseason/arima/PolynomialsQuotientPinLaw", "coef", "([I[I[II)I"⟩ : MethodName) (head1 (Jvm.Cond.code (⟨"com/example/deseason/deseason/arima/PolynomialsQuotientPinLaw", "coef", "([I[I[II)I"⟩ : MethodName) method_4_code 4 (some .int) :: ws) ({ frames := 1, cells := 0, slots := 0, locals := 15 } : Room)) (fun aQ UQ => aQ = #[(.ref a0), (.ref a1), (.ref a2), (.int (4 : Int32))] ∧ Z.Warmed39 UQ.vm ∧ UQ.heap = h0) (fun _ _ _ _ _ => True) (fun _ UQ oQ UR => ∃ vQ LQ, oQ = .returned vQ ∧ Qcf4 Z a0 a1 a2 kq kd kr hq hd_ hr_ q0 q1 q2 D0 D1 D2 R0 R1 h0 n0 vQ UR.heap LQ ∧ FrameEnd UQ oQ UR LQ ({ frames := 1, cells := 0, slots := 0, locals := 15 } : Room).cells ({ frames := 1, cells := 0, slots := 0, locals := 15 } : Room).slots) := by
  refine MetFree.of_bodySF (plainFor_of_name pn_0) hisR ?_
  intro p e s m args below meth c s₁ Bd hml0 hP hK
  obtain ⟨rfl, hZ, hh⟩ := hP
  have hx := Bd.exec
  have hby := Bd.bytes
  have hml : c.maxLocals = 4 := hml0
  have hown : s.vm.findClass "com/example/deseason/deseason/arima/PolynomialsQuotientPinLaw" = some m.cls := findClass_of_methodNamed Bd.named
  have hnm := (name_of_methodNamed Bd.named Bd.method).1
  have X0 : Stand p l e ({ frames := 1, cells := 0, slots := 0, locals := 15 } : Room) s m #[(.ref a0), (.ref a1), (.ref a2), (.int (4 : Int32))] below meth c s₁ [] 0 0 := Stand.of_body Bd
  have e0 : s₁.heap = h0 := by rw [← hh, Bd.state]; rfl
  have N0 := Fr.nil n0
  have K0 : Keep h0 h0 [] := Keep.refl _ _
  have w_8 := hw _ (List.mem_of_getElem? (i := 8) rfl)
  have w_13 := hw _ (List.mem_of_getElem? (i := 13) rfl)
  have w_14 := hw _ (List.mem_of_getElem? (i := 14) rfl)
  have w_15 := hw _ (List.mem_of_getElem? (i := 15) rfl)
  have first_ : Rn p e below (s₁.setTop (mkF m 0 #[.val (.ref a0), .val (.ref a1), .val (.ref a2), .val (.int (4 : Int32))] [])) (Fncf4 Z a0 a1 a2 kq kd kr hq hd_ hr_ q0 q1 q2 D0 D1 D2 R0 R1 h0 n0 s) := by
    generalize hG : (Fncf4 Z a0 a1 a2 kq kd kr hq hd_ hr_ q0 q1 q2 D0 D1 D2 R0 R1 h0 n0 s) = G
    refine R.aloadN X0 hx (hb hby d3_0) rfl rfl (pc' := 1) rfl ?_
    refine R.iconst X0 hx (hb hby d3_1) (v := (0 : Int32)) (by decide) (pc' := 2) rfl ?_
    refine R.callS X0 hx hZ (y := mY0) hown w_13 w_14 w_8 w_15 (by decide) e0 (rm4 l Z aZ hw [] a0 (0 : Int32) kq (3 : Int32) hq q0 h0 n0 Z0 V_a0 (fun _ _ => rq0) (fun q => absurd q (by decide))) (by decide) (W := 0) (Nat.le_of_eq rfl) (by decide) (by rw [hml]; rfl) (lenOf pd_0 rfl) rfl (hb hby d3_2) (pc' := 5) rfl (by decide) (by decide) ?_; intro v1 T1 L1 X1 hQ1
    obtain ⟨rfl, N1q, e1⟩ := hQ1
    have N1 := Fr.app N0 N1q
    refine R.aloadN X1 hx (hb hby d3_5) rfl rfl (pc' := 6) rfl ?_
    refine R.iloadN X1 hx (hb hby d3_6) rfl (pc' := 7) rfl ?_
    refine R.callS X1 hx hZ (y := mY0) hown w_13 w_14 w_8 w_15 (by decide) e1 (rm4 l Z aZ hw [] a1 (4 : Int32) kd (3 : Int32) hd_ (0 : Int32) h0 n0 Z0 V_a1 (fun a b => absurd (And.intro a b) (by decide)) (fun _ => rfl)) (by decide) (W := 1) (Nat.le_of_eq rfl) (by decide) (by rw [hml]; rfl) (lenOf pd_0 rfl) rfl (hb hby d3_7) (pc' := 10) rfl (by decide) (by decide) ?_; intro v2 T2 L2 X2 hQ2
    obtain ⟨rfl, N2q, e2⟩ := hQ2
    have N2 := Fr.app N1 N2q
    refine R.imul X2 hx (hb hby d3_10) rfl (pc' := 11) rfl ?_
    refine R.aloadN X2 hx (hb hby d3_11) rfl rfl (pc' := 12) rfl ?_
    refine R.iconst X2 hx (hb hby d3_12) (v := (1 : Int32)) (by decide) (pc' := 13) rfl ?_
    refine R.callS X2 hx hZ (y := mY0) hown w_13 w_14 w_8 w_15 (by decide) e2 (rm4 l Z aZ hw [] a0 (1 : Int32) kq (3 : Int32) hq q1 h0 n0 Z0 V_a0 (fun _ _ => rq1) (fun q => absurd q (by decide))) (by decide) (W := 1) (Nat.le_of_eq rfl) (by decide) (by rw [hml]; rfl) (lenOf pd_0 rfl) rfl (hb hby d3_13) (pc' := 16) rfl (by decide) (by decide) ?_; intro v3 T3 L3 X3 hQ3
    obtain ⟨rfl, N3q, e3⟩ := hQ3
    have N3 := Fr.app N2 N3q
    refine R.aloadN X3 hx (hb hby d3_16) rfl rfl (pc' := 17) rfl ?_
    refine R.iloadN X3 hx (hb hby d3_17) rfl (pc' := 18) rfl ?_
    refine R.iconst X3 hx (hb hby d3_18) (v := (1 : Int32)) (by decide) (pc' := 19) rfl ?_
    refine R.isub X3 hx (hb hby d3_19) (v := (3 : Int32)) (by decide) (pc' := 20) rfl ?_
    refine R.callS X3 hx hZ (y := mY0) hown w_13 w_14 w_8 w_15 (by decide) e3 (rm4 l Z aZ hw [] a1 (3 : Int32) kd (3 : Int32) hd_ (0 : Int32) h0 n0 Z0 V_a1 (fun a b => absurd (And.intro a b) (by decide)) (fun _ => rfl)) (by decide) (W := 2) (Nat.le_of_eq rfl) (by decide) (by rw [hml]; rfl) (lenOf pd_0 rfl) rfl (hb hby d3_20) (pc' := 23) rfl (by decide) (by decide) ?_; intro v4 T4 L4 X4 hQ4
    obtain ⟨rfl, N4q, e4⟩ := hQ4
    have N4 := Fr.app N3 N4q
    refine R.imul X4 hx (hb hby d3_23) rfl (pc' := 24) rfl ?_
    refine R.iadd X4 hx (hb hby d3_24) rfl (pc' := 25) rfl ?_
    refine R.aloadN X4 hx (hb hby d3_25) rfl rfl (pc' := 26) rfl ?_
    refine R.iconst X4 hx (hb hby d3_26) (v := (2 : Int32)) (by decide) (pc' := 27) rfl ?_
    refine R.callS X4 hx hZ (y := mY0) hown w_13 w_14 w_8 w_15 (by decide) e4 (rm4 l Z aZ hw [] a0 (2 : Int32) kq (3 : Int32) hq q2 h0 n0 Z0 V_a0 (fun _ _ => rq2) (fun q => absurd q (by decide))) (by decide) (W := 1) (Nat.le_of_eq rfl) (by decide) (by rw [hml]; rfl) (lenOf pd_0 rfl) rfl (hb hby d3_27) (pc' := 30) rfl (by decide) (by decide) ?_; intro v5 T5 L5 X5 hQ5
    obtain ⟨rfl, N5q, e5⟩ := hQ5
    have N5 := Fr.app N4 N5q
    refine R.aloadN X5 hx (hb hby d3_30) rfl rfl (pc' := 31) rfl ?_
    refine R.iloadN X5 hx (hb hby d3_31) rfl (pc' := 32) rfl ?_
    refine R.iconst X5 hx (hb hby d3_32) (v := (2 : Int32)) (by decide) (pc' := 33) rfl ?_
    refine R.isub X5 hx (hb hby d3_33) (v := (2 : Int32)) (by decide) (pc' := 34) rfl ?_
    refine R.callS X5 hx hZ (y := mY0) hown w_13 w_14 w_8 w_15 (by decide) e5 (rm4 l Z aZ hw [] a1 (2 : Int32) kd (3 : Int32) hd_ D2 h0 n0 Z0 V_a1 (fun _ _ => rd2) (fun q => absurd q (by decide))) (by decide) (W := 2) (Nat.le_of_eq rfl) (by decide) (by rw [hml]; rfl) (lenOf pd_0 rfl) rfl (hb hby d3_34) (pc' := 37) rfl (by decide) (by decide) ?_; intro v6 T6 L6 X6 hQ6
    obtain ⟨rfl, N6q, e6⟩ := hQ6
    have N6 := Fr.app N5 N6q
    refine R.imul X6 hx (hb hby d3_37) rfl (pc' := 38) rfl ?_
    refine R.iadd X6 hx (hb hby d3_38) rfl (pc' := 39) rfl ?_
    refine R.aloadN X6 hx (hb hby d3_39) rfl rfl (pc' := 40) rfl ?_
    refine R.iloadN X6 hx (hb hby d3_40) rfl (pc' := 41) rfl ?_
    refine R.callS X6 hx hZ (y := mY0) hown w_13 w_14 w_8 w_15 (by decide) e6 (rm4 l Z aZ hw [] a2 (4 : Int32) kr (2 : Int32) hr_ (0 : Int32) h0 n0 Z0 V_a2 (fun a b => absurd (And.intro a b) (by decide)) (fun _ => rfl)) (by decide) (W := 1) (Nat.le_of_eq rfl) (by decide) (by rw [hml]; rfl) (lenOf pd_0 rfl) rfl (hb hby d3_41) (pc' := 44) rfl (by decide) (by decide) ?_; intro v7 T7 L7 X7 hQ7
    obtain ⟨rfl, N7q, e7⟩ := hQ7
    have N7 := Fr.app N6 N7q
    refine R.iadd X7 hx (hb hby d3_44) rfl (pc' := 45) rfl ?_
    rw [← hG]
    exact Rn.ret X7 (BodyLoose.notSynchronized Bd) (v := some (.int ((((q0 * (0 : Int32)) + (q1 * (0 : Int32))) + (q2 * D2)) + (0 : Int32)))) (fun h => by rw [Bd.returns] at h; cases h) (Q := Qcf4 Z a0 a1 a2 kq kd kr hq hd_ hr_ q0 q1 q2 D0 D1 D2 R0 R1 h0 n0) e7 (fun fs hr => retOut X7 hx (t := .int) Bd.returns rfl (Or.inl ⟨rfl, Or.inl rfl, _, rfl⟩) (hb hby d3_45) hr) ⟨rfl, N7, rfl⟩ (by decide) (by decide)
  exact (Rn.st (fun t k => castTop (ef_cf4 m a0 a1 a2) k) first_ : Rn p e below (s₁.setTop (entryFrame m #[(.ref a0), (.ref a1), (.ref a2), (.int (4 : Int32))] 4)) (Fncf4 Z a0 a1 a2 kq kd kr hq hd_ hr_ q0 q1 q2 D0 D1 D2 R0 R1 h0 n0 s))
theorem d2_0 : decode method_6_code 0 = .ok (.iload_n 1, 1) := by decide +kernel
theorem d2_1 : decode method_6_code 1 = .ok (.aload_n 0, 1) := by decide +kernel
theorem d2_2 : decode method_6_code 2 = .ok (.arraylength, 1) := by decide +kernel
theorem d2_3 : decode method_6_code 3 = .ok (.if_icmp .ge 12, 3) := by decide +kernel
theorem d2_6 : decode method_6_code 6 = .ok (.aload_n 0, 1) := by decide +kernel
theorem d2_7 : decode method_6_code 7 = .ok (.iload_n 1, 1) := by decide +kernel
theorem d2_8 : decode method_6_code 8 = .ok (.daload, 1) := by decide +kernel
theorem d2_9 : decode method_6_code 9 = .ok (.iload_n 2, 1) := by decide +kernel
theorem d2_10 : decode method_6_code 10 = .ok (.i2d, 1) := by decide +kernel
theorem d2_11 : decode method_6_code 11 = .ok (.dcmp .l, 1) := by decide +kernel
theorem d2_12 : decode method_6_code 12 = .ok (.ifCond .ne 7, 3) := by decide +kernel
theorem d2_15 : decode method_6_code 15 = .ok (.iconst 1, 1) := by decide +kernel
theorem d2_16 : decode method_6_code 16 = .ok (.goto 4, 3) := by decide +kernel
theorem d2_20 : decode method_6_code 20 = .ok (.ireturn, 1) := by decide +kernel
theorem ef_2 (m : MethodId) (x0 : Addr) (x1 : Int32) (x2 : Int32) : entryFrame m #[(.ref x0), (.int x1), (.int x2)] 3 = mkF m 0 #[.val (.ref x0), .val (.int x1), .val (.int x2)] [] := by first | (simp [entryFrame, mkF, argsToLocals, Value.category]; done) | rfl
def Q2 (Z : State) (a0 : Addr) (p1 : Int32) (p2 : Int32) (ka : ClassId) (z : Int32) (ha : List (Int32 × Value)) (h0 : Heap) (n0 : Nat) (vQ : Option Value) (hQ_ : Heap) (LQ : List Loc) : Prop := vQ = some (.int (1 : Int32)) ∧ Fr n0 LQ ∧ hQ_ = h0
def Fn2 (Z : State) (a0 : Addr) (p1 : Int32) (p2 : Int32) (ka : ClassId) (z : Int32) (ha : List (Int32 × Value)) (h0 : Heap) (n0 : Nat) (sQ : State) (oQ : Outcome) (UQ : State) : Prop := ∃ vQ LQ, oQ = .returned vQ ∧ Q2 Z a0 p1 p2 ka z ha h0 n0 vQ UQ.heap LQ ∧ FrameEnd sQ oQ UQ LQ ({ frames := 0, cells := 0, slots := 0, locals := 0 } : Room).cells ({ frames := 0, cells := 0, slots := 0, locals := 0 } : Room).slots
set_option maxRecDepth 65536 in
set_option maxHeartbeats 40000000 in
theorem rm2 (l : Launch) (Z : State) (aZ : Array Value) (hw : ∀ d ∈ tables_1, d.before aZ Z = true) (ws : List Jvm.Cond) (a0 : Addr) (p1 : Int32) (p2 : Int32) (ka : ClassId) (z : Int32) (ha : List (Int32 × Value)) (h0 : Heap) (n0 : Nat) (Z0 : n0 ≤ h0.size) (V_a0 : Arh Z h0 a0 ka .double z ha [] (.double (0 : UInt64))) (hk : ¬ p1 < 0) (rd : p1 < z → getH ha [] (.double (0 : UInt64)) (p1).toNatClampNeg = (.double (FP.i2d p2))) :
    MetFree l (⟨"com/example/deseason/deseason/arima/PolynomialsQuotientPinLaw", "keptAt", "([DII)Z"⟩ : MethodName) (head1 (Jvm.Cond.code (⟨"com/example/deseason/deseason/arima/PolynomialsQuotientPinLaw", "keptAt", "([DII)Z"⟩ : MethodName) method_6_code 3 (some .boolean) :: ws) ({ frames := 0, cells := 0, slots := 0, locals := 0 } : Room)) (fun aQ UQ => aQ = #[(.ref a0), (.int p1), (.int p2)] ∧ Z.Warmed39 UQ.vm ∧ UQ.heap = h0) (fun _ _ _ _ _ => True) (fun _ UQ oQ UR => ∃ vQ LQ, oQ = .returned vQ ∧ Q2 Z a0 p1 p2 ka z ha h0 n0 vQ UR.heap LQ ∧ FrameEnd UQ oQ UR LQ ({ frames := 0, cells := 0, slots := 0, locals := 0 } : Room).cells ({ frames := 0, cells := 0, slots := 0, locals := 0 } : Room).slots) := by
  refine MetFree.of_bodySF (plainFor_of_name pn_0) hisR ?_
  intro p e s m args below meth c s₁ Bd hml0 hP hK
  obtain ⟨rfl, hZ, hh⟩ := hP
  have hx := Bd.exec
  have hby := Bd.bytes
  have hml : c.maxLocals = 3 := hml0
  have hown : s.vm.findClass "com/example/deseason/deseason/arima/PolynomialsQuotientPinLaw" = some m.cls := findClass_of_methodNamed Bd.named
  have hnm := (name_of_methodNamed Bd.named Bd.method).1
  have X0 : Stand p l e ({ frames := 0, cells := 0, slots := 0, locals := 0 } : Room) s m #[(.ref a0), (.int p1), (.int p2)] below meth c s₁ [] 0 0 := Stand.of_body Bd
  have e0 : s₁.heap = h0 := by rw [← hh, Bd.state]; rfl
  have N0 := Fr.nil n0
  have K0 : Keep h0 h0 [] := Keep.refl _ _
  have first_ : Rn p e below (s₁.setTop (mkF m 0 #[.val (.ref a0), .val (.int p1), .val (.int p2)] [])) (Fn2 Z a0 p1 p2 ka z ha h0 n0 s) := by
    generalize hG : (Fn2 Z a0 p1 p2 ka z ha h0 n0 s) = G
    refine R.iloadN X0 hx (hb hby d2_0) rfl (pc' := 1) rfl ?_
    refine R.aloadN X0 hx (hb hby d2_1) rfl rfl (pc' := 2) rfl ?_
    refine R.alen X0 hx hZ e0 V_a0 (hb hby d2_2) (pc' := 3) rfl ?_
    by_cases hc3 : p1 < z
    · refine R.icmpNo X0 hx (hb hby d2_3) (tlt hc3).2.1 (pc' := 6) rfl ?_
      refine R.aloadN X0 hx (hb hby d2_6) rfl rfl (pc' := 7) rfl ?_
      refine R.iloadN X0 hx (hb hby d2_7) rfl (pc' := 8) rfl ?_
      refine R.daload X0 hx hZ e0 V_a0 (⟨hk, hc3⟩ : ¬ p1 < 0 ∧ p1 < z) (v := (.double (FP.i2d p2))) (rd hc3) (hb hby d2_8) (pc' := 9) rfl ?_
      refine R.iloadN X0 hx (hb hby d2_9) rfl (pc' := 10) rfl ?_
      refine R.i2d X0 hx (hb hby d2_10) (pc' := 11) rfl ?_
      refine R.dcmp X0 hx (hb hby d2_11) (dcmpV_self (Dy.i2d p2).nn _ : cmpValue (FP.dcmp (FP.i2d p2) (FP.i2d p2)) .l = (0 : Int32)) (pc' := 12) rfl ?_
      refine R.ifNo X0 hx (hb hby d2_12) (teq (by decide : (0 : Int32) = (0 : Int32))).2 (pc' := 15) rfl ?_
      refine R.iconst X0 hx (hb hby d2_15) (v := (1 : Int32)) (by decide) (pc' := 16) rfl ?_
      refine R.goto X0 hx (hb hby d2_16) (by decide) (pc' := 20) (by decide) ?_
      rw [← hG]
      exact Rn.ret X0 (BodyLoose.notSynchronized Bd) (v := some (.int (1 : Int32))) (fun h => by rw [Bd.returns] at h; cases h) (Q := Q2 Z a0 p1 p2 ka z ha h0 n0) e0 (fun fs hr => retN X0 hx (t := .boolean) Bd.returns (by simp) (hb hby d2_20) hr) ⟨rfl, N0, rfl⟩ (by decide) (by decide)
    · refine R.icmpYes X0 hx (hb hby d2_3) (flt hc3).2.1 (by decide) (pc' := 15) (by decide) ?_
      refine R.iconst X0 hx (hb hby d2_15) (v := (1 : Int32)) (by decide) (pc' := 16) rfl ?_
      refine R.goto X0 hx (hb hby d2_16) (by decide) (pc' := 20) (by decide) ?_
      rw [← hG]
      exact Rn.ret X0 (BodyLoose.notSynchronized Bd) (v := some (.int (1 : Int32))) (fun h => by rw [Bd.returns] at h; cases h) (Q := Q2 Z a0 p1 p2 ka z ha h0 n0) e0 (fun fs hr => retN X0 hx (t := .boolean) Bd.returns (by simp) (hb hby d2_20) hr) ⟨rfl, N0, rfl⟩ (by decide) (by decide)
  exact (Rn.st (fun t k => castTop (ef_2 m a0 p1 p2) k) first_ : Rn p e below (s₁.setTop (entryFrame m #[(.ref a0), (.int p1), (.int p2)] 3)) (Fn2 Z a0 p1 p2 ka z ha h0 n0 s))
theorem d5_0 : decode method_5_code 0 = .ok (.iload_n 1, 1) := by decide +kernel
theorem d5_1 : decode method_5_code 1 = .ok (.aload_n 0, 1) := by decide +kernel
theorem d5_2 : decode method_5_code 2 = .ok (.arraylength, 1) := by decide +kernel
theorem d5_3 : decode method_5_code 3 = .ok (.if_icmp .ge 14, 3) := by decide +kernel
theorem d5_6 : decode method_5_code 6 = .ok (.aload_n 0, 1) := by decide +kernel
theorem d5_7 : decode method_5_code 7 = .ok (.iload_n 1, 1) := by decide +kernel
theorem d5_8 : decode method_5_code 8 = .ok (.daload, 1) := by decide +kernel
theorem d5_9 : decode method_5_code 9 = .ok (.aload_n 2, 1) := by decide +kernel
theorem d5_10 : decode method_5_code 10 = .ok (.iload_n 1, 1) := by decide +kernel
theorem d5_11 : decode method_5_code 11 = .ok (.iaload, 1) := by decide +kernel
theorem d5_12 : decode method_5_code 12 = .ok (.i2d, 1) := by decide +kernel
theorem d5_13 : decode method_5_code 13 = .ok (.dcmp .l, 1) := by decide +kernel
theorem d5_14 : decode method_5_code 14 = .ok (.ifCond .ne 7, 3) := by decide +kernel
theorem d5_17 : decode method_5_code 17 = .ok (.iconst 1, 1) := by decide +kernel
theorem d5_18 : decode method_5_code 18 = .ok (.goto 4, 3) := by decide +kernel
theorem d5_22 : decode method_5_code 22 = .ok (.ireturn, 1) := by decide +kernel
theorem ef_5 (m : MethodId) (x0 : Addr) (x1 : Int32) (x2 : Addr) : entryFrame m #[(.ref x0), (.int x1), (.ref x2)] 3 = mkF m 0 #[.val (.ref x0), .val (.int x1), .val (.ref x2)] [] := by first | (simp [entryFrame, mkF, argsToLocals, Value.category]; done) | rfl
def Q5 (Z : State) (a0 : Addr) (p1 : Int32) (a2 : Addr) (ka : ClassId) (z : Int32) (ha : List (Int32 × Value)) (kq : ClassId) (hq : List (Int32 × Value)) (qv : Int32) (h0 : Heap) (n0 : Nat) (vQ : Option Value) (hQ_ : Heap) (LQ : List Loc) : Prop := vQ = some (.int (1 : Int32)) ∧ Fr n0 LQ ∧ hQ_ = h0
def Fn5 (Z : State) (a0 : Addr) (p1 : Int32) (a2 : Addr) (ka : ClassId) (z : Int32) (ha : List (Int32 × Value)) (kq : ClassId) (hq : List (Int32 × Value)) (qv : Int32) (h0 : Heap) (n0 : Nat) (sQ : State) (oQ : Outcome) (UQ : State) : Prop := ∃ vQ LQ, oQ = .returned vQ ∧ Q5 Z a0 p1 a2 ka z ha kq hq qv h0 n0 vQ UQ.heap LQ ∧ FrameEnd sQ oQ UQ LQ ({ frames := 0, cells := 0, slots := 0, locals := 0 } : Room).cells ({ frames := 0, cells := 0, slots := 0, locals := 0 } : Room).slots
set_option maxRecDepth 65536 in
set_option maxHeartbeats 40000000 in
theorem rm5 (l : Launch) (Z : State) (aZ : Array Value) (hw : ∀ d ∈ tables_1, d.before aZ Z = true) (ws : List Jvm.Cond) (a0 : Addr) (p1 : Int32) (a2 : Addr) (ka : ClassId) (z : Int32) (ha : List (Int32 × Value)) (kq : ClassId) (hq : List (Int32 × Value)) (qv : Int32) (h0 : Heap) (n0 : Nat) (Z0 : n0 ≤ h0.size) (V_a0 : Arh Z h0 a0 ka .double z ha [] (.double (0 : UInt64))) (V_a2 : Arh Z h0 a2 kq .int (3 : Int32) hq [] (.int (0 : Int32))) (hk : ¬ p1 < 0 ∧ p1 < (3 : Int32)) (rq : getH hq [] (.int (0 : Int32)) (p1).toNatClampNeg = (.int qv)) (rd : p1 < z → ∃ v : UInt64, getH ha [] (.double (0 : UInt64)) (p1).toNatClampNeg = (.double v) ∧ Dy v qv.toInt 0) :
    MetFree l (⟨"com/example/deseason/deseason/arima/PolynomialsQuotientPinLaw", "qAt", "([DI[I)Z"⟩ : MethodName) (head1 (Jvm.Cond.code (⟨"com/example/deseason/deseason/arima/PolynomialsQuotientPinLaw", "qAt", "([DI[I)Z"⟩ : MethodName) method_5_code 3 (some .boolean) :: ws) ({ frames := 0, cells := 0, slots := 0, locals := 0 } : Room)) (fun aQ UQ => aQ = #[(.ref a0), (.int p1), (.ref a2)] ∧ Z.Warmed39 UQ.vm ∧ UQ.heap = h0) (fun _ _ _ _ _ => True) (fun _ UQ oQ UR => ∃ vQ LQ, oQ = .returned vQ ∧ Q5 Z a0 p1 a2 ka z ha kq hq qv h0 n0 vQ UR.heap LQ ∧ FrameEnd UQ oQ UR LQ ({ frames := 0, cells := 0, slots := 0, locals := 0 } : Room).cells ({ frames := 0, cells := 0, slots := 0, locals := 0 } : Room).slots) := by
  refine MetFree.of_bodySF (plainFor_of_name pn_0) hisR ?_
  intro p e s m args below meth c s₁ Bd hml0 hP hK
  obtain ⟨rfl, hZ, hh⟩ := hP
  have hx := Bd.exec
  have hby := Bd.bytes
  have hml : c.maxLocals = 3 := hml0
  have hown : s.vm.findClass "com/example/deseason/deseason/arima/PolynomialsQuotientPinLaw" = some m.cls := findClass_of_methodNamed Bd.named
  have hnm := (name_of_methodNamed Bd.named Bd.method).1
  have X0 : Stand p l e ({ frames := 0, cells := 0, slots := 0, locals := 0 } : Room) s m #[(.ref a0), (.int p1), (.ref a2)] below meth c s₁ [] 0 0 := Stand.of_body Bd
  have e0 : s₁.heap = h0 := by rw [← hh, Bd.state]; rfl
  have N0 := Fr.nil n0
  have K0 : Keep h0 h0 [] := Keep.refl _ _
  have first_ : Rn p e below (s₁.setTop (mkF m 0 #[.val (.ref a0), .val (.int p1), .val (.ref a2)] [])) (Fn5 Z a0 p1 a2 ka z ha kq hq qv h0 n0 s) := by
    generalize hG : (Fn5 Z a0 p1 a2 ka z ha kq hq qv h0 n0 s) = G
    refine R.iloadN X0 hx (hb hby d5_0) rfl (pc' := 1) rfl ?_
    refine R.aloadN X0 hx (hb hby d5_1) rfl rfl (pc' := 2) rfl ?_
    refine R.alen X0 hx hZ e0 V_a0 (hb hby d5_2) (pc' := 3) rfl ?_
    by_cases hc3 : p1 < z
    · refine R.icmpNo X0 hx (hb hby d5_3) (tlt hc3).2.1 (pc' := 6) rfl ?_
      obtain ⟨v, hv, Dv⟩ := rd hc3
      refine R.aloadN X0 hx (hb hby d5_6) rfl rfl (pc' := 7) rfl ?_
      refine R.iloadN X0 hx (hb hby d5_7) rfl (pc' := 8) rfl ?_
      refine R.daload X0 hx hZ e0 V_a0 (⟨hk.1, hc3⟩ : ¬ p1 < 0 ∧ p1 < z) (v := (.double v)) (hv) (hb hby d5_8) (pc' := 9) rfl ?_
      refine R.aloadN X0 hx (hb hby d5_9) rfl rfl (pc' := 10) rfl ?_
      refine R.iloadN X0 hx (hb hby d5_10) rfl (pc' := 11) rfl ?_
      refine R.iaload X0 hx hZ e0 V_a2 (hk : ¬ p1 < 0 ∧ p1 < (3 : Int32)) (v := (.int qv)) (rq) (hb hby d5_11) (pc' := 12) rfl ?_
      refine R.i2d X0 hx (hb hby d5_12) (pc' := 13) rfl ?_
      refine R.dcmp X0 hx (hb hby d5_13) (Dv.cmp (Dy.i2d qv) _ : cmpValue (FP.dcmp v (FP.i2d qv)) .l = (own_ci qv.toInt qv.toInt)) (pc' := 14) rfl ?_
      refine R.ifNo X0 hx (hb hby d5_14) (teq (own_ci_eq.mpr rfl : (own_ci qv.toInt qv.toInt) = (0 : Int32))).2 (pc' := 17) rfl ?_
      refine R.iconst X0 hx (hb hby d5_17) (v := (1 : Int32)) (by decide) (pc' := 18) rfl ?_
      refine R.goto X0 hx (hb hby d5_18) (by decide) (pc' := 22) (by decide) ?_
      rw [← hG]
      exact Rn.ret X0 (BodyLoose.notSynchronized Bd) (v := some (.int (1 : Int32))) (fun h => by rw [Bd.returns] at h; cases h) (Q := Q5 Z a0 p1 a2 ka z ha kq hq qv h0 n0) e0 (fun fs hr => retN X0 hx (t := .boolean) Bd.returns (by simp) (hb hby d5_22) hr) ⟨rfl, N0, rfl⟩ (by decide) (by decide)
    · refine R.icmpYes X0 hx (hb hby d5_3) (flt hc3).2.1 (by decide) (pc' := 17) (by decide) ?_
      refine R.iconst X0 hx (hb hby d5_17) (v := (1 : Int32)) (by decide) (pc' := 18) rfl ?_
      refine R.goto X0 hx (hb hby d5_18) (by decide) (pc' := 22) (by decide) ?_
      rw [← hG]
      exact Rn.ret X0 (BodyLoose.notSynchronized Bd) (v := some (.int (1 : Int32))) (fun h => by rw [Bd.returns] at h; cases h) (Q := Q5 Z a0 p1 a2 ka z ha kq hq qv h0 n0) e0 (fun fs hr => retN X0 hx (t := .boolean) Bd.returns (by simp) (hb hby d5_22) hr) ⟨rfl, N0, rfl⟩ (by decide) (by decide)
  exact (Rn.st (fun t k => castTop (ef_5 m a0 p1 a2) k) first_ : Rn p e below (s₁.setTop (entryFrame m #[(.ref a0), (.int p1), (.ref a2)] 3)) (Fn5 Z a0 p1 a2 ka z ha kq hq qv h0 n0 s))
theorem d1_0 : decode prog_10_method_6_code 0 = .ok (.aload_n 1, 1) := by decide +kernel
theorem d1_1 : decode prog_10_method_6_code 1 = .ok (.arraylength, 1) := by decide +kernel
theorem d1_2 : decode prog_10_method_6_code 2 = .ok (.iconst 1, 1) := by decide +kernel
theorem d1_3 : decode prog_10_method_6_code 3 = .ok (.isub, 1) := by decide +kernel
theorem d1_4 : decode prog_10_method_6_code 4 = .ok (.istore_n 2, 1) := by decide +kernel
theorem d1_5 : decode prog_10_method_6_code 5 = .ok (.aload_n 0, 1) := by decide +kernel
theorem d1_6 : decode prog_10_method_6_code 6 = .ok (.arraylength, 1) := by decide +kernel
theorem d1_7 : decode prog_10_method_6_code 7 = .ok (.iload_n 2, 1) := by decide +kernel
theorem d1_8 : decode prog_10_method_6_code 8 = .ok (.if_icmp .gt 7, 3) := by decide +kernel
theorem d1_11 : decode prog_10_method_6_code 11 = .ok (.iconst 0, 1) := by decide +kernel
theorem d1_12 : decode prog_10_method_6_code 12 = .ok (.newarray .double, 2) := by decide +kernel
theorem d1_14 : decode prog_10_method_6_code 14 = .ok (.areturn, 1) := by decide +kernel
theorem pn_1 : plainName "com/example/deseason/deseason/arima/Polynomials" = true := by first | (simp [plainName, overriddenIn]; done) | decide +kernel
theorem ef_q0 (m : MethodId) (x0 : Addr) (x1 : Addr) : entryFrame m #[(.ref x0), (.ref x1)] 7 = mkF m 0 #[.val (.ref x0), .val (.ref x1), .unset, .unset, .unset, .unset, .unset] [] := by first | (simp [entryFrame, mkF, argsToLocals, Value.category]; done) | rfl
def Qq0 (Z : State) (a0 : Addr) (a1 : Addr) (ka : ClassId) (kb : ClassId) (z : Int32) (y : Int32) (ha : List (Int32 × Value)) (hbb : List (Int32 × Value)) (h0 : Heap) (n0 : Nat) (vQ : Option Value) (hQ_ : Heap) (LQ : List Loc) : Prop := ∃ r : Addr, ∃ kr : ClassId, vQ = some (.ref r) ∧ Fr n0 LQ ∧ Keep h0 hQ_ [] ∧ (h0.size ≤ r) ∧ (Arh Z hQ_ r kr .double (0 : Int32) [] [] (.double (0 : UInt64)))
def Fnq0 (Z : State) (a0 : Addr) (a1 : Addr) (ka : ClassId) (kb : ClassId) (z : Int32) (y : Int32) (ha : List (Int32 × Value)) (hbb : List (Int32 × Value)) (h0 : Heap) (n0 : Nat) (sQ : State) (oQ : Outcome) (UQ : State) : Prop := ∃ vQ LQ, oQ = .returned vQ ∧ Qq0 Z a0 a1 ka kb z y ha hbb h0 n0 vQ UQ.heap LQ ∧ FrameEnd sQ oQ UQ LQ ({ frames := 0, cells := 1, slots := 0, locals := 0 } : Room).cells ({ frames := 0, cells := 1, slots := 0, locals := 0 } : Room).slots
set_option maxRecDepth 65536 in
set_option maxHeartbeats 40000000 in
theorem rmq0 (l : Launch) (Z : State) (aZ : Array Value) (hw : ∀ d ∈ tables_1, d.before aZ Z = true) (ws : List Jvm.Cond) (a0 : Addr) (a1 : Addr) (ka : ClassId) (kb : ClassId) (z : Int32) (y : Int32) (ha : List (Int32 × Value)) (hbb : List (Int32 × Value)) (h0 : Heap) (n0 : Nat) (Z0 : n0 ≤ h0.size) (V_a0 : Arh Z h0 a0 ka .double z ha [] (.double (0 : UInt64))) (V_a1 : Arh Z h0 a1 kb .double y hbb [] (.double (0 : UInt64))) (hle : ¬ (y - (1 : Int32)) < z) :
    MetFree l (⟨"com/example/deseason/deseason/arima/Polynomials", "quotient", "([D[D)[D"⟩ : MethodName) (head1 (Jvm.Cond.code (⟨"com/example/deseason/deseason/arima/Polynomials", "quotient", "([D[D)[D"⟩ : MethodName) prog_10_method_6_code 7 (some (.array .double)) :: ws) ({ frames := 0, cells := 1, slots := 0, locals := 0 } : Room)) (fun aQ UQ => aQ = #[(.ref a0), (.ref a1)] ∧ Z.Warmed39 UQ.vm ∧ UQ.heap = h0) (fun _ _ _ _ _ => True) (fun _ UQ oQ UR => ∃ vQ LQ, oQ = .returned vQ ∧ Qq0 Z a0 a1 ka kb z y ha hbb h0 n0 vQ UR.heap LQ ∧ FrameEnd UQ oQ UR LQ ({ frames := 0, cells := 1, slots := 0, locals := 0 } : Room).cells ({ frames := 0, cells := 1, slots := 0, locals := 0 } : Room).slots) := by
  refine MetFree.of_bodySF (plainFor_of_name pn_1) hisR ?_
  intro p e s m args below meth c s₁ Bd hml0 hP hK
  obtain ⟨rfl, hZ, hh⟩ := hP
  have hx := Bd.exec
  have hby := Bd.bytes
  have hml : c.maxLocals = 7 := hml0
  have hown : s.vm.findClass "com/example/deseason/deseason/arima/Polynomials" = some m.cls := findClass_of_methodNamed Bd.named
  have hnm := (name_of_methodNamed Bd.named Bd.method).1
  have X0 : Stand p l e ({ frames := 0, cells := 1, slots := 0, locals := 0 } : Room) s m #[(.ref a0), (.ref a1)] below meth c s₁ [] 0 0 := Stand.of_body Bd
  have e0 : s₁.heap = h0 := by rw [← hh, Bd.state]; rfl
  have N0 := Fr.nil n0
  have K0 : Keep h0 h0 [] := Keep.refl _ _
  have w_1 := hw _ (List.mem_of_getElem? (i := 1) rfl)
  have first_ : Rn p e below (s₁.setTop (mkF m 0 #[.val (.ref a0), .val (.ref a1), .unset, .unset, .unset, .unset, .unset] [])) (Fnq0 Z a0 a1 ka kb z y ha hbb h0 n0 s) := by
    generalize hG : (Fnq0 Z a0 a1 ka kb z y ha hbb h0 n0 s) = G
    refine R.aloadN X0 hx (hb hby d1_0) rfl rfl (pc' := 1) rfl ?_
    refine R.alen X0 hx hZ e0 V_a1 (hb hby d1_1) (pc' := 2) rfl ?_
    refine R.iconst X0 hx (hb hby d1_2) (v := (1 : Int32)) (by decide) (pc' := 3) rfl ?_
    refine R.isub X0 hx (hb hby d1_3) rfl (pc' := 4) rfl ?_
    refine R.istoreN X0 hx (hb hby d1_4) (L' := #[.val (.ref a0), .val (.ref a1), .val (.int (y - (1 : Int32))), .unset, .unset, .unset, .unset]) rfl (pc' := 5) rfl ?_
    refine R.aloadN X0 hx (hb hby d1_5) rfl rfl (pc' := 6) rfl ?_
    refine R.alen X0 hx hZ e0 V_a0 (hb hby d1_6) (pc' := 7) rfl ?_
    refine R.iloadN X0 hx (hb hby d1_7) rfl (pc' := 8) rfl ?_
    refine R.icmpNo X0 hx (hb hby d1_8) (flt (hle : ¬ ((y - (1 : Int32)) < z))).2.2.1 (pc' := 11) rfl ?_
    refine R.iconst X0 hx (hb hby d1_11) (v := (0 : Int32)) (by decide) (pc' := 12) rfl ?_
    refine R.newP X0 hx hZ (ty := .double) rfl w_1 e0 (by decide) (cap := 0) (by decide) (by decide) (ad := "[D") (by decide) (hb hby d1_12) (pc' := 14) rfl (by decide) (by decide) ?_; intro T1 h1 b1 k1 g1 X1 e1 E1 EE1 AA1
    have g_b1 : n0 ≤ b1 := Nat.le_trans Z0 (Nat.le_of_eq g1.symm)
    have sz_b1 : h0.size ≤ b1 := Nat.le_trans K0.1 (Nat.le_of_eq g1.symm)
    have ne_a0_b1 : a0 ≠ b1 := Nat.ne_of_lt (Nat.lt_of_lt_of_le V_a0.lt (Nat.le_of_eq g1.symm))
    have ne_a1_b1 : a1 ≠ b1 := Nat.ne_of_lt (Nat.lt_of_lt_of_le V_a1.lt (Nat.le_of_eq g1.symm))
    have K1 : Keep h0 h1 [] := K0.ext E1
    have Z1 : n0 ≤ h1.size := Nat.le_trans Z0 E1.1
    have V_a0 := V_a0.ext E1
    have V_a1 := V_a1.ext E1
    have V_b1 : Arh Z h1 b1 k1 .double (0 : Int32) [] [] (.double (0 : UInt64)) := AA1
    rw [← hG]
    exact Rn.ret X1 (BodyLoose.notSynchronized Bd) (v := some (.ref b1)) (fun h => by rw [Bd.returns] at h; cases h) (Q := Qq0 Z a0 a1 ka kb z y ha hbb h0 n0) e1 (fun fs hr => retOut X1 hx (t := (.array .double)) Bd.returns rfl (Or.inr (Or.inr (Or.inr (Or.inr ⟨rfl, rfl, rfl⟩)))) (hb hby d1_14) hr) ⟨b1, k1, rfl, N0, K1, (sz_b1), V_b1⟩ (by decide) (by decide)
  exact (Rn.st (fun t k => castTop (ef_q0 m a0 a1) k) first_ : Rn p e below (s₁.setTop (entryFrame m #[(.ref a0), (.ref a1)] 7)) (Fnq0 Z a0 a1 ka kb z y ha hbb h0 n0 s))
theorem d1_15 : decode prog_10_method_6_code 15 = .ok (.aload_n 0, 1) := by decide +kernel
theorem d1_16 : decode prog_10_method_6_code 16 = .ok (.invokevirtual 13, 3) := by decide +kernel
theorem d1_19 : decode prog_10_method_6_code 19 = .ok (.checkcast 14, 3) := by decide +kernel
theorem d1_22 : decode prog_10_method_6_code 22 = .ok (.astore_n 3, 1) := by decide +kernel
theorem d1_23 : decode prog_10_method_6_code 23 = .ok (.aload_n 0, 1) := by decide +kernel
theorem d1_24 : decode prog_10_method_6_code 24 = .ok (.arraylength, 1) := by decide +kernel
theorem d1_25 : decode prog_10_method_6_code 25 = .ok (.iload_n 2, 1) := by decide +kernel
theorem d1_26 : decode prog_10_method_6_code 26 = .ok (.isub, 1) := by decide +kernel
theorem d1_27 : decode prog_10_method_6_code 27 = .ok (.newarray .double, 2) := by decide +kernel
theorem d1_29 : decode prog_10_method_6_code 29 = .ok (.astore 4, 2) := by decide +kernel
theorem d1_31 : decode prog_10_method_6_code 31 = .ok (.aload 4, 2) := by decide +kernel
theorem d1_33 : decode prog_10_method_6_code 33 = .ok (.arraylength, 1) := by decide +kernel
theorem d1_34 : decode prog_10_method_6_code 34 = .ok (.iconst 1, 1) := by decide +kernel
theorem d1_35 : decode prog_10_method_6_code 35 = .ok (.isub, 1) := by decide +kernel
theorem d1_36 : decode prog_10_method_6_code 36 = .ok (.istore 5, 2) := by decide +kernel
theorem d1_38 : decode prog_10_method_6_code 38 = .ok (.iload 5, 2) := by decide +kernel
theorem d1_40 : decode prog_10_method_6_code 40 = .ok (.ifCond .lt 59, 3) := by decide +kernel
theorem d1_43 : decode prog_10_method_6_code 43 = .ok (.aload 4, 2) := by decide +kernel
theorem d1_45 : decode prog_10_method_6_code 45 = .ok (.iload 5, 2) := by decide +kernel
theorem d1_47 : decode prog_10_method_6_code 47 = .ok (.aload_n 3, 1) := by decide +kernel
theorem d1_48 : decode prog_10_method_6_code 48 = .ok (.iload 5, 2) := by decide +kernel
theorem d1_50 : decode prog_10_method_6_code 50 = .ok (.iload_n 2, 1) := by decide +kernel
theorem d1_51 : decode prog_10_method_6_code 51 = .ok (.iadd, 1) := by decide +kernel
theorem d1_52 : decode prog_10_method_6_code 52 = .ok (.daload, 1) := by decide +kernel
theorem d1_53 : decode prog_10_method_6_code 53 = .ok (.aload_n 1, 1) := by decide +kernel
theorem d1_54 : decode prog_10_method_6_code 54 = .ok (.iload_n 2, 1) := by decide +kernel
theorem d1_55 : decode prog_10_method_6_code 55 = .ok (.daload, 1) := by decide +kernel
theorem d1_56 : decode prog_10_method_6_code 56 = .ok (.ddiv, 1) := by decide +kernel
theorem d1_57 : decode prog_10_method_6_code 57 = .ok (.dastore, 1) := by decide +kernel
theorem d1_58 : decode prog_10_method_6_code 58 = .ok (.iconst 0, 1) := by decide +kernel
theorem d1_59 : decode prog_10_method_6_code 59 = .ok (.istore 6, 2) := by decide +kernel
theorem d1_61 : decode prog_10_method_6_code 61 = .ok (.iload 6, 2) := by decide +kernel
theorem d1_63 : decode prog_10_method_6_code 63 = .ok (.iload_n 2, 1) := by decide +kernel
theorem d1_64 : decode prog_10_method_6_code 64 = .ok (.if_icmp .gt 29, 3) := by decide +kernel
theorem d1_67 : decode prog_10_method_6_code 67 = .ok (.aload_n 3, 1) := by decide +kernel
theorem d1_68 : decode prog_10_method_6_code 68 = .ok (.iload 5, 2) := by decide +kernel
theorem d1_70 : decode prog_10_method_6_code 70 = .ok (.iload 6, 2) := by decide +kernel
theorem d1_72 : decode prog_10_method_6_code 72 = .ok (.iadd, 1) := by decide +kernel
theorem d1_73 : decode prog_10_method_6_code 73 = .ok (.dup2, 1) := by decide +kernel
theorem d1_74 : decode prog_10_method_6_code 74 = .ok (.daload, 1) := by decide +kernel
theorem d1_75 : decode prog_10_method_6_code 75 = .ok (.aload 4, 2) := by decide +kernel
theorem d1_77 : decode prog_10_method_6_code 77 = .ok (.iload 5, 2) := by decide +kernel
theorem d1_79 : decode prog_10_method_6_code 79 = .ok (.daload, 1) := by decide +kernel
theorem d1_80 : decode prog_10_method_6_code 80 = .ok (.aload_n 1, 1) := by decide +kernel
theorem d1_81 : decode prog_10_method_6_code 81 = .ok (.iload 6, 2) := by decide +kernel
theorem d1_83 : decode prog_10_method_6_code 83 = .ok (.daload, 1) := by decide +kernel
theorem d1_84 : decode prog_10_method_6_code 84 = .ok (.dmul, 1) := by decide +kernel
theorem d1_85 : decode prog_10_method_6_code 85 = .ok (.dsub, 1) := by decide +kernel
theorem d1_86 : decode prog_10_method_6_code 86 = .ok (.dastore, 1) := by decide +kernel
theorem d1_87 : decode prog_10_method_6_code 87 = .ok (.iinc 6 1, 3) := by decide +kernel
theorem d1_90 : decode prog_10_method_6_code 90 = .ok (.goto (-29), 3) := by decide +kernel
theorem d1_93 : decode prog_10_method_6_code 93 = .ok (.iinc 5 (-1), 3) := by decide +kernel
theorem d1_96 : decode prog_10_method_6_code 96 = .ok (.goto (-58), 3) := by decide +kernel
theorem d1_99 : decode prog_10_method_6_code 99 = .ok (.aload 4, 2) := by decide +kernel
theorem d1_101 : decode prog_10_method_6_code 101 = .ok (.areturn, 1) := by decide +kernel
theorem ef_qq11 (m : MethodId) (x0 : Addr) (x1 : Addr) : entryFrame m #[(.ref x0), (.ref x1)] 7 = mkF m 0 #[.val (.ref x0), .val (.ref x1), .unset, .unset, .unset, .unset, .unset] [] := by first | (simp [entryFrame, mkF, argsToLocals, Value.category]; done) | rfl
def Qqq11 (Z : State) (a0 : Addr) (a1 : Addr) (ka : ClassId) (kb : ClassId) (ha : List (Int32 × Value)) (hbb : List (Int32 × Value)) (x0 : UInt64) (y0 : UInt64) (C0 : Int) (D0 : Int) (Q0 : Int) (h0 : Heap) (n0 : Nat) (vQ : Option Value) (hQ_ : Heap) (LQ : List Loc) : Prop := ∃ r : Addr, ∃ kr : ClassId, ∃ hr : List (Int32 × Value), vQ = some (.ref r) ∧ Fr n0 LQ ∧ Keep h0 hQ_ [] ∧ (h0.size ≤ r) ∧ (Arh Z hQ_ r kr .double (1 : Int32) hr [] (.double (0 : UInt64))) ∧ (∃ v : UInt64, getH hr [] (.double (0 : UInt64)) ((0 : Int32)).toNatClampNeg = (.double v) ∧ Dy v Q0 0)
def Fnqq11 (Z : State) (a0 : Addr) (a1 : Addr) (ka : ClassId) (kb : ClassId) (ha : List (Int32 × Value)) (hbb : List (Int32 × Value)) (x0 : UInt64) (y0 : UInt64) (C0 : Int) (D0 : Int) (Q0 : Int) (h0 : Heap) (n0 : Nat) (sQ : State) (oQ : Outcome) (UQ : State) : Prop := ∃ vQ LQ, oQ = .returned vQ ∧ Qqq11 Z a0 a1 ka kb ha hbb x0 y0 C0 D0 Q0 h0 n0 vQ UQ.heap LQ ∧ FrameEnd sQ oQ UQ LQ ({ frames := 1, cells := 2, slots := 6, locals := 14 } : Room).cells ({ frames := 1, cells := 2, slots := 6, locals := 14 } : Room).slots
set_option maxRecDepth 65536 in
set_option maxHeartbeats 40000000 in
theorem rmqq11 (l : Launch) (Z : State) (aZ : Array Value) (hw : ∀ d ∈ tables_1, d.before aZ Z = true) (ws : List Jvm.Cond) (a0 : Addr) (a1 : Addr) (ka : ClassId) (kb : ClassId) (ha : List (Int32 × Value)) (hbb : List (Int32 × Value)) (x0 : UInt64) (y0 : UInt64) (C0 : Int) (D0 : Int) (Q0 : Int) (h0 : Heap) (n0 : Nat) (Z0 : n0 ≤ h0.size) (V_a0 : Arh Z h0 a0 ka .double (1 : Int32) ha [] (.double (0 : UInt64))) (E_a0 : Exa Z h0 a0 "[D") (V_a1 : Arh Z h0 a1 kb .double (1 : Int32) hbb [] (.double (0 : UInt64))) (vx0 : getH ha [] (.double (0 : UInt64)) ((0 : Int32)).toNatClampNeg = (.double x0)) (Dx0 : Dy x0 C0 0) (vy0 : getH hbb [] (.double (0 : UInt64)) ((0 : Int32)).toNatClampNeg = (.double y0)) (Dy0 : Dy y0 D0 0) (el0 : C0 = Q0 * D0) (hL : D0 ≠ 0) (bd0 : own_ab D0 128) (bq0 : own_ab Q0 128) :
    MetFree l (⟨"com/example/deseason/deseason/arima/Polynomials", "quotient", "([D[D)[D"⟩ : MethodName) (head1 (Jvm.Cond.code (⟨"com/example/deseason/deseason/arima/Polynomials", "quotient", "([D[D)[D"⟩ : MethodName) prog_10_method_6_code 7 (some (.array .double)) :: ws) ({ frames := 1, cells := 2, slots := 6, locals := 14 } : Room)) (fun aQ UQ => aQ = #[(.ref a0), (.ref a1)] ∧ Z.Warmed39 UQ.vm ∧ UQ.heap = h0) (fun _ _ _ _ _ => True) (fun _ UQ oQ UR => ∃ vQ LQ, oQ = .returned vQ ∧ Qqq11 Z a0 a1 ka kb ha hbb x0 y0 C0 D0 Q0 h0 n0 vQ UR.heap LQ ∧ FrameEnd UQ oQ UR LQ ({ frames := 1, cells := 2, slots := 6, locals := 14 } : Room).cells ({ frames := 1, cells := 2, slots := 6, locals := 14 } : Room).slots) := by
  refine MetFree.of_bodySF (plainFor_of_name pn_1) hisR ?_
  intro p e s m args below meth c s₁ Bd hml0 hP hK
  obtain ⟨rfl, hZ, hh⟩ := hP
  have hx := Bd.exec
  have hby := Bd.bytes
  have hml : c.maxLocals = 7 := hml0
  have hown : s.vm.findClass "com/example/deseason/deseason/arima/Polynomials" = some m.cls := findClass_of_methodNamed Bd.named
  have hnm := (name_of_methodNamed Bd.named Bd.method).1
  have X0 : Stand p l e ({ frames := 1, cells := 2, slots := 6, locals := 14 } : Room) s m #[(.ref a0), (.ref a1)] below meth c s₁ [] 0 0 := Stand.of_body Bd
  have e0 : s₁.heap = h0 := by rw [← hh, Bd.state]; rfl
  have N0 := Fr.nil n0
  have K0 : Keep h0 h0 [] := Keep.refl _ _
  have w_1 := hw _ (List.mem_of_getElem? (i := 1) rfl)
  have w_16 := hw _ (List.mem_of_getElem? (i := 16) rfl)
  have w_17 := hw _ (List.mem_of_getElem? (i := 17) rfl)
  have w_19 := hw _ (List.mem_of_getElem? (i := 19) rfl)
  have w_20 := hw _ (List.mem_of_getElem? (i := 20) rfl)
  have w_21 := hw _ (List.mem_of_getElem? (i := 21) rfl)
  have w_22 := hw _ (List.mem_of_getElem? (i := 22) rfl)
  have w_23 := hw _ (List.mem_of_getElem? (i := 23) rfl)
  have first_ : Rn p e below (s₁.setTop (mkF m 0 #[.val (.ref a0), .val (.ref a1), .unset, .unset, .unset, .unset, .unset] [])) (Fnqq11 Z a0 a1 ka kb ha hbb x0 y0 C0 D0 Q0 h0 n0 s) := by
    generalize hG : (Fnqq11 Z a0 a1 ka kb ha hbb x0 y0 C0 D0 Q0 h0 n0 s) = G
    have ac0 : own_ab C0 16384 := el0 ▸ (own_ab.mul bq0 bd0)
    refine R.aloadN X0 hx (hb hby d1_0) rfl rfl (pc' := 1) rfl ?_
    refine R.alen X0 hx hZ e0 V_a1 (hb hby d1_1) (pc' := 2) rfl ?_
    refine R.iconst X0 hx (hb hby d1_2) (v := (1 : Int32)) (by decide) (pc' := 3) rfl ?_
    refine R.isub X0 hx (hb hby d1_3) (v := (0 : Int32)) (by decide) (pc' := 4) rfl ?_
    refine R.istoreN X0 hx (hb hby d1_4) (L' := #[.val (.ref a0), .val (.ref a1), .val (.int (0 : Int32)), .unset, .unset, .unset, .unset]) rfl (pc' := 5) rfl ?_
    refine R.aloadN X0 hx (hb hby d1_5) rfl rfl (pc' := 6) rfl ?_
    refine R.alen X0 hx hZ e0 V_a0 (hb hby d1_6) (pc' := 7) rfl ?_
    refine R.iloadN X0 hx (hb hby d1_7) rfl (pc' := 8) rfl ?_
    refine R.icmpYes X0 hx (hb hby d1_8) (tlt (by decide : (0 : Int32) < (1 : Int32))).2.2.1 (by decide) (pc' := 15) (by decide) ?_
    refine R.aloadN X0 hx (hb hby d1_15) rfl rfl (pc' := 16) rfl ?_
    show Rn p e below (s₁.setTop (mkF m 16 #[.val (.ref a0), .val (.ref a1), .val (.int (0 : Int32)), .unset, .unset, .unset, .unset] [(.ref a0)])) G
    obtain ⟨T1, h1, X1, e1, E1, V1, EE1, st1⟩ := cloneH X0 hx hZ hown (ad := "[D") w_16 w_17 w_21 w_19 w_20 w_22 e0 V_a0 E_a0 (g := (mkF m 16 #[.val (.ref a0), .val (.ref a1), .val (.int (0 : Int32)), .unset, .unset, .unset, .unset] [(.ref a0)])) rfl (by rw [hml]; rfl) rfl (hb hby d1_16) (by decide) (W := 0) (cap := 5) (by show 2 * 0 + _ ≤ _; exact Nat.le_of_eq rfl) (by decide) (by decide) (by decide) (by decide)
    obtain ⟨b1, g1⟩ : ∃ z, z = h0.size := ⟨_, rfl⟩
    rw [← g1] at V1 EE1 st1
    have g_b1 : n0 ≤ b1 := Nat.le_trans Z0 (Nat.le_of_eq g1.symm)
    have sz_b1 : h0.size ≤ b1 := Nat.le_trans K0.1 (Nat.le_of_eq g1.symm)
    have ne_a0_b1 : a0 ≠ b1 := Nat.ne_of_lt (Nat.lt_of_lt_of_le V_a0.lt (Nat.le_of_eq g1.symm))
    have ne_a1_b1 : a1 ≠ b1 := Nat.ne_of_lt (Nat.lt_of_lt_of_le V_a1.lt (Nat.le_of_eq g1.symm))
    have K1 : Keep h0 h1 [] := K0.ext E1
    have Z1 : n0 ≤ h1.size := Nat.le_trans Z0 E1.1
    have V_a0 := V_a0.ext E1
    have E_a0 := E_a0.ext E1
    have V_a1 := V_a1.ext E1
    have V_b1 : Arh Z h1 b1 ka .double (1 : Int32) ha [] (.double (0 : UInt64)) := V1
    have E_b1 : Exa Z h1 b1 "[D" := EE1
    refine Rn.st st1 ?_
    show Rn p e below (T1.setTop (mkF m 19 #[.val (.ref a0), .val (.ref a1), .val (.int (0 : Int32)), .unset, .unset, .unset, .unset] [(.ref b1)])) G
    refine R.castY X1 hx hZ hown w_23 e1 (Ins.self E_b1) (hb hby d1_19) (pc' := 22) rfl ?_; intro T2 X2 e2
    refine R.astoreN X2 hx (hb hby d1_22) rfl (L' := #[.val (.ref a0), .val (.ref a1), .val (.int (0 : Int32)), .val (.ref b1), .unset, .unset, .unset]) rfl (pc' := 23) rfl ?_
    refine R.aloadN X2 hx (hb hby d1_23) rfl rfl (pc' := 24) rfl ?_
    refine R.alen X2 hx hZ e2 V_a0 (hb hby d1_24) (pc' := 25) rfl ?_
    refine R.iloadN X2 hx (hb hby d1_25) rfl (pc' := 26) rfl ?_
    refine R.isub X2 hx (hb hby d1_26) (v := (1 : Int32)) (by decide) (pc' := 27) rfl ?_
    refine R.newP X2 hx hZ (ty := .double) rfl w_1 e2 (by decide) (cap := 1) (by decide) (by decide) (ad := "[D") (by decide) (hb hby d1_27) (pc' := 29) rfl (by decide) (by decide) ?_; intro T3 h3 b3 k3 g3 X3 e3 E3 EE3 AA3
    have g_b3 : n0 ≤ b3 := Nat.le_trans Z1 (Nat.le_of_eq g3.symm)
    have sz_b3 : h0.size ≤ b3 := Nat.le_trans K1.1 (Nat.le_of_eq g3.symm)
    have ne_a0_b3 : a0 ≠ b3 := Nat.ne_of_lt (Nat.lt_of_lt_of_le V_a0.lt (Nat.le_of_eq g3.symm))
    have ne_a1_b3 : a1 ≠ b3 := Nat.ne_of_lt (Nat.lt_of_lt_of_le V_a1.lt (Nat.le_of_eq g3.symm))
    have ne_b1_b3 : b1 ≠ b3 := Nat.ne_of_lt (Nat.lt_of_lt_of_le V_b1.lt (Nat.le_of_eq g3.symm))
    have K3 : Keep h0 h3 [] := K1.ext E3
    have Z3 : n0 ≤ h3.size := Nat.le_trans Z1 E3.1
    have V_a0 := V_a0.ext E3
    have E_a0 := E_a0.ext E3
    have V_a1 := V_a1.ext E3
    have V_b1 := V_b1.ext E3
    have E_b1 := E_b1.ext E3
    have V_b3 : Arh Z h3 b3 k3 .double (1 : Int32) [] [] (.double (0 : UInt64)) := AA3
    refine R.astore X3 hx (hb hby d1_29) rfl (L' := #[.val (.ref a0), .val (.ref a1), .val (.int (0 : Int32)), .val (.ref b1), .val (.ref b3), .unset, .unset]) rfl (pc' := 31) rfl ?_
    refine R.aload X3 hx (hb hby d1_31) rfl rfl (pc' := 33) rfl ?_
    refine R.alen X3 hx hZ e3 V_b3 (hb hby d1_33) (pc' := 34) rfl ?_
    refine R.iconst X3 hx (hb hby d1_34) (v := (1 : Int32)) (by decide) (pc' := 35) rfl ?_
    refine R.isub X3 hx (hb hby d1_35) (v := (0 : Int32)) (by decide) (pc' := 36) rfl ?_
    refine R.istore X3 hx (hb hby d1_36) (L' := #[.val (.ref a0), .val (.ref a1), .val (.int (0 : Int32)), .val (.ref b1), .val (.ref b3), .val (.int (0 : Int32)), .unset]) rfl (pc' := 38) rfl ?_
    refine R.iload X3 hx (hb hby d1_38) rfl (pc' := 40) rfl ?_
    refine R.ifNo X3 hx (hb hby d1_40) (flt (by decide : ¬ ((0 : Int32) < (0 : Int32)))).1 (pc' := 43) rfl ?_
    refine R.aload X3 hx (hb hby d1_43) rfl rfl (pc' := 45) rfl ?_
    refine R.iload X3 hx (hb hby d1_45) rfl (pc' := 47) rfl ?_
    refine R.aloadN X3 hx (hb hby d1_47) rfl rfl (pc' := 48) rfl ?_
    refine R.iload X3 hx (hb hby d1_48) rfl (pc' := 50) rfl ?_
    refine R.iloadN X3 hx (hb hby d1_50) rfl (pc' := 51) rfl ?_
    refine R.iadd X3 hx (hb hby d1_51) (v := (0 : Int32)) (by decide) (pc' := 52) rfl ?_
    refine R.daload X3 hx hZ e3 V_b1 (⟨by decide, by decide⟩ : ¬ (0 : Int32) < 0 ∧ (0 : Int32) < (1 : Int32)) (v := (.double x0)) (vx0) (hb hby d1_52) (pc' := 53) rfl ?_
    refine R.aloadN X3 hx (hb hby d1_53) rfl rfl (pc' := 54) rfl ?_
    refine R.iloadN X3 hx (hb hby d1_54) rfl (pc' := 55) rfl ?_
    refine R.daload X3 hx hZ e3 V_a1 (⟨by decide, by decide⟩ : ¬ (0 : Int32) < 0 ∧ (0 : Int32) < (1 : Int32)) (v := (.double y0)) (vy0) (hb hby d1_55) (pc' := 56) rfl ?_
    have Y4 := (Dy.div (m := Q0) (n := 0) Dx0 Dy0 hL (bq0.lt (by decide)) (by decide) (by simp only [own_one]; omega))
    refine R.ddiv X3 hx (hb hby d1_56) (Y4.nn : NoNaN64 (FP.ddiv x0 y0)) (pc' := 57) rfl ?_
    show Rn p e below (T3.setTop (mkF m 57 #[.val (.ref a0), .val (.ref a1), .val (.int (0 : Int32)), .val (.ref b1), .val (.ref b3), .val (.int (0 : Int32)), .unset] [(.double (FP.ddiv x0 y0)), (.int (0 : Int32)), (.ref b3)])) G
    generalize hr5 : (FP.ddiv x0 y0) = r5
    have D_r5 : Dy r5 (Q0) 0 := hr5 ▸ Y4
    refine R.dastore X3 hx hZ e3 V_b3 (⟨by decide, by decide⟩ : ¬ (0 : Int32) < 0 ∧ (0 : Int32) < (1 : Int32)) (hb hby d1_57) (pc' := 58) rfl ?_; intro T6 h6 X6 e6 W6 V6
    have V_a0 := V_a0.other W6 ne_a0_b3
    have E_a0 := E_a0.wr W6
    have V_a1 := V_a1.other W6 ne_a1_b3
    have V_b1 := V_b1.other W6 ne_b1_b3
    have E_b1 := E_b1.wr W6
    have V_b3 : Arh Z h6 b3 k3 .double (1 : Int32) [((0 : Int32), (.double r5))] [] (.double (0 : UInt64)) := V6
    have N6 := Fr.snoc X6 N0 g_b3
    have K6 : Keep h0 h6 [] := K3.wr W6 (Or.inr sz_b3)
    have Z6 : n0 ≤ h6.size := Nat.le_trans Z3 (Keep.of_wr W6).1
    refine R.iconst X6 hx (hb hby d1_58) (v := (0 : Int32)) (by decide) (pc' := 59) rfl ?_
    refine R.istore X6 hx (hb hby d1_59) (L' := #[.val (.ref a0), .val (.ref a1), .val (.int (0 : Int32)), .val (.ref b1), .val (.ref b3), .val (.int (0 : Int32)), .val (.int (0 : Int32))]) rfl (pc' := 61) rfl ?_
    refine R.iload X6 hx (hb hby d1_61) rfl (pc' := 63) rfl ?_
    refine R.iloadN X6 hx (hb hby d1_63) rfl (pc' := 64) rfl ?_
    refine R.icmpNo X6 hx (hb hby d1_64) (flt (by decide : ¬ ((0 : Int32) < (0 : Int32)))).2.2.1 (pc' := 67) rfl ?_
    refine R.aloadN X6 hx (hb hby d1_67) rfl rfl (pc' := 68) rfl ?_
    refine R.iload X6 hx (hb hby d1_68) rfl (pc' := 70) rfl ?_
    refine R.iload X6 hx (hb hby d1_70) rfl (pc' := 72) rfl ?_
    refine R.iadd X6 hx (hb hby d1_72) (v := (0 : Int32)) (by decide) (pc' := 73) rfl ?_
    refine R.dup2 X6 hx (hb hby d1_73) rfl rfl (pc' := 74) rfl ?_
    refine R.daload X6 hx hZ e6 V_b1 (⟨by decide, by decide⟩ : ¬ (0 : Int32) < 0 ∧ (0 : Int32) < (1 : Int32)) (v := (.double x0)) (vx0) (hb hby d1_74) (pc' := 75) rfl ?_
    refine R.aload X6 hx (hb hby d1_75) rfl rfl (pc' := 77) rfl ?_
    refine R.iload X6 hx (hb hby d1_77) rfl (pc' := 79) rfl ?_
    refine R.daload X6 hx hZ e6 V_b3 (⟨by decide, by decide⟩ : ¬ (0 : Int32) < 0 ∧ (0 : Int32) < (1 : Int32)) (v := (.double r5)) (getH_hit (by decide) (rfl)) (hb hby d1_79) (pc' := 80) rfl ?_
    refine R.aloadN X6 hx (hb hby d1_80) rfl rfl (pc' := 81) rfl ?_
    refine R.iload X6 hx (hb hby d1_81) rfl (pc' := 83) rfl ?_
    refine R.daload X6 hx hZ e6 V_a1 (⟨by decide, by decide⟩ : ¬ (0 : Int32) < 0 ∧ (0 : Int32) < (1 : Int32)) (v := (.double y0)) (vy0) (hb hby d1_83) (pc' := 84) rfl ?_
    have Y7 := (Dy.mul D_r5 Dy0 ((own_ab.mul bq0 bd0).lt (by decide)) (by decide))
    refine R.dmul X6 hx (hb hby d1_84) (Y7.nn : NoNaN64 (FP.dmul r5 y0)) (pc' := 85) rfl ?_
    have Y8 := (Dy.sub Dx0 Y7 ((own_ab.sub ac0 (own_ab.mul bq0 bd0)).lt (by decide)) (by decide))
    refine R.dsub X6 hx (hb hby d1_85) (Y8.nn : NoNaN64 (FP.dsub x0 (FP.dmul r5 y0))) (pc' := 86) rfl ?_
    show Rn p e below (T6.setTop (mkF m 86 #[.val (.ref a0), .val (.ref a1), .val (.int (0 : Int32)), .val (.ref b1), .val (.ref b3), .val (.int (0 : Int32)), .val (.int (0 : Int32))] [(.double (FP.dsub x0 (FP.dmul r5 y0))), (.int (0 : Int32)), (.ref b1)])) G
    generalize hr9 : (FP.dsub x0 (FP.dmul r5 y0)) = r9
    have D_r9 : Dy r9 ((C0 - (Q0 * D0))) 0 := hr9 ▸ Y8
    have A_r9 : own_ab ((C0 - (Q0 * D0))) 32768 := (own_ab.sub ac0 (own_ab.mul bq0 bd0))
    refine R.dastore X6 hx hZ e6 V_b1 (⟨by decide, by decide⟩ : ¬ (0 : Int32) < 0 ∧ (0 : Int32) < (1 : Int32)) (hb hby d1_86) (pc' := 87) rfl ?_; intro T10 h10 X10 e10 W10 V10
    have V_a0 := V_a0.other W10 ne_a0_b1
    have E_a0 := E_a0.wr W10
    have V_a1 := V_a1.other W10 ne_a1_b1
    have E_b1 := E_b1.wr W10
    have V_b3 := V_b3.other W10 (Ne.symm ne_b1_b3)
    have V_b1 : Arh Z h10 b1 ka .double (1 : Int32) (((0 : Int32), (.double r9)) :: ha) [] (.double (0 : UInt64)) := V10
    have N10 := Fr.snoc X10 N6 g_b1
    have K10 : Keep h0 h10 [] := K6.wr W10 (Or.inr sz_b1)
    have Z10 : n0 ≤ h10.size := Nat.le_trans Z6 (Keep.of_wr W10).1
    refine R.iinc X10 hx (hb hby d1_87) rfl (L' := #[.val (.ref a0), .val (.ref a1), .val (.int (0 : Int32)), .val (.ref b1), .val (.ref b3), .val (.int (0 : Int32)), .val (.int (1 : Int32))]) rfl (pc' := 90) rfl ?_
    refine R.goto X10 hx (hb hby d1_90) (by decide) (pc' := 61) (by decide) ?_
    refine R.iload X10 hx (hb hby d1_61) rfl (pc' := 63) rfl ?_
    refine R.iloadN X10 hx (hb hby d1_63) rfl (pc' := 64) rfl ?_
    refine R.icmpYes X10 hx (hb hby d1_64) (tlt (by decide : (0 : Int32) < (1 : Int32))).2.2.1 (by decide) (pc' := 93) (by decide) ?_
    refine R.iinc X10 hx (hb hby d1_93) rfl (L' := #[.val (.ref a0), .val (.ref a1), .val (.int (0 : Int32)), .val (.ref b1), .val (.ref b3), .val (.int (-1 : Int32)), .val (.int (1 : Int32))]) rfl (pc' := 96) rfl ?_
    refine R.goto X10 hx (hb hby d1_96) (by decide) (pc' := 38) (by decide) ?_
    refine R.iload X10 hx (hb hby d1_38) rfl (pc' := 40) rfl ?_
    refine R.ifYes X10 hx (hb hby d1_40) (tlt (by decide : (-1 : Int32) < (0 : Int32))).1 (by decide) (pc' := 99) (by decide) ?_
    refine R.aload X10 hx (hb hby d1_99) rfl rfl (pc' := 101) rfl ?_
    rw [← hG]
    exact Rn.ret X10 (BodyLoose.notSynchronized Bd) (v := some (.ref b3)) (fun h => by rw [Bd.returns] at h; cases h) (Q := Qqq11 Z a0 a1 ka kb ha hbb x0 y0 C0 D0 Q0 h0 n0) e10 (fun fs hr => retOut X10 hx (t := (.array .double)) Bd.returns rfl (Or.inr (Or.inr (Or.inr (Or.inr ⟨rfl, rfl, rfl⟩)))) (hb hby d1_101) hr) ⟨b3, k3, [((0 : Int32), (.double r5))], rfl, N10, K10, sz_b3, V_b3, ⟨_, getH_hit (by decide) (rfl), D_r5⟩⟩ (by decide) (by decide)
  exact (Rn.st (fun t k => castTop (ef_qq11 m a0 a1) k) first_ : Rn p e below (s₁.setTop (entryFrame m #[(.ref a0), (.ref a1)] 7)) (Fnqq11 Z a0 a1 ka kb ha hbb x0 y0 C0 D0 Q0 h0 n0 s))
theorem ef_qq12 (m : MethodId) (x0 : Addr) (x1 : Addr) : entryFrame m #[(.ref x0), (.ref x1)] 7 = mkF m 0 #[.val (.ref x0), .val (.ref x1), .unset, .unset, .unset, .unset, .unset] [] := by first | (simp [entryFrame, mkF, argsToLocals, Value.category]; done) | rfl
def Qqq12 (Z : State) (a0 : Addr) (a1 : Addr) (ka : ClassId) (kb : ClassId) (ha : List (Int32 × Value)) (hbb : List (Int32 × Value)) (x0 : UInt64) (x1 : UInt64) (y0 : UInt64) (C0 : Int) (C1 : Int) (D0 : Int) (Q0 : Int) (Q1 : Int) (h0 : Heap) (n0 : Nat) (vQ : Option Value) (hQ_ : Heap) (LQ : List Loc) : Prop := ∃ r : Addr, ∃ kr : ClassId, ∃ hr : List (Int32 × Value), vQ = some (.ref r) ∧ Fr n0 LQ ∧ Keep h0 hQ_ [] ∧ (h0.size ≤ r) ∧ (Arh Z hQ_ r kr .double (2 : Int32) hr [] (.double (0 : UInt64))) ∧ (∃ v : UInt64, getH hr [] (.double (0 : UInt64)) ((0 : Int32)).toNatClampNeg = (.double v) ∧ Dy v Q0 0) ∧ (∃ v : UInt64, getH hr [] (.double (0 : UInt64)) ((1 : Int32)).toNatClampNeg = (.double v) ∧ Dy v Q1 0)
def Fnqq12 (Z : State) (a0 : Addr) (a1 : Addr) (ka : ClassId) (kb : ClassId) (ha : List (Int32 × Value)) (hbb : List (Int32 × Value)) (x0 : UInt64) (x1 : UInt64) (y0 : UInt64) (C0 : Int) (C1 : Int) (D0 : Int) (Q0 : Int) (Q1 : Int) (h0 : Heap) (n0 : Nat) (sQ : State) (oQ : Outcome) (UQ : State) : Prop := ∃ vQ LQ, oQ = .returned vQ ∧ Qqq12 Z a0 a1 ka kb ha hbb x0 x1 y0 C0 C1 D0 Q0 Q1 h0 n0 vQ UQ.heap LQ ∧ FrameEnd sQ oQ UQ LQ ({ frames := 1, cells := 2, slots := 7, locals := 14 } : Room).cells ({ frames := 1, cells := 2, slots := 7, locals := 14 } : Room).slots
set_option maxRecDepth 65536 in
set_option maxHeartbeats 40000000 in
theorem rmqq12 (l : Launch) (Z : State) (aZ : Array Value) (hw : ∀ d ∈ tables_1, d.before aZ Z = true) (ws : List Jvm.Cond) (a0 : Addr) (a1 : Addr) (ka : ClassId) (kb : ClassId) (ha : List (Int32 × Value)) (hbb : List (Int32 × Value)) (x0 : UInt64) (x1 : UInt64) (y0 : UInt64) (C0 : Int) (C1 : Int) (D0 : Int) (Q0 : Int) (Q1 : Int) (h0 : Heap) (n0 : Nat) (Z0 : n0 ≤ h0.size) (V_a0 : Arh Z h0 a0 ka .double (2 : Int32) ha [] (.double (0 : UInt64))) (E_a0 : Exa Z h0 a0 "[D") (V_a1 : Arh Z h0 a1 kb .double (1 : Int32) hbb [] (.double (0 : UInt64))) (vx0 : getH ha [] (.double (0 : UInt64)) ((0 : Int32)).toNatClampNeg = (.double x0)) (Dx0 : Dy x0 C0 0) (vx1 : getH ha [] (.double (0 : UInt64)) ((1 : Int32)).toNatClampNeg = (.double x1)) (Dx1 : Dy x1 C1 0) (vy0 : getH hbb [] (.double (0 : UInt64)) ((0 : Int32)).toNatClampNeg = (.double y0)) (Dy0 : Dy y0 D0 0) (el0 : C0 = Q0 * D0) (el1 : C1 = Q1 * D0) (hL : D0 ≠ 0) (bd0 : own_ab D0 128) (bq0 : own_ab Q0 128) (bq1 : own_ab Q1 128) :
    MetFree l (⟨"com/example/deseason/deseason/arima/Polynomials", "quotient", "([D[D)[D"⟩ : MethodName) (head1 (Jvm.Cond.code (⟨"com/example/deseason/deseason/arima/Polynomials", "quotient", "([D[D)[D"⟩ : MethodName) prog_10_method_6_code 7 (some (.array .double)) :: ws) ({ frames := 1, cells := 2, slots := 7, locals := 14 } : Room)) (fun aQ UQ => aQ = #[(.ref a0), (.ref a1)] ∧ Z.Warmed39 UQ.vm ∧ UQ.heap = h0) (fun _ _ _ _ _ => True) (fun _ UQ oQ UR => ∃ vQ LQ, oQ = .returned vQ ∧ Qqq12 Z a0 a1 ka kb ha hbb x0 x1 y0 C0 C1 D0 Q0 Q1 h0 n0 vQ UR.heap LQ ∧ FrameEnd UQ oQ UR LQ ({ frames := 1, cells := 2, slots := 7, locals := 14 } : Room).cells ({ frames := 1, cells := 2, slots := 7, locals := 14 } : Room).slots) := by
  refine MetFree.of_bodySF (plainFor_of_name pn_1) hisR ?_
  intro p e s m args below meth c s₁ Bd hml0 hP hK
  obtain ⟨rfl, hZ, hh⟩ := hP
  have hx := Bd.exec
  have hby := Bd.bytes
  have hml : c.maxLocals = 7 := hml0
  have hown : s.vm.findClass "com/example/deseason/deseason/arima/Polynomials" = some m.cls := findClass_of_methodNamed Bd.named
  have hnm := (name_of_methodNamed Bd.named Bd.method).1
  have X0 : Stand p l e ({ frames := 1, cells := 2, slots := 7, locals := 14 } : Room) s m #[(.ref a0), (.ref a1)] below meth c s₁ [] 0 0 := Stand.of_body Bd
  have e0 : s₁.heap = h0 := by rw [← hh, Bd.state]; rfl
  have N0 := Fr.nil n0
  have K0 : Keep h0 h0 [] := Keep.refl _ _
  have w_1 := hw _ (List.mem_of_getElem? (i := 1) rfl)
  have w_16 := hw _ (List.mem_of_getElem? (i := 16) rfl)
  have w_17 := hw _ (List.mem_of_getElem? (i := 17) rfl)
  have w_19 := hw _ (List.mem_of_getElem? (i := 19) rfl)
  have w_20 := hw _ (List.mem_of_getElem? (i := 20) rfl)
  have w_21 := hw _ (List.mem_of_getElem? (i := 21) rfl)
  have w_22 := hw _ (List.mem_of_getElem? (i := 22) rfl)
  have w_23 := hw _ (List.mem_of_getElem? (i := 23) rfl)
  have first_ : Rn p e below (s₁.setTop (mkF m 0 #[.val (.ref a0), .val (.ref a1), .unset, .unset, .unset, .unset, .unset] [])) (Fnqq12 Z a0 a1 ka kb ha hbb x0 x1 y0 C0 C1 D0 Q0 Q1 h0 n0 s) := by
    generalize hG : (Fnqq12 Z a0 a1 ka kb ha hbb x0 x1 y0 C0 C1 D0 Q0 Q1 h0 n0 s) = G
    have ac0 : own_ab C0 16384 := el0 ▸ (own_ab.mul bq0 bd0)
    have ac1 : own_ab C1 16384 := el1 ▸ (own_ab.mul bq1 bd0)
    refine R.aloadN X0 hx (hb hby d1_0) rfl rfl (pc' := 1) rfl ?_
    refine R.alen X0 hx hZ e0 V_a1 (hb hby d1_1) (pc' := 2) rfl ?_
    refine R.iconst X0 hx (hb hby d1_2) (v := (1 : Int32)) (by decide) (pc' := 3) rfl ?_
    refine R.isub X0 hx (hb hby d1_3) (v := (0 : Int32)) (by decide) (pc' := 4) rfl ?_
    refine R.istoreN X0 hx (hb hby d1_4) (L' := #[.val (.ref a0), .val (.ref a1), .val (.int (0 : Int32)), .unset, .unset, .unset, .unset]) rfl (pc' := 5) rfl ?_
    refine R.aloadN X0 hx (hb hby d1_5) rfl rfl (pc' := 6) rfl ?_
    refine R.alen X0 hx hZ e0 V_a0 (hb hby d1_6) (pc' := 7) rfl ?_
    refine R.iloadN X0 hx (hb hby d1_7) rfl (pc' := 8) rfl ?_
    refine R.icmpYes X0 hx (hb hby d1_8) (tlt (by decide : (0 : Int32) < (2 : Int32))).2.2.1 (by decide) (pc' := 15) (by decide) ?_
    refine R.aloadN X0 hx (hb hby d1_15) rfl rfl (pc' := 16) rfl ?_
    show Rn p e below (s₁.setTop (mkF m 16 #[.val (.ref a0), .val (.ref a1), .val (.int (0 : Int32)), .unset, .unset, .unset, .unset] [(.ref a0)])) G
    obtain ⟨T1, h1, X1, e1, E1, V1, EE1, st1⟩ := cloneH X0 hx hZ hown (ad := "[D") w_16 w_17 w_21 w_19 w_20 w_22 e0 V_a0 E_a0 (g := (mkF m 16 #[.val (.ref a0), .val (.ref a1), .val (.int (0 : Int32)), .unset, .unset, .unset, .unset] [(.ref a0)])) rfl (by rw [hml]; rfl) rfl (hb hby d1_16) (by decide) (W := 0) (cap := 5) (by show 2 * 0 + _ ≤ _; exact Nat.le_of_eq rfl) (by decide) (by decide) (by decide) (by decide)
    obtain ⟨b1, g1⟩ : ∃ z, z = h0.size := ⟨_, rfl⟩
    rw [← g1] at V1 EE1 st1
    have g_b1 : n0 ≤ b1 := Nat.le_trans Z0 (Nat.le_of_eq g1.symm)
    have sz_b1 : h0.size ≤ b1 := Nat.le_trans K0.1 (Nat.le_of_eq g1.symm)
    have ne_a0_b1 : a0 ≠ b1 := Nat.ne_of_lt (Nat.lt_of_lt_of_le V_a0.lt (Nat.le_of_eq g1.symm))
    have ne_a1_b1 : a1 ≠ b1 := Nat.ne_of_lt (Nat.lt_of_lt_of_le V_a1.lt (Nat.le_of_eq g1.symm))
    have K1 : Keep h0 h1 [] := K0.ext E1
    have Z1 : n0 ≤ h1.size := Nat.le_trans Z0 E1.1
    have V_a0 := V_a0.ext E1
    have E_a0 := E_a0.ext E1
    have V_a1 := V_a1.ext E1
    have V_b1 : Arh Z h1 b1 ka .double (2 : Int32) ha [] (.double (0 : UInt64)) := V1
    have E_b1 : Exa Z h1 b1 "[D" := EE1
    refine Rn.st st1 ?_
    show Rn p e below (T1.setTop (mkF m 19 #[.val (.ref a0), .val (.ref a1), .val (.int (0 : Int32)), .unset, .unset, .unset, .unset] [(.ref b1)])) G
    refine R.castY X1 hx hZ hown w_23 e1 (Ins.self E_b1) (hb hby d1_19) (pc' := 22) rfl ?_; intro T2 X2 e2
    refine R.astoreN X2 hx (hb hby d1_22) rfl (L' := #[.val (.ref a0), .val (.ref a1), .val (.int (0 : Int32)), .val (.ref b1), .unset, .unset, .unset]) rfl (pc' := 23) rfl ?_
    refine R.aloadN X2 hx (hb hby d1_23) rfl rfl (pc' := 24) rfl ?_
    refine R.alen X2 hx hZ e2 V_a0 (hb hby d1_24) (pc' := 25) rfl ?_
    refine R.iloadN X2 hx (hb hby d1_25) rfl (pc' := 26) rfl ?_
    refine R.isub X2 hx (hb hby d1_26) (v := (2 : Int32)) (by decide) (pc' := 27) rfl ?_
    refine R.newP X2 hx hZ (ty := .double) rfl w_1 e2 (by decide) (cap := 2) (by decide) (by decide) (ad := "[D") (by decide) (hb hby d1_27) (pc' := 29) rfl (by decide) (by decide) ?_; intro T3 h3 b3 k3 g3 X3 e3 E3 EE3 AA3
    have g_b3 : n0 ≤ b3 := Nat.le_trans Z1 (Nat.le_of_eq g3.symm)
    have sz_b3 : h0.size ≤ b3 := Nat.le_trans K1.1 (Nat.le_of_eq g3.symm)
    have ne_a0_b3 : a0 ≠ b3 := Nat.ne_of_lt (Nat.lt_of_lt_of_le V_a0.lt (Nat.le_of_eq g3.symm))
    have ne_a1_b3 : a1 ≠ b3 := Nat.ne_of_lt (Nat.lt_of_lt_of_le V_a1.lt (Nat.le_of_eq g3.symm))
    have ne_b1_b3 : b1 ≠ b3 := Nat.ne_of_lt (Nat.lt_of_lt_of_le V_b1.lt (Nat.le_of_eq g3.symm))
    have K3 : Keep h0 h3 [] := K1.ext E3
    have Z3 : n0 ≤ h3.size := Nat.le_trans Z1 E3.1
    have V_a0 := V_a0.ext E3
    have E_a0 := E_a0.ext E3
    have V_a1 := V_a1.ext E3
    have V_b1 := V_b1.ext E3
    have E_b1 := E_b1.ext E3
    have V_b3 : Arh Z h3 b3 k3 .double (2 : Int32) [] [] (.double (0 : UInt64)) := AA3
    refine R.astore X3 hx (hb hby d1_29) rfl (L' := #[.val (.ref a0), .val (.ref a1), .val (.int (0 : Int32)), .val (.ref b1), .val (.ref b3), .unset, .unset]) rfl (pc' := 31) rfl ?_
    refine R.aload X3 hx (hb hby d1_31) rfl rfl (pc' := 33) rfl ?_
    refine R.alen X3 hx hZ e3 V_b3 (hb hby d1_33) (pc' := 34) rfl ?_
    refine R.iconst X3 hx (hb hby d1_34) (v := (1 : Int32)) (by decide) (pc' := 35) rfl ?_
    refine R.isub X3 hx (hb hby d1_35) (v := (1 : Int32)) (by decide) (pc' := 36) rfl ?_
    refine R.istore X3 hx (hb hby d1_36) (L' := #[.val (.ref a0), .val (.ref a1), .val (.int (0 : Int32)), .val (.ref b1), .val (.ref b3), .val (.int (1 : Int32)), .unset]) rfl (pc' := 38) rfl ?_
    refine R.iload X3 hx (hb hby d1_38) rfl (pc' := 40) rfl ?_
    refine R.ifNo X3 hx (hb hby d1_40) (flt (by decide : ¬ ((1 : Int32) < (0 : Int32)))).1 (pc' := 43) rfl ?_
    refine R.aload X3 hx (hb hby d1_43) rfl rfl (pc' := 45) rfl ?_
    refine R.iload X3 hx (hb hby d1_45) rfl (pc' := 47) rfl ?_
    refine R.aloadN X3 hx (hb hby d1_47) rfl rfl (pc' := 48) rfl ?_
    refine R.iload X3 hx (hb hby d1_48) rfl (pc' := 50) rfl ?_
    refine R.iloadN X3 hx (hb hby d1_50) rfl (pc' := 51) rfl ?_
    refine R.iadd X3 hx (hb hby d1_51) (v := (1 : Int32)) (by decide) (pc' := 52) rfl ?_
    refine R.daload X3 hx hZ e3 V_b1 (⟨by decide, by decide⟩ : ¬ (1 : Int32) < 0 ∧ (1 : Int32) < (2 : Int32)) (v := (.double x1)) (vx1) (hb hby d1_52) (pc' := 53) rfl ?_
    refine R.aloadN X3 hx (hb hby d1_53) rfl rfl (pc' := 54) rfl ?_
    refine R.iloadN X3 hx (hb hby d1_54) rfl (pc' := 55) rfl ?_
    refine R.daload X3 hx hZ e3 V_a1 (⟨by decide, by decide⟩ : ¬ (0 : Int32) < 0 ∧ (0 : Int32) < (1 : Int32)) (v := (.double y0)) (vy0) (hb hby d1_55) (pc' := 56) rfl ?_
    have Y4 := (Dy.div (m := Q1) (n := 0) Dx1 Dy0 hL (bq1.lt (by decide)) (by decide) (by simp only [own_one]; omega))
    refine R.ddiv X3 hx (hb hby d1_56) (Y4.nn : NoNaN64 (FP.ddiv x1 y0)) (pc' := 57) rfl ?_
    show Rn p e below (T3.setTop (mkF m 57 #[.val (.ref a0), .val (.ref a1), .val (.int (0 : Int32)), .val (.ref b1), .val (.ref b3), .val (.int (1 : Int32)), .unset] [(.double (FP.ddiv x1 y0)), (.int (1 : Int32)), (.ref b3)])) G
    generalize hr5 : (FP.ddiv x1 y0) = r5
    have D_r5 : Dy r5 (Q1) 0 := hr5 ▸ Y4
    refine R.dastore X3 hx hZ e3 V_b3 (⟨by decide, by decide⟩ : ¬ (1 : Int32) < 0 ∧ (1 : Int32) < (2 : Int32)) (hb hby d1_57) (pc' := 58) rfl ?_; intro T6 h6 X6 e6 W6 V6
    have V_a0 := V_a0.other W6 ne_a0_b3
    have E_a0 := E_a0.wr W6
    have V_a1 := V_a1.other W6 ne_a1_b3
    have V_b1 := V_b1.other W6 ne_b1_b3
    have E_b1 := E_b1.wr W6
    have V_b3 : Arh Z h6 b3 k3 .double (2 : Int32) [((1 : Int32), (.double r5))] [] (.double (0 : UInt64)) := V6
    have N6 := Fr.snoc X6 N0 g_b3
    have K6 : Keep h0 h6 [] := K3.wr W6 (Or.inr sz_b3)
    have Z6 : n0 ≤ h6.size := Nat.le_trans Z3 (Keep.of_wr W6).1
    refine R.iconst X6 hx (hb hby d1_58) (v := (0 : Int32)) (by decide) (pc' := 59) rfl ?_
    refine R.istore X6 hx (hb hby d1_59) (L' := #[.val (.ref a0), .val (.ref a1), .val (.int (0 : Int32)), .val (.ref b1), .val (.ref b3), .val (.int (1 : Int32)), .val (.int (0 : Int32))]) rfl (pc' := 61) rfl ?_
    refine R.iload X6 hx (hb hby d1_61) rfl (pc' := 63) rfl ?_
    refine R.iloadN X6 hx (hb hby d1_63) rfl (pc' := 64) rfl ?_
    refine R.icmpNo X6 hx (hb hby d1_64) (flt (by decide : ¬ ((0 : Int32) < (0 : Int32)))).2.2.1 (pc' := 67) rfl ?_
    refine R.aloadN X6 hx (hb hby d1_67) rfl rfl (pc' := 68) rfl ?_
    refine R.iload X6 hx (hb hby d1_68) rfl (pc' := 70) rfl ?_
    refine R.iload X6 hx (hb hby d1_70) rfl (pc' := 72) rfl ?_
    refine R.iadd X6 hx (hb hby d1_72) (v := (1 : Int32)) (by decide) (pc' := 73) rfl ?_
    refine R.dup2 X6 hx (hb hby d1_73) rfl rfl (pc' := 74) rfl ?_
    refine R.daload X6 hx hZ e6 V_b1 (⟨by decide, by decide⟩ : ¬ (1 : Int32) < 0 ∧ (1 : Int32) < (2 : Int32)) (v := (.double x1)) (vx1) (hb hby d1_74) (pc' := 75) rfl ?_
    refine R.aload X6 hx (hb hby d1_75) rfl rfl (pc' := 77) rfl ?_
    refine R.iload X6 hx (hb hby d1_77) rfl (pc' := 79) rfl ?_
    refine R.daload X6 hx hZ e6 V_b3 (⟨by decide, by decide⟩ : ¬ (1 : Int32) < 0 ∧ (1 : Int32) < (2 : Int32)) (v := (.double r5)) (getH_hit (by decide) (rfl)) (hb hby d1_79) (pc' := 80) rfl ?_
    refine R.aloadN X6 hx (hb hby d1_80) rfl rfl (pc' := 81) rfl ?_
    refine R.iload X6 hx (hb hby d1_81) rfl (pc' := 83) rfl ?_
    refine R.daload X6 hx hZ e6 V_a1 (⟨by decide, by decide⟩ : ¬ (0 : Int32) < 0 ∧ (0 : Int32) < (1 : Int32)) (v := (.double y0)) (vy0) (hb hby d1_83) (pc' := 84) rfl ?_
    have Y7 := (Dy.mul D_r5 Dy0 ((own_ab.mul bq1 bd0).lt (by decide)) (by decide))
    refine R.dmul X6 hx (hb hby d1_84) (Y7.nn : NoNaN64 (FP.dmul r5 y0)) (pc' := 85) rfl ?_
    have Y8 := (Dy.sub Dx1 Y7 ((own_ab.sub ac1 (own_ab.mul bq1 bd0)).lt (by decide)) (by decide))
    refine R.dsub X6 hx (hb hby d1_85) (Y8.nn : NoNaN64 (FP.dsub x1 (FP.dmul r5 y0))) (pc' := 86) rfl ?_
    show Rn p e below (T6.setTop (mkF m 86 #[.val (.ref a0), .val (.ref a1), .val (.int (0 : Int32)), .val (.ref b1), .val (.ref b3), .val (.int (1 : Int32)), .val (.int (0 : Int32))] [(.double (FP.dsub x1 (FP.dmul r5 y0))), (.int (1 : Int32)), (.ref b1)])) G
    generalize hr9 : (FP.dsub x1 (FP.dmul r5 y0)) = r9
    have D_r9 : Dy r9 ((C1 - (Q1 * D0))) 0 := hr9 ▸ Y8
    have A_r9 : own_ab ((C1 - (Q1 * D0))) 32768 := (own_ab.sub ac1 (own_ab.mul bq1 bd0))
    refine R.dastore X6 hx hZ e6 V_b1 (⟨by decide, by decide⟩ : ¬ (1 : Int32) < 0 ∧ (1 : Int32) < (2 : Int32)) (hb hby d1_86) (pc' := 87) rfl ?_; intro T10 h10 X10 e10 W10 V10
    have V_a0 := V_a0.other W10 ne_a0_b1
    have E_a0 := E_a0.wr W10
    have V_a1 := V_a1.other W10 ne_a1_b1
    have E_b1 := E_b1.wr W10
    have V_b3 := V_b3.other W10 (Ne.symm ne_b1_b3)
    have V_b1 : Arh Z h10 b1 ka .double (2 : Int32) (((1 : Int32), (.double r9)) :: ha) [] (.double (0 : UInt64)) := V10
    have N10 := Fr.snoc X10 N6 g_b1
    have K10 : Keep h0 h10 [] := K6.wr W10 (Or.inr sz_b1)
    have Z10 : n0 ≤ h10.size := Nat.le_trans Z6 (Keep.of_wr W10).1
    refine R.iinc X10 hx (hb hby d1_87) rfl (L' := #[.val (.ref a0), .val (.ref a1), .val (.int (0 : Int32)), .val (.ref b1), .val (.ref b3), .val (.int (1 : Int32)), .val (.int (1 : Int32))]) rfl (pc' := 90) rfl ?_
    refine R.goto X10 hx (hb hby d1_90) (by decide) (pc' := 61) (by decide) ?_
    refine R.iload X10 hx (hb hby d1_61) rfl (pc' := 63) rfl ?_
    refine R.iloadN X10 hx (hb hby d1_63) rfl (pc' := 64) rfl ?_
    refine R.icmpYes X10 hx (hb hby d1_64) (tlt (by decide : (0 : Int32) < (1 : Int32))).2.2.1 (by decide) (pc' := 93) (by decide) ?_
    refine R.iinc X10 hx (hb hby d1_93) rfl (L' := #[.val (.ref a0), .val (.ref a1), .val (.int (0 : Int32)), .val (.ref b1), .val (.ref b3), .val (.int (0 : Int32)), .val (.int (1 : Int32))]) rfl (pc' := 96) rfl ?_
    refine R.goto X10 hx (hb hby d1_96) (by decide) (pc' := 38) (by decide) ?_
    refine R.iload X10 hx (hb hby d1_38) rfl (pc' := 40) rfl ?_
    refine R.ifNo X10 hx (hb hby d1_40) (flt (by decide : ¬ ((0 : Int32) < (0 : Int32)))).1 (pc' := 43) rfl ?_
    refine R.aload X10 hx (hb hby d1_43) rfl rfl (pc' := 45) rfl ?_
    refine R.iload X10 hx (hb hby d1_45) rfl (pc' := 47) rfl ?_
    refine R.aloadN X10 hx (hb hby d1_47) rfl rfl (pc' := 48) rfl ?_
    refine R.iload X10 hx (hb hby d1_48) rfl (pc' := 50) rfl ?_
    refine R.iloadN X10 hx (hb hby d1_50) rfl (pc' := 51) rfl ?_
    refine R.iadd X10 hx (hb hby d1_51) (v := (0 : Int32)) (by decide) (pc' := 52) rfl ?_
    refine R.daload X10 hx hZ e10 V_b1 (⟨by decide, by decide⟩ : ¬ (0 : Int32) < 0 ∧ (0 : Int32) < (2 : Int32)) (v := (.double x0)) (getH_miss (by decide) (by decide) (vx0)) (hb hby d1_52) (pc' := 53) rfl ?_
    refine R.aloadN X10 hx (hb hby d1_53) rfl rfl (pc' := 54) rfl ?_
    refine R.iloadN X10 hx (hb hby d1_54) rfl (pc' := 55) rfl ?_
    refine R.daload X10 hx hZ e10 V_a1 (⟨by decide, by decide⟩ : ¬ (0 : Int32) < 0 ∧ (0 : Int32) < (1 : Int32)) (v := (.double y0)) (vy0) (hb hby d1_55) (pc' := 56) rfl ?_
    have Y11 := (Dy.div (m := Q0) (n := 0) Dx0 Dy0 hL (bq0.lt (by decide)) (by decide) (by simp only [own_one]; omega))
    refine R.ddiv X10 hx (hb hby d1_56) (Y11.nn : NoNaN64 (FP.ddiv x0 y0)) (pc' := 57) rfl ?_
    show Rn p e below (T10.setTop (mkF m 57 #[.val (.ref a0), .val (.ref a1), .val (.int (0 : Int32)), .val (.ref b1), .val (.ref b3), .val (.int (0 : Int32)), .val (.int (1 : Int32))] [(.double (FP.ddiv x0 y0)), (.int (0 : Int32)), (.ref b3)])) G
    generalize hr12 : (FP.ddiv x0 y0) = r12
    have D_r12 : Dy r12 (Q0) 0 := hr12 ▸ Y11
    refine R.dastore X10 hx hZ e10 V_b3 (⟨by decide, by decide⟩ : ¬ (0 : Int32) < 0 ∧ (0 : Int32) < (2 : Int32)) (hb hby d1_57) (pc' := 58) rfl ?_; intro T13 h13 X13 e13 W13 V13
    have V_a0 := V_a0.other W13 ne_a0_b3
    have E_a0 := E_a0.wr W13
    have V_a1 := V_a1.other W13 ne_a1_b3
    have E_b1 := E_b1.wr W13
    have V_b1 := V_b1.other W13 ne_b1_b3
    have V_b3 : Arh Z h13 b3 k3 .double (2 : Int32) [((0 : Int32), (.double r12)), ((1 : Int32), (.double r5))] [] (.double (0 : UInt64)) := V13
    have N13 := Fr.snoc X13 N10 g_b3
    have K13 : Keep h0 h13 [] := K10.wr W13 (Or.inr sz_b3)
    have Z13 : n0 ≤ h13.size := Nat.le_trans Z10 (Keep.of_wr W13).1
    refine R.iconst X13 hx (hb hby d1_58) (v := (0 : Int32)) (by decide) (pc' := 59) rfl ?_
    refine R.istore X13 hx (hb hby d1_59) (L' := #[.val (.ref a0), .val (.ref a1), .val (.int (0 : Int32)), .val (.ref b1), .val (.ref b3), .val (.int (0 : Int32)), .val (.int (0 : Int32))]) rfl (pc' := 61) rfl ?_
    refine R.iload X13 hx (hb hby d1_61) rfl (pc' := 63) rfl ?_
    refine R.iloadN X13 hx (hb hby d1_63) rfl (pc' := 64) rfl ?_
    refine R.icmpNo X13 hx (hb hby d1_64) (flt (by decide : ¬ ((0 : Int32) < (0 : Int32)))).2.2.1 (pc' := 67) rfl ?_
    refine R.aloadN X13 hx (hb hby d1_67) rfl rfl (pc' := 68) rfl ?_
    refine R.iload X13 hx (hb hby d1_68) rfl (pc' := 70) rfl ?_
    refine R.iload X13 hx (hb hby d1_70) rfl (pc' := 72) rfl ?_
    refine R.iadd X13 hx (hb hby d1_72) (v := (0 : Int32)) (by decide) (pc' := 73) rfl ?_
    refine R.dup2 X13 hx (hb hby d1_73) rfl rfl (pc' := 74) rfl ?_
    refine R.daload X13 hx hZ e13 V_b1 (⟨by decide, by decide⟩ : ¬ (0 : Int32) < 0 ∧ (0 : Int32) < (2 : Int32)) (v := (.double x0)) (getH_miss (by decide) (by decide) (vx0)) (hb hby d1_74) (pc' := 75) rfl ?_
    refine R.aload X13 hx (hb hby d1_75) rfl rfl (pc' := 77) rfl ?_
    refine R.iload X13 hx (hb hby d1_77) rfl (pc' := 79) rfl ?_
    refine R.daload X13 hx hZ e13 V_b3 (⟨by decide, by decide⟩ : ¬ (0 : Int32) < 0 ∧ (0 : Int32) < (2 : Int32)) (v := (.double r12)) (getH_hit (by decide) (rfl)) (hb hby d1_79) (pc' := 80) rfl ?_
    refine R.aloadN X13 hx (hb hby d1_80) rfl rfl (pc' := 81) rfl ?_
    refine R.iload X13 hx (hb hby d1_81) rfl (pc' := 83) rfl ?_
    refine R.daload X13 hx hZ e13 V_a1 (⟨by decide, by decide⟩ : ¬ (0 : Int32) < 0 ∧ (0 : Int32) < (1 : Int32)) (v := (.double y0)) (vy0) (hb hby d1_83) (pc' := 84) rfl ?_
    have Y14 := (Dy.mul D_r12 Dy0 ((own_ab.mul bq0 bd0).lt (by decide)) (by decide))
    refine R.dmul X13 hx (hb hby d1_84) (Y14.nn : NoNaN64 (FP.dmul r12 y0)) (pc' := 85) rfl ?_
    have Y15 := (Dy.sub Dx0 Y14 ((own_ab.sub ac0 (own_ab.mul bq0 bd0)).lt (by decide)) (by decide))
    refine R.dsub X13 hx (hb hby d1_85) (Y15.nn : NoNaN64 (FP.dsub x0 (FP.dmul r12 y0))) (pc' := 86) rfl ?_
    show Rn p e below (T13.setTop (mkF m 86 #[.val (.ref a0), .val (.ref a1), .val (.int (0 : Int32)), .val (.ref b1), .val (.ref b3), .val (.int (0 : Int32)), .val (.int (0 : Int32))] [(.double (FP.dsub x0 (FP.dmul r12 y0))), (.int (0 : Int32)), (.ref b1)])) G
    generalize hr16 : (FP.dsub x0 (FP.dmul r12 y0)) = r16
    have D_r16 : Dy r16 ((C0 - (Q0 * D0))) 0 := hr16 ▸ Y15
    have A_r16 : own_ab ((C0 - (Q0 * D0))) 32768 := (own_ab.sub ac0 (own_ab.mul bq0 bd0))
    refine R.dastore X13 hx hZ e13 V_b1 (⟨by decide, by decide⟩ : ¬ (0 : Int32) < 0 ∧ (0 : Int32) < (2 : Int32)) (hb hby d1_86) (pc' := 87) rfl ?_; intro T17 h17 X17 e17 W17 V17
    have V_a0 := V_a0.other W17 ne_a0_b1
    have E_a0 := E_a0.wr W17
    have V_a1 := V_a1.other W17 ne_a1_b1
    have E_b1 := E_b1.wr W17
    have V_b3 := V_b3.other W17 (Ne.symm ne_b1_b3)
    have V_b1 : Arh Z h17 b1 ka .double (2 : Int32) (((0 : Int32), (.double r16)) :: ((1 : Int32), (.double r9)) :: ha) [] (.double (0 : UInt64)) := V17
    have N17 := Fr.snoc X17 N13 g_b1
    have K17 : Keep h0 h17 [] := K13.wr W17 (Or.inr sz_b1)
    have Z17 : n0 ≤ h17.size := Nat.le_trans Z13 (Keep.of_wr W17).1
    refine R.iinc X17 hx (hb hby d1_87) rfl (L' := #[.val (.ref a0), .val (.ref a1), .val (.int (0 : Int32)), .val (.ref b1), .val (.ref b3), .val (.int (0 : Int32)), .val (.int (1 : Int32))]) rfl (pc' := 90) rfl ?_
    refine R.goto X17 hx (hb hby d1_90) (by decide) (pc' := 61) (by decide) ?_
    refine R.iload X17 hx (hb hby d1_61) rfl (pc' := 63) rfl ?_
    refine R.iloadN X17 hx (hb hby d1_63) rfl (pc' := 64) rfl ?_
    refine R.icmpYes X17 hx (hb hby d1_64) (tlt (by decide : (0 : Int32) < (1 : Int32))).2.2.1 (by decide) (pc' := 93) (by decide) ?_
    refine R.iinc X17 hx (hb hby d1_93) rfl (L' := #[.val (.ref a0), .val (.ref a1), .val (.int (0 : Int32)), .val (.ref b1), .val (.ref b3), .val (.int (-1 : Int32)), .val (.int (1 : Int32))]) rfl (pc' := 96) rfl ?_
    refine R.goto X17 hx (hb hby d1_96) (by decide) (pc' := 38) (by decide) ?_
    refine R.iload X17 hx (hb hby d1_38) rfl (pc' := 40) rfl ?_
    refine R.ifYes X17 hx (hb hby d1_40) (tlt (by decide : (-1 : Int32) < (0 : Int32))).1 (by decide) (pc' := 99) (by decide) ?_
    refine R.aload X17 hx (hb hby d1_99) rfl rfl (pc' := 101) rfl ?_
    rw [← hG]
    exact Rn.ret X17 (BodyLoose.notSynchronized Bd) (v := some (.ref b3)) (fun h => by rw [Bd.returns] at h; cases h) (Q := Qqq12 Z a0 a1 ka kb ha hbb x0 x1 y0 C0 C1 D0 Q0 Q1 h0 n0) e17 (fun fs hr => retOut X17 hx (t := (.array .double)) Bd.returns rfl (Or.inr (Or.inr (Or.inr (Or.inr ⟨rfl, rfl, rfl⟩)))) (hb hby d1_101) hr) ⟨b3, k3, [((0 : Int32), (.double r12)), ((1 : Int32), (.double r5))], rfl, N17, K17, sz_b3, V_b3, ⟨_, getH_hit (by decide) (rfl), D_r12⟩, ⟨_, getH_miss (by decide) (by decide) (getH_hit (by decide) (rfl)), D_r5⟩⟩ (by decide) (by decide)
  exact (Rn.st (fun t k => castTop (ef_qq12 m a0 a1) k) first_ : Rn p e below (s₁.setTop (entryFrame m #[(.ref a0), (.ref a1)] 7)) (Fnqq12 Z a0 a1 ka kb ha hbb x0 x1 y0 C0 C1 D0 Q0 Q1 h0 n0 s))
theorem ef_qq13 (m : MethodId) (x0 : Addr) (x1 : Addr) : entryFrame m #[(.ref x0), (.ref x1)] 7 = mkF m 0 #[.val (.ref x0), .val (.ref x1), .unset, .unset, .unset, .unset, .unset] [] := by first | (simp [entryFrame, mkF, argsToLocals, Value.category]; done) | rfl
def Qqq13 (Z : State) (a0 : Addr) (a1 : Addr) (ka : ClassId) (kb : ClassId) (ha : List (Int32 × Value)) (hbb : List (Int32 × Value)) (x0 : UInt64) (x1 : UInt64) (x2 : UInt64) (y0 : UInt64) (C0 : Int) (C1 : Int) (C2 : Int) (D0 : Int) (Q0 : Int) (Q1 : Int) (Q2 : Int) (h0 : Heap) (n0 : Nat) (vQ : Option Value) (hQ_ : Heap) (LQ : List Loc) : Prop := ∃ r : Addr, ∃ kr : ClassId, ∃ hr : List (Int32 × Value), vQ = some (.ref r) ∧ Fr n0 LQ ∧ Keep h0 hQ_ [] ∧ (h0.size ≤ r) ∧ (Arh Z hQ_ r kr .double (3 : Int32) hr [] (.double (0 : UInt64))) ∧ (∃ v : UInt64, getH hr [] (.double (0 : UInt64)) ((0 : Int32)).toNatClampNeg = (.double v) ∧ Dy v Q0 0) ∧ (∃ v : UInt64, getH hr [] (.double (0 : UInt64)) ((1 : Int32)).toNatClampNeg = (.double v) ∧ Dy v Q1 0) ∧ (∃ v : UInt64, getH hr [] (.double (0 : UInt64)) ((2 : Int32)).toNatClampNeg = (.double v) ∧ Dy v Q2 0)
def Fnqq13 (Z : State) (a0 : Addr) (a1 : Addr) (ka : ClassId) (kb : ClassId) (ha : List (Int32 × Value)) (hbb : List (Int32 × Value)) (x0 : UInt64) (x1 : UInt64) (x2 : UInt64) (y0 : UInt64) (C0 : Int) (C1 : Int) (C2 : Int) (D0 : Int) (Q0 : Int) (Q1 : Int) (Q2 : Int) (h0 : Heap) (n0 : Nat) (sQ : State) (oQ : Outcome) (UQ : State) : Prop := ∃ vQ LQ, oQ = .returned vQ ∧ Qqq13 Z a0 a1 ka kb ha hbb x0 x1 x2 y0 C0 C1 C2 D0 Q0 Q1 Q2 h0 n0 vQ UQ.heap LQ ∧ FrameEnd sQ oQ UQ LQ ({ frames := 1, cells := 2, slots := 8, locals := 14 } : Room).cells ({ frames := 1, cells := 2, slots := 8, locals := 14 } : Room).slots
set_option maxRecDepth 65536 in
set_option maxHeartbeats 40000000 in
theorem rmqq13 (l : Launch) (Z : State) (aZ : Array Value) (hw : ∀ d ∈ tables_1, d.before aZ Z = true) (ws : List Jvm.Cond) (a0 : Addr) (a1 : Addr) (ka : ClassId) (kb : ClassId) (ha : List (Int32 × Value)) (hbb : List (Int32 × Value)) (x0 : UInt64) (x1 : UInt64) (x2 : UInt64) (y0 : UInt64) (C0 : Int) (C1 : Int) (C2 : Int) (D0 : Int) (Q0 : Int) (Q1 : Int) (Q2 : Int) (h0 : Heap) (n0 : Nat) (Z0 : n0 ≤ h0.size) (V_a0 : Arh Z h0 a0 ka .double (3 : Int32) ha [] (.double (0 : UInt64))) (E_a0 : Exa Z h0 a0 "[D") (V_a1 : Arh Z h0 a1 kb .double (1 : Int32) hbb [] (.double (0 : UInt64))) (vx0 : getH ha [] (.double (0 : UInt64)) ((0 : Int32)).toNatClampNeg = (.double x0)) (Dx0 : Dy x0 C0 0) (vx1 : getH ha [] (.double (0 : UInt64)) ((1 : Int32)).toNatClampNeg = (.double x1)) (Dx1 : Dy x1 C1 0) (vx2 : getH ha [] (.double (0 : UInt64)) ((2 : Int32)).toNatClampNeg = (.double x2)) (Dx2 : Dy x2 C2 0) (vy0 : getH hbb [] (.double (0 : UInt64)) ((0 : Int32)).toNatClampNeg = (.double y0)) (Dy0 : Dy y0 D0 0) (el0 : C0 = Q0 * D0) (el1 : C1 = Q1 * D0) (el2 : C2 = Q2 * D0) (hL : D0 ≠ 0) (bd0 : own_ab D0 128) (bq0 : own_ab Q0 128) (bq1 : own_ab Q1 128) (bq2 : own_ab Q2 128) :
    MetFree l (⟨"com/example/deseason/deseason/arima/Polynomials", "quotient", "([D[D)[D"⟩ : MethodName) (head1 (Jvm.Cond.code (⟨"com/example/deseason/deseason/arima/Polynomials", "quotient", "([D[D)[D"⟩ : MethodName) prog_10_method_6_code 7 (some (.array .double)) :: ws) ({ frames := 1, cells := 2, slots := 8, locals := 14 } : Room)) (fun aQ UQ => aQ = #[(.ref a0), (.ref a1)] ∧ Z.Warmed39 UQ.vm ∧ UQ.heap = h0) (fun _ _ _ _ _ => True) (fun _ UQ oQ UR => ∃ vQ LQ, oQ = .returned vQ ∧ Qqq13 Z a0 a1 ka kb ha hbb x0 x1 x2 y0 C0 C1 C2 D0 Q0 Q1 Q2 h0 n0 vQ UR.heap LQ ∧ FrameEnd UQ oQ UR LQ ({ frames := 1, cells := 2, slots := 8, locals := 14 } : Room).cells ({ frames := 1, cells := 2, slots := 8, locals := 14 } : Room).slots) := by
  refine MetFree.of_bodySF (plainFor_of_name pn_1) hisR ?_
  intro p e s m args below meth c s₁ Bd hml0 hP hK
  obtain ⟨rfl, hZ, hh⟩ := hP
  have hx := Bd.exec
  have hby := Bd.bytes
  have hml : c.maxLocals = 7 := hml0
  have hown : s.vm.findClass "com/example/deseason/deseason/arima/Polynomials" = some m.cls := findClass_of_methodNamed Bd.named
  have hnm := (name_of_methodNamed Bd.named Bd.method).1
  have X0 : Stand p l e ({ frames := 1, cells := 2, slots := 8, locals := 14 } : Room) s m #[(.ref a0), (.ref a1)] below meth c s₁ [] 0 0 := Stand.of_body Bd
  have e0 : s₁.heap = h0 := by rw [← hh, Bd.state]; rfl
  have N0 := Fr.nil n0
  have K0 : Keep h0 h0 [] := Keep.refl _ _
  have w_1 := hw _ (List.mem_of_getElem? (i := 1) rfl)
  have w_16 := hw _ (List.mem_of_getElem? (i := 16) rfl)
  have w_17 := hw _ (List.mem_of_getElem? (i := 17) rfl)
  have w_19 := hw _ (List.mem_of_getElem? (i := 19) rfl)
  have w_20 := hw _ (List.mem_of_getElem? (i := 20) rfl)
  have w_21 := hw _ (List.mem_of_getElem? (i := 21) rfl)
  have w_22 := hw _ (List.mem_of_getElem? (i := 22) rfl)
  have w_23 := hw _ (List.mem_of_getElem? (i := 23) rfl)
  have first_ : Rn p e below (s₁.setTop (mkF m 0 #[.val (.ref a0), .val (.ref a1), .unset, .unset, .unset, .unset, .unset] [])) (Fnqq13 Z a0 a1 ka kb ha hbb x0 x1 x2 y0 C0 C1 C2 D0 Q0 Q1 Q2 h0 n0 s) := by
    generalize hG : (Fnqq13 Z a0 a1 ka kb ha hbb x0 x1 x2 y0 C0 C1 C2 D0 Q0 Q1 Q2 h0 n0 s) = G
    have ac0 : own_ab C0 16384 := el0 ▸ (own_ab.mul bq0 bd0)
    have ac1 : own_ab C1 16384 := el1 ▸ (own_ab.mul bq1 bd0)
    have ac2 : own_ab C2 16384 := el2 ▸ (own_ab.mul bq2 bd0)
    refine R.aloadN X0 hx (hb hby d1_0) rfl rfl (pc' := 1) rfl ?_
    refine R.alen X0 hx hZ e0 V_a1 (hb hby d1_1) (pc' := 2) rfl ?_
    refine R.iconst X0 hx (hb hby d1_2) (v := (1 : Int32)) (by decide) (pc' := 3) rfl ?_
    refine R.isub X0 hx (hb hby d1_3) (v := (0 : Int32)) (by decide) (pc' := 4) rfl ?_
    refine R.istoreN X0 hx (hb hby d1_4) (L' := #[.val (.ref a0), .val (.ref a1), .val (.int (0 : Int32)), .unset, .unset, .unset, .unset]) rfl (pc' := 5) rfl ?_
    refine R.aloadN X0 hx (hb hby d1_5) rfl rfl (pc' := 6) rfl ?_
    refine R.alen X0 hx hZ e0 V_a0 (hb hby d1_6) (pc' := 7) rfl ?_
    refine R.iloadN X0 hx (hb hby d1_7) rfl (pc' := 8) rfl ?_
    refine R.icmpYes X0 hx (hb hby d1_8) (tlt (by decide : (0 : Int32) < (3 : Int32))).2.2.1 (by decide) (pc' := 15) (by decide) ?_
    refine R.aloadN X0 hx (hb hby d1_15) rfl rfl (pc' := 16) rfl ?_
    show Rn p e below (s₁.setTop (mkF m 16 #[.val (.ref a0), .val (.ref a1), .val (.int (0 : Int32)), .unset, .unset, .unset, .unset] [(.ref a0)])) G
    obtain ⟨T1, h1, X1, e1, E1, V1, EE1, st1⟩ := cloneH X0 hx hZ hown (ad := "[D") w_16 w_17 w_21 w_19 w_20 w_22 e0 V_a0 E_a0 (g := (mkF m 16 #[.val (.ref a0), .val (.ref a1), .val (.int (0 : Int32)), .unset, .unset, .unset, .unset] [(.ref a0)])) rfl (by rw [hml]; rfl) rfl (hb hby d1_16) (by decide) (W := 0) (cap := 5) (by show 2 * 0 + _ ≤ _; exact Nat.le_of_eq rfl) (by decide) (by decide) (by decide) (by decide)
    obtain ⟨b1, g1⟩ : ∃ z, z = h0.size := ⟨_, rfl⟩
    rw [← g1] at V1 EE1 st1
    have g_b1 : n0 ≤ b1 := Nat.le_trans Z0 (Nat.le_of_eq g1.symm)
    have sz_b1 : h0.size ≤ b1 := Nat.le_trans K0.1 (Nat.le_of_eq g1.symm)
    have ne_a0_b1 : a0 ≠ b1 := Nat.ne_of_lt (Nat.lt_of_lt_of_le V_a0.lt (Nat.le_of_eq g1.symm))
    have ne_a1_b1 : a1 ≠ b1 := Nat.ne_of_lt (Nat.lt_of_lt_of_le V_a1.lt (Nat.le_of_eq g1.symm))
    have K1 : Keep h0 h1 [] := K0.ext E1
    have Z1 : n0 ≤ h1.size := Nat.le_trans Z0 E1.1
    have V_a0 := V_a0.ext E1
    have E_a0 := E_a0.ext E1
    have V_a1 := V_a1.ext E1
    have V_b1 : Arh Z h1 b1 ka .double (3 : Int32) ha [] (.double (0 : UInt64)) := V1
    have E_b1 : Exa Z h1 b1 "[D" := EE1
    refine Rn.st st1 ?_
    show Rn p e below (T1.setTop (mkF m 19 #[.val (.ref a0), .val (.ref a1), .val (.int (0 : Int32)), .unset, .unset, .unset, .unset] [(.ref b1)])) G
    refine R.castY X1 hx hZ hown w_23 e1 (Ins.self E_b1) (hb hby d1_19) (pc' := 22) rfl ?_; intro T2 X2 e2
    refine R.astoreN X2 hx (hb hby d1_22) rfl (L' := #[.val (.ref a0), .val (.ref a1), .val (.int (0 : Int32)), .val (.ref b1), .unset, .unset, .unset]) rfl (pc' := 23) rfl ?_
    refine R.aloadN X2 hx (hb hby d1_23) rfl rfl (pc' := 24) rfl ?_
    refine R.alen X2 hx hZ e2 V_a0 (hb hby d1_24) (pc' := 25) rfl ?_
    refine R.iloadN X2 hx (hb hby d1_25) rfl (pc' := 26) rfl ?_
    refine R.isub X2 hx (hb hby d1_26) (v := (3 : Int32)) (by decide) (pc' := 27) rfl ?_
    refine R.newP X2 hx hZ (ty := .double) rfl w_1 e2 (by decide) (cap := 3) (by decide) (by decide) (ad := "[D") (by decide) (hb hby d1_27) (pc' := 29) rfl (by decide) (by decide) ?_; intro T3 h3 b3 k3 g3 X3 e3 E3 EE3 AA3
    have g_b3 : n0 ≤ b3 := Nat.le_trans Z1 (Nat.le_of_eq g3.symm)
    have sz_b3 : h0.size ≤ b3 := Nat.le_trans K1.1 (Nat.le_of_eq g3.symm)
    have ne_a0_b3 : a0 ≠ b3 := Nat.ne_of_lt (Nat.lt_of_lt_of_le V_a0.lt (Nat.le_of_eq g3.symm))
    have ne_a1_b3 : a1 ≠ b3 := Nat.ne_of_lt (Nat.lt_of_lt_of_le V_a1.lt (Nat.le_of_eq g3.symm))
    have ne_b1_b3 : b1 ≠ b3 := Nat.ne_of_lt (Nat.lt_of_lt_of_le V_b1.lt (Nat.le_of_eq g3.symm))
    have K3 : Keep h0 h3 [] := K1.ext E3
    have Z3 : n0 ≤ h3.size := Nat.le_trans Z1 E3.1
    have V_a0 := V_a0.ext E3
    have E_a0 := E_a0.ext E3
    have V_a1 := V_a1.ext E3
    have V_b1 := V_b1.ext E3
    have E_b1 := E_b1.ext E3
    have V_b3 : Arh Z h3 b3 k3 .double (3 : Int32) [] [] (.double (0 : UInt64)) := AA3
    refine R.astore X3 hx (hb hby d1_29) rfl (L' := #[.val (.ref a0), .val (.ref a1), .val (.int (0 : Int32)), .val (.ref b1), .val (.ref b3), .unset, .unset]) rfl (pc' := 31) rfl ?_
    refine R.aload X3 hx (hb hby d1_31) rfl rfl (pc' := 33) rfl ?_
    refine R.alen X3 hx hZ e3 V_b3 (hb hby d1_33) (pc' := 34) rfl ?_
    refine R.iconst X3 hx (hb hby d1_34) (v := (1 : Int32)) (by decide) (pc' := 35) rfl ?_
    refine R.isub X3 hx (hb hby d1_35) (v := (2 : Int32)) (by decide) (pc' := 36) rfl ?_
    refine R.istore X3 hx (hb hby d1_36) (L' := #[.val (.ref a0), .val (.ref a1), .val (.int (0 : Int32)), .val (.ref b1), .val (.ref b3), .val (.int (2 : Int32)), .unset]) rfl (pc' := 38) rfl ?_
    refine R.iload X3 hx (hb hby d1_38) rfl (pc' := 40) rfl ?_
    refine R.ifNo X3 hx (hb hby d1_40) (flt (by decide : ¬ ((2 : Int32) < (0 : Int32)))).1 (pc' := 43) rfl ?_
    refine R.aload X3 hx (hb hby d1_43) rfl rfl (pc' := 45) rfl ?_
    refine R.iload X3 hx (hb hby d1_45) rfl (pc' := 47) rfl ?_
    refine R.aloadN X3 hx (hb hby d1_47) rfl rfl (pc' := 48) rfl ?_
    refine R.iload X3 hx (hb hby d1_48) rfl (pc' := 50) rfl ?_
    refine R.iloadN X3 hx (hb hby d1_50) rfl (pc' := 51) rfl ?_
    refine R.iadd X3 hx (hb hby d1_51) (v := (2 : Int32)) (by decide) (pc' := 52) rfl ?_
    refine R.daload X3 hx hZ e3 V_b1 (⟨by decide, by decide⟩ : ¬ (2 : Int32) < 0 ∧ (2 : Int32) < (3 : Int32)) (v := (.double x2)) (vx2) (hb hby d1_52) (pc' := 53) rfl ?_
    refine R.aloadN X3 hx (hb hby d1_53) rfl rfl (pc' := 54) rfl ?_
    refine R.iloadN X3 hx (hb hby d1_54) rfl (pc' := 55) rfl ?_
    refine R.daload X3 hx hZ e3 V_a1 (⟨by decide, by decide⟩ : ¬ (0 : Int32) < 0 ∧ (0 : Int32) < (1 : Int32)) (v := (.double y0)) (vy0) (hb hby d1_55) (pc' := 56) rfl ?_
    have Y4 := (Dy.div (m := Q2) (n := 0) Dx2 Dy0 hL (bq2.lt (by decide)) (by decide) (by simp only [own_one]; omega))
    refine R.ddiv X3 hx (hb hby d1_56) (Y4.nn : NoNaN64 (FP.ddiv x2 y0)) (pc' := 57) rfl ?_
    show Rn p e below (T3.setTop (mkF m 57 #[.val (.ref a0), .val (.ref a1), .val (.int (0 : Int32)), .val (.ref b1), .val (.ref b3), .val (.int (2 : Int32)), .unset] [(.double (FP.ddiv x2 y0)), (.int (2 : Int32)), (.ref b3)])) G
    generalize hr5 : (FP.ddiv x2 y0) = r5
    have D_r5 : Dy r5 (Q2) 0 := hr5 ▸ Y4
    refine R.dastore X3 hx hZ e3 V_b3 (⟨by decide, by decide⟩ : ¬ (2 : Int32) < 0 ∧ (2 : Int32) < (3 : Int32)) (hb hby d1_57) (pc' := 58) rfl ?_; intro T6 h6 X6 e6 W6 V6
    have V_a0 := V_a0.other W6 ne_a0_b3
    have E_a0 := E_a0.wr W6
    have V_a1 := V_a1.other W6 ne_a1_b3
    have V_b1 := V_b1.other W6 ne_b1_b3
    have E_b1 := E_b1.wr W6
    have V_b3 : Arh Z h6 b3 k3 .double (3 : Int32) [((2 : Int32), (.double r5))] [] (.double (0 : UInt64)) := V6
    have N6 := Fr.snoc X6 N0 g_b3
    have K6 : Keep h0 h6 [] := K3.wr W6 (Or.inr sz_b3)
    have Z6 : n0 ≤ h6.size := Nat.le_trans Z3 (Keep.of_wr W6).1
    refine R.iconst X6 hx (hb hby d1_58) (v := (0 : Int32)) (by decide) (pc' := 59) rfl ?_
    refine R.istore X6 hx (hb hby d1_59) (L' := #[.val (.ref a0), .val (.ref a1), .val (.int (0 : Int32)), .val (.ref b1), .val (.ref b3), .val (.int (2 : Int32)), .val (.int (0 : Int32))]) rfl (pc' := 61) rfl ?_
    refine R.iload X6 hx (hb hby d1_61) rfl (pc' := 63) rfl ?_
    refine R.iloadN X6 hx (hb hby d1_63) rfl (pc' := 64) rfl ?_
    refine R.icmpNo X6 hx (hb hby d1_64) (flt (by decide : ¬ ((0 : Int32) < (0 : Int32)))).2.2.1 (pc' := 67) rfl ?_
    refine R.aloadN X6 hx (hb hby d1_67) rfl rfl (pc' := 68) rfl ?_
    refine R.iload X6 hx (hb hby d1_68) rfl (pc' := 70) rfl ?_
    refine R.iload X6 hx (hb hby d1_70) rfl (pc' := 72) rfl ?_
    refine R.iadd X6 hx (hb hby d1_72) (v := (2 : Int32)) (by decide) (pc' := 73) rfl ?_
    refine R.dup2 X6 hx (hb hby d1_73) rfl rfl (pc' := 74) rfl ?_
    refine R.daload X6 hx hZ e6 V_b1 (⟨by decide, by decide⟩ : ¬ (2 : Int32) < 0 ∧ (2 : Int32) < (3 : Int32)) (v := (.double x2)) (vx2) (hb hby d1_74) (pc' := 75) rfl ?_
    refine R.aload X6 hx (hb hby d1_75) rfl rfl (pc' := 77) rfl ?_
    refine R.iload X6 hx (hb hby d1_77) rfl (pc' := 79) rfl ?_
    refine R.daload X6 hx hZ e6 V_b3 (⟨by decide, by decide⟩ : ¬ (2 : Int32) < 0 ∧ (2 : Int32) < (3 : Int32)) (v := (.double r5)) (getH_hit (by decide) (rfl)) (hb hby d1_79) (pc' := 80) rfl ?_
    refine R.aloadN X6 hx (hb hby d1_80) rfl rfl (pc' := 81) rfl ?_
    refine R.iload X6 hx (hb hby d1_81) rfl (pc' := 83) rfl ?_
    refine R.daload X6 hx hZ e6 V_a1 (⟨by decide, by decide⟩ : ¬ (0 : Int32) < 0 ∧ (0 : Int32) < (1 : Int32)) (v := (.double y0)) (vy0) (hb hby d1_83) (pc' := 84) rfl ?_
    have Y7 := (Dy.mul D_r5 Dy0 ((own_ab.mul bq2 bd0).lt (by decide)) (by decide))
    refine R.dmul X6 hx (hb hby d1_84) (Y7.nn : NoNaN64 (FP.dmul r5 y0)) (pc' := 85) rfl ?_
    have Y8 := (Dy.sub Dx2 Y7 ((own_ab.sub ac2 (own_ab.mul bq2 bd0)).lt (by decide)) (by decide))
    refine R.dsub X6 hx (hb hby d1_85) (Y8.nn : NoNaN64 (FP.dsub x2 (FP.dmul r5 y0))) (pc' := 86) rfl ?_
    show Rn p e below (T6.setTop (mkF m 86 #[.val (.ref a0), .val (.ref a1), .val (.int (0 : Int32)), .val (.ref b1), .val (.ref b3), .val (.int (2 : Int32)), .val (.int (0 : Int32))] [(.double (FP.dsub x2 (FP.dmul r5 y0))), (.int (2 : Int32)), (.ref b1)])) G
    generalize hr9 : (FP.dsub x2 (FP.dmul r5 y0)) = r9
    have D_r9 : Dy r9 ((C2 - (Q2 * D0))) 0 := hr9 ▸ Y8
    have A_r9 : own_ab ((C2 - (Q2 * D0))) 32768 := (own_ab.sub ac2 (own_ab.mul bq2 bd0))
    refine R.dastore X6 hx hZ e6 V_b1 (⟨by decide, by decide⟩ : ¬ (2 : Int32) < 0 ∧ (2 : Int32) < (3 : Int32)) (hb hby d1_86) (pc' := 87) rfl ?_; intro T10 h10 X10 e10 W10 V10
    have V_a0 := V_a0.other W10 ne_a0_b1
    have E_a0 := E_a0.wr W10
    have V_a1 := V_a1.other W10 ne_a1_b1
    have E_b1 := E_b1.wr W10
    have V_b3 := V_b3.other W10 (Ne.symm ne_b1_b3)
    have V_b1 : Arh Z h10 b1 ka .double (3 : Int32) (((2 : Int32), (.double r9)) :: ha) [] (.double (0 : UInt64)) := V10
    have N10 := Fr.snoc X10 N6 g_b1
    have K10 : Keep h0 h10 [] := K6.wr W10 (Or.inr sz_b1)
    have Z10 : n0 ≤ h10.size := Nat.le_trans Z6 (Keep.of_wr W10).1
    refine R.iinc X10 hx (hb hby d1_87) rfl (L' := #[.val (.ref a0), .val (.ref a1), .val (.int (0 : Int32)), .val (.ref b1), .val (.ref b3), .val (.int (2 : Int32)), .val (.int (1 : Int32))]) rfl (pc' := 90) rfl ?_
    refine R.goto X10 hx (hb hby d1_90) (by decide) (pc' := 61) (by decide) ?_
    refine R.iload X10 hx (hb hby d1_61) rfl (pc' := 63) rfl ?_
    refine R.iloadN X10 hx (hb hby d1_63) rfl (pc' := 64) rfl ?_
    refine R.icmpYes X10 hx (hb hby d1_64) (tlt (by decide : (0 : Int32) < (1 : Int32))).2.2.1 (by decide) (pc' := 93) (by decide) ?_
    refine R.iinc X10 hx (hb hby d1_93) rfl (L' := #[.val (.ref a0), .val (.ref a1), .val (.int (0 : Int32)), .val (.ref b1), .val (.ref b3), .val (.int (1 : Int32)), .val (.int (1 : Int32))]) rfl (pc' := 96) rfl ?_
    refine R.goto X10 hx (hb hby d1_96) (by decide) (pc' := 38) (by decide) ?_
    refine R.iload X10 hx (hb hby d1_38) rfl (pc' := 40) rfl ?_
    refine R.ifNo X10 hx (hb hby d1_40) (flt (by decide : ¬ ((1 : Int32) < (0 : Int32)))).1 (pc' := 43) rfl ?_
    refine R.aload X10 hx (hb hby d1_43) rfl rfl (pc' := 45) rfl ?_
    refine R.iload X10 hx (hb hby d1_45) rfl (pc' := 47) rfl ?_
    refine R.aloadN X10 hx (hb hby d1_47) rfl rfl (pc' := 48) rfl ?_
    refine R.iload X10 hx (hb hby d1_48) rfl (pc' := 50) rfl ?_
    refine R.iloadN X10 hx (hb hby d1_50) rfl (pc' := 51) rfl ?_
    refine R.iadd X10 hx (hb hby d1_51) (v := (1 : Int32)) (by decide) (pc' := 52) rfl ?_
    refine R.daload X10 hx hZ e10 V_b1 (⟨by decide, by decide⟩ : ¬ (1 : Int32) < 0 ∧ (1 : Int32) < (3 : Int32)) (v := (.double x1)) (getH_miss (by decide) (by decide) (vx1)) (hb hby d1_52) (pc' := 53) rfl ?_
    refine R.aloadN X10 hx (hb hby d1_53) rfl rfl (pc' := 54) rfl ?_
    refine R.iloadN X10 hx (hb hby d1_54) rfl (pc' := 55) rfl ?_
    refine R.daload X10 hx hZ e10 V_a1 (⟨by decide, by decide⟩ : ¬ (0 : Int32) < 0 ∧ (0 : Int32) < (1 : Int32)) (v := (.double y0)) (vy0) (hb hby d1_55) (pc' := 56) rfl ?_
    have Y11 := (Dy.div (m := Q1) (n := 0) Dx1 Dy0 hL (bq1.lt (by decide)) (by decide) (by simp only [own_one]; omega))
    refine R.ddiv X10 hx (hb hby d1_56) (Y11.nn : NoNaN64 (FP.ddiv x1 y0)) (pc' := 57) rfl ?_
    show Rn p e below (T10.setTop (mkF m 57 #[.val (.ref a0), .val (.ref a1), .val (.int (0 : Int32)), .val (.ref b1), .val (.ref b3), .val (.int (1 : Int32)), .val (.int (1 : Int32))] [(.double (FP.ddiv x1 y0)), (.int (1 : Int32)), (.ref b3)])) G
    generalize hr12 : (FP.ddiv x1 y0) = r12
    have D_r12 : Dy r12 (Q1) 0 := hr12 ▸ Y11
    refine R.dastore X10 hx hZ e10 V_b3 (⟨by decide, by decide⟩ : ¬ (1 : Int32) < 0 ∧ (1 : Int32) < (3 : Int32)) (hb hby d1_57) (pc' := 58) rfl ?_; intro T13 h13 X13 e13 W13 V13
    have V_a0 := V_a0.other W13 ne_a0_b3
    have E_a0 := E_a0.wr W13
    have V_a1 := V_a1.other W13 ne_a1_b3
    have E_b1 := E_b1.wr W13
    have V_b1 := V_b1.other W13 ne_b1_b3
    have V_b3 : Arh Z h13 b3 k3 .double (3 : Int32) [((1 : Int32), (.double r12)), ((2 : Int32), (.double r5))] [] (.double (0 : UInt64)) := V13
    have N13 := Fr.snoc X13 N10 g_b3
    have K13 : Keep h0 h13 [] := K10.wr W13 (Or.inr sz_b3)
    have Z13 : n0 ≤ h13.size := Nat.le_trans Z10 (Keep.of_wr W13).1
    refine R.iconst X13 hx (hb hby d1_58) (v := (0 : Int32)) (by decide) (pc' := 59) rfl ?_
    refine R.istore X13 hx (hb hby d1_59) (L' := #[.val (.ref a0), .val (.ref a1), .val (.int (0 : Int32)), .val (.ref b1), .val (.ref b3), .val (.int (1 : Int32)), .val (.int (0 : Int32))]) rfl (pc' := 61) rfl ?_
    refine R.iload X13 hx (hb hby d1_61) rfl (pc' := 63) rfl ?_
    refine R.iloadN X13 hx (hb hby d1_63) rfl (pc' := 64) rfl ?_
    refine R.icmpNo X13 hx (hb hby d1_64) (flt (by decide : ¬ ((0 : Int32) < (0 : Int32)))).2.2.1 (pc' := 67) rfl ?_
    refine R.aloadN X13 hx (hb hby d1_67) rfl rfl (pc' := 68) rfl ?_
    refine R.iload X13 hx (hb hby d1_68) rfl (pc' := 70) rfl ?_
    refine R.iload X13 hx (hb hby d1_70) rfl (pc' := 72) rfl ?_
    refine R.iadd X13 hx (hb hby d1_72) (v := (1 : Int32)) (by decide) (pc' := 73) rfl ?_
    refine R.dup2 X13 hx (hb hby d1_73) rfl rfl (pc' := 74) rfl ?_
    refine R.daload X13 hx hZ e13 V_b1 (⟨by decide, by decide⟩ : ¬ (1 : Int32) < 0 ∧ (1 : Int32) < (3 : Int32)) (v := (.double x1)) (getH_miss (by decide) (by decide) (vx1)) (hb hby d1_74) (pc' := 75) rfl ?_
    refine R.aload X13 hx (hb hby d1_75) rfl rfl (pc' := 77) rfl ?_
    refine R.iload X13 hx (hb hby d1_77) rfl (pc' := 79) rfl ?_
    refine R.daload X13 hx hZ e13 V_b3 (⟨by decide, by decide⟩ : ¬ (1 : Int32) < 0 ∧ (1 : Int32) < (3 : Int32)) (v := (.double r12)) (getH_hit (by decide) (rfl)) (hb hby d1_79) (pc' := 80) rfl ?_
    refine R.aloadN X13 hx (hb hby d1_80) rfl rfl (pc' := 81) rfl ?_
    refine R.iload X13 hx (hb hby d1_81) rfl (pc' := 83) rfl ?_
    refine R.daload X13 hx hZ e13 V_a1 (⟨by decide, by decide⟩ : ¬ (0 : Int32) < 0 ∧ (0 : Int32) < (1 : Int32)) (v := (.double y0)) (vy0) (hb hby d1_83) (pc' := 84) rfl ?_
    have Y14 := (Dy.mul D_r12 Dy0 ((own_ab.mul bq1 bd0).lt (by decide)) (by decide))
    refine R.dmul X13 hx (hb hby d1_84) (Y14.nn : NoNaN64 (FP.dmul r12 y0)) (pc' := 85) rfl ?_
    have Y15 := (Dy.sub Dx1 Y14 ((own_ab.sub ac1 (own_ab.mul bq1 bd0)).lt (by decide)) (by decide))
    refine R.dsub X13 hx (hb hby d1_85) (Y15.nn : NoNaN64 (FP.dsub x1 (FP.dmul r12 y0))) (pc' := 86) rfl ?_
    show Rn p e below (T13.setTop (mkF m 86 #[.val (.ref a0), .val (.ref a1), .val (.int (0 : Int32)), .val (.ref b1), .val (.ref b3), .val (.int (1 : Int32)), .val (.int (0 : Int32))] [(.double (FP.dsub x1 (FP.dmul r12 y0))), (.int (1 : Int32)), (.ref b1)])) G
    generalize hr16 : (FP.dsub x1 (FP.dmul r12 y0)) = r16
    have D_r16 : Dy r16 ((C1 - (Q1 * D0))) 0 := hr16 ▸ Y15
    have A_r16 : own_ab ((C1 - (Q1 * D0))) 32768 := (own_ab.sub ac1 (own_ab.mul bq1 bd0))
    refine R.dastore X13 hx hZ e13 V_b1 (⟨by decide, by decide⟩ : ¬ (1 : Int32) < 0 ∧ (1 : Int32) < (3 : Int32)) (hb hby d1_86) (pc' := 87) rfl ?_; intro T17 h17 X17 e17 W17 V17
    have V_a0 := V_a0.other W17 ne_a0_b1
    have E_a0 := E_a0.wr W17
    have V_a1 := V_a1.other W17 ne_a1_b1
    have E_b1 := E_b1.wr W17
    have V_b3 := V_b3.other W17 (Ne.symm ne_b1_b3)
    have V_b1 : Arh Z h17 b1 ka .double (3 : Int32) (((1 : Int32), (.double r16)) :: ((2 : Int32), (.double r9)) :: ha) [] (.double (0 : UInt64)) := V17
    have N17 := Fr.snoc X17 N13 g_b1
    have K17 : Keep h0 h17 [] := K13.wr W17 (Or.inr sz_b1)
    have Z17 : n0 ≤ h17.size := Nat.le_trans Z13 (Keep.of_wr W17).1
    refine R.iinc X17 hx (hb hby d1_87) rfl (L' := #[.val (.ref a0), .val (.ref a1), .val (.int (0 : Int32)), .val (.ref b1), .val (.ref b3), .val (.int (1 : Int32)), .val (.int (1 : Int32))]) rfl (pc' := 90) rfl ?_
    refine R.goto X17 hx (hb hby d1_90) (by decide) (pc' := 61) (by decide) ?_
    refine R.iload X17 hx (hb hby d1_61) rfl (pc' := 63) rfl ?_
    refine R.iloadN X17 hx (hb hby d1_63) rfl (pc' := 64) rfl ?_
    refine R.icmpYes X17 hx (hb hby d1_64) (tlt (by decide : (0 : Int32) < (1 : Int32))).2.2.1 (by decide) (pc' := 93) (by decide) ?_
    refine R.iinc X17 hx (hb hby d1_93) rfl (L' := #[.val (.ref a0), .val (.ref a1), .val (.int (0 : Int32)), .val (.ref b1), .val (.ref b3), .val (.int (0 : Int32)), .val (.int (1 : Int32))]) rfl (pc' := 96) rfl ?_
    refine R.goto X17 hx (hb hby d1_96) (by decide) (pc' := 38) (by decide) ?_
    refine R.iload X17 hx (hb hby d1_38) rfl (pc' := 40) rfl ?_
    refine R.ifNo X17 hx (hb hby d1_40) (flt (by decide : ¬ ((0 : Int32) < (0 : Int32)))).1 (pc' := 43) rfl ?_
    refine R.aload X17 hx (hb hby d1_43) rfl rfl (pc' := 45) rfl ?_
    refine R.iload X17 hx (hb hby d1_45) rfl (pc' := 47) rfl ?_
    refine R.aloadN X17 hx (hb hby d1_47) rfl rfl (pc' := 48) rfl ?_
    refine R.iload X17 hx (hb hby d1_48) rfl (pc' := 50) rfl ?_
    refine R.iloadN X17 hx (hb hby d1_50) rfl (pc' := 51) rfl ?_
    refine R.iadd X17 hx (hb hby d1_51) (v := (0 : Int32)) (by decide) (pc' := 52) rfl ?_
    refine R.daload X17 hx hZ e17 V_b1 (⟨by decide, by decide⟩ : ¬ (0 : Int32) < 0 ∧ (0 : Int32) < (3 : Int32)) (v := (.double x0)) (getH_miss (by decide) (by decide) (getH_miss (by decide) (by decide) (vx0))) (hb hby d1_52) (pc' := 53) rfl ?_
    refine R.aloadN X17 hx (hb hby d1_53) rfl rfl (pc' := 54) rfl ?_
    refine R.iloadN X17 hx (hb hby d1_54) rfl (pc' := 55) rfl ?_
    refine R.daload X17 hx hZ e17 V_a1 (⟨by decide, by decide⟩ : ¬ (0 : Int32) < 0 ∧ (0 : Int32) < (1 : Int32)) (v := (.double y0)) (vy0) (hb hby d1_55) (pc' := 56) rfl ?_
    have Y18 := (Dy.div (m := Q0) (n := 0) Dx0 Dy0 hL (bq0.lt (by decide)) (by decide) (by simp only [own_one]; omega))
    refine R.ddiv X17 hx (hb hby d1_56) (Y18.nn : NoNaN64 (FP.ddiv x0 y0)) (pc' := 57) rfl ?_
    show Rn p e below (T17.setTop (mkF m 57 #[.val (.ref a0), .val (.ref a1), .val (.int (0 : Int32)), .val (.ref b1), .val (.ref b3), .val (.int (0 : Int32)), .val (.int (1 : Int32))] [(.double (FP.ddiv x0 y0)), (.int (0 : Int32)), (.ref b3)])) G
    generalize hr19 : (FP.ddiv x0 y0) = r19
    have D_r19 : Dy r19 (Q0) 0 := hr19 ▸ Y18
    refine R.dastore X17 hx hZ e17 V_b3 (⟨by decide, by decide⟩ : ¬ (0 : Int32) < 0 ∧ (0 : Int32) < (3 : Int32)) (hb hby d1_57) (pc' := 58) rfl ?_; intro T20 h20 X20 e20 W20 V20
    have V_a0 := V_a0.other W20 ne_a0_b3
    have E_a0 := E_a0.wr W20
    have V_a1 := V_a1.other W20 ne_a1_b3
    have E_b1 := E_b1.wr W20
    have V_b1 := V_b1.other W20 ne_b1_b3
    have V_b3 : Arh Z h20 b3 k3 .double (3 : Int32) [((0 : Int32), (.double r19)), ((1 : Int32), (.double r12)), ((2 : Int32), (.double r5))] [] (.double (0 : UInt64)) := V20
    have N20 := Fr.snoc X20 N17 g_b3
    have K20 : Keep h0 h20 [] := K17.wr W20 (Or.inr sz_b3)
    have Z20 : n0 ≤ h20.size := Nat.le_trans Z17 (Keep.of_wr W20).1
    refine R.iconst X20 hx (hb hby d1_58) (v := (0 : Int32)) (by decide) (pc' := 59) rfl ?_
    refine R.istore X20 hx (hb hby d1_59) (L' := #[.val (.ref a0), .val (.ref a1), .val (.int (0 : Int32)), .val (.ref b1), .val (.ref b3), .val (.int (0 : Int32)), .val (.int (0 : Int32))]) rfl (pc' := 61) rfl ?_
    refine R.iload X20 hx (hb hby d1_61) rfl (pc' := 63) rfl ?_
    refine R.iloadN X20 hx (hb hby d1_63) rfl (pc' := 64) rfl ?_
    refine R.icmpNo X20 hx (hb hby d1_64) (flt (by decide : ¬ ((0 : Int32) < (0 : Int32)))).2.2.1 (pc' := 67) rfl ?_
    refine R.aloadN X20 hx (hb hby d1_67) rfl rfl (pc' := 68) rfl ?_
    refine R.iload X20 hx (hb hby d1_68) rfl (pc' := 70) rfl ?_
    refine R.iload X20 hx (hb hby d1_70) rfl (pc' := 72) rfl ?_
    refine R.iadd X20 hx (hb hby d1_72) (v := (0 : Int32)) (by decide) (pc' := 73) rfl ?_
    refine R.dup2 X20 hx (hb hby d1_73) rfl rfl (pc' := 74) rfl ?_
    refine R.daload X20 hx hZ e20 V_b1 (⟨by decide, by decide⟩ : ¬ (0 : Int32) < 0 ∧ (0 : Int32) < (3 : Int32)) (v := (.double x0)) (getH_miss (by decide) (by decide) (getH_miss (by decide) (by decide) (vx0))) (hb hby d1_74) (pc' := 75) rfl ?_
    refine R.aload X20 hx (hb hby d1_75) rfl rfl (pc' := 77) rfl ?_
    refine R.iload X20 hx (hb hby d1_77) rfl (pc' := 79) rfl ?_
    refine R.daload X20 hx hZ e20 V_b3 (⟨by decide, by decide⟩ : ¬ (0 : Int32) < 0 ∧ (0 : Int32) < (3 : Int32)) (v := (.double r19)) (getH_hit (by decide) (rfl)) (hb hby d1_79) (pc' := 80) rfl ?_
    refine R.aloadN X20 hx (hb hby d1_80) rfl rfl (pc' := 81) rfl ?_
    refine R.iload X20 hx (hb hby d1_81) rfl (pc' := 83) rfl ?_
    refine R.daload X20 hx hZ e20 V_a1 (⟨by decide, by decide⟩ : ¬ (0 : Int32) < 0 ∧ (0 : Int32) < (1 : Int32)) (v := (.double y0)) (vy0) (hb hby d1_83) (pc' := 84) rfl ?_
    have Y21 := (Dy.mul D_r19 Dy0 ((own_ab.mul bq0 bd0).lt (by decide)) (by decide))
    refine R.dmul X20 hx (hb hby d1_84) (Y21.nn : NoNaN64 (FP.dmul r19 y0)) (pc' := 85) rfl ?_
    have Y22 := (Dy.sub Dx0 Y21 ((own_ab.sub ac0 (own_ab.mul bq0 bd0)).lt (by decide)) (by decide))
    refine R.dsub X20 hx (hb hby d1_85) (Y22.nn : NoNaN64 (FP.dsub x0 (FP.dmul r19 y0))) (pc' := 86) rfl ?_
    show Rn p e below (T20.setTop (mkF m 86 #[.val (.ref a0), .val (.ref a1), .val (.int (0 : Int32)), .val (.ref b1), .val (.ref b3), .val (.int (0 : Int32)), .val (.int (0 : Int32))] [(.double (FP.dsub x0 (FP.dmul r19 y0))), (.int (0 : Int32)), (.ref b1)])) G
    generalize hr23 : (FP.dsub x0 (FP.dmul r19 y0)) = r23
    have D_r23 : Dy r23 ((C0 - (Q0 * D0))) 0 := hr23 ▸ Y22
    have A_r23 : own_ab ((C0 - (Q0 * D0))) 32768 := (own_ab.sub ac0 (own_ab.mul bq0 bd0))
    refine R.dastore X20 hx hZ e20 V_b1 (⟨by decide, by decide⟩ : ¬ (0 : Int32) < 0 ∧ (0 : Int32) < (3 : Int32)) (hb hby d1_86) (pc' := 87) rfl ?_; intro T24 h24 X24 e24 W24 V24
    have V_a0 := V_a0.other W24 ne_a0_b1
    have E_a0 := E_a0.wr W24
    have V_a1 := V_a1.other W24 ne_a1_b1
    have E_b1 := E_b1.wr W24
    have V_b3 := V_b3.other W24 (Ne.symm ne_b1_b3)
    have V_b1 : Arh Z h24 b1 ka .double (3 : Int32) (((0 : Int32), (.double r23)) :: ((1 : Int32), (.double r16)) :: ((2 : Int32), (.double r9)) :: ha) [] (.double (0 : UInt64)) := V24
    have N24 := Fr.snoc X24 N20 g_b1
    have K24 : Keep h0 h24 [] := K20.wr W24 (Or.inr sz_b1)
    have Z24 : n0 ≤ h24.size := Nat.le_trans Z20 (Keep.of_wr W24).1
    refine R.iinc X24 hx (hb hby d1_87) rfl (L' := #[.val (.ref a0), .val (.ref a1), .val (.int (0 : Int32)), .val (.ref b1), .val (.ref b3), .val (.int (0 : Int32)), .val (.int (1 : Int32))]) rfl (pc' := 90) rfl ?_
    refine R.goto X24 hx (hb hby d1_90) (by decide) (pc' := 61) (by decide) ?_
    refine R.iload X24 hx (hb hby d1_61) rfl (pc' := 63) rfl ?_
    refine R.iloadN X24 hx (hb hby d1_63) rfl (pc' := 64) rfl ?_
    refine R.icmpYes X24 hx (hb hby d1_64) (tlt (by decide : (0 : Int32) < (1 : Int32))).2.2.1 (by decide) (pc' := 93) (by decide) ?_
    refine R.iinc X24 hx (hb hby d1_93) rfl (L' := #[.val (.ref a0), .val (.ref a1), .val (.int (0 : Int32)), .val (.ref b1), .val (.ref b3), .val (.int (-1 : Int32)), .val (.int (1 : Int32))]) rfl (pc' := 96) rfl ?_
    refine R.goto X24 hx (hb hby d1_96) (by decide) (pc' := 38) (by decide) ?_
    refine R.iload X24 hx (hb hby d1_38) rfl (pc' := 40) rfl ?_
    refine R.ifYes X24 hx (hb hby d1_40) (tlt (by decide : (-1 : Int32) < (0 : Int32))).1 (by decide) (pc' := 99) (by decide) ?_
    refine R.aload X24 hx (hb hby d1_99) rfl rfl (pc' := 101) rfl ?_
    rw [← hG]
    exact Rn.ret X24 (BodyLoose.notSynchronized Bd) (v := some (.ref b3)) (fun h => by rw [Bd.returns] at h; cases h) (Q := Qqq13 Z a0 a1 ka kb ha hbb x0 x1 x2 y0 C0 C1 C2 D0 Q0 Q1 Q2 h0 n0) e24 (fun fs hr => retOut X24 hx (t := (.array .double)) Bd.returns rfl (Or.inr (Or.inr (Or.inr (Or.inr ⟨rfl, rfl, rfl⟩)))) (hb hby d1_101) hr) ⟨b3, k3, [((0 : Int32), (.double r19)), ((1 : Int32), (.double r12)), ((2 : Int32), (.double r5))], rfl, N24, K24, sz_b3, V_b3, ⟨_, getH_hit (by decide) (rfl), D_r19⟩, ⟨_, getH_miss (by decide) (by decide) (getH_hit (by decide) (rfl)), D_r12⟩, ⟨_, getH_miss (by decide) (by decide) (getH_miss (by decide) (by decide) (getH_hit (by decide) (rfl))), D_r5⟩⟩ (by decide) (by decide)
  exact (Rn.st (fun t k => castTop (ef_qq13 m a0 a1) k) first_ : Rn p e below (s₁.setTop (entryFrame m #[(.ref a0), (.ref a1)] 7)) (Fnqq13 Z a0 a1 ka kb ha hbb x0 x1 x2 y0 C0 C1 C2 D0 Q0 Q1 Q2 h0 n0 s))
theorem ef_qq21 (m : MethodId) (x0 : Addr) (x1 : Addr) : entryFrame m #[(.ref x0), (.ref x1)] 7 = mkF m 0 #[.val (.ref x0), .val (.ref x1), .unset, .unset, .unset, .unset, .unset] [] := by first | (simp [entryFrame, mkF, argsToLocals, Value.category]; done) | rfl
def Qqq21 (Z : State) (a0 : Addr) (a1 : Addr) (ka : ClassId) (kb : ClassId) (ha : List (Int32 × Value)) (hbb : List (Int32 × Value)) (x0 : UInt64) (x1 : UInt64) (y0 : UInt64) (y1 : UInt64) (C0 : Int) (C1 : Int) (D0 : Int) (D1 : Int) (Q0 : Int) (R0 : Int) (h0 : Heap) (n0 : Nat) (vQ : Option Value) (hQ_ : Heap) (LQ : List Loc) : Prop := ∃ r : Addr, ∃ kr : ClassId, ∃ hr : List (Int32 × Value), vQ = some (.ref r) ∧ Fr n0 LQ ∧ Keep h0 hQ_ [] ∧ (h0.size ≤ r) ∧ (Arh Z hQ_ r kr .double (1 : Int32) hr [] (.double (0 : UInt64))) ∧ (∃ v : UInt64, getH hr [] (.double (0 : UInt64)) ((0 : Int32)).toNatClampNeg = (.double v) ∧ Dy v Q0 0)
def Fnqq21 (Z : State) (a0 : Addr) (a1 : Addr) (ka : ClassId) (kb : ClassId) (ha : List (Int32 × Value)) (hbb : List (Int32 × Value)) (x0 : UInt64) (x1 : UInt64) (y0 : UInt64) (y1 : UInt64) (C0 : Int) (C1 : Int) (D0 : Int) (D1 : Int) (Q0 : Int) (R0 : Int) (h0 : Heap) (n0 : Nat) (sQ : State) (oQ : Outcome) (UQ : State) : Prop := ∃ vQ LQ, oQ = .returned vQ ∧ Qqq21 Z a0 a1 ka kb ha hbb x0 x1 y0 y1 C0 C1 D0 D1 Q0 R0 h0 n0 vQ UQ.heap LQ ∧ FrameEnd sQ oQ UQ LQ ({ frames := 1, cells := 2, slots := 6, locals := 14 } : Room).cells ({ frames := 1, cells := 2, slots := 6, locals := 14 } : Room).slots
set_option maxRecDepth 65536 in
set_option maxHeartbeats 40000000 in
theorem rmqq21 (l : Launch) (Z : State) (aZ : Array Value) (hw : ∀ d ∈ tables_1, d.before aZ Z = true) (ws : List Jvm.Cond) (a0 : Addr) (a1 : Addr) (ka : ClassId) (kb : ClassId) (ha : List (Int32 × Value)) (hbb : List (Int32 × Value)) (x0 : UInt64) (x1 : UInt64) (y0 : UInt64) (y1 : UInt64) (C0 : Int) (C1 : Int) (D0 : Int) (D1 : Int) (Q0 : Int) (R0 : Int) (h0 : Heap) (n0 : Nat) (Z0 : n0 ≤ h0.size) (V_a0 : Arh Z h0 a0 ka .double (2 : Int32) ha [] (.double (0 : UInt64))) (E_a0 : Exa Z h0 a0 "[D") (V_a1 : Arh Z h0 a1 kb .double (2 : Int32) hbb [] (.double (0 : UInt64))) (vx0 : getH ha [] (.double (0 : UInt64)) ((0 : Int32)).toNatClampNeg = (.double x0)) (Dx0 : Dy x0 C0 0) (vx1 : getH ha [] (.double (0 : UInt64)) ((1 : Int32)).toNatClampNeg = (.double x1)) (Dx1 : Dy x1 C1 0) (vy0 : getH hbb [] (.double (0 : UInt64)) ((0 : Int32)).toNatClampNeg = (.double y0)) (Dy0 : Dy y0 D0 0) (vy1 : getH hbb [] (.double (0 : UInt64)) ((1 : Int32)).toNatClampNeg = (.double y1)) (Dy1 : Dy y1 D1 0) (el0 : C0 = Q0 * D0 + R0) (el1 : C1 = Q0 * D1) (hL : D1 ≠ 0) (bd0 : own_ab D0 128) (bd1 : own_ab D1 128) (bq0 : own_ab Q0 128) (br0 : own_ab R0 128) :
    MetFree l (⟨"com/example/deseason/deseason/arima/Polynomials", "quotient", "([D[D)[D"⟩ : MethodName) (head1 (Jvm.Cond.code (⟨"com/example/deseason/deseason/arima/Polynomials", "quotient", "([D[D)[D"⟩ : MethodName) prog_10_method_6_code 7 (some (.array .double)) :: ws) ({ frames := 1, cells := 2, slots := 6, locals := 14 } : Room)) (fun aQ UQ => aQ = #[(.ref a0), (.ref a1)] ∧ Z.Warmed39 UQ.vm ∧ UQ.heap = h0) (fun _ _ _ _ _ => True) (fun _ UQ oQ UR => ∃ vQ LQ, oQ = .returned vQ ∧ Qqq21 Z a0 a1 ka kb ha hbb x0 x1 y0 y1 C0 C1 D0 D1 Q0 R0 h0 n0 vQ UR.heap LQ ∧ FrameEnd UQ oQ UR LQ ({ frames := 1, cells := 2, slots := 6, locals := 14 } : Room).cells ({ frames := 1, cells := 2, slots := 6, locals := 14 } : Room).slots) := by
  refine MetFree.of_bodySF (plainFor_of_name pn_1) hisR ?_
  intro p e s m args below meth c s₁ Bd hml0 hP hK
  obtain ⟨rfl, hZ, hh⟩ := hP
  have hx := Bd.exec
  have hby := Bd.bytes
  have hml : c.maxLocals = 7 := hml0
  have hown : s.vm.findClass "com/example/deseason/deseason/arima/Polynomials" = some m.cls := findClass_of_methodNamed Bd.named
  have hnm := (name_of_methodNamed Bd.named Bd.method).1
  have X0 : Stand p l e ({ frames := 1, cells := 2, slots := 6, locals := 14 } : Room) s m #[(.ref a0), (.ref a1)] below meth c s₁ [] 0 0 := Stand.of_body Bd
  have e0 : s₁.heap = h0 := by rw [← hh, Bd.state]; rfl
  have N0 := Fr.nil n0
  have K0 : Keep h0 h0 [] := Keep.refl _ _
  have w_1 := hw _ (List.mem_of_getElem? (i := 1) rfl)
  have w_16 := hw _ (List.mem_of_getElem? (i := 16) rfl)
  have w_17 := hw _ (List.mem_of_getElem? (i := 17) rfl)
  have w_19 := hw _ (List.mem_of_getElem? (i := 19) rfl)
  have w_20 := hw _ (List.mem_of_getElem? (i := 20) rfl)
  have w_21 := hw _ (List.mem_of_getElem? (i := 21) rfl)
  have w_22 := hw _ (List.mem_of_getElem? (i := 22) rfl)
  have w_23 := hw _ (List.mem_of_getElem? (i := 23) rfl)
  have first_ : Rn p e below (s₁.setTop (mkF m 0 #[.val (.ref a0), .val (.ref a1), .unset, .unset, .unset, .unset, .unset] [])) (Fnqq21 Z a0 a1 ka kb ha hbb x0 x1 y0 y1 C0 C1 D0 D1 Q0 R0 h0 n0 s) := by
    generalize hG : (Fnqq21 Z a0 a1 ka kb ha hbb x0 x1 y0 y1 C0 C1 D0 D1 Q0 R0 h0 n0 s) = G
    have ac0 : own_ab C0 16512 := el0 ▸ (own_ab.add (own_ab.mul bq0 bd0) br0)
    have ac1 : own_ab C1 16384 := el1 ▸ (own_ab.mul bq0 bd1)
    refine R.aloadN X0 hx (hb hby d1_0) rfl rfl (pc' := 1) rfl ?_
    refine R.alen X0 hx hZ e0 V_a1 (hb hby d1_1) (pc' := 2) rfl ?_
    refine R.iconst X0 hx (hb hby d1_2) (v := (1 : Int32)) (by decide) (pc' := 3) rfl ?_
    refine R.isub X0 hx (hb hby d1_3) (v := (1 : Int32)) (by decide) (pc' := 4) rfl ?_
    refine R.istoreN X0 hx (hb hby d1_4) (L' := #[.val (.ref a0), .val (.ref a1), .val (.int (1 : Int32)), .unset, .unset, .unset, .unset]) rfl (pc' := 5) rfl ?_
    refine R.aloadN X0 hx (hb hby d1_5) rfl rfl (pc' := 6) rfl ?_
    refine R.alen X0 hx hZ e0 V_a0 (hb hby d1_6) (pc' := 7) rfl ?_
    refine R.iloadN X0 hx (hb hby d1_7) rfl (pc' := 8) rfl ?_
    refine R.icmpYes X0 hx (hb hby d1_8) (tlt (by decide : (1 : Int32) < (2 : Int32))).2.2.1 (by decide) (pc' := 15) (by decide) ?_
    refine R.aloadN X0 hx (hb hby d1_15) rfl rfl (pc' := 16) rfl ?_
    show Rn p e below (s₁.setTop (mkF m 16 #[.val (.ref a0), .val (.ref a1), .val (.int (1 : Int32)), .unset, .unset, .unset, .unset] [(.ref a0)])) G
    obtain ⟨T1, h1, X1, e1, E1, V1, EE1, st1⟩ := cloneH X0 hx hZ hown (ad := "[D") w_16 w_17 w_21 w_19 w_20 w_22 e0 V_a0 E_a0 (g := (mkF m 16 #[.val (.ref a0), .val (.ref a1), .val (.int (1 : Int32)), .unset, .unset, .unset, .unset] [(.ref a0)])) rfl (by rw [hml]; rfl) rfl (hb hby d1_16) (by decide) (W := 0) (cap := 5) (by show 2 * 0 + _ ≤ _; exact Nat.le_of_eq rfl) (by decide) (by decide) (by decide) (by decide)
    obtain ⟨b1, g1⟩ : ∃ z, z = h0.size := ⟨_, rfl⟩
    rw [← g1] at V1 EE1 st1
    have g_b1 : n0 ≤ b1 := Nat.le_trans Z0 (Nat.le_of_eq g1.symm)
    have sz_b1 : h0.size ≤ b1 := Nat.le_trans K0.1 (Nat.le_of_eq g1.symm)
    have ne_a0_b1 : a0 ≠ b1 := Nat.ne_of_lt (Nat.lt_of_lt_of_le V_a0.lt (Nat.le_of_eq g1.symm))
    have ne_a1_b1 : a1 ≠ b1 := Nat.ne_of_lt (Nat.lt_of_lt_of_le V_a1.lt (Nat.le_of_eq g1.symm))
    have K1 : Keep h0 h1 [] := K0.ext E1
    have Z1 : n0 ≤ h1.size := Nat.le_trans Z0 E1.1
    have V_a0 := V_a0.ext E1
    have E_a0 := E_a0.ext E1
    have V_a1 := V_a1.ext E1
    have V_b1 : Arh Z h1 b1 ka .double (2 : Int32) ha [] (.double (0 : UInt64)) := V1
    have E_b1 : Exa Z h1 b1 "[D" := EE1
    refine Rn.st st1 ?_
    show Rn p e below (T1.setTop (mkF m 19 #[.val (.ref a0), .val (.ref a1), .val (.int (1 : Int32)), .unset, .unset, .unset, .unset] [(.ref b1)])) G
    refine R.castY X1 hx hZ hown w_23 e1 (Ins.self E_b1) (hb hby d1_19) (pc' := 22) rfl ?_; intro T2 X2 e2
    refine R.astoreN X2 hx (hb hby d1_22) rfl (L' := #[.val (.ref a0), .val (.ref a1), .val (.int (1 : Int32)), .val (.ref b1), .unset, .unset, .unset]) rfl (pc' := 23) rfl ?_
    refine R.aloadN X2 hx (hb hby d1_23) rfl rfl (pc' := 24) rfl ?_
    refine R.alen X2 hx hZ e2 V_a0 (hb hby d1_24) (pc' := 25) rfl ?_
    refine R.iloadN X2 hx (hb hby d1_25) rfl (pc' := 26) rfl ?_
    refine R.isub X2 hx (hb hby d1_26) (v := (1 : Int32)) (by decide) (pc' := 27) rfl ?_
    refine R.newP X2 hx hZ (ty := .double) rfl w_1 e2 (by decide) (cap := 1) (by decide) (by decide) (ad := "[D") (by decide) (hb hby d1_27) (pc' := 29) rfl (by decide) (by decide) ?_; intro T3 h3 b3 k3 g3 X3 e3 E3 EE3 AA3
    have g_b3 : n0 ≤ b3 := Nat.le_trans Z1 (Nat.le_of_eq g3.symm)
    have sz_b3 : h0.size ≤ b3 := Nat.le_trans K1.1 (Nat.le_of_eq g3.symm)
    have ne_a0_b3 : a0 ≠ b3 := Nat.ne_of_lt (Nat.lt_of_lt_of_le V_a0.lt (Nat.le_of_eq g3.symm))
    have ne_a1_b3 : a1 ≠ b3 := Nat.ne_of_lt (Nat.lt_of_lt_of_le V_a1.lt (Nat.le_of_eq g3.symm))
    have ne_b1_b3 : b1 ≠ b3 := Nat.ne_of_lt (Nat.lt_of_lt_of_le V_b1.lt (Nat.le_of_eq g3.symm))
    have K3 : Keep h0 h3 [] := K1.ext E3
    have Z3 : n0 ≤ h3.size := Nat.le_trans Z1 E3.1
    have V_a0 := V_a0.ext E3
    have E_a0 := E_a0.ext E3
    have V_a1 := V_a1.ext E3
    have V_b1 := V_b1.ext E3
    have E_b1 := E_b1.ext E3
    have V_b3 : Arh Z h3 b3 k3 .double (1 : Int32) [] [] (.double (0 : UInt64)) := AA3
    refine R.astore X3 hx (hb hby d1_29) rfl (L' := #[.val (.ref a0), .val (.ref a1), .val (.int (1 : Int32)), .val (.ref b1), .val (.ref b3), .unset, .unset]) rfl (pc' := 31) rfl ?_
    refine R.aload X3 hx (hb hby d1_31) rfl rfl (pc' := 33) rfl ?_
    refine R.alen X3 hx hZ e3 V_b3 (hb hby d1_33) (pc' := 34) rfl ?_
    refine R.iconst X3 hx (hb hby d1_34) (v := (1 : Int32)) (by decide) (pc' := 35) rfl ?_
    refine R.isub X3 hx (hb hby d1_35) (v := (0 : Int32)) (by decide) (pc' := 36) rfl ?_
    refine R.istore X3 hx (hb hby d1_36) (L' := #[.val (.ref a0), .val (.ref a1), .val (.int (1 : Int32)), .val (.ref b1), .val (.ref b3), .val (.int (0 : Int32)), .unset]) rfl (pc' := 38) rfl ?_
    refine R.iload X3 hx (hb hby d1_38) rfl (pc' := 40) rfl ?_
    refine R.ifNo X3 hx (hb hby d1_40) (flt (by decide : ¬ ((0 : Int32) < (0 : Int32)))).1 (pc' := 43) rfl ?_
    refine R.aload X3 hx (hb hby d1_43) rfl rfl (pc' := 45) rfl ?_
    refine R.iload X3 hx (hb hby d1_45) rfl (pc' := 47) rfl ?_
    refine R.aloadN X3 hx (hb hby d1_47) rfl rfl (pc' := 48) rfl ?_
    refine R.iload X3 hx (hb hby d1_48) rfl (pc' := 50) rfl ?_
    refine R.iloadN X3 hx (hb hby d1_50) rfl (pc' := 51) rfl ?_
    refine R.iadd X3 hx (hb hby d1_51) (v := (1 : Int32)) (by decide) (pc' := 52) rfl ?_
    refine R.daload X3 hx hZ e3 V_b1 (⟨by decide, by decide⟩ : ¬ (1 : Int32) < 0 ∧ (1 : Int32) < (2 : Int32)) (v := (.double x1)) (vx1) (hb hby d1_52) (pc' := 53) rfl ?_
    refine R.aloadN X3 hx (hb hby d1_53) rfl rfl (pc' := 54) rfl ?_
    refine R.iloadN X3 hx (hb hby d1_54) rfl (pc' := 55) rfl ?_
    refine R.daload X3 hx hZ e3 V_a1 (⟨by decide, by decide⟩ : ¬ (1 : Int32) < 0 ∧ (1 : Int32) < (2 : Int32)) (v := (.double y1)) (vy1) (hb hby d1_55) (pc' := 56) rfl ?_
    have Y4 := (Dy.div (m := Q0) (n := 0) Dx1 Dy1 hL (bq0.lt (by decide)) (by decide) (by simp only [own_one]; omega))
    refine R.ddiv X3 hx (hb hby d1_56) (Y4.nn : NoNaN64 (FP.ddiv x1 y1)) (pc' := 57) rfl ?_
    show Rn p e below (T3.setTop (mkF m 57 #[.val (.ref a0), .val (.ref a1), .val (.int (1 : Int32)), .val (.ref b1), .val (.ref b3), .val (.int (0 : Int32)), .unset] [(.double (FP.ddiv x1 y1)), (.int (0 : Int32)), (.ref b3)])) G
    generalize hr5 : (FP.ddiv x1 y1) = r5
    have D_r5 : Dy r5 (Q0) 0 := hr5 ▸ Y4
    refine R.dastore X3 hx hZ e3 V_b3 (⟨by decide, by decide⟩ : ¬ (0 : Int32) < 0 ∧ (0 : Int32) < (1 : Int32)) (hb hby d1_57) (pc' := 58) rfl ?_; intro T6 h6 X6 e6 W6 V6
    have V_a0 := V_a0.other W6 ne_a0_b3
    have E_a0 := E_a0.wr W6
    have V_a1 := V_a1.other W6 ne_a1_b3
    have V_b1 := V_b1.other W6 ne_b1_b3
    have E_b1 := E_b1.wr W6
    have V_b3 : Arh Z h6 b3 k3 .double (1 : Int32) [((0 : Int32), (.double r5))] [] (.double (0 : UInt64)) := V6
    have N6 := Fr.snoc X6 N0 g_b3
    have K6 : Keep h0 h6 [] := K3.wr W6 (Or.inr sz_b3)
    have Z6 : n0 ≤ h6.size := Nat.le_trans Z3 (Keep.of_wr W6).1
    refine R.iconst X6 hx (hb hby d1_58) (v := (0 : Int32)) (by decide) (pc' := 59) rfl ?_
    refine R.istore X6 hx (hb hby d1_59) (L' := #[.val (.ref a0), .val (.ref a1), .val (.int (1 : Int32)), .val (.ref b1), .val (.ref b3), .val (.int (0 : Int32)), .val (.int (0 : Int32))]) rfl (pc' := 61) rfl ?_
    refine R.iload X6 hx (hb hby d1_61) rfl (pc' := 63) rfl ?_
    refine R.iloadN X6 hx (hb hby d1_63) rfl (pc' := 64) rfl ?_
    refine R.icmpNo X6 hx (hb hby d1_64) (flt (by decide : ¬ ((1 : Int32) < (0 : Int32)))).2.2.1 (pc' := 67) rfl ?_
    refine R.aloadN X6 hx (hb hby d1_67) rfl rfl (pc' := 68) rfl ?_
    refine R.iload X6 hx (hb hby d1_68) rfl (pc' := 70) rfl ?_
    refine R.iload X6 hx (hb hby d1_70) rfl (pc' := 72) rfl ?_
    refine R.iadd X6 hx (hb hby d1_72) (v := (0 : Int32)) (by decide) (pc' := 73) rfl ?_
    refine R.dup2 X6 hx (hb hby d1_73) rfl rfl (pc' := 74) rfl ?_
    refine R.daload X6 hx hZ e6 V_b1 (⟨by decide, by decide⟩ : ¬ (0 : Int32) < 0 ∧ (0 : Int32) < (2 : Int32)) (v := (.double x0)) (vx0) (hb hby d1_74) (pc' := 75) rfl ?_
    refine R.aload X6 hx (hb hby d1_75) rfl rfl (pc' := 77) rfl ?_
    refine R.iload X6 hx (hb hby d1_77) rfl (pc' := 79) rfl ?_
    refine R.daload X6 hx hZ e6 V_b3 (⟨by decide, by decide⟩ : ¬ (0 : Int32) < 0 ∧ (0 : Int32) < (1 : Int32)) (v := (.double r5)) (getH_hit (by decide) (rfl)) (hb hby d1_79) (pc' := 80) rfl ?_
    refine R.aloadN X6 hx (hb hby d1_80) rfl rfl (pc' := 81) rfl ?_
    refine R.iload X6 hx (hb hby d1_81) rfl (pc' := 83) rfl ?_
    refine R.daload X6 hx hZ e6 V_a1 (⟨by decide, by decide⟩ : ¬ (0 : Int32) < 0 ∧ (0 : Int32) < (2 : Int32)) (v := (.double y0)) (vy0) (hb hby d1_83) (pc' := 84) rfl ?_
    have Y7 := (Dy.mul D_r5 Dy0 ((own_ab.mul bq0 bd0).lt (by decide)) (by decide))
    refine R.dmul X6 hx (hb hby d1_84) (Y7.nn : NoNaN64 (FP.dmul r5 y0)) (pc' := 85) rfl ?_
    have Y8 := (Dy.sub Dx0 Y7 ((own_ab.sub ac0 (own_ab.mul bq0 bd0)).lt (by decide)) (by decide))
    refine R.dsub X6 hx (hb hby d1_85) (Y8.nn : NoNaN64 (FP.dsub x0 (FP.dmul r5 y0))) (pc' := 86) rfl ?_
    show Rn p e below (T6.setTop (mkF m 86 #[.val (.ref a0), .val (.ref a1), .val (.int (1 : Int32)), .val (.ref b1), .val (.ref b3), .val (.int (0 : Int32)), .val (.int (0 : Int32))] [(.double (FP.dsub x0 (FP.dmul r5 y0))), (.int (0 : Int32)), (.ref b1)])) G
    generalize hr9 : (FP.dsub x0 (FP.dmul r5 y0)) = r9
    have D_r9 : Dy r9 ((C0 - (Q0 * D0))) 0 := hr9 ▸ Y8
    have A_r9 : own_ab ((C0 - (Q0 * D0))) 32896 := (own_ab.sub ac0 (own_ab.mul bq0 bd0))
    refine R.dastore X6 hx hZ e6 V_b1 (⟨by decide, by decide⟩ : ¬ (0 : Int32) < 0 ∧ (0 : Int32) < (2 : Int32)) (hb hby d1_86) (pc' := 87) rfl ?_; intro T10 h10 X10 e10 W10 V10
    have V_a0 := V_a0.other W10 ne_a0_b1
    have E_a0 := E_a0.wr W10
    have V_a1 := V_a1.other W10 ne_a1_b1
    have E_b1 := E_b1.wr W10
    have V_b3 := V_b3.other W10 (Ne.symm ne_b1_b3)
    have V_b1 : Arh Z h10 b1 ka .double (2 : Int32) (((0 : Int32), (.double r9)) :: ha) [] (.double (0 : UInt64)) := V10
    have N10 := Fr.snoc X10 N6 g_b1
    have K10 : Keep h0 h10 [] := K6.wr W10 (Or.inr sz_b1)
    have Z10 : n0 ≤ h10.size := Nat.le_trans Z6 (Keep.of_wr W10).1
    refine R.iinc X10 hx (hb hby d1_87) rfl (L' := #[.val (.ref a0), .val (.ref a1), .val (.int (1 : Int32)), .val (.ref b1), .val (.ref b3), .val (.int (0 : Int32)), .val (.int (1 : Int32))]) rfl (pc' := 90) rfl ?_
    refine R.goto X10 hx (hb hby d1_90) (by decide) (pc' := 61) (by decide) ?_
    refine R.iload X10 hx (hb hby d1_61) rfl (pc' := 63) rfl ?_
    refine R.iloadN X10 hx (hb hby d1_63) rfl (pc' := 64) rfl ?_
    refine R.icmpNo X10 hx (hb hby d1_64) (flt (by decide : ¬ ((1 : Int32) < (1 : Int32)))).2.2.1 (pc' := 67) rfl ?_
    refine R.aloadN X10 hx (hb hby d1_67) rfl rfl (pc' := 68) rfl ?_
    refine R.iload X10 hx (hb hby d1_68) rfl (pc' := 70) rfl ?_
    refine R.iload X10 hx (hb hby d1_70) rfl (pc' := 72) rfl ?_
    refine R.iadd X10 hx (hb hby d1_72) (v := (1 : Int32)) (by decide) (pc' := 73) rfl ?_
    refine R.dup2 X10 hx (hb hby d1_73) rfl rfl (pc' := 74) rfl ?_
    refine R.daload X10 hx hZ e10 V_b1 (⟨by decide, by decide⟩ : ¬ (1 : Int32) < 0 ∧ (1 : Int32) < (2 : Int32)) (v := (.double x1)) (getH_miss (by decide) (by decide) (vx1)) (hb hby d1_74) (pc' := 75) rfl ?_
    refine R.aload X10 hx (hb hby d1_75) rfl rfl (pc' := 77) rfl ?_
    refine R.iload X10 hx (hb hby d1_77) rfl (pc' := 79) rfl ?_
    refine R.daload X10 hx hZ e10 V_b3 (⟨by decide, by decide⟩ : ¬ (0 : Int32) < 0 ∧ (0 : Int32) < (1 : Int32)) (v := (.double r5)) (getH_hit (by decide) (rfl)) (hb hby d1_79) (pc' := 80) rfl ?_
    refine R.aloadN X10 hx (hb hby d1_80) rfl rfl (pc' := 81) rfl ?_
    refine R.iload X10 hx (hb hby d1_81) rfl (pc' := 83) rfl ?_
    refine R.daload X10 hx hZ e10 V_a1 (⟨by decide, by decide⟩ : ¬ (1 : Int32) < 0 ∧ (1 : Int32) < (2 : Int32)) (v := (.double y1)) (vy1) (hb hby d1_83) (pc' := 84) rfl ?_
    have Y11 := (Dy.mul D_r5 Dy1 ((own_ab.mul bq0 bd1).lt (by decide)) (by decide))
    refine R.dmul X10 hx (hb hby d1_84) (Y11.nn : NoNaN64 (FP.dmul r5 y1)) (pc' := 85) rfl ?_
    have Y12 := (Dy.sub Dx1 Y11 ((own_ab.sub ac1 (own_ab.mul bq0 bd1)).lt (by decide)) (by decide))
    refine R.dsub X10 hx (hb hby d1_85) (Y12.nn : NoNaN64 (FP.dsub x1 (FP.dmul r5 y1))) (pc' := 86) rfl ?_
    show Rn p e below (T10.setTop (mkF m 86 #[.val (.ref a0), .val (.ref a1), .val (.int (1 : Int32)), .val (.ref b1), .val (.ref b3), .val (.int (0 : Int32)), .val (.int (1 : Int32))] [(.double (FP.dsub x1 (FP.dmul r5 y1))), (.int (1 : Int32)), (.ref b1)])) G
    generalize hr13 : (FP.dsub x1 (FP.dmul r5 y1)) = r13
    have D_r13 : Dy r13 ((C1 - (Q0 * D1))) 0 := hr13 ▸ Y12
    have A_r13 : own_ab ((C1 - (Q0 * D1))) 32768 := (own_ab.sub ac1 (own_ab.mul bq0 bd1))
    refine R.dastore X10 hx hZ e10 V_b1 (⟨by decide, by decide⟩ : ¬ (1 : Int32) < 0 ∧ (1 : Int32) < (2 : Int32)) (hb hby d1_86) (pc' := 87) rfl ?_; intro T14 h14 X14 e14 W14 V14
    have V_a0 := V_a0.other W14 ne_a0_b1
    have E_a0 := E_a0.wr W14
    have V_a1 := V_a1.other W14 ne_a1_b1
    have E_b1 := E_b1.wr W14
    have V_b3 := V_b3.other W14 (Ne.symm ne_b1_b3)
    have V_b1 : Arh Z h14 b1 ka .double (2 : Int32) (((1 : Int32), (.double r13)) :: ((0 : Int32), (.double r9)) :: ha) [] (.double (0 : UInt64)) := V14
    have N14 := Fr.snoc X14 N10 g_b1
    have K14 : Keep h0 h14 [] := K10.wr W14 (Or.inr sz_b1)
    have Z14 : n0 ≤ h14.size := Nat.le_trans Z10 (Keep.of_wr W14).1
    refine R.iinc X14 hx (hb hby d1_87) rfl (L' := #[.val (.ref a0), .val (.ref a1), .val (.int (1 : Int32)), .val (.ref b1), .val (.ref b3), .val (.int (0 : Int32)), .val (.int (2 : Int32))]) rfl (pc' := 90) rfl ?_
    refine R.goto X14 hx (hb hby d1_90) (by decide) (pc' := 61) (by decide) ?_
    refine R.iload X14 hx (hb hby d1_61) rfl (pc' := 63) rfl ?_
    refine R.iloadN X14 hx (hb hby d1_63) rfl (pc' := 64) rfl ?_
    refine R.icmpYes X14 hx (hb hby d1_64) (tlt (by decide : (1 : Int32) < (2 : Int32))).2.2.1 (by decide) (pc' := 93) (by decide) ?_
    refine R.iinc X14 hx (hb hby d1_93) rfl (L' := #[.val (.ref a0), .val (.ref a1), .val (.int (1 : Int32)), .val (.ref b1), .val (.ref b3), .val (.int (-1 : Int32)), .val (.int (2 : Int32))]) rfl (pc' := 96) rfl ?_
    refine R.goto X14 hx (hb hby d1_96) (by decide) (pc' := 38) (by decide) ?_
    refine R.iload X14 hx (hb hby d1_38) rfl (pc' := 40) rfl ?_
    refine R.ifYes X14 hx (hb hby d1_40) (tlt (by decide : (-1 : Int32) < (0 : Int32))).1 (by decide) (pc' := 99) (by decide) ?_
    refine R.aload X14 hx (hb hby d1_99) rfl rfl (pc' := 101) rfl ?_
    rw [← hG]
    exact Rn.ret X14 (BodyLoose.notSynchronized Bd) (v := some (.ref b3)) (fun h => by rw [Bd.returns] at h; cases h) (Q := Qqq21 Z a0 a1 ka kb ha hbb x0 x1 y0 y1 C0 C1 D0 D1 Q0 R0 h0 n0) e14 (fun fs hr => retOut X14 hx (t := (.array .double)) Bd.returns rfl (Or.inr (Or.inr (Or.inr (Or.inr ⟨rfl, rfl, rfl⟩)))) (hb hby d1_101) hr) ⟨b3, k3, [((0 : Int32), (.double r5))], rfl, N14, K14, sz_b3, V_b3, ⟨_, getH_hit (by decide) (rfl), D_r5⟩⟩ (by decide) (by decide)
  exact (Rn.st (fun t k => castTop (ef_qq21 m a0 a1) k) first_ : Rn p e below (s₁.setTop (entryFrame m #[(.ref a0), (.ref a1)] 7)) (Fnqq21 Z a0 a1 ka kb ha hbb x0 x1 y0 y1 C0 C1 D0 D1 Q0 R0 h0 n0 s))
theorem ef_qq22 (m : MethodId) (x0 : Addr) (x1 : Addr) : entryFrame m #[(.ref x0), (.ref x1)] 7 = mkF m 0 #[.val (.ref x0), .val (.ref x1), .unset, .unset, .unset, .unset, .unset] [] := by first | (simp [entryFrame, mkF, argsToLocals, Value.category]; done) | rfl
def Qqq22 (Z : State) (a0 : Addr) (a1 : Addr) (ka : ClassId) (kb : ClassId) (ha : List (Int32 × Value)) (hbb : List (Int32 × Value)) (x0 : UInt64) (x1 : UInt64) (x2 : UInt64) (y0 : UInt64) (y1 : UInt64) (C0 : Int) (C1 : Int) (C2 : Int) (D0 : Int) (D1 : Int) (Q0 : Int) (Q1 : Int) (R0 : Int) (h0 : Heap) (n0 : Nat) (vQ : Option Value) (hQ_ : Heap) (LQ : List Loc) : Prop := ∃ r : Addr, ∃ kr : ClassId, ∃ hr : List (Int32 × Value), vQ = some (.ref r) ∧ Fr n0 LQ ∧ Keep h0 hQ_ [] ∧ (h0.size ≤ r) ∧ (Arh Z hQ_ r kr .double (2 : Int32) hr [] (.double (0 : UInt64))) ∧ (∃ v : UInt64, getH hr [] (.double (0 : UInt64)) ((0 : Int32)).toNatClampNeg = (.double v) ∧ Dy v Q0 0) ∧ (∃ v : UInt64, getH hr [] (.double (0 : UInt64)) ((1 : Int32)).toNatClampNeg = (.double v) ∧ Dy v Q1 0)
def Fnqq22 (Z : State) (a0 : Addr) (a1 : Addr) (ka : ClassId) (kb : ClassId) (ha : List (Int32 × Value)) (hbb : List (Int32 × Value)) (x0 : UInt64) (x1 : UInt64) (x2 : UInt64) (y0 : UInt64) (y1 : UInt64) (C0 : Int) (C1 : Int) (C2 : Int) (D0 : Int) (D1 : Int) (Q0 : Int) (Q1 : Int) (R0 : Int) (h0 : Heap) (n0 : Nat) (sQ : State) (oQ : Outcome) (UQ : State) : Prop := ∃ vQ LQ, oQ = .returned vQ ∧ Qqq22 Z a0 a1 ka kb ha hbb x0 x1 x2 y0 y1 C0 C1 C2 D0 D1 Q0 Q1 R0 h0 n0 vQ UQ.heap LQ ∧ FrameEnd sQ oQ UQ LQ ({ frames := 1, cells := 2, slots := 7, locals := 14 } : Room).cells ({ frames := 1, cells := 2, slots := 7, locals := 14 } : Room).slots
set_option maxRecDepth 65536 in
set_option maxHeartbeats 40000000 in
theorem rmqq22 (l : Launch) (Z : State) (aZ : Array Value) (hw : ∀ d ∈ tables_1, d.before aZ Z = true) (ws : List Jvm.Cond) (a0 : Addr) (a1 : Addr) (ka : ClassId) (kb : ClassId) (ha : List (Int32 × Value)) (hbb : List (Int32 × Value)) (x0 : UInt64) (x1 : UInt64) (x2 : UInt64) (y0 : UInt64) (y1 : UInt64) (C0 : Int) (C1 : Int) (C2 : Int) (D0 : Int) (D1 : Int) (Q0 : Int) (Q1 : Int) (R0 : Int) (h0 : Heap) (n0 : Nat) (Z0 : n0 ≤ h0.size) (V_a0 : Arh Z h0 a0 ka .double (3 : Int32) ha [] (.double (0 : UInt64))) (E_a0 : Exa Z h0 a0 "[D") (V_a1 : Arh Z h0 a1 kb .double (2 : Int32) hbb [] (.double (0 : UInt64))) (vx0 : getH ha [] (.double (0 : UInt64)) ((0 : Int32)).toNatClampNeg = (.double x0)) (Dx0 : Dy x0 C0 0) (vx1 : getH ha [] (.double (0 : UInt64)) ((1 : Int32)).toNatClampNeg = (.double x1)) (Dx1 : Dy x1 C1 0) (vx2 : getH ha [] (.double (0 : UInt64)) ((2 : Int32)).toNatClampNeg = (.double x2)) (Dx2 : Dy x2 C2 0) (vy0 : getH hbb [] (.double (0 : UInt64)) ((0 : Int32)).toNatClampNeg = (.double y0)) (Dy0 : Dy y0 D0 0) (vy1 : getH hbb [] (.double (0 : UInt64)) ((1 : Int32)).toNatClampNeg = (.double y1)) (Dy1 : Dy y1 D1 0) (el0 : C0 = Q0 * D0 + R0) (el1 : C1 = Q0 * D1 + Q1 * D0) (el2 : C2 = Q1 * D1) (hL : D1 ≠ 0) (bd0 : own_ab D0 128) (bd1 : own_ab D1 128) (bq0 : own_ab Q0 128) (bq1 : own_ab Q1 128) (br0 : own_ab R0 128) :
    MetFree l (⟨"com/example/deseason/deseason/arima/Polynomials", "quotient", "([D[D)[D"⟩ : MethodName) (head1 (Jvm.Cond.code (⟨"com/example/deseason/deseason/arima/Polynomials", "quotient", "([D[D)[D"⟩ : MethodName) prog_10_method_6_code 7 (some (.array .double)) :: ws) ({ frames := 1, cells := 2, slots := 7, locals := 14 } : Room)) (fun aQ UQ => aQ = #[(.ref a0), (.ref a1)] ∧ Z.Warmed39 UQ.vm ∧ UQ.heap = h0) (fun _ _ _ _ _ => True) (fun _ UQ oQ UR => ∃ vQ LQ, oQ = .returned vQ ∧ Qqq22 Z a0 a1 ka kb ha hbb x0 x1 x2 y0 y1 C0 C1 C2 D0 D1 Q0 Q1 R0 h0 n0 vQ UR.heap LQ ∧ FrameEnd UQ oQ UR LQ ({ frames := 1, cells := 2, slots := 7, locals := 14 } : Room).cells ({ frames := 1, cells := 2, slots := 7, locals := 14 } : Room).slots) := by
  refine MetFree.of_bodySF (plainFor_of_name pn_1) hisR ?_
  intro p e s m args below meth c s₁ Bd hml0 hP hK
  obtain ⟨rfl, hZ, hh⟩ := hP
  have hx := Bd.exec
  have hby := Bd.bytes
  have hml : c.maxLocals = 7 := hml0
  have hown : s.vm.findClass "com/example/deseason/deseason/arima/Polynomials" = some m.cls := findClass_of_methodNamed Bd.named
  have hnm := (name_of_methodNamed Bd.named Bd.method).1
  have X0 : Stand p l e ({ frames := 1, cells := 2, slots := 7, locals := 14 } : Room) s m #[(.ref a0), (.ref a1)] below meth c s₁ [] 0 0 := Stand.of_body Bd
  have e0 : s₁.heap = h0 := by rw [← hh, Bd.state]; rfl
  have N0 := Fr.nil n0
  have K0 : Keep h0 h0 [] := Keep.refl _ _
  have w_1 := hw _ (List.mem_of_getElem? (i := 1) rfl)
  have w_16 := hw _ (List.mem_of_getElem? (i := 16) rfl)
  have w_17 := hw _ (List.mem_of_getElem? (i := 17) rfl)
  have w_19 := hw _ (List.mem_of_getElem? (i := 19) rfl)
  have w_20 := hw _ (List.mem_of_getElem? (i := 20) rfl)
  have w_21 := hw _ (List.mem_of_getElem? (i := 21) rfl)
  have w_22 := hw _ (List.mem_of_getElem? (i := 22) rfl)
  have w_23 := hw _ (List.mem_of_getElem? (i := 23) rfl)
  have first_ : Rn p e below (s₁.setTop (mkF m 0 #[.val (.ref a0), .val (.ref a1), .unset, .unset, .unset, .unset, .unset] [])) (Fnqq22 Z a0 a1 ka kb ha hbb x0 x1 x2 y0 y1 C0 C1 C2 D0 D1 Q0 Q1 R0 h0 n0 s) := by
    generalize hG : (Fnqq22 Z a0 a1 ka kb ha hbb x0 x1 x2 y0 y1 C0 C1 C2 D0 D1 Q0 Q1 R0 h0 n0 s) = G
    have ac0 : own_ab C0 16512 := el0 ▸ (own_ab.add (own_ab.mul bq0 bd0) br0)
    have ac1 : own_ab C1 32768 := el1 ▸ (own_ab.add (own_ab.mul bq0 bd1) (own_ab.mul bq1 bd0))
    have ac2 : own_ab C2 16384 := el2 ▸ (own_ab.mul bq1 bd1)
    refine R.aloadN X0 hx (hb hby d1_0) rfl rfl (pc' := 1) rfl ?_
    refine R.alen X0 hx hZ e0 V_a1 (hb hby d1_1) (pc' := 2) rfl ?_
    refine R.iconst X0 hx (hb hby d1_2) (v := (1 : Int32)) (by decide) (pc' := 3) rfl ?_
    refine R.isub X0 hx (hb hby d1_3) (v := (1 : Int32)) (by decide) (pc' := 4) rfl ?_
    refine R.istoreN X0 hx (hb hby d1_4) (L' := #[.val (.ref a0), .val (.ref a1), .val (.int (1 : Int32)), .unset, .unset, .unset, .unset]) rfl (pc' := 5) rfl ?_
    refine R.aloadN X0 hx (hb hby d1_5) rfl rfl (pc' := 6) rfl ?_
    refine R.alen X0 hx hZ e0 V_a0 (hb hby d1_6) (pc' := 7) rfl ?_
    refine R.iloadN X0 hx (hb hby d1_7) rfl (pc' := 8) rfl ?_
    refine R.icmpYes X0 hx (hb hby d1_8) (tlt (by decide : (1 : Int32) < (3 : Int32))).2.2.1 (by decide) (pc' := 15) (by decide) ?_
    refine R.aloadN X0 hx (hb hby d1_15) rfl rfl (pc' := 16) rfl ?_
    show Rn p e below (s₁.setTop (mkF m 16 #[.val (.ref a0), .val (.ref a1), .val (.int (1 : Int32)), .unset, .unset, .unset, .unset] [(.ref a0)])) G
    obtain ⟨T1, h1, X1, e1, E1, V1, EE1, st1⟩ := cloneH X0 hx hZ hown (ad := "[D") w_16 w_17 w_21 w_19 w_20 w_22 e0 V_a0 E_a0 (g := (mkF m 16 #[.val (.ref a0), .val (.ref a1), .val (.int (1 : Int32)), .unset, .unset, .unset, .unset] [(.ref a0)])) rfl (by rw [hml]; rfl) rfl (hb hby d1_16) (by decide) (W := 0) (cap := 5) (by show 2 * 0 + _ ≤ _; exact Nat.le_of_eq rfl) (by decide) (by decide) (by decide) (by decide)
    obtain ⟨b1, g1⟩ : ∃ z, z = h0.size := ⟨_, rfl⟩
    rw [← g1] at V1 EE1 st1
    have g_b1 : n0 ≤ b1 := Nat.le_trans Z0 (Nat.le_of_eq g1.symm)
    have sz_b1 : h0.size ≤ b1 := Nat.le_trans K0.1 (Nat.le_of_eq g1.symm)
    have ne_a0_b1 : a0 ≠ b1 := Nat.ne_of_lt (Nat.lt_of_lt_of_le V_a0.lt (Nat.le_of_eq g1.symm))
    have ne_a1_b1 : a1 ≠ b1 := Nat.ne_of_lt (Nat.lt_of_lt_of_le V_a1.lt (Nat.le_of_eq g1.symm))
    have K1 : Keep h0 h1 [] := K0.ext E1
    have Z1 : n0 ≤ h1.size := Nat.le_trans Z0 E1.1
    have V_a0 := V_a0.ext E1
    have E_a0 := E_a0.ext E1
    have V_a1 := V_a1.ext E1
    have V_b1 : Arh Z h1 b1 ka .double (3 : Int32) ha [] (.double (0 : UInt64)) := V1
    have E_b1 : Exa Z h1 b1 "[D" := EE1
    refine Rn.st st1 ?_
    show Rn p e below (T1.setTop (mkF m 19 #[.val (.ref a0), .val (.ref a1), .val (.int (1 : Int32)), .unset, .unset, .unset, .unset] [(.ref b1)])) G
    refine R.castY X1 hx hZ hown w_23 e1 (Ins.self E_b1) (hb hby d1_19) (pc' := 22) rfl ?_; intro T2 X2 e2
    refine R.astoreN X2 hx (hb hby d1_22) rfl (L' := #[.val (.ref a0), .val (.ref a1), .val (.int (1 : Int32)), .val (.ref b1), .unset, .unset, .unset]) rfl (pc' := 23) rfl ?_
    refine R.aloadN X2 hx (hb hby d1_23) rfl rfl (pc' := 24) rfl ?_
    refine R.alen X2 hx hZ e2 V_a0 (hb hby d1_24) (pc' := 25) rfl ?_
    refine R.iloadN X2 hx (hb hby d1_25) rfl (pc' := 26) rfl ?_
    refine R.isub X2 hx (hb hby d1_26) (v := (2 : Int32)) (by decide) (pc' := 27) rfl ?_
    refine R.newP X2 hx hZ (ty := .double) rfl w_1 e2 (by decide) (cap := 2) (by decide) (by decide) (ad := "[D") (by decide) (hb hby d1_27) (pc' := 29) rfl (by decide) (by decide) ?_; intro T3 h3 b3 k3 g3 X3 e3 E3 EE3 AA3
    have g_b3 : n0 ≤ b3 := Nat.le_trans Z1 (Nat.le_of_eq g3.symm)
    have sz_b3 : h0.size ≤ b3 := Nat.le_trans K1.1 (Nat.le_of_eq g3.symm)
    have ne_a0_b3 : a0 ≠ b3 := Nat.ne_of_lt (Nat.lt_of_lt_of_le V_a0.lt (Nat.le_of_eq g3.symm))
    have ne_a1_b3 : a1 ≠ b3 := Nat.ne_of_lt (Nat.lt_of_lt_of_le V_a1.lt (Nat.le_of_eq g3.symm))
    have ne_b1_b3 : b1 ≠ b3 := Nat.ne_of_lt (Nat.lt_of_lt_of_le V_b1.lt (Nat.le_of_eq g3.symm))
    have K3 : Keep h0 h3 [] := K1.ext E3
    have Z3 : n0 ≤ h3.size := Nat.le_trans Z1 E3.1
    have V_a0 := V_a0.ext E3
    have E_a0 := E_a0.ext E3
    have V_a1 := V_a1.ext E3
    have V_b1 := V_b1.ext E3
    have E_b1 := E_b1.ext E3
    have V_b3 : Arh Z h3 b3 k3 .double (2 : Int32) [] [] (.double (0 : UInt64)) := AA3
    refine R.astore X3 hx (hb hby d1_29) rfl (L' := #[.val (.ref a0), .val (.ref a1), .val (.int (1 : Int32)), .val (.ref b1), .val (.ref b3), .unset, .unset]) rfl (pc' := 31) rfl ?_
    refine R.aload X3 hx (hb hby d1_31) rfl rfl (pc' := 33) rfl ?_
    refine R.alen X3 hx hZ e3 V_b3 (hb hby d1_33) (pc' := 34) rfl ?_
    refine R.iconst X3 hx (hb hby d1_34) (v := (1 : Int32)) (by decide) (pc' := 35) rfl ?_
    refine R.isub X3 hx (hb hby d1_35) (v := (1 : Int32)) (by decide) (pc' := 36) rfl ?_
    refine R.istore X3 hx (hb hby d1_36) (L' := #[.val (.ref a0), .val (.ref a1), .val (.int (1 : Int32)), .val (.ref b1), .val (.ref b3), .val (.int (1 : Int32)), .unset]) rfl (pc' := 38) rfl ?_
    refine R.iload X3 hx (hb hby d1_38) rfl (pc' := 40) rfl ?_
    refine R.ifNo X3 hx (hb hby d1_40) (flt (by decide : ¬ ((1 : Int32) < (0 : Int32)))).1 (pc' := 43) rfl ?_
    refine R.aload X3 hx (hb hby d1_43) rfl rfl (pc' := 45) rfl ?_
    refine R.iload X3 hx (hb hby d1_45) rfl (pc' := 47) rfl ?_
    refine R.aloadN X3 hx (hb hby d1_47) rfl rfl (pc' := 48) rfl ?_
    refine R.iload X3 hx (hb hby d1_48) rfl (pc' := 50) rfl ?_
    refine R.iloadN X3 hx (hb hby d1_50) rfl (pc' := 51) rfl ?_
    refine R.iadd X3 hx (hb hby d1_51) (v := (2 : Int32)) (by decide) (pc' := 52) rfl ?_
    refine R.daload X3 hx hZ e3 V_b1 (⟨by decide, by decide⟩ : ¬ (2 : Int32) < 0 ∧ (2 : Int32) < (3 : Int32)) (v := (.double x2)) (vx2) (hb hby d1_52) (pc' := 53) rfl ?_
    refine R.aloadN X3 hx (hb hby d1_53) rfl rfl (pc' := 54) rfl ?_
    refine R.iloadN X3 hx (hb hby d1_54) rfl (pc' := 55) rfl ?_
    refine R.daload X3 hx hZ e3 V_a1 (⟨by decide, by decide⟩ : ¬ (1 : Int32) < 0 ∧ (1 : Int32) < (2 : Int32)) (v := (.double y1)) (vy1) (hb hby d1_55) (pc' := 56) rfl ?_
    have Y4 := (Dy.div (m := Q1) (n := 0) Dx2 Dy1 hL (bq1.lt (by decide)) (by decide) (by simp only [own_one]; omega))
    refine R.ddiv X3 hx (hb hby d1_56) (Y4.nn : NoNaN64 (FP.ddiv x2 y1)) (pc' := 57) rfl ?_
    show Rn p e below (T3.setTop (mkF m 57 #[.val (.ref a0), .val (.ref a1), .val (.int (1 : Int32)), .val (.ref b1), .val (.ref b3), .val (.int (1 : Int32)), .unset] [(.double (FP.ddiv x2 y1)), (.int (1 : Int32)), (.ref b3)])) G
    generalize hr5 : (FP.ddiv x2 y1) = r5
    have D_r5 : Dy r5 (Q1) 0 := hr5 ▸ Y4
    refine R.dastore X3 hx hZ e3 V_b3 (⟨by decide, by decide⟩ : ¬ (1 : Int32) < 0 ∧ (1 : Int32) < (2 : Int32)) (hb hby d1_57) (pc' := 58) rfl ?_; intro T6 h6 X6 e6 W6 V6
    have V_a0 := V_a0.other W6 ne_a0_b3
    have E_a0 := E_a0.wr W6
    have V_a1 := V_a1.other W6 ne_a1_b3
    have V_b1 := V_b1.other W6 ne_b1_b3
    have E_b1 := E_b1.wr W6
    have V_b3 : Arh Z h6 b3 k3 .double (2 : Int32) [((1 : Int32), (.double r5))] [] (.double (0 : UInt64)) := V6
    have N6 := Fr.snoc X6 N0 g_b3
    have K6 : Keep h0 h6 [] := K3.wr W6 (Or.inr sz_b3)
    have Z6 : n0 ≤ h6.size := Nat.le_trans Z3 (Keep.of_wr W6).1
    refine R.iconst X6 hx (hb hby d1_58) (v := (0 : Int32)) (by decide) (pc' := 59) rfl ?_
    refine R.istore X6 hx (hb hby d1_59) (L' := #[.val (.ref a0), .val (.ref a1), .val (.int (1 : Int32)), .val (.ref b1), .val (.ref b3), .val (.int (1 : Int32)), .val (.int (0 : Int32))]) rfl (pc' := 61) rfl ?_
    refine R.iload X6 hx (hb hby d1_61) rfl (pc' := 63) rfl ?_
    refine R.iloadN X6 hx (hb hby d1_63) rfl (pc' := 64) rfl ?_
    refine R.icmpNo X6 hx (hb hby d1_64) (flt (by decide : ¬ ((1 : Int32) < (0 : Int32)))).2.2.1 (pc' := 67) rfl ?_
    refine R.aloadN X6 hx (hb hby d1_67) rfl rfl (pc' := 68) rfl ?_
    refine R.iload X6 hx (hb hby d1_68) rfl (pc' := 70) rfl ?_
    refine R.iload X6 hx (hb hby d1_70) rfl (pc' := 72) rfl ?_
    refine R.iadd X6 hx (hb hby d1_72) (v := (1 : Int32)) (by decide) (pc' := 73) rfl ?_
    refine R.dup2 X6 hx (hb hby d1_73) rfl rfl (pc' := 74) rfl ?_
    refine R.daload X6 hx hZ e6 V_b1 (⟨by decide, by decide⟩ : ¬ (1 : Int32) < 0 ∧ (1 : Int32) < (3 : Int32)) (v := (.double x1)) (vx1) (hb hby d1_74) (pc' := 75) rfl ?_
    refine R.aload X6 hx (hb hby d1_75) rfl rfl (pc' := 77) rfl ?_
    refine R.iload X6 hx (hb hby d1_77) rfl (pc' := 79) rfl ?_
    refine R.daload X6 hx hZ e6 V_b3 (⟨by decide, by decide⟩ : ¬ (1 : Int32) < 0 ∧ (1 : Int32) < (2 : Int32)) (v := (.double r5)) (getH_hit (by decide) (rfl)) (hb hby d1_79) (pc' := 80) rfl ?_
    refine R.aloadN X6 hx (hb hby d1_80) rfl rfl (pc' := 81) rfl ?_
    refine R.iload X6 hx (hb hby d1_81) rfl (pc' := 83) rfl ?_
    refine R.daload X6 hx hZ e6 V_a1 (⟨by decide, by decide⟩ : ¬ (0 : Int32) < 0 ∧ (0 : Int32) < (2 : Int32)) (v := (.double y0)) (vy0) (hb hby d1_83) (pc' := 84) rfl ?_
    have Y7 := (Dy.mul D_r5 Dy0 ((own_ab.mul bq1 bd0).lt (by decide)) (by decide))
    refine R.dmul X6 hx (hb hby d1_84) (Y7.nn : NoNaN64 (FP.dmul r5 y0)) (pc' := 85) rfl ?_
    have Y8 := (Dy.sub Dx1 Y7 ((own_ab.sub ac1 (own_ab.mul bq1 bd0)).lt (by decide)) (by decide))
    refine R.dsub X6 hx (hb hby d1_85) (Y8.nn : NoNaN64 (FP.dsub x1 (FP.dmul r5 y0))) (pc' := 86) rfl ?_
    show Rn p e below (T6.setTop (mkF m 86 #[.val (.ref a0), .val (.ref a1), .val (.int (1 : Int32)), .val (.ref b1), .val (.ref b3), .val (.int (1 : Int32)), .val (.int (0 : Int32))] [(.double (FP.dsub x1 (FP.dmul r5 y0))), (.int (1 : Int32)), (.ref b1)])) G
    generalize hr9 : (FP.dsub x1 (FP.dmul r5 y0)) = r9
    have D_r9 : Dy r9 ((C1 - (Q1 * D0))) 0 := hr9 ▸ Y8
    have A_r9 : own_ab ((C1 - (Q1 * D0))) 49152 := (own_ab.sub ac1 (own_ab.mul bq1 bd0))
    refine R.dastore X6 hx hZ e6 V_b1 (⟨by decide, by decide⟩ : ¬ (1 : Int32) < 0 ∧ (1 : Int32) < (3 : Int32)) (hb hby d1_86) (pc' := 87) rfl ?_; intro T10 h10 X10 e10 W10 V10
    have V_a0 := V_a0.other W10 ne_a0_b1
    have E_a0 := E_a0.wr W10
    have V_a1 := V_a1.other W10 ne_a1_b1
    have E_b1 := E_b1.wr W10
    have V_b3 := V_b3.other W10 (Ne.symm ne_b1_b3)
    have V_b1 : Arh Z h10 b1 ka .double (3 : Int32) (((1 : Int32), (.double r9)) :: ha) [] (.double (0 : UInt64)) := V10
    have N10 := Fr.snoc X10 N6 g_b1
    have K10 : Keep h0 h10 [] := K6.wr W10 (Or.inr sz_b1)
    have Z10 : n0 ≤ h10.size := Nat.le_trans Z6 (Keep.of_wr W10).1
    refine R.iinc X10 hx (hb hby d1_87) rfl (L' := #[.val (.ref a0), .val (.ref a1), .val (.int (1 : Int32)), .val (.ref b1), .val (.ref b3), .val (.int (1 : Int32)), .val (.int (1 : Int32))]) rfl (pc' := 90) rfl ?_
    refine R.goto X10 hx (hb hby d1_90) (by decide) (pc' := 61) (by decide) ?_
    refine R.iload X10 hx (hb hby d1_61) rfl (pc' := 63) rfl ?_
    refine R.iloadN X10 hx (hb hby d1_63) rfl (pc' := 64) rfl ?_
    refine R.icmpNo X10 hx (hb hby d1_64) (flt (by decide : ¬ ((1 : Int32) < (1 : Int32)))).2.2.1 (pc' := 67) rfl ?_
    refine R.aloadN X10 hx (hb hby d1_67) rfl rfl (pc' := 68) rfl ?_
    refine R.iload X10 hx (hb hby d1_68) rfl (pc' := 70) rfl ?_
    refine R.iload X10 hx (hb hby d1_70) rfl (pc' := 72) rfl ?_
    refine R.iadd X10 hx (hb hby d1_72) (v := (2 : Int32)) (by decide) (pc' := 73) rfl ?_
    refine R.dup2 X10 hx (hb hby d1_73) rfl rfl (pc' := 74) rfl ?_
    refine R.daload X10 hx hZ e10 V_b1 (⟨by decide, by decide⟩ : ¬ (2 : Int32) < 0 ∧ (2 : Int32) < (3 : Int32)) (v := (.double x2)) (getH_miss (by decide) (by decide) (vx2)) (hb hby d1_74) (pc' := 75) rfl ?_
    refine R.aload X10 hx (hb hby d1_75) rfl rfl (pc' := 77) rfl ?_
    refine R.iload X10 hx (hb hby d1_77) rfl (pc' := 79) rfl ?_
    refine R.daload X10 hx hZ e10 V_b3 (⟨by decide, by decide⟩ : ¬ (1 : Int32) < 0 ∧ (1 : Int32) < (2 : Int32)) (v := (.double r5)) (getH_hit (by decide) (rfl)) (hb hby d1_79) (pc' := 80) rfl ?_
    refine R.aloadN X10 hx (hb hby d1_80) rfl rfl (pc' := 81) rfl ?_
    refine R.iload X10 hx (hb hby d1_81) rfl (pc' := 83) rfl ?_
    refine R.daload X10 hx hZ e10 V_a1 (⟨by decide, by decide⟩ : ¬ (1 : Int32) < 0 ∧ (1 : Int32) < (2 : Int32)) (v := (.double y1)) (vy1) (hb hby d1_83) (pc' := 84) rfl ?_
    have Y11 := (Dy.mul D_r5 Dy1 ((own_ab.mul bq1 bd1).lt (by decide)) (by decide))
    refine R.dmul X10 hx (hb hby d1_84) (Y11.nn : NoNaN64 (FP.dmul r5 y1)) (pc' := 85) rfl ?_
    have Y12 := (Dy.sub Dx2 Y11 ((own_ab.sub ac2 (own_ab.mul bq1 bd1)).lt (by decide)) (by decide))
    refine R.dsub X10 hx (hb hby d1_85) (Y12.nn : NoNaN64 (FP.dsub x2 (FP.dmul r5 y1))) (pc' := 86) rfl ?_
    show Rn p e below (T10.setTop (mkF m 86 #[.val (.ref a0), .val (.ref a1), .val (.int (1 : Int32)), .val (.ref b1), .val (.ref b3), .val (.int (1 : Int32)), .val (.int (1 : Int32))] [(.double (FP.dsub x2 (FP.dmul r5 y1))), (.int (2 : Int32)), (.ref b1)])) G
    generalize hr13 : (FP.dsub x2 (FP.dmul r5 y1)) = r13
    have D_r13 : Dy r13 ((C2 - (Q1 * D1))) 0 := hr13 ▸ Y12
    have A_r13 : own_ab ((C2 - (Q1 * D1))) 32768 := (own_ab.sub ac2 (own_ab.mul bq1 bd1))
    refine R.dastore X10 hx hZ e10 V_b1 (⟨by decide, by decide⟩ : ¬ (2 : Int32) < 0 ∧ (2 : Int32) < (3 : Int32)) (hb hby d1_86) (pc' := 87) rfl ?_; intro T14 h14 X14 e14 W14 V14
    have V_a0 := V_a0.other W14 ne_a0_b1
    have E_a0 := E_a0.wr W14
    have V_a1 := V_a1.other W14 ne_a1_b1
    have E_b1 := E_b1.wr W14
    have V_b3 := V_b3.other W14 (Ne.symm ne_b1_b3)
    have V_b1 : Arh Z h14 b1 ka .double (3 : Int32) (((2 : Int32), (.double r13)) :: ((1 : Int32), (.double r9)) :: ha) [] (.double (0 : UInt64)) := V14
    have N14 := Fr.snoc X14 N10 g_b1
    have K14 : Keep h0 h14 [] := K10.wr W14 (Or.inr sz_b1)
    have Z14 : n0 ≤ h14.size := Nat.le_trans Z10 (Keep.of_wr W14).1
    refine R.iinc X14 hx (hb hby d1_87) rfl (L' := #[.val (.ref a0), .val (.ref a1), .val (.int (1 : Int32)), .val (.ref b1), .val (.ref b3), .val (.int (1 : Int32)), .val (.int (2 : Int32))]) rfl (pc' := 90) rfl ?_
    refine R.goto X14 hx (hb hby d1_90) (by decide) (pc' := 61) (by decide) ?_
    refine R.iload X14 hx (hb hby d1_61) rfl (pc' := 63) rfl ?_
    refine R.iloadN X14 hx (hb hby d1_63) rfl (pc' := 64) rfl ?_
    refine R.icmpYes X14 hx (hb hby d1_64) (tlt (by decide : (1 : Int32) < (2 : Int32))).2.2.1 (by decide) (pc' := 93) (by decide) ?_
    refine R.iinc X14 hx (hb hby d1_93) rfl (L' := #[.val (.ref a0), .val (.ref a1), .val (.int (1 : Int32)), .val (.ref b1), .val (.ref b3), .val (.int (0 : Int32)), .val (.int (2 : Int32))]) rfl (pc' := 96) rfl ?_
    refine R.goto X14 hx (hb hby d1_96) (by decide) (pc' := 38) (by decide) ?_
    refine R.iload X14 hx (hb hby d1_38) rfl (pc' := 40) rfl ?_
    refine R.ifNo X14 hx (hb hby d1_40) (flt (by decide : ¬ ((0 : Int32) < (0 : Int32)))).1 (pc' := 43) rfl ?_
    refine R.aload X14 hx (hb hby d1_43) rfl rfl (pc' := 45) rfl ?_
    refine R.iload X14 hx (hb hby d1_45) rfl (pc' := 47) rfl ?_
    refine R.aloadN X14 hx (hb hby d1_47) rfl rfl (pc' := 48) rfl ?_
    refine R.iload X14 hx (hb hby d1_48) rfl (pc' := 50) rfl ?_
    refine R.iloadN X14 hx (hb hby d1_50) rfl (pc' := 51) rfl ?_
    refine R.iadd X14 hx (hb hby d1_51) (v := (1 : Int32)) (by decide) (pc' := 52) rfl ?_
    refine R.daload X14 hx hZ e14 V_b1 (⟨by decide, by decide⟩ : ¬ (1 : Int32) < 0 ∧ (1 : Int32) < (3 : Int32)) (v := (.double r9)) (getH_miss (by decide) (by decide) (getH_hit (by decide) (rfl))) (hb hby d1_52) (pc' := 53) rfl ?_
    refine R.aloadN X14 hx (hb hby d1_53) rfl rfl (pc' := 54) rfl ?_
    refine R.iloadN X14 hx (hb hby d1_54) rfl (pc' := 55) rfl ?_
    refine R.daload X14 hx hZ e14 V_a1 (⟨by decide, by decide⟩ : ¬ (1 : Int32) < 0 ∧ (1 : Int32) < (2 : Int32)) (v := (.double y1)) (vy1) (hb hby d1_55) (pc' := 56) rfl ?_
    have Y15 := (Dy.div (m := Q0) (n := 0) D_r9 Dy1 hL (bq0.lt (by decide)) (by decide) (by simp only [own_one]; omega))
    refine R.ddiv X14 hx (hb hby d1_56) (Y15.nn : NoNaN64 (FP.ddiv r9 y1)) (pc' := 57) rfl ?_
    show Rn p e below (T14.setTop (mkF m 57 #[.val (.ref a0), .val (.ref a1), .val (.int (1 : Int32)), .val (.ref b1), .val (.ref b3), .val (.int (0 : Int32)), .val (.int (2 : Int32))] [(.double (FP.ddiv r9 y1)), (.int (0 : Int32)), (.ref b3)])) G
    generalize hr16 : (FP.ddiv r9 y1) = r16
    have D_r16 : Dy r16 (Q0) 0 := hr16 ▸ Y15
    refine R.dastore X14 hx hZ e14 V_b3 (⟨by decide, by decide⟩ : ¬ (0 : Int32) < 0 ∧ (0 : Int32) < (2 : Int32)) (hb hby d1_57) (pc' := 58) rfl ?_; intro T17 h17 X17 e17 W17 V17
    have V_a0 := V_a0.other W17 ne_a0_b3
    have E_a0 := E_a0.wr W17
    have V_a1 := V_a1.other W17 ne_a1_b3
    have E_b1 := E_b1.wr W17
    have V_b1 := V_b1.other W17 ne_b1_b3
    have V_b3 : Arh Z h17 b3 k3 .double (2 : Int32) [((0 : Int32), (.double r16)), ((1 : Int32), (.double r5))] [] (.double (0 : UInt64)) := V17
    have N17 := Fr.snoc X17 N14 g_b3
    have K17 : Keep h0 h17 [] := K14.wr W17 (Or.inr sz_b3)
    have Z17 : n0 ≤ h17.size := Nat.le_trans Z14 (Keep.of_wr W17).1
    refine R.iconst X17 hx (hb hby d1_58) (v := (0 : Int32)) (by decide) (pc' := 59) rfl ?_
    refine R.istore X17 hx (hb hby d1_59) (L' := #[.val (.ref a0), .val (.ref a1), .val (.int (1 : Int32)), .val (.ref b1), .val (.ref b3), .val (.int (0 : Int32)), .val (.int (0 : Int32))]) rfl (pc' := 61) rfl ?_
    refine R.iload X17 hx (hb hby d1_61) rfl (pc' := 63) rfl ?_
    refine R.iloadN X17 hx (hb hby d1_63) rfl (pc' := 64) rfl ?_
    refine R.icmpNo X17 hx (hb hby d1_64) (flt (by decide : ¬ ((1 : Int32) < (0 : Int32)))).2.2.1 (pc' := 67) rfl ?_
    refine R.aloadN X17 hx (hb hby d1_67) rfl rfl (pc' := 68) rfl ?_
    refine R.iload X17 hx (hb hby d1_68) rfl (pc' := 70) rfl ?_
    refine R.iload X17 hx (hb hby d1_70) rfl (pc' := 72) rfl ?_
    refine R.iadd X17 hx (hb hby d1_72) (v := (0 : Int32)) (by decide) (pc' := 73) rfl ?_
    refine R.dup2 X17 hx (hb hby d1_73) rfl rfl (pc' := 74) rfl ?_
    refine R.daload X17 hx hZ e17 V_b1 (⟨by decide, by decide⟩ : ¬ (0 : Int32) < 0 ∧ (0 : Int32) < (3 : Int32)) (v := (.double x0)) (getH_miss (by decide) (by decide) (getH_miss (by decide) (by decide) (vx0))) (hb hby d1_74) (pc' := 75) rfl ?_
    refine R.aload X17 hx (hb hby d1_75) rfl rfl (pc' := 77) rfl ?_
    refine R.iload X17 hx (hb hby d1_77) rfl (pc' := 79) rfl ?_
    refine R.daload X17 hx hZ e17 V_b3 (⟨by decide, by decide⟩ : ¬ (0 : Int32) < 0 ∧ (0 : Int32) < (2 : Int32)) (v := (.double r16)) (getH_hit (by decide) (rfl)) (hb hby d1_79) (pc' := 80) rfl ?_
    refine R.aloadN X17 hx (hb hby d1_80) rfl rfl (pc' := 81) rfl ?_
    refine R.iload X17 hx (hb hby d1_81) rfl (pc' := 83) rfl ?_
    refine R.daload X17 hx hZ e17 V_a1 (⟨by decide, by decide⟩ : ¬ (0 : Int32) < 0 ∧ (0 : Int32) < (2 : Int32)) (v := (.double y0)) (vy0) (hb hby d1_83) (pc' := 84) rfl ?_
    have Y18 := (Dy.mul D_r16 Dy0 ((own_ab.mul bq0 bd0).lt (by decide)) (by decide))
    refine R.dmul X17 hx (hb hby d1_84) (Y18.nn : NoNaN64 (FP.dmul r16 y0)) (pc' := 85) rfl ?_
    have Y19 := (Dy.sub Dx0 Y18 ((own_ab.sub ac0 (own_ab.mul bq0 bd0)).lt (by decide)) (by decide))
    refine R.dsub X17 hx (hb hby d1_85) (Y19.nn : NoNaN64 (FP.dsub x0 (FP.dmul r16 y0))) (pc' := 86) rfl ?_
    show Rn p e below (T17.setTop (mkF m 86 #[.val (.ref a0), .val (.ref a1), .val (.int (1 : Int32)), .val (.ref b1), .val (.ref b3), .val (.int (0 : Int32)), .val (.int (0 : Int32))] [(.double (FP.dsub x0 (FP.dmul r16 y0))), (.int (0 : Int32)), (.ref b1)])) G
    generalize hr20 : (FP.dsub x0 (FP.dmul r16 y0)) = r20
    have D_r20 : Dy r20 ((C0 - (Q0 * D0))) 0 := hr20 ▸ Y19
    have A_r20 : own_ab ((C0 - (Q0 * D0))) 32896 := (own_ab.sub ac0 (own_ab.mul bq0 bd0))
    refine R.dastore X17 hx hZ e17 V_b1 (⟨by decide, by decide⟩ : ¬ (0 : Int32) < 0 ∧ (0 : Int32) < (3 : Int32)) (hb hby d1_86) (pc' := 87) rfl ?_; intro T21 h21 X21 e21 W21 V21
    have V_a0 := V_a0.other W21 ne_a0_b1
    have E_a0 := E_a0.wr W21
    have V_a1 := V_a1.other W21 ne_a1_b1
    have E_b1 := E_b1.wr W21
    have V_b3 := V_b3.other W21 (Ne.symm ne_b1_b3)
    have V_b1 : Arh Z h21 b1 ka .double (3 : Int32) (((0 : Int32), (.double r20)) :: ((2 : Int32), (.double r13)) :: ((1 : Int32), (.double r9)) :: ha) [] (.double (0 : UInt64)) := V21
    have N21 := Fr.snoc X21 N17 g_b1
    have K21 : Keep h0 h21 [] := K17.wr W21 (Or.inr sz_b1)
    have Z21 : n0 ≤ h21.size := Nat.le_trans Z17 (Keep.of_wr W21).1
    refine R.iinc X21 hx (hb hby d1_87) rfl (L' := #[.val (.ref a0), .val (.ref a1), .val (.int (1 : Int32)), .val (.ref b1), .val (.ref b3), .val (.int (0 : Int32)), .val (.int (1 : Int32))]) rfl (pc' := 90) rfl ?_
    refine R.goto X21 hx (hb hby d1_90) (by decide) (pc' := 61) (by decide) ?_
    refine R.iload X21 hx (hb hby d1_61) rfl (pc' := 63) rfl ?_
    refine R.iloadN X21 hx (hb hby d1_63) rfl (pc' := 64) rfl ?_
    refine R.icmpNo X21 hx (hb hby d1_64) (flt (by decide : ¬ ((1 : Int32) < (1 : Int32)))).2.2.1 (pc' := 67) rfl ?_
    refine R.aloadN X21 hx (hb hby d1_67) rfl rfl (pc' := 68) rfl ?_
    refine R.iload X21 hx (hb hby d1_68) rfl (pc' := 70) rfl ?_
    refine R.iload X21 hx (hb hby d1_70) rfl (pc' := 72) rfl ?_
    refine R.iadd X21 hx (hb hby d1_72) (v := (1 : Int32)) (by decide) (pc' := 73) rfl ?_
    refine R.dup2 X21 hx (hb hby d1_73) rfl rfl (pc' := 74) rfl ?_
    refine R.daload X21 hx hZ e21 V_b1 (⟨by decide, by decide⟩ : ¬ (1 : Int32) < 0 ∧ (1 : Int32) < (3 : Int32)) (v := (.double r9)) (getH_miss (by decide) (by decide) (getH_miss (by decide) (by decide) (getH_hit (by decide) (rfl)))) (hb hby d1_74) (pc' := 75) rfl ?_
    refine R.aload X21 hx (hb hby d1_75) rfl rfl (pc' := 77) rfl ?_
    refine R.iload X21 hx (hb hby d1_77) rfl (pc' := 79) rfl ?_
    refine R.daload X21 hx hZ e21 V_b3 (⟨by decide, by decide⟩ : ¬ (0 : Int32) < 0 ∧ (0 : Int32) < (2 : Int32)) (v := (.double r16)) (getH_hit (by decide) (rfl)) (hb hby d1_79) (pc' := 80) rfl ?_
    refine R.aloadN X21 hx (hb hby d1_80) rfl rfl (pc' := 81) rfl ?_
    refine R.iload X21 hx (hb hby d1_81) rfl (pc' := 83) rfl ?_
    refine R.daload X21 hx hZ e21 V_a1 (⟨by decide, by decide⟩ : ¬ (1 : Int32) < 0 ∧ (1 : Int32) < (2 : Int32)) (v := (.double y1)) (vy1) (hb hby d1_83) (pc' := 84) rfl ?_
    have Y22 := (Dy.mul D_r16 Dy1 ((own_ab.mul bq0 bd1).lt (by decide)) (by decide))
    refine R.dmul X21 hx (hb hby d1_84) (Y22.nn : NoNaN64 (FP.dmul r16 y1)) (pc' := 85) rfl ?_
    have Y23 := (Dy.sub D_r9 Y22 ((own_ab.sub A_r9 (own_ab.mul bq0 bd1)).lt (by decide)) (by decide))
    refine R.dsub X21 hx (hb hby d1_85) (Y23.nn : NoNaN64 (FP.dsub r9 (FP.dmul r16 y1))) (pc' := 86) rfl ?_
    show Rn p e below (T21.setTop (mkF m 86 #[.val (.ref a0), .val (.ref a1), .val (.int (1 : Int32)), .val (.ref b1), .val (.ref b3), .val (.int (0 : Int32)), .val (.int (1 : Int32))] [(.double (FP.dsub r9 (FP.dmul r16 y1))), (.int (1 : Int32)), (.ref b1)])) G
    generalize hr24 : (FP.dsub r9 (FP.dmul r16 y1)) = r24
    have D_r24 : Dy r24 (((C1 - (Q1 * D0)) - (Q0 * D1))) 0 := hr24 ▸ Y23
    have A_r24 : own_ab (((C1 - (Q1 * D0)) - (Q0 * D1))) 65536 := (own_ab.sub A_r9 (own_ab.mul bq0 bd1))
    refine R.dastore X21 hx hZ e21 V_b1 (⟨by decide, by decide⟩ : ¬ (1 : Int32) < 0 ∧ (1 : Int32) < (3 : Int32)) (hb hby d1_86) (pc' := 87) rfl ?_; intro T25 h25 X25 e25 W25 V25
    have V_a0 := V_a0.other W25 ne_a0_b1
    have E_a0 := E_a0.wr W25
    have V_a1 := V_a1.other W25 ne_a1_b1
    have E_b1 := E_b1.wr W25
    have V_b3 := V_b3.other W25 (Ne.symm ne_b1_b3)
    have V_b1 : Arh Z h25 b1 ka .double (3 : Int32) (((1 : Int32), (.double r24)) :: ((0 : Int32), (.double r20)) :: ((2 : Int32), (.double r13)) :: ((1 : Int32), (.double r9)) :: ha) [] (.double (0 : UInt64)) := V25
    have N25 := Fr.snoc X25 N21 g_b1
    have K25 : Keep h0 h25 [] := K21.wr W25 (Or.inr sz_b1)
    have Z25 : n0 ≤ h25.size := Nat.le_trans Z21 (Keep.of_wr W25).1
    refine R.iinc X25 hx (hb hby d1_87) rfl (L' := #[.val (.ref a0), .val (.ref a1), .val (.int (1 : Int32)), .val (.ref b1), .val (.ref b3), .val (.int (0 : Int32)), .val (.int (2 : Int32))]) rfl (pc' := 90) rfl ?_
    refine R.goto X25 hx (hb hby d1_90) (by decide) (pc' := 61) (by decide) ?_
    refine R.iload X25 hx (hb hby d1_61) rfl (pc' := 63) rfl ?_
    refine R.iloadN X25 hx (hb hby d1_63) rfl (pc' := 64) rfl ?_
    refine R.icmpYes X25 hx (hb hby d1_64) (tlt (by decide : (1 : Int32) < (2 : Int32))).2.2.1 (by decide) (pc' := 93) (by decide) ?_
    refine R.iinc X25 hx (hb hby d1_93) rfl (L' := #[.val (.ref a0), .val (.ref a1), .val (.int (1 : Int32)), .val (.ref b1), .val (.ref b3), .val (.int (-1 : Int32)), .val (.int (2 : Int32))]) rfl (pc' := 96) rfl ?_
    refine R.goto X25 hx (hb hby d1_96) (by decide) (pc' := 38) (by decide) ?_
    refine R.iload X25 hx (hb hby d1_38) rfl (pc' := 40) rfl ?_
    refine R.ifYes X25 hx (hb hby d1_40) (tlt (by decide : (-1 : Int32) < (0 : Int32))).1 (by decide) (pc' := 99) (by decide) ?_
    refine R.aload X25 hx (hb hby d1_99) rfl rfl (pc' := 101) rfl ?_
    rw [← hG]
    exact Rn.ret X25 (BodyLoose.notSynchronized Bd) (v := some (.ref b3)) (fun h => by rw [Bd.returns] at h; cases h) (Q := Qqq22 Z a0 a1 ka kb ha hbb x0 x1 x2 y0 y1 C0 C1 C2 D0 D1 Q0 Q1 R0 h0 n0) e25 (fun fs hr => retOut X25 hx (t := (.array .double)) Bd.returns rfl (Or.inr (Or.inr (Or.inr (Or.inr ⟨rfl, rfl, rfl⟩)))) (hb hby d1_101) hr) ⟨b3, k3, [((0 : Int32), (.double r16)), ((1 : Int32), (.double r5))], rfl, N25, K25, sz_b3, V_b3, ⟨_, getH_hit (by decide) (rfl), D_r16⟩, ⟨_, getH_miss (by decide) (by decide) (getH_hit (by decide) (rfl)), D_r5⟩⟩ (by decide) (by decide)
  exact (Rn.st (fun t k => castTop (ef_qq22 m a0 a1) k) first_ : Rn p e below (s₁.setTop (entryFrame m #[(.ref a0), (.ref a1)] 7)) (Fnqq22 Z a0 a1 ka kb ha hbb x0 x1 x2 y0 y1 C0 C1 C2 D0 D1 Q0 Q1 R0 h0 n0 s))
theorem ef_qq23 (m : MethodId) (x0 : Addr) (x1 : Addr) : entryFrame m #[(.ref x0), (.ref x1)] 7 = mkF m 0 #[.val (.ref x0), .val (.ref x1), .unset, .unset, .unset, .unset, .unset] [] := by first | (simp [entryFrame, mkF, argsToLocals, Value.category]; done) | rfl
def Qqq23 (Z : State) (a0 : Addr) (a1 : Addr) (ka : ClassId) (kb : ClassId) (ha : List (Int32 × Value)) (hbb : List (Int32 × Value)) (x0 : UInt64) (x1 : UInt64) (x2 : UInt64) (x3 : UInt64) (y0 : UInt64) (y1 : UInt64) (C0 : Int) (C1 : Int) (C2 : Int) (C3 : Int) (D0 : Int) (D1 : Int) (Q0 : Int) (Q1 : Int) (Q2 : Int) (R0 : Int) (h0 : Heap) (n0 : Nat) (vQ : Option Value) (hQ_ : Heap) (LQ : List Loc) : Prop := ∃ r : Addr, ∃ kr : ClassId, ∃ hr : List (Int32 × Value), vQ = some (.ref r) ∧ Fr n0 LQ ∧ Keep h0 hQ_ [] ∧ (h0.size ≤ r) ∧ (Arh Z hQ_ r kr .double (3 : Int32) hr [] (.double (0 : UInt64))) ∧ (∃ v : UInt64, getH hr [] (.double (0 : UInt64)) ((0 : Int32)).toNatClampNeg = (.double v) ∧ Dy v Q0 0) ∧ (∃ v : UInt64, getH hr [] (.double (0 : UInt64)) ((1 : Int32)).toNatClampNeg = (.double v) ∧ Dy v Q1 0) ∧ (∃ v : UInt64, getH hr [] (.double (0 : UInt64)) ((2 : Int32)).toNatClampNeg = (.double v) ∧ Dy v Q2 0)
def Fnqq23 (Z : State) (a0 : Addr) (a1 : Addr) (ka : ClassId) (kb : ClassId) (ha : List (Int32 × Value)) (hbb : List (Int32 × Value)) (x0 : UInt64) (x1 : UInt64) (x2 : UInt64) (x3 : UInt64) (y0 : UInt64) (y1 : UInt64) (C0 : Int) (C1 : Int) (C2 : Int) (C3 : Int) (D0 : Int) (D1 : Int) (Q0 : Int) (Q1 : Int) (Q2 : Int) (R0 : Int) (h0 : Heap) (n0 : Nat) (sQ : State) (oQ : Outcome) (UQ : State) : Prop := ∃ vQ LQ, oQ = .returned vQ ∧ Qqq23 Z a0 a1 ka kb ha hbb x0 x1 x2 x3 y0 y1 C0 C1 C2 C3 D0 D1 Q0 Q1 Q2 R0 h0 n0 vQ UQ.heap LQ ∧ FrameEnd sQ oQ UQ LQ ({ frames := 1, cells := 2, slots := 8, locals := 14 } : Room).cells ({ frames := 1, cells := 2, slots := 8, locals := 14 } : Room).slots
set_option maxRecDepth 65536 in
set_option maxHeartbeats 40000000 in
theorem rmqq23 (l : Launch) (Z : State) (aZ : Array Value) (hw : ∀ d ∈ tables_1, d.before aZ Z = true) (ws : List Jvm.Cond) (a0 : Addr) (a1 : Addr) (ka : ClassId) (kb : ClassId) (ha : List (Int32 × Value)) (hbb : List (Int32 × Value)) (x0 : UInt64) (x1 : UInt64) (x2 : UInt64) (x3 : UInt64) (y0 : UInt64) (y1 : UInt64) (C0 : Int) (C1 : Int) (C2 : Int) (C3 : Int) (D0 : Int) (D1 : Int) (Q0 : Int) (Q1 : Int) (Q2 : Int) (R0 : Int) (h0 : Heap) (n0 : Nat) (Z0 : n0 ≤ h0.size) (V_a0 : Arh Z h0 a0 ka .double (4 : Int32) ha [] (.double (0 : UInt64))) (E_a0 : Exa Z h0 a0 "[D") (V_a1 : Arh Z h0 a1 kb .double (2 : Int32) hbb [] (.double (0 : UInt64))) (vx0 : getH ha [] (.double (0 : UInt64)) ((0 : Int32)).toNatClampNeg = (.double x0)) (Dx0 : Dy x0 C0 0) (vx1 : getH ha [] (.double (0 : UInt64)) ((1 : Int32)).toNatClampNeg = (.double x1)) (Dx1 : Dy x1 C1 0) (vx2 : getH ha [] (.double (0 : UInt64)) ((2 : Int32)).toNatClampNeg = (.double x2)) (Dx2 : Dy x2 C2 0) (vx3 : getH ha [] (.double (0 : UInt64)) ((3 : Int32)).toNatClampNeg = (.double x3)) (Dx3 : Dy x3 C3 0) (vy0 : getH hbb [] (.double (0 : UInt64)) ((0 : Int32)).toNatClampNeg = (.double y0)) (Dy0 : Dy y0 D0 0) (vy1 : getH hbb [] (.double (0 : UInt64)) ((1 : Int32)).toNatClampNeg = (.double y1)) (Dy1 : Dy y1 D1 0) (el0 : C0 = Q0 * D0 + R0) (el1 : C1 = Q0 * D1 + Q1 * D0) (el2 : C2 = Q1 * D1 + Q2 * D0) (el3 : C3 = Q2 * D1) (hL : D1 ≠ 0) (bd0 : own_ab D0 128) (bd1 : own_ab D1 128) (bq0 : own_ab Q0 128) (bq1 : own_ab Q1 128) (bq2 : own_ab Q2 128) (br0 : own_ab R0 128) :
    MetFree l (⟨"com/example/deseason/deseason/arima/Polynomials", "quotient", "([D[D)[D"⟩ : MethodName) (head1 (Jvm.Cond.code (⟨"com/example/deseason/deseason/arima/Polynomials", "quotient", "([D[D)[D"⟩ : MethodName) prog_10_method_6_code 7 (some (.array .double)) :: ws) ({ frames := 1, cells := 2, slots := 8, locals := 14 } : Room)) (fun aQ UQ => aQ = #[(.ref a0), (.ref a1)] ∧ Z.Warmed39 UQ.vm ∧ UQ.heap = h0) (fun _ _ _ _ _ => True) (fun _ UQ oQ UR => ∃ vQ LQ, oQ = .returned vQ ∧ Qqq23 Z a0 a1 ka kb ha hbb x0 x1 x2 x3 y0 y1 C0 C1 C2 C3 D0 D1 Q0 Q1 Q2 R0 h0 n0 vQ UR.heap LQ ∧ FrameEnd UQ oQ UR LQ ({ frames := 1, cells := 2, slots := 8, locals := 14 } : Room).cells ({ frames := 1, cells := 2, slots := 8, locals := 14 } : Room).slots) := by
  refine MetFree.of_bodySF (plainFor_of_name pn_1) hisR ?_
  intro p e s m args below meth c s₁ Bd hml0 hP hK
  obtain ⟨rfl, hZ, hh⟩ := hP
  have hx := Bd.exec
  have hby := Bd.bytes
  have hml : c.maxLocals = 7 := hml0
  have hown : s.vm.findClass "com/example/deseason/deseason/arima/Polynomials" = some m.cls := findClass_of_methodNamed Bd.named
  have hnm := (name_of_methodNamed Bd.named Bd.method).1
  have X0 : Stand p l e ({ frames := 1, cells := 2, slots := 8, locals := 14 } : Room) s m #[(.ref a0), (.ref a1)] below meth c s₁ [] 0 0 := Stand.of_body Bd
  have e0 : s₁.heap = h0 := by rw [← hh, Bd.state]; rfl
  have N0 := Fr.nil n0
  have K0 : Keep h0 h0 [] := Keep.refl _ _
  have w_1 := hw _ (List.mem_of_getElem? (i := 1) rfl)
  have w_16 := hw _ (List.mem_of_getElem? (i := 16) rfl)
  have w_17 := hw _ (List.mem_of_getElem? (i := 17) rfl)
  have w_19 := hw _ (List.mem_of_getElem? (i := 19) rfl)
  have w_20 := hw _ (List.mem_of_getElem? (i := 20) rfl)
  have w_21 := hw _ (List.mem_of_getElem? (i := 21) rfl)
  have w_22 := hw _ (List.mem_of_getElem? (i := 22) rfl)
  have w_23 := hw _ (List.mem_of_getElem? (i := 23) rfl)
  have first_ : Rn p e below (s₁.setTop (mkF m 0 #[.val (.ref a0), .val (.ref a1), .unset, .unset, .unset, .unset, .unset] [])) (Fnqq23 Z a0 a1 ka kb ha hbb x0 x1 x2 x3 y0 y1 C0 C1 C2 C3 D0 D1 Q0 Q1 Q2 R0 h0 n0 s) := by
    generalize hG : (Fnqq23 Z a0 a1 ka kb ha hbb x0 x1 x2 x3 y0 y1 C0 C1 C2 C3 D0 D1 Q0 Q1 Q2 R0 h0 n0 s) = G
    have ac0 : own_ab C0 16512 := el0 ▸ (own_ab.add (own_ab.mul bq0 bd0) br0)
    have ac1 : own_ab C1 32768 := el1 ▸ (own_ab.add (own_ab.mul bq0 bd1) (own_ab.mul bq1 bd0))
    have ac2 : own_ab C2 32768 := el2 ▸ (own_ab.add (own_ab.mul bq1 bd1) (own_ab.mul bq2 bd0))
    have ac3 : own_ab C3 16384 := el3 ▸ (own_ab.mul bq2 bd1)
    refine R.aloadN X0 hx (hb hby d1_0) rfl rfl (pc' := 1) rfl ?_
    refine R.alen X0 hx hZ e0 V_a1 (hb hby d1_1) (pc' := 2) rfl ?_
    refine R.iconst X0 hx (hb hby d1_2) (v := (1 : Int32)) (by decide) (pc' := 3) rfl ?_
    refine R.isub X0 hx (hb hby d1_3) (v := (1 : Int32)) (by decide) (pc' := 4) rfl ?_
    refine R.istoreN X0 hx (hb hby d1_4) (L' := #[.val (.ref a0), .val (.ref a1), .val (.int (1 : Int32)), .unset, .unset, .unset, .unset]) rfl (pc' := 5) rfl ?_
    refine R.aloadN X0 hx (hb hby d1_5) rfl rfl (pc' := 6) rfl ?_
    refine R.alen X0 hx hZ e0 V_a0 (hb hby d1_6) (pc' := 7) rfl ?_
    refine R.iloadN X0 hx (hb hby d1_7) rfl (pc' := 8) rfl ?_
    refine R.icmpYes X0 hx (hb hby d1_8) (tlt (by decide : (1 : Int32) < (4 : Int32))).2.2.1 (by decide) (pc' := 15) (by decide) ?_
    refine R.aloadN X0 hx (hb hby d1_15) rfl rfl (pc' := 16) rfl ?_
    show Rn p e below (s₁.setTop (mkF m 16 #[.val (.ref a0), .val (.ref a1), .val (.int (1 : Int32)), .unset, .unset, .unset, .unset] [(.ref a0)])) G
    obtain ⟨T1, h1, X1, e1, E1, V1, EE1, st1⟩ := cloneH X0 hx hZ hown (ad := "[D") w_16 w_17 w_21 w_19 w_20 w_22 e0 V_a0 E_a0 (g := (mkF m 16 #[.val (.ref a0), .val (.ref a1), .val (.int (1 : Int32)), .unset, .unset, .unset, .unset] [(.ref a0)])) rfl (by rw [hml]; rfl) rfl (hb hby d1_16) (by decide) (W := 0) (cap := 5) (by show 2 * 0 + _ ≤ _; exact Nat.le_of_eq rfl) (by decide) (by decide) (by decide) (by decide)
    obtain ⟨b1, g1⟩ : ∃ z, z = h0.size := ⟨_, rfl⟩
    rw [← g1] at V1 EE1 st1
    have g_b1 : n0 ≤ b1 := Nat.le_trans Z0 (Nat.le_of_eq g1.symm)
    have sz_b1 : h0.size ≤ b1 := Nat.le_trans K0.1 (Nat.le_of_eq g1.symm)
    have ne_a0_b1 : a0 ≠ b1 := Nat.ne_of_lt (Nat.lt_of_lt_of_le V_a0.lt (Nat.le_of_eq g1.symm))
    have ne_a1_b1 : a1 ≠ b1 := Nat.ne_of_lt (Nat.lt_of_lt_of_le V_a1.lt (Nat.le_of_eq g1.symm))
    have K1 : Keep h0 h1 [] := K0.ext E1
    have Z1 : n0 ≤ h1.size := Nat.le_trans Z0 E1.1
    have V_a0 := V_a0.ext E1
    have E_a0 := E_a0.ext E1
    have V_a1 := V_a1.ext E1
    have V_b1 : Arh Z h1 b1 ka .double (4 : Int32) ha [] (.double (0 : UInt64)) := V1
    have E_b1 : Exa Z h1 b1 "[D" := EE1
    refine Rn.st st1 ?_
    show Rn p e below (T1.setTop (mkF m 19 #[.val (.ref a0), .val (.ref a1), .val (.int (1 : Int32)), .unset, .unset, .unset, .unset] [(.ref b1)])) G
    refine R.castY X1 hx hZ hown w_23 e1 (Ins.self E_b1) (hb hby d1_19) (pc' := 22) rfl ?_; intro T2 X2 e2
    refine R.astoreN X2 hx (hb hby d1_22) rfl (L' := #[.val (.ref a0), .val (.ref a1), .val (.int (1 : Int32)), .val (.ref b1), .unset, .unset, .unset]) rfl (pc' := 23) rfl ?_
    refine R.aloadN X2 hx (hb hby d1_23) rfl rfl (pc' := 24) rfl ?_
    refine R.alen X2 hx hZ e2 V_a0 (hb hby d1_24) (pc' := 25) rfl ?_
    refine R.iloadN X2 hx (hb hby d1_25) rfl (pc' := 26) rfl ?_
    refine R.isub X2 hx (hb hby d1_26) (v := (3 : Int32)) (by decide) (pc' := 27) rfl ?_
    refine R.newP X2 hx hZ (ty := .double) rfl w_1 e2 (by decide) (cap := 3) (by decide) (by decide) (ad := "[D") (by decide) (hb hby d1_27) (pc' := 29) rfl (by decide) (by decide) ?_; intro T3 h3 b3 k3 g3 X3 e3 E3 EE3 AA3
    have g_b3 : n0 ≤ b3 := Nat.le_trans Z1 (Nat.le_of_eq g3.symm)
    have sz_b3 : h0.size ≤ b3 := Nat.le_trans K1.1 (Nat.le_of_eq g3.symm)
    have ne_a0_b3 : a0 ≠ b3 := Nat.ne_of_lt (Nat.lt_of_lt_of_le V_a0.lt (Nat.le_of_eq g3.symm))
    have ne_a1_b3 : a1 ≠ b3 := Nat.ne_of_lt (Nat.lt_of_lt_of_le V_a1.lt (Nat.le_of_eq g3.symm))
    have ne_b1_b3 : b1 ≠ b3 := Nat.ne_of_lt (Nat.lt_of_lt_of_le V_b1.lt (Nat.le_of_eq g3.symm))
    have K3 : Keep h0 h3 [] := K1.ext E3
    have Z3 : n0 ≤ h3.size := Nat.le_trans Z1 E3.1
    have V_a0 := V_a0.ext E3
    have E_a0 := E_a0.ext E3
    have V_a1 := V_a1.ext E3
    have V_b1 := V_b1.ext E3
    have E_b1 := E_b1.ext E3
    have V_b3 : Arh Z h3 b3 k3 .double (3 : Int32) [] [] (.double (0 : UInt64)) := AA3
    refine R.astore X3 hx (hb hby d1_29) rfl (L' := #[.val (.ref a0), .val (.ref a1), .val (.int (1 : Int32)), .val (.ref b1), .val (.ref b3), .unset, .unset]) rfl (pc' := 31) rfl ?_
    refine R.aload X3 hx (hb hby d1_31) rfl rfl (pc' := 33) rfl ?_
    refine R.alen X3 hx hZ e3 V_b3 (hb hby d1_33) (pc' := 34) rfl ?_
    refine R.iconst X3 hx (hb hby d1_34) (v := (1 : Int32)) (by decide) (pc' := 35) rfl ?_
    refine R.isub X3 hx (hb hby d1_35) (v := (2 : Int32)) (by decide) (pc' := 36) rfl ?_
    refine R.istore X3 hx (hb hby d1_36) (L' := #[.val (.ref a0), .val (.ref a1), .val (.int (1 : Int32)), .val (.ref b1), .val (.ref b3), .val (.int (2 : Int32)), .unset]) rfl (pc' := 38) rfl ?_
    refine R.iload X3 hx (hb hby d1_38) rfl (pc' := 40) rfl ?_
    refine R.ifNo X3 hx (hb hby d1_40) (flt (by decide : ¬ ((2 : Int32) < (0 : Int32)))).1 (pc' := 43) rfl ?_
    refine R.aload X3 hx (hb hby d1_43) rfl rfl (pc' := 45) rfl ?_
    refine R.iload X3 hx (hb hby d1_45) rfl (pc' := 47) rfl ?_
    refine R.aloadN X3 hx (hb hby d1_47) rfl rfl (pc' := 48) rfl ?_
    refine R.iload X3 hx (hb hby d1_48) rfl (pc' := 50) rfl ?_
    refine R.iloadN X3 hx (hb hby d1_50) rfl (pc' := 51) rfl ?_
    refine R.iadd X3 hx (hb hby d1_51) (v := (3 : Int32)) (by decide) (pc' := 52) rfl ?_
    refine R.daload X3 hx hZ e3 V_b1 (⟨by decide, by decide⟩ : ¬ (3 : Int32) < 0 ∧ (3 : Int32) < (4 : Int32)) (v := (.double x3)) (vx3) (hb hby d1_52) (pc' := 53) rfl ?_
    refine R.aloadN X3 hx (hb hby d1_53) rfl rfl (pc' := 54) rfl ?_
    refine R.iloadN X3 hx (hb hby d1_54) rfl (pc' := 55) rfl ?_
    refine R.daload X3 hx hZ e3 V_a1 (⟨by decide, by decide⟩ : ¬ (1 : Int32) < 0 ∧ (1 : Int32) < (2 : Int32)) (v := (.double y1)) (vy1) (hb hby d1_55) (pc' := 56) rfl ?_
    have Y4 := (Dy.div (m := Q2) (n := 0) Dx3 Dy1 hL (bq2.lt (by decide)) (by decide) (by simp only [own_one]; omega))
    refine R.ddiv X3 hx (hb hby d1_56) (Y4.nn : NoNaN64 (FP.ddiv x3 y1)) (pc' := 57) rfl ?_
    show Rn p e below (T3.setTop (mkF m 57 #[.val (.ref a0), .val (.ref a1), .val (.int (1 : Int32)), .val (.ref b1), .val (.ref b3), .val (.int (2 : Int32)), .unset] [(.double (FP.ddiv x3 y1)), (.int (2 : Int32)), (.ref b3)])) G
    generalize hr5 : (FP.ddiv x3 y1) = r5
    have D_r5 : Dy r5 (Q2) 0 := hr5 ▸ Y4
    refine R.dastore X3 hx hZ e3 V_b3 (⟨by decide, by decide⟩ : ¬ (2 : Int32) < 0 ∧ (2 : Int32) < (3 : Int32)) (hb hby d1_57) (pc' := 58) rfl ?_; intro T6 h6 X6 e6 W6 V6
    have V_a0 := V_a0.other W6 ne_a0_b3
    have E_a0 := E_a0.wr W6
    have V_a1 := V_a1.other W6 ne_a1_b3
    have V_b1 := V_b1.other W6 ne_b1_b3
    have E_b1 := E_b1.wr W6
    have V_b3 : Arh Z h6 b3 k3 .double (3 : Int32) [((2 : Int32), (.double r5))] [] (.double (0 : UInt64)) := V6
    have N6 := Fr.snoc X6 N0 g_b3
    have K6 : Keep h0 h6 [] := K3.wr W6 (Or.inr sz_b3)
    have Z6 : n0 ≤ h6.size := Nat.le_trans Z3 (Keep.of_wr W6).1
    refine R.iconst X6 hx (hb hby d1_58) (v := (0 : Int32)) (by decide) (pc' := 59) rfl ?_
    refine R.istore X6 hx (hb hby d1_59) (L' := #[.val (.ref a0), .val (.ref a1), .val (.int (1 : Int32)), .val (.ref b1), .val (.ref b3), .val (.int (2 : Int32)), .val (.int (0 : Int32))]) rfl (pc' := 61) rfl ?_
    refine R.iload X6 hx (hb hby d1_61) rfl (pc' := 63) rfl ?_
    refine R.iloadN X6 hx (hb hby d1_63) rfl (pc' := 64) rfl ?_
    refine R.icmpNo X6 hx (hb hby d1_64) (flt (by decide : ¬ ((1 : Int32) < (0 : Int32)))).2.2.1 (pc' := 67) rfl ?_
    refine R.aloadN X6 hx (hb hby d1_67) rfl rfl (pc' := 68) rfl ?_
    refine R.iload X6 hx (hb hby d1_68) rfl (pc' := 70) rfl ?_
    refine R.iload X6 hx (hb hby d1_70) rfl (pc' := 72) rfl ?_
    refine R.iadd X6 hx (hb hby d1_72) (v := (2 : Int32)) (by decide) (pc' := 73) rfl ?_
    refine R.dup2 X6 hx (hb hby d1_73) rfl rfl (pc' := 74) rfl ?_
    refine R.daload X6 hx hZ e6 V_b1 (⟨by decide, by decide⟩ : ¬ (2 : Int32) < 0 ∧ (2 : Int32) < (4 : Int32)) (v := (.double x2)) (vx2) (hb hby d1_74) (pc' := 75) rfl ?_
    refine R.aload X6 hx (hb hby d1_75) rfl rfl (pc' := 77) rfl ?_
    refine R.iload X6 hx (hb hby d1_77) rfl (pc' := 79) rfl ?_
    refine R.daload X6 hx hZ e6 V_b3 (⟨by decide, by decide⟩ : ¬ (2 : Int32) < 0 ∧ (2 : Int32) < (3 : Int32)) (v := (.double r5)) (getH_hit (by decide) (rfl)) (hb hby d1_79) (pc' := 80) rfl ?_
    refine R.aloadN X6 hx (hb hby d1_80) rfl rfl (pc' := 81) rfl ?_
    refine R.iload X6 hx (hb hby d1_81) rfl (pc' := 83) rfl ?_
    refine R.daload X6 hx hZ e6 V_a1 (⟨by decide, by decide⟩ : ¬ (0 : Int32) < 0 ∧ (0 : Int32) < (2 : Int32)) (v := (.double y0)) (vy0) (hb hby d1_83) (pc' := 84) rfl ?_
    have Y7 := (Dy.mul D_r5 Dy0 ((own_ab.mul bq2 bd0).lt (by decide)) (by decide))
    refine R.dmul X6 hx (hb hby d1_84) (Y7.nn : NoNaN64 (FP.dmul r5 y0)) (pc' := 85) rfl ?_
    have Y8 := (Dy.sub Dx2 Y7 ((own_ab.sub ac2 (own_ab.mul bq2 bd0)).lt (by decide)) (by decide))
    refine R.dsub X6 hx (hb hby d1_85) (Y8.nn : NoNaN64 (FP.dsub x2 (FP.dmul r5 y0))) (pc' := 86) rfl ?_
    show Rn p e below (T6.setTop (mkF m 86 #[.val (.ref a0), .val (.ref a1), .val (.int (1 : Int32)), .val (.ref b1), .val (.ref b3), .val (.int (2 : Int32)), .val (.int (0 : Int32))] [(.double (FP.dsub x2 (FP.dmul r5 y0))), (.int (2 : Int32)), (.ref b1)])) G
    generalize hr9 : (FP.dsub x2 (FP.dmul r5 y0)) = r9
    have D_r9 : Dy r9 ((C2 - (Q2 * D0))) 0 := hr9 ▸ Y8
    have A_r9 : own_ab ((C2 - (Q2 * D0))) 49152 := (own_ab.sub ac2 (own_ab.mul bq2 bd0))
    refine R.dastore X6 hx hZ e6 V_b1 (⟨by decide, by decide⟩ : ¬ (2 : Int32) < 0 ∧ (2 : Int32) < (4 : Int32)) (hb hby d1_86) (pc' := 87) rfl ?_; intro T10 h10 X10 e10 W10 V10
    have V_a0 := V_a0.other W10 ne_a0_b1
    have E_a0 := E_a0.wr W10
    have V_a1 := V_a1.other W10 ne_a1_b1
    have E_b1 := E_b1.wr W10
    have V_b3 := V_b3.other W10 (Ne.symm ne_b1_b3)
    have V_b1 : Arh Z h10 b1 ka .double (4 : Int32) (((2 : Int32), (.double r9)) :: ha) [] (.double (0 : UInt64)) := V10
    have N10 := Fr.snoc X10 N6 g_b1
    have K10 : Keep h0 h10 [] := K6.wr W10 (Or.inr sz_b1)
    have Z10 : n0 ≤ h10.size := Nat.le_trans Z6 (Keep.of_wr W10).1
    refine R.iinc X10 hx (hb hby d1_87) rfl (L' := #[.val (.ref a0), .val (.ref a1), .val (.int (1 : Int32)), .val (.ref b1), .val (.ref b3), .val (.int (2 : Int32)), .val (.int (1 : Int32))]) rfl (pc' := 90) rfl ?_
    refine R.goto X10 hx (hb hby d1_90) (by decide) (pc' := 61) (by decide) ?_
    refine R.iload X10 hx (hb hby d1_61) rfl (pc' := 63) rfl ?_
    refine R.iloadN X10 hx (hb hby d1_63) rfl (pc' := 64) rfl ?_
    refine R.icmpNo X10 hx (hb hby d1_64) (flt (by decide : ¬ ((1 : Int32) < (1 : Int32)))).2.2.1 (pc' := 67) rfl ?_
    refine R.aloadN X10 hx (hb hby d1_67) rfl rfl (pc' := 68) rfl ?_
    refine R.iload X10 hx (hb hby d1_68) rfl (pc' := 70) rfl ?_
    refine R.iload X10 hx (hb hby d1_70) rfl (pc' := 72) rfl ?_
    refine R.iadd X10 hx (hb hby d1_72) (v := (3 : Int32)) (by decide) (pc' := 73) rfl ?_
    refine R.dup2 X10 hx (hb hby d1_73) rfl rfl (pc' := 74) rfl ?_
    refine R.daload X10 hx hZ e10 V_b1 (⟨by decide, by decide⟩ : ¬ (3 : Int32) < 0 ∧ (3 : Int32) < (4 : Int32)) (v := (.double x3)) (getH_miss (by decide) (by decide) (vx3)) (hb hby d1_74) (pc' := 75) rfl ?_
    refine R.aload X10 hx (hb hby d1_75) rfl rfl (pc' := 77) rfl ?_
    refine R.iload X10 hx (hb hby d1_77) rfl (pc' := 79) rfl ?_
    refine R.daload X10 hx hZ e10 V_b3 (⟨by decide, by decide⟩ : ¬ (2 : Int32) < 0 ∧ (2 : Int32) < (3 : Int32)) (v := (.double r5)) (getH_hit (by decide) (rfl)) (hb hby d1_79) (pc' := 80) rfl ?_
    refine R.aloadN X10 hx (hb hby d1_80) rfl rfl (pc' := 81) rfl ?_
    refine R.iload X10 hx (hb hby d1_81) rfl (pc' := 83) rfl ?_
    refine R.daload X10 hx hZ e10 V_a1 (⟨by decide, by decide⟩ : ¬ (1 : Int32) < 0 ∧ (1 : Int32) < (2 : Int32)) (v := (.double y1)) (vy1) (hb hby d1_83) (pc' := 84) rfl ?_
    have Y11 := (Dy.mul D_r5 Dy1 ((own_ab.mul bq2 bd1).lt (by decide)) (by decide))
    refine R.dmul X10 hx (hb hby d1_84) (Y11.nn : NoNaN64 (FP.dmul r5 y1)) (pc' := 85) rfl ?_
    have Y12 := (Dy.sub Dx3 Y11 ((own_ab.sub ac3 (own_ab.mul bq2 bd1)).lt (by decide)) (by decide))
    refine R.dsub X10 hx (hb hby d1_85) (Y12.nn : NoNaN64 (FP.dsub x3 (FP.dmul r5 y1))) (pc' := 86) rfl ?_
    show Rn p e below (T10.setTop (mkF m 86 #[.val (.ref a0), .val (.ref a1), .val (.int (1 : Int32)), .val (.ref b1), .val (.ref b3), .val (.int (2 : Int32)), .val (.int (1 : Int32))] [(.double (FP.dsub x3 (FP.dmul r5 y1))), (.int (3 : Int32)), (.ref b1)])) G
    generalize hr13 : (FP.dsub x3 (FP.dmul r5 y1)) = r13
    have D_r13 : Dy r13 ((C3 - (Q2 * D1))) 0 := hr13 ▸ Y12
    have A_r13 : own_ab ((C3 - (Q2 * D1))) 32768 := (own_ab.sub ac3 (own_ab.mul bq2 bd1))
    refine R.dastore X10 hx hZ e10 V_b1 (⟨by decide, by decide⟩ : ¬ (3 : Int32) < 0 ∧ (3 : Int32) < (4 : Int32)) (hb hby d1_86) (pc' := 87) rfl ?_; intro T14 h14 X14 e14 W14 V14
    have V_a0 := V_a0.other W14 ne_a0_b1
    have E_a0 := E_a0.wr W14
    have V_a1 := V_a1.other W14 ne_a1_b1
    have E_b1 := E_b1.wr W14
    have V_b3 := V_b3.other W14 (Ne.symm ne_b1_b3)
    have V_b1 : Arh Z h14 b1 ka .double (4 : Int32) (((3 : Int32), (.double r13)) :: ((2 : Int32), (.double r9)) :: ha) [] (.double (0 : UInt64)) := V14
    have N14 := Fr.snoc X14 N10 g_b1
    have K14 : Keep h0 h14 [] := K10.wr W14 (Or.inr sz_b1)
    have Z14 : n0 ≤ h14.size := Nat.le_trans Z10 (Keep.of_wr W14).1
    refine R.iinc X14 hx (hb hby d1_87) rfl (L' := #[.val (.ref a0), .val (.ref a1), .val (.int (1 : Int32)), .val (.ref b1), .val (.ref b3), .val (.int (2 : Int32)), .val (.int (2 : Int32))]) rfl (pc' := 90) rfl ?_
    refine R.goto X14 hx (hb hby d1_90) (by decide) (pc' := 61) (by decide) ?_
    refine R.iload X14 hx (hb hby d1_61) rfl (pc' := 63) rfl ?_
    refine R.iloadN X14 hx (hb hby d1_63) rfl (pc' := 64) rfl ?_
    refine R.icmpYes X14 hx (hb hby d1_64) (tlt (by decide : (1 : Int32) < (2 : Int32))).2.2.1 (by decide) (pc' := 93) (by decide) ?_
    refine R.iinc X14 hx (hb hby d1_93) rfl (L' := #[.val (.ref a0), .val (.ref a1), .val (.int (1 : Int32)), .val (.ref b1), .val (.ref b3), .val (.int (1 : Int32)), .val (.int (2 : Int32))]) rfl (pc' := 96) rfl ?_
    refine R.goto X14 hx (hb hby d1_96) (by decide) (pc' := 38) (by decide) ?_
    refine R.iload X14 hx (hb hby d1_38) rfl (pc' := 40) rfl ?_
    refine R.ifNo X14 hx (hb hby d1_40) (flt (by decide : ¬ ((1 : Int32) < (0 : Int32)))).1 (pc' := 43) rfl ?_
    refine R.aload X14 hx (hb hby d1_43) rfl rfl (pc' := 45) rfl ?_
    refine R.iload X14 hx (hb hby d1_45) rfl (pc' := 47) rfl ?_
    refine R.aloadN X14 hx (hb hby d1_47) rfl rfl (pc' := 48) rfl ?_
    refine R.iload X14 hx (hb hby d1_48) rfl (pc' := 50) rfl ?_
    refine R.iloadN X14 hx (hb hby d1_50) rfl (pc' := 51) rfl ?_
    refine R.iadd X14 hx (hb hby d1_51) (v := (2 : Int32)) (by decide) (pc' := 52) rfl ?_
    refine R.daload X14 hx hZ e14 V_b1 (⟨by decide, by decide⟩ : ¬ (2 : Int32) < 0 ∧ (2 : Int32) < (4 : Int32)) (v := (.double r9)) (getH_miss (by decide) (by decide) (getH_hit (by decide) (rfl))) (hb hby d1_52) (pc' := 53) rfl ?_
    refine R.aloadN X14 hx (hb hby d1_53) rfl rfl (pc' := 54) rfl ?_
    refine R.iloadN X14 hx (hb hby d1_54) rfl (pc' := 55) rfl ?_
    refine R.daload X14 hx hZ e14 V_a1 (⟨by decide, by decide⟩ : ¬ (1 : Int32) < 0 ∧ (1 : Int32) < (2 : Int32)) (v := (.double y1)) (vy1) (hb hby d1_55) (pc' := 56) rfl ?_
    have Y15 := (Dy.div (m := Q1) (n := 0) D_r9 Dy1 hL (bq1.lt (by decide)) (by decide) (by simp only [own_one]; omega))
    refine R.ddiv X14 hx (hb hby d1_56) (Y15.nn : NoNaN64 (FP.ddiv r9 y1)) (pc' := 57) rfl ?_
    show Rn p e below (T14.setTop (mkF m 57 #[.val (.ref a0), .val (.ref a1), .val (.int (1 : Int32)), .val (.ref b1), .val (.ref b3), .val (.int (1 : Int32)), .val (.int (2 : Int32))] [(.double (FP.ddiv r9 y1)), (.int (1 : Int32)), (.ref b3)])) G
    generalize hr16 : (FP.ddiv r9 y1) = r16
    have D_r16 : Dy r16 (Q1) 0 := hr16 ▸ Y15
    refine R.dastore X14 hx hZ e14 V_b3 (⟨by decide, by decide⟩ : ¬ (1 : Int32) < 0 ∧ (1 : Int32) < (3 : Int32)) (hb hby d1_57) (pc' := 58) rfl ?_; intro T17 h17 X17 e17 W17 V17
    have V_a0 := V_a0.other W17 ne_a0_b3
    have E_a0 := E_a0.wr W17
    have V_a1 := V_a1.other W17 ne_a1_b3
    have E_b1 := E_b1.wr W17
    have V_b1 := V_b1.other W17 ne_b1_b3
    have V_b3 : Arh Z h17 b3 k3 .double (3 : Int32) [((1 : Int32), (.double r16)), ((2 : Int32), (.double r5))] [] (.double (0 : UInt64)) := V17
    have N17 := Fr.snoc X17 N14 g_b3
    have K17 : Keep h0 h17 [] := K14.wr W17 (Or.inr sz_b3)
    have Z17 : n0 ≤ h17.size := Nat.le_trans Z14 (Keep.of_wr W17).1
    refine R.iconst X17 hx (hb hby d1_58) (v := (0 : Int32)) (by decide) (pc' := 59) rfl ?_
    refine R.istore X17 hx (hb hby d1_59) (L' := #[.val (.ref a0), .val (.ref a1), .val (.int (1 : Int32)), .val (.ref b1), .val (.ref b3), .val (.int (1 : Int32)), .val (.int (0 : Int32))]) rfl (pc' := 61) rfl ?_
    refine R.iload X17 hx (hb hby d1_61) rfl (pc' := 63) rfl ?_
    refine R.iloadN X17 hx (hb hby d1_63) rfl (pc' := 64) rfl ?_
    refine R.icmpNo X17 hx (hb hby d1_64) (flt (by decide : ¬ ((1 : Int32) < (0 : Int32)))).2.2.1 (pc' := 67) rfl ?_
    refine R.aloadN X17 hx (hb hby d1_67) rfl rfl (pc' := 68) rfl ?_
    refine R.iload X17 hx (hb hby d1_68) rfl (pc' := 70) rfl ?_
    refine R.iload X17 hx (hb hby d1_70) rfl (pc' := 72) rfl ?_
    refine R.iadd X17 hx (hb hby d1_72) (v := (1 : Int32)) (by decide) (pc' := 73) rfl ?_
    refine R.dup2 X17 hx (hb hby d1_73) rfl rfl (pc' := 74) rfl ?_
    refine R.daload X17 hx hZ e17 V_b1 (⟨by decide, by decide⟩ : ¬ (1 : Int32) < 0 ∧ (1 : Int32) < (4 : Int32)) (v := (.double x1)) (getH_miss (by decide) (by decide) (getH_miss (by decide) (by decide) (vx1))) (hb hby d1_74) (pc' := 75) rfl ?_
    refine R.aload X17 hx (hb hby d1_75) rfl rfl (pc' := 77) rfl ?_
    refine R.iload X17 hx (hb hby d1_77) rfl (pc' := 79) rfl ?_
    refine R.daload X17 hx hZ e17 V_b3 (⟨by decide, by decide⟩ : ¬ (1 : Int32) < 0 ∧ (1 : Int32) < (3 : Int32)) (v := (.double r16)) (getH_hit (by decide) (rfl)) (hb hby d1_79) (pc' := 80) rfl ?_
    refine R.aloadN X17 hx (hb hby d1_80) rfl rfl (pc' := 81) rfl ?_
    refine R.iload X17 hx (hb hby d1_81) rfl (pc' := 83) rfl ?_
    refine R.daload X17 hx hZ e17 V_a1 (⟨by decide, by decide⟩ : ¬ (0 : Int32) < 0 ∧ (0 : Int32) < (2 : Int32)) (v := (.double y0)) (vy0) (hb hby d1_83) (pc' := 84) rfl ?_
    have Y18 := (Dy.mul D_r16 Dy0 ((own_ab.mul bq1 bd0).lt (by decide)) (by decide))
    refine R.dmul X17 hx (hb hby d1_84) (Y18.nn : NoNaN64 (FP.dmul r16 y0)) (pc' := 85) rfl ?_
    have Y19 := (Dy.sub Dx1 Y18 ((own_ab.sub ac1 (own_ab.mul bq1 bd0)).lt (by decide)) (by decide))
    refine R.dsub X17 hx (hb hby d1_85) (Y19.nn : NoNaN64 (FP.dsub x1 (FP.dmul r16 y0))) (pc' := 86) rfl ?_
    show Rn p e below (T17.setTop (mkF m 86 #[.val (.ref a0), .val (.ref a1), .val (.int (1 : Int32)), .val (.ref b1), .val (.ref b3), .val (.int (1 : Int32)), .val (.int (0 : Int32))] [(.double (FP.dsub x1 (FP.dmul r16 y0))), (.int (1 : Int32)), (.ref b1)])) G
    generalize hr20 : (FP.dsub x1 (FP.dmul r16 y0)) = r20
    have D_r20 : Dy r20 ((C1 - (Q1 * D0))) 0 := hr20 ▸ Y19
    have A_r20 : own_ab ((C1 - (Q1 * D0))) 49152 := (own_ab.sub ac1 (own_ab.mul bq1 bd0))
    refine R.dastore X17 hx hZ e17 V_b1 (⟨by decide, by decide⟩ : ¬ (1 : Int32) < 0 ∧ (1 : Int32) < (4 : Int32)) (hb hby d1_86) (pc' := 87) rfl ?_; intro T21 h21 X21 e21 W21 V21
    have V_a0 := V_a0.other W21 ne_a0_b1
    have E_a0 := E_a0.wr W21
    have V_a1 := V_a1.other W21 ne_a1_b1
    have E_b1 := E_b1.wr W21
    have V_b3 := V_b3.other W21 (Ne.symm ne_b1_b3)
    have V_b1 : Arh Z h21 b1 ka .double (4 : Int32) (((1 : Int32), (.double r20)) :: ((3 : Int32), (.double r13)) :: ((2 : Int32), (.double r9)) :: ha) [] (.double (0 : UInt64)) := V21
    have N21 := Fr.snoc X21 N17 g_b1
    have K21 : Keep h0 h21 [] := K17.wr W21 (Or.inr sz_b1)
    have Z21 : n0 ≤ h21.size := Nat.le_trans Z17 (Keep.of_wr W21).1
    refine R.iinc X21 hx (hb hby d1_87) rfl (L' := #[.val (.ref a0), .val (.ref a1), .val (.int (1 : Int32)), .val (.ref b1), .val (.ref b3), .val (.int (1 : Int32)), .val (.int (1 : Int32))]) rfl (pc' := 90) rfl ?_
    refine R.goto X21 hx (hb hby d1_90) (by decide) (pc' := 61) (by decide) ?_
    refine R.iload X21 hx (hb hby d1_61) rfl (pc' := 63) rfl ?_
    refine R.iloadN X21 hx (hb hby d1_63) rfl (pc' := 64) rfl ?_
    refine R.icmpNo X21 hx (hb hby d1_64) (flt (by decide : ¬ ((1 : Int32) < (1 : Int32)))).2.2.1 (pc' := 67) rfl ?_
    refine R.aloadN X21 hx (hb hby d1_67) rfl rfl (pc' := 68) rfl ?_
    refine R.iload X21 hx (hb hby d1_68) rfl (pc' := 70) rfl ?_
    refine R.iload X21 hx (hb hby d1_70) rfl (pc' := 72) rfl ?_
    refine R.iadd X21 hx (hb hby d1_72) (v := (2 : Int32)) (by decide) (pc' := 73) rfl ?_
    refine R.dup2 X21 hx (hb hby d1_73) rfl rfl (pc' := 74) rfl ?_
    refine R.daload X21 hx hZ e21 V_b1 (⟨by decide, by decide⟩ : ¬ (2 : Int32) < 0 ∧ (2 : Int32) < (4 : Int32)) (v := (.double r9)) (getH_miss (by decide) (by decide) (getH_miss (by decide) (by decide) (getH_hit (by decide) (rfl)))) (hb hby d1_74) (pc' := 75) rfl ?_
    refine R.aload X21 hx (hb hby d1_75) rfl rfl (pc' := 77) rfl ?_
    refine R.iload X21 hx (hb hby d1_77) rfl (pc' := 79) rfl ?_
    refine R.daload X21 hx hZ e21 V_b3 (⟨by decide, by decide⟩ : ¬ (1 : Int32) < 0 ∧ (1 : Int32) < (3 : Int32)) (v := (.double r16)) (getH_hit (by decide) (rfl)) (hb hby d1_79) (pc' := 80) rfl ?_
    refine R.aloadN X21 hx (hb hby d1_80) rfl rfl (pc' := 81) rfl ?_
    refine R.iload X21 hx (hb hby d1_81) rfl (pc' := 83) rfl ?_
    refine R.daload X21 hx hZ e21 V_a1 (⟨by decide, by decide⟩ : ¬ (1 : Int32) < 0 ∧ (1 : Int32) < (2 : Int32)) (v := (.double y1)) (vy1) (hb hby d1_83) (pc' := 84) rfl ?_
    have Y22 := (Dy.mul D_r16 Dy1 ((own_ab.mul bq1 bd1).lt (by decide)) (by decide))
    refine R.dmul X21 hx (hb hby d1_84) (Y22.nn : NoNaN64 (FP.dmul r16 y1)) (pc' := 85) rfl ?_
    have Y23 := (Dy.sub D_r9 Y22 ((own_ab.sub A_r9 (own_ab.mul bq1 bd1)).lt (by decide)) (by decide))
    refine R.dsub X21 hx (hb hby d1_85) (Y23.nn : NoNaN64 (FP.dsub r9 (FP.dmul r16 y1))) (pc' := 86) rfl ?_
    show Rn p e below (T21.setTop (mkF m 86 #[.val (.ref a0), .val (.ref a1), .val (.int (1 : Int32)), .val (.ref b1), .val (.ref b3), .val (.int (1 : Int32)), .val (.int (1 : Int32))] [(.double (FP.dsub r9 (FP.dmul r16 y1))), (.int (2 : Int32)), (.ref b1)])) G
    generalize hr24 : (FP.dsub r9 (FP.dmul r16 y1)) = r24
    have D_r24 : Dy r24 (((C2 - (Q2 * D0)) - (Q1 * D1))) 0 := hr24 ▸ Y23
    have A_r24 : own_ab (((C2 - (Q2 * D0)) - (Q1 * D1))) 65536 := (own_ab.sub A_r9 (own_ab.mul bq1 bd1))
    refine R.dastore X21 hx hZ e21 V_b1 (⟨by decide, by decide⟩ : ¬ (2 : Int32) < 0 ∧ (2 : Int32) < (4 : Int32)) (hb hby d1_86) (pc' := 87) rfl ?_; intro T25 h25 X25 e25 W25 V25
    have V_a0 := V_a0.other W25 ne_a0_b1
    have E_a0 := E_a0.wr W25
    have V_a1 := V_a1.other W25 ne_a1_b1
    have E_b1 := E_b1.wr W25
    have V_b3 := V_b3.other W25 (Ne.symm ne_b1_b3)
    have V_b1 : Arh Z h25 b1 ka .double (4 : Int32) (((2 : Int32), (.double r24)) :: ((1 : Int32), (.double r20)) :: ((3 : Int32), (.double r13)) :: ((2 : Int32), (.double r9)) :: ha) [] (.double (0 : UInt64)) := V25
    have N25 := Fr.snoc X25 N21 g_b1
    have K25 : Keep h0 h25 [] := K21.wr W25 (Or.inr sz_b1)
    have Z25 : n0 ≤ h25.size := Nat.le_trans Z21 (Keep.of_wr W25).1
    refine R.iinc X25 hx (hb hby d1_87) rfl (L' := #[.val (.ref a0), .val (.ref a1), .val (.int (1 : Int32)), .val (.ref b1), .val (.ref b3), .val (.int (1 : Int32)), .val (.int (2 : Int32))]) rfl (pc' := 90) rfl ?_
    refine R.goto X25 hx (hb hby d1_90) (by decide) (pc' := 61) (by decide) ?_
    refine R.iload X25 hx (hb hby d1_61) rfl (pc' := 63) rfl ?_
    refine R.iloadN X25 hx (hb hby d1_63) rfl (pc' := 64) rfl ?_
    refine R.icmpYes X25 hx (hb hby d1_64) (tlt (by decide : (1 : Int32) < (2 : Int32))).2.2.1 (by decide) (pc' := 93) (by decide) ?_
    refine R.iinc X25 hx (hb hby d1_93) rfl (L' := #[.val (.ref a0), .val (.ref a1), .val (.int (1 : Int32)), .val (.ref b1), .val (.ref b3), .val (.int (0 : Int32)), .val (.int (2 : Int32))]) rfl (pc' := 96) rfl ?_
    refine R.goto X25 hx (hb hby d1_96) (by decide) (pc' := 38) (by decide) ?_
    refine R.iload X25 hx (hb hby d1_38) rfl (pc' := 40) rfl ?_
    refine R.ifNo X25 hx (hb hby d1_40) (flt (by decide : ¬ ((0 : Int32) < (0 : Int32)))).1 (pc' := 43) rfl ?_
    refine R.aload X25 hx (hb hby d1_43) rfl rfl (pc' := 45) rfl ?_
    refine R.iload X25 hx (hb hby d1_45) rfl (pc' := 47) rfl ?_
    refine R.aloadN X25 hx (hb hby d1_47) rfl rfl (pc' := 48) rfl ?_
    refine R.iload X25 hx (hb hby d1_48) rfl (pc' := 50) rfl ?_
    refine R.iloadN X25 hx (hb hby d1_50) rfl (pc' := 51) rfl ?_
    refine R.iadd X25 hx (hb hby d1_51) (v := (1 : Int32)) (by decide) (pc' := 52) rfl ?_
    refine R.daload X25 hx hZ e25 V_b1 (⟨by decide, by decide⟩ : ¬ (1 : Int32) < 0 ∧ (1 : Int32) < (4 : Int32)) (v := (.double r20)) (getH_miss (by decide) (by decide) (getH_hit (by decide) (rfl))) (hb hby d1_52) (pc' := 53) rfl ?_
    refine R.aloadN X25 hx (hb hby d1_53) rfl rfl (pc' := 54) rfl ?_
    refine R.iloadN X25 hx (hb hby d1_54) rfl (pc' := 55) rfl ?_
    refine R.daload X25 hx hZ e25 V_a1 (⟨by decide, by decide⟩ : ¬ (1 : Int32) < 0 ∧ (1 : Int32) < (2 : Int32)) (v := (.double y1)) (vy1) (hb hby d1_55) (pc' := 56) rfl ?_
    have Y26 := (Dy.div (m := Q0) (n := 0) D_r20 Dy1 hL (bq0.lt (by decide)) (by decide) (by simp only [own_one]; omega))
    refine R.ddiv X25 hx (hb hby d1_56) (Y26.nn : NoNaN64 (FP.ddiv r20 y1)) (pc' := 57) rfl ?_
    show Rn p e below (T25.setTop (mkF m 57 #[.val (.ref a0), .val (.ref a1), .val (.int (1 : Int32)), .val (.ref b1), .val (.ref b3), .val (.int (0 : Int32)), .val (.int (2 : Int32))] [(.double (FP.ddiv r20 y1)), (.int (0 : Int32)), (.ref b3)])) G
    generalize hr27 : (FP.ddiv r20 y1) = r27
    have D_r27 : Dy r27 (Q0) 0 := hr27 ▸ Y26
    refine R.dastore X25 hx hZ e25 V_b3 (⟨by decide, by decide⟩ : ¬ (0 : Int32) < 0 ∧ (0 : Int32) < (3 : Int32)) (hb hby d1_57) (pc' := 58) rfl ?_; intro T28 h28 X28 e28 W28 V28
    have V_a0 := V_a0.other W28 ne_a0_b3
    have E_a0 := E_a0.wr W28
    have V_a1 := V_a1.other W28 ne_a1_b3
    have E_b1 := E_b1.wr W28
    have V_b1 := V_b1.other W28 ne_b1_b3
    have V_b3 : Arh Z h28 b3 k3 .double (3 : Int32) [((0 : Int32), (.double r27)), ((1 : Int32), (.double r16)), ((2 : Int32), (.double r5))] [] (.double (0 : UInt64)) := V28
    have N28 := Fr.snoc X28 N25 g_b3
    have K28 : Keep h0 h28 [] := K25.wr W28 (Or.inr sz_b3)
    have Z28 : n0 ≤ h28.size := Nat.le_trans Z25 (Keep.of_wr W28).1
    refine R.iconst X28 hx (hb hby d1_58) (v := (0 : Int32)) (by decide) (pc' := 59) rfl ?_
    refine R.istore X28 hx (hb hby d1_59) (L' := #[.val (.ref a0), .val (.ref a1), .val (.int (1 : Int32)), .val (.ref b1), .val (.ref b3), .val (.int (0 : Int32)), .val (.int (0 : Int32))]) rfl (pc' := 61) rfl ?_
    refine R.iload X28 hx (hb hby d1_61) rfl (pc' := 63) rfl ?_
    refine R.iloadN X28 hx (hb hby d1_63) rfl (pc' := 64) rfl ?_
    refine R.icmpNo X28 hx (hb hby d1_64) (flt (by decide : ¬ ((1 : Int32) < (0 : Int32)))).2.2.1 (pc' := 67) rfl ?_
    refine R.aloadN X28 hx (hb hby d1_67) rfl rfl (pc' := 68) rfl ?_
    refine R.iload X28 hx (hb hby d1_68) rfl (pc' := 70) rfl ?_
    refine R.iload X28 hx (hb hby d1_70) rfl (pc' := 72) rfl ?_
    refine R.iadd X28 hx (hb hby d1_72) (v := (0 : Int32)) (by decide) (pc' := 73) rfl ?_
    refine R.dup2 X28 hx (hb hby d1_73) rfl rfl (pc' := 74) rfl ?_
    refine R.daload X28 hx hZ e28 V_b1 (⟨by decide, by decide⟩ : ¬ (0 : Int32) < 0 ∧ (0 : Int32) < (4 : Int32)) (v := (.double x0)) (getH_miss (by decide) (by decide) (getH_miss (by decide) (by decide) (getH_miss (by decide) (by decide) (getH_miss (by decide) (by decide) (vx0))))) (hb hby d1_74) (pc' := 75) rfl ?_
    refine R.aload X28 hx (hb hby d1_75) rfl rfl (pc' := 77) rfl ?_
    refine R.iload X28 hx (hb hby d1_77) rfl (pc' := 79) rfl ?_
    refine R.daload X28 hx hZ e28 V_b3 (⟨by decide, by decide⟩ : ¬ (0 : Int32) < 0 ∧ (0 : Int32) < (3 : Int32)) (v := (.double r27)) (getH_hit (by decide) (rfl)) (hb hby d1_79) (pc' := 80) rfl ?_
    refine R.aloadN X28 hx (hb hby d1_80) rfl rfl (pc' := 81) rfl ?_
    refine R.iload X28 hx (hb hby d1_81) rfl (pc' := 83) rfl ?_
    refine R.daload X28 hx hZ e28 V_a1 (⟨by decide, by decide⟩ : ¬ (0 : Int32) < 0 ∧ (0 : Int32) < (2 : Int32)) (v := (.double y0)) (vy0) (hb hby d1_83) (pc' := 84) rfl ?_
    have Y29 := (Dy.mul D_r27 Dy0 ((own_ab.mul bq0 bd0).lt (by decide)) (by decide))
    refine R.dmul X28 hx (hb hby d1_84) (Y29.nn : NoNaN64 (FP.dmul r27 y0)) (pc' := 85) rfl ?_
    have Y30 := (Dy.sub Dx0 Y29 ((own_ab.sub ac0 (own_ab.mul bq0 bd0)).lt (by decide)) (by decide))
    refine R.dsub X28 hx (hb hby d1_85) (Y30.nn : NoNaN64 (FP.dsub x0 (FP.dmul r27 y0))) (pc' := 86) rfl ?_
    show Rn p e below (T28.setTop (mkF m 86 #[.val (.ref a0), .val (.ref a1), .val (.int (1 : Int32)), .val (.ref b1), .val (.ref b3), .val (.int (0 : Int32)), .val (.int (0 : Int32))] [(.double (FP.dsub x0 (FP.dmul r27 y0))), (.int (0 : Int32)), (.ref b1)])) G
    generalize hr31 : (FP.dsub x0 (FP.dmul r27 y0)) = r31
    have D_r31 : Dy r31 ((C0 - (Q0 * D0))) 0 := hr31 ▸ Y30
    have A_r31 : own_ab ((C0 - (Q0 * D0))) 32896 := (own_ab.sub ac0 (own_ab.mul bq0 bd0))
    refine R.dastore X28 hx hZ e28 V_b1 (⟨by decide, by decide⟩ : ¬ (0 : Int32) < 0 ∧ (0 : Int32) < (4 : Int32)) (hb hby d1_86) (pc' := 87) rfl ?_; intro T32 h32 X32 e32 W32 V32
    have V_a0 := V_a0.other W32 ne_a0_b1
    have E_a0 := E_a0.wr W32
    have V_a1 := V_a1.other W32 ne_a1_b1
    have E_b1 := E_b1.wr W32
    have V_b3 := V_b3.other W32 (Ne.symm ne_b1_b3)
    have V_b1 : Arh Z h32 b1 ka .double (4 : Int32) (((0 : Int32), (.double r31)) :: ((2 : Int32), (.double r24)) :: ((1 : Int32), (.double r20)) :: ((3 : Int32), (.double r13)) :: ((2 : Int32), (.double r9)) :: ha) [] (.double (0 : UInt64)) := V32
    have N32 := Fr.snoc X32 N28 g_b1
    have K32 : Keep h0 h32 [] := K28.wr W32 (Or.inr sz_b1)
    have Z32 : n0 ≤ h32.size := Nat.le_trans Z28 (Keep.of_wr W32).1
    refine R.iinc X32 hx (hb hby d1_87) rfl (L' := #[.val (.ref a0), .val (.ref a1), .val (.int (1 : Int32)), .val (.ref b1), .val (.ref b3), .val (.int (0 : Int32)), .val (.int (1 : Int32))]) rfl (pc' := 90) rfl ?_
    refine R.goto X32 hx (hb hby d1_90) (by decide) (pc' := 61) (by decide) ?_
    refine R.iload X32 hx (hb hby d1_61) rfl (pc' := 63) rfl ?_
    refine R.iloadN X32 hx (hb hby d1_63) rfl (pc' := 64) rfl ?_
    refine R.icmpNo X32 hx (hb hby d1_64) (flt (by decide : ¬ ((1 : Int32) < (1 : Int32)))).2.2.1 (pc' := 67) rfl ?_
    refine R.aloadN X32 hx (hb hby d1_67) rfl rfl (pc' := 68) rfl ?_
    refine R.iload X32 hx (hb hby d1_68) rfl (pc' := 70) rfl ?_
    refine R.iload X32 hx (hb hby d1_70) rfl (pc' := 72) rfl ?_
    refine R.iadd X32 hx (hb hby d1_72) (v := (1 : Int32)) (by decide) (pc' := 73) rfl ?_
    refine R.dup2 X32 hx (hb hby d1_73) rfl rfl (pc' := 74) rfl ?_
    refine R.daload X32 hx hZ e32 V_b1 (⟨by decide, by decide⟩ : ¬ (1 : Int32) < 0 ∧ (1 : Int32) < (4 : Int32)) (v := (.double r20)) (getH_miss (by decide) (by decide) (getH_miss (by decide) (by decide) (getH_hit (by decide) (rfl)))) (hb hby d1_74) (pc' := 75) rfl ?_
    refine R.aload X32 hx (hb hby d1_75) rfl rfl (pc' := 77) rfl ?_
    refine R.iload X32 hx (hb hby d1_77) rfl (pc' := 79) rfl ?_
    refine R.daload X32 hx hZ e32 V_b3 (⟨by decide, by decide⟩ : ¬ (0 : Int32) < 0 ∧ (0 : Int32) < (3 : Int32)) (v := (.double r27)) (getH_hit (by decide) (rfl)) (hb hby d1_79) (pc' := 80) rfl ?_
    refine R.aloadN X32 hx (hb hby d1_80) rfl rfl (pc' := 81) rfl ?_
    refine R.iload X32 hx (hb hby d1_81) rfl (pc' := 83) rfl ?_
    refine R.daload X32 hx hZ e32 V_a1 (⟨by decide, by decide⟩ : ¬ (1 : Int32) < 0 ∧ (1 : Int32) < (2 : Int32)) (v := (.double y1)) (vy1) (hb hby d1_83) (pc' := 84) rfl ?_
    have Y33 := (Dy.mul D_r27 Dy1 ((own_ab.mul bq0 bd1).lt (by decide)) (by decide))
    refine R.dmul X32 hx (hb hby d1_84) (Y33.nn : NoNaN64 (FP.dmul r27 y1)) (pc' := 85) rfl ?_
    have Y34 := (Dy.sub D_r20 Y33 ((own_ab.sub A_r20 (own_ab.mul bq0 bd1)).lt (by decide)) (by decide))
    refine R.dsub X32 hx (hb hby d1_85) (Y34.nn : NoNaN64 (FP.dsub r20 (FP.dmul r27 y1))) (pc' := 86) rfl ?_
    show Rn p e below (T32.setTop (mkF m 86 #[.val (.ref a0), .val (.ref a1), .val (.int (1 : Int32)), .val (.ref b1), .val (.ref b3), .val (.int (0 : Int32)), .val (.int (1 : Int32))] [(.double (FP.dsub r20 (FP.dmul r27 y1))), (.int (1 : Int32)), (.ref b1)])) G
    generalize hr35 : (FP.dsub r20 (FP.dmul r27 y1)) = r35
    have D_r35 : Dy r35 (((C1 - (Q1 * D0)) - (Q0 * D1))) 0 := hr35 ▸ Y34
    have A_r35 : own_ab (((C1 - (Q1 * D0)) - (Q0 * D1))) 65536 := (own_ab.sub A_r20 (own_ab.mul bq0 bd1))
    refine R.dastore X32 hx hZ e32 V_b1 (⟨by decide, by decide⟩ : ¬ (1 : Int32) < 0 ∧ (1 : Int32) < (4 : Int32)) (hb hby d1_86) (pc' := 87) rfl ?_; intro T36 h36 X36 e36 W36 V36
    have V_a0 := V_a0.other W36 ne_a0_b1
    have E_a0 := E_a0.wr W36
    have V_a1 := V_a1.other W36 ne_a1_b1
    have E_b1 := E_b1.wr W36
    have V_b3 := V_b3.other W36 (Ne.symm ne_b1_b3)
    have V_b1 : Arh Z h36 b1 ka .double (4 : Int32) (((1 : Int32), (.double r35)) :: ((0 : Int32), (.double r31)) :: ((2 : Int32), (.double r24)) :: ((1 : Int32), (.double r20)) :: ((3 : Int32), (.double r13)) :: ((2 : Int32), (.double r9)) :: ha) [] (.double (0 : UInt64)) := V36
    have N36 := Fr.snoc X36 N32 g_b1
    have K36 : Keep h0 h36 [] := K32.wr W36 (Or.inr sz_b1)
    have Z36 : n0 ≤ h36.size := Nat.le_trans Z32 (Keep.of_wr W36).1
    refine R.iinc X36 hx (hb hby d1_87) rfl (L' := #[.val (.ref a0), .val (.ref a1), .val (.int (1 : Int32)), .val (.ref b1), .val (.ref b3), .val (.int (0 : Int32)), .val (.int (2 : Int32))]) rfl (pc' := 90) rfl ?_
    refine R.goto X36 hx (hb hby d1_90) (by decide) (pc' := 61) (by decide) ?_
    refine R.iload X36 hx (hb hby d1_61) rfl (pc' := 63) rfl ?_
    refine R.iloadN X36 hx (hb hby d1_63) rfl (pc' := 64) rfl ?_
    refine R.icmpYes X36 hx (hb hby d1_64) (tlt (by decide : (1 : Int32) < (2 : Int32))).2.2.1 (by decide) (pc' := 93) (by decide) ?_
    refine R.iinc X36 hx (hb hby d1_93) rfl (L' := #[.val (.ref a0), .val (.ref a1), .val (.int (1 : Int32)), .val (.ref b1), .val (.ref b3), .val (.int (-1 : Int32)), .val (.int (2 : Int32))]) rfl (pc' := 96) rfl ?_
    refine R.goto X36 hx (hb hby d1_96) (by decide) (pc' := 38) (by decide) ?_
    refine R.iload X36 hx (hb hby d1_38) rfl (pc' := 40) rfl ?_
    refine R.ifYes X36 hx (hb hby d1_40) (tlt (by decide : (-1 : Int32) < (0 : Int32))).1 (by decide) (pc' := 99) (by decide) ?_
    refine R.aload X36 hx (hb hby d1_99) rfl rfl (pc' := 101) rfl ?_
    rw [← hG]
    exact Rn.ret X36 (BodyLoose.notSynchronized Bd) (v := some (.ref b3)) (fun h => by rw [Bd.returns] at h; cases h) (Q := Qqq23 Z a0 a1 ka kb ha hbb x0 x1 x2 x3 y0 y1 C0 C1 C2 C3 D0 D1 Q0 Q1 Q2 R0 h0 n0) e36 (fun fs hr => retOut X36 hx (t := (.array .double)) Bd.returns rfl (Or.inr (Or.inr (Or.inr (Or.inr ⟨rfl, rfl, rfl⟩)))) (hb hby d1_101) hr) ⟨b3, k3, [((0 : Int32), (.double r27)), ((1 : Int32), (.double r16)), ((2 : Int32), (.double r5))], rfl, N36, K36, sz_b3, V_b3, ⟨_, getH_hit (by decide) (rfl), D_r27⟩, ⟨_, getH_miss (by decide) (by decide) (getH_hit (by decide) (rfl)), D_r16⟩, ⟨_, getH_miss (by decide) (by decide) (getH_miss (by decide) (by decide) (getH_hit (by decide) (rfl))), D_r5⟩⟩ (by decide) (by decide)
  exact (Rn.st (fun t k => castTop (ef_qq23 m a0 a1) k) first_ : Rn p e below (s₁.setTop (entryFrame m #[(.ref a0), (.ref a1)] 7)) (Fnqq23 Z a0 a1 ka kb ha hbb x0 x1 x2 x3 y0 y1 C0 C1 C2 C3 D0 D1 Q0 Q1 Q2 R0 h0 n0 s))
theorem ef_qq31 (m : MethodId) (x0 : Addr) (x1 : Addr) : entryFrame m #[(.ref x0), (.ref x1)] 7 = mkF m 0 #[.val (.ref x0), .val (.ref x1), .unset, .unset, .unset, .unset, .unset] [] := by first | (simp [entryFrame, mkF, argsToLocals, Value.category]; done) | rfl
def Qqq31 (Z : State) (a0 : Addr) (a1 : Addr) (ka : ClassId) (kb : ClassId) (ha : List (Int32 × Value)) (hbb : List (Int32 × Value)) (x0 : UInt64) (x1 : UInt64) (x2 : UInt64) (y0 : UInt64) (y1 : UInt64) (y2 : UInt64) (C0 : Int) (C1 : Int) (C2 : Int) (D0 : Int) (D1 : Int) (D2 : Int) (Q0 : Int) (R0 : Int) (R1 : Int) (h0 : Heap) (n0 : Nat) (vQ : Option Value) (hQ_ : Heap) (LQ : List Loc) : Prop := ∃ r : Addr, ∃ kr : ClassId, ∃ hr : List (Int32 × Value), vQ = some (.ref r) ∧ Fr n0 LQ ∧ Keep h0 hQ_ [] ∧ (h0.size ≤ r) ∧ (Arh Z hQ_ r kr .double (1 : Int32) hr [] (.double (0 : UInt64))) ∧ (∃ v : UInt64, getH hr [] (.double (0 : UInt64)) ((0 : Int32)).toNatClampNeg = (.double v) ∧ Dy v Q0 0)
def Fnqq31 (Z : State) (a0 : Addr) (a1 : Addr) (ka : ClassId) (kb : ClassId) (ha : List (Int32 × Value)) (hbb : List (Int32 × Value)) (x0 : UInt64) (x1 : UInt64) (x2 : UInt64) (y0 : UInt64) (y1 : UInt64) (y2 : UInt64) (C0 : Int) (C1 : Int) (C2 : Int) (D0 : Int) (D1 : Int) (D2 : Int) (Q0 : Int) (R0 : Int) (R1 : Int) (h0 : Heap) (n0 : Nat) (sQ : State) (oQ : Outcome) (UQ : State) : Prop := ∃ vQ LQ, oQ = .returned vQ ∧ Qqq31 Z a0 a1 ka kb ha hbb x0 x1 x2 y0 y1 y2 C0 C1 C2 D0 D1 D2 Q0 R0 R1 h0 n0 vQ UQ.heap LQ ∧ FrameEnd sQ oQ UQ LQ ({ frames := 1, cells := 2, slots := 6, locals := 14 } : Room).cells ({ frames := 1, cells := 2, slots := 6, locals := 14 } : Room).slots
set_option maxRecDepth 65536 in
set_option maxHeartbeats 40000000 in
theorem rmqq31 (l : Launch) (Z : State) (aZ : Array Value) (hw : ∀ d ∈ tables_1, d.before aZ Z = true) (ws : List Jvm.Cond) (a0 : Addr) (a1 : Addr) (ka : ClassId) (kb : ClassId) (ha : List (Int32 × Value)) (hbb : List (Int32 × Value)) (x0 : UInt64) (x1 : UInt64) (x2 : UInt64) (y0 : UInt64) (y1 : UInt64) (y2 : UInt64) (C0 : Int) (C1 : Int) (C2 : Int) (D0 : Int) (D1 : Int) (D2 : Int) (Q0 : Int) (R0 : Int) (R1 : Int) (h0 : Heap) (n0 : Nat) (Z0 : n0 ≤ h0.size) (V_a0 : Arh Z h0 a0 ka .double (3 : Int32) ha [] (.double (0 : UInt64))) (E_a0 : Exa Z h0 a0 "[D") (V_a1 : Arh Z h0 a1 kb .double (3 : Int32) hbb [] (.double (0 : UInt64))) (vx0 : getH ha [] (.double (0 : UInt64)) ((0 : Int32)).toNatClampNeg = (.double x0)) (Dx0 : Dy x0 C0 0) (vx1 : getH ha [] (.double (0 : UInt64)) ((1 : Int32)).toNatClampNeg = (.double x1)) (Dx1 : Dy x1 C1 0) (vx2 : getH ha [] (.double (0 : UInt64)) ((2 : Int32)).toNatClampNeg = (.double x2)) (Dx2 : Dy x2 C2 0) (vy0 : getH hbb [] (.double (0 : UInt64)) ((0 : Int32)).toNatClampNeg = (.double y0)) (Dy0 : Dy y0 D0 0) (vy1 : getH hbb [] (.double (0 : UInt64)) ((1 : Int32)).toNatClampNeg = (.double y1)) (Dy1 : Dy y1 D1 0) (vy2 : getH hbb [] (.double (0 : UInt64)) ((2 : Int32)).toNatClampNeg = (.double y2)) (Dy2 : Dy y2 D2 0) (el0 : C0 = Q0 * D0 + R0) (el1 : C1 = Q0 * D1 + R1) (el2 : C2 = Q0 * D2) (hL : D2 ≠ 0) (bd0 : own_ab D0 128) (bd1 : own_ab D1 128) (bd2 : own_ab D2 128) (bq0 : own_ab Q0 128) (br0 : own_ab R0 128) (br1 : own_ab R1 128) :
    MetFree l (⟨"com/example/deseason/deseason/arima/Polynomials", "quotient", "([D[D)[D"⟩ : MethodName) (head1 (Jvm.Cond.code (⟨"com/example/deseason/deseason/arima/Polynomials", "quotient", "([D[D)[D"⟩ : MethodName) prog_10_method_6_code 7 (some (.array .double)) :: ws) ({ frames := 1, cells := 2, slots := 6, locals := 14 } : Room)) (fun aQ UQ => aQ = #[(.ref a0), (.ref a1)] ∧ Z.Warmed39 UQ.vm ∧ UQ.heap = h0) (fun _ _ _ _ _ => True) (fun _ UQ oQ UR => ∃ vQ LQ, oQ = .returned vQ ∧ Qqq31 Z a0 a1 ka kb ha hbb x0 x1 x2 y0 y1 y2 C0 C1 C2 D0 D1 D2 Q0 R0 R1 h0 n0 vQ UR.heap LQ ∧ FrameEnd UQ oQ UR LQ ({ frames := 1, cells := 2, slots := 6, locals := 14 } : Room).cells ({ frames := 1, cells := 2, slots := 6, locals := 14 } : Room).slots) := by
  refine MetFree.of_bodySF (plainFor_of_name pn_1) hisR ?_
  intro p e s m args below meth c s₁ Bd hml0 hP hK
  obtain ⟨rfl, hZ, hh⟩ := hP
  have hx := Bd.exec
  have hby := Bd.bytes
  have hml : c.maxLocals = 7 := hml0
  have hown : s.vm.findClass "com/example/deseason/deseason/arima/Polynomials" = some m.cls := findClass_of_methodNamed Bd.named
  have hnm := (name_of_methodNamed Bd.named Bd.method).1
  have X0 : Stand p l e ({ frames := 1, cells := 2, slots := 6, locals := 14 } : Room) s m #[(.ref a0), (.ref a1)] below meth c s₁ [] 0 0 := Stand.of_body Bd
  have e0 : s₁.heap = h0 := by rw [← hh, Bd.state]; rfl
  have N0 := Fr.nil n0
  have K0 : Keep h0 h0 [] := Keep.refl _ _
  have w_1 := hw _ (List.mem_of_getElem? (i := 1) rfl)
  have w_16 := hw _ (List.mem_of_getElem? (i := 16) rfl)
  have w_17 := hw _ (List.mem_of_getElem? (i := 17) rfl)
  have w_19 := hw _ (List.mem_of_getElem? (i := 19) rfl)
  have w_20 := hw _ (List.mem_of_getElem? (i := 20) rfl)
  have w_21 := hw _ (List.mem_of_getElem? (i := 21) rfl)
  have w_22 := hw _ (List.mem_of_getElem? (i := 22) rfl)
  have w_23 := hw _ (List.mem_of_getElem? (i := 23) rfl)
  have first_ : Rn p e below (s₁.setTop (mkF m 0 #[.val (.ref a0), .val (.ref a1), .unset, .unset, .unset, .unset, .unset] [])) (Fnqq31 Z a0 a1 ka kb ha hbb x0 x1 x2 y0 y1 y2 C0 C1 C2 D0 D1 D2 Q0 R0 R1 h0 n0 s) := by
    generalize hG : (Fnqq31 Z a0 a1 ka kb ha hbb x0 x1 x2 y0 y1 y2 C0 C1 C2 D0 D1 D2 Q0 R0 R1 h0 n0 s) = G
    have ac0 : own_ab C0 16512 := el0 ▸ (own_ab.add (own_ab.mul bq0 bd0) br0)
    have ac1 : own_ab C1 16512 := el1 ▸ (own_ab.add (own_ab.mul bq0 bd1) br1)
    have ac2 : own_ab C2 16384 := el2 ▸ (own_ab.mul bq0 bd2)
    refine R.aloadN X0 hx (hb hby d1_0) rfl rfl (pc' := 1) rfl ?_
    refine R.alen X0 hx hZ e0 V_a1 (hb hby d1_1) (pc' := 2) rfl ?_
    refine R.iconst X0 hx (hb hby d1_2) (v := (1 : Int32)) (by decide) (pc' := 3) rfl ?_
    refine R.isub X0 hx (hb hby d1_3) (v := (2 : Int32)) (by decide) (pc' := 4) rfl ?_
    refine R.istoreN X0 hx (hb hby d1_4) (L' := #[.val (.ref a0), .val (.ref a1), .val (.int (2 : Int32)), .unset, .unset, .unset, .unset]) rfl (pc' := 5) rfl ?_
    refine R.aloadN X0 hx (hb hby d1_5) rfl rfl (pc' := 6) rfl ?_
    refine R.alen X0 hx hZ e0 V_a0 (hb hby d1_6) (pc' := 7) rfl ?_
    refine R.iloadN X0 hx (hb hby d1_7) rfl (pc' := 8) rfl ?_
    refine R.icmpYes X0 hx (hb hby d1_8) (tlt (by decide : (2 : Int32) < (3 : Int32))).2.2.1 (by decide) (pc' := 15) (by decide) ?_
    refine R.aloadN X0 hx (hb hby d1_15) rfl rfl (pc' := 16) rfl ?_
    show Rn p e below (s₁.setTop (mkF m 16 #[.val (.ref a0), .val (.ref a1), .val (.int (2 : Int32)), .unset, .unset, .unset, .unset] [(.ref a0)])) G
    obtain ⟨T1, h1, X1, e1, E1, V1, EE1, st1⟩ := cloneH X0 hx hZ hown (ad := "[D") w_16 w_17 w_21 w_19 w_20 w_22 e0 V_a0 E_a0 (g := (mkF m 16 #[.val (.ref a0), .val (.ref a1), .val (.int (2 : Int32)), .unset, .unset, .unset, .unset] [(.ref a0)])) rfl (by rw [hml]; rfl) rfl (hb hby d1_16) (by decide) (W := 0) (cap := 5) (by show 2 * 0 + _ ≤ _; exact Nat.le_of_eq rfl) (by decide) (by decide) (by decide) (by decide)
    obtain ⟨b1, g1⟩ : ∃ z, z = h0.size := ⟨_, rfl⟩
    rw [← g1] at V1 EE1 st1
    have g_b1 : n0 ≤ b1 := Nat.le_trans Z0 (Nat.le_of_eq g1.symm)
    have sz_b1 : h0.size ≤ b1 := Nat.le_trans K0.1 (Nat.le_of_eq g1.symm)
    have ne_a0_b1 : a0 ≠ b1 := Nat.ne_of_lt (Nat.lt_of_lt_of_le V_a0.lt (Nat.le_of_eq g1.symm))
    have ne_a1_b1 : a1 ≠ b1 := Nat.ne_of_lt (Nat.lt_of_lt_of_le V_a1.lt (Nat.le_of_eq g1.symm))
    have K1 : Keep h0 h1 [] := K0.ext E1
    have Z1 : n0 ≤ h1.size := Nat.le_trans Z0 E1.1
    have V_a0 := V_a0.ext E1
    have E_a0 := E_a0.ext E1
    have V_a1 := V_a1.ext E1
    have V_b1 : Arh Z h1 b1 ka .double (3 : Int32) ha [] (.double (0 : UInt64)) := V1
    have E_b1 : Exa Z h1 b1 "[D" := EE1
    refine Rn.st st1 ?_
    show Rn p e below (T1.setTop (mkF m 19 #[.val (.ref a0), .val (.ref a1), .val (.int (2 : Int32)), .unset, .unset, .unset, .unset] [(.ref b1)])) G
    refine R.castY X1 hx hZ hown w_23 e1 (Ins.self E_b1) (hb hby d1_19) (pc' := 22) rfl ?_; intro T2 X2 e2
    refine R.astoreN X2 hx (hb hby d1_22) rfl (L' := #[.val (.ref a0), .val (.ref a1), .val (.int (2 : Int32)), .val (.ref b1), .unset, .unset, .unset]) rfl (pc' := 23) rfl ?_
    refine R.aloadN X2 hx (hb hby d1_23) rfl rfl (pc' := 24) rfl ?_
    refine R.alen X2 hx hZ e2 V_a0 (hb hby d1_24) (pc' := 25) rfl ?_
    refine R.iloadN X2 hx (hb hby d1_25) rfl (pc' := 26) rfl ?_
    refine R.isub X2 hx (hb hby d1_26) (v := (1 : Int32)) (by decide) (pc' := 27) rfl ?_
    refine R.newP X2 hx hZ (ty := .double) rfl w_1 e2 (by decide) (cap := 1) (by decide) (by decide) (ad := "[D") (by decide) (hb hby d1_27) (pc' := 29) rfl (by decide) (by decide) ?_; intro T3 h3 b3 k3 g3 X3 e3 E3 EE3 AA3
    have g_b3 : n0 ≤ b3 := Nat.le_trans Z1 (Nat.le_of_eq g3.symm)
    have sz_b3 : h0.size ≤ b3 := Nat.le_trans K1.1 (Nat.le_of_eq g3.symm)
    have ne_a0_b3 : a0 ≠ b3 := Nat.ne_of_lt (Nat.lt_of_lt_of_le V_a0.lt (Nat.le_of_eq g3.symm))
    have ne_a1_b3 : a1 ≠ b3 := Nat.ne_of_lt (Nat.lt_of_lt_of_le V_a1.lt (Nat.le_of_eq g3.symm))
    have ne_b1_b3 : b1 ≠ b3 := Nat.ne_of_lt (Nat.lt_of_lt_of_le V_b1.lt (Nat.le_of_eq g3.symm))
    have K3 : Keep h0 h3 [] := K1.ext E3
    have Z3 : n0 ≤ h3.size := Nat.le_trans Z1 E3.1
    have V_a0 := V_a0.ext E3
    have E_a0 := E_a0.ext E3
    have V_a1 := V_a1.ext E3
    have V_b1 := V_b1.ext E3
    have E_b1 := E_b1.ext E3
    have V_b3 : Arh Z h3 b3 k3 .double (1 : Int32) [] [] (.double (0 : UInt64)) := AA3
    refine R.astore X3 hx (hb hby d1_29) rfl (L' := #[.val (.ref a0), .val (.ref a1), .val (.int (2 : Int32)), .val (.ref b1), .val (.ref b3), .unset, .unset]) rfl (pc' := 31) rfl ?_
    refine R.aload X3 hx (hb hby d1_31) rfl rfl (pc' := 33) rfl ?_
    refine R.alen X3 hx hZ e3 V_b3 (hb hby d1_33) (pc' := 34) rfl ?_
    refine R.iconst X3 hx (hb hby d1_34) (v := (1 : Int32)) (by decide) (pc' := 35) rfl ?_
    refine R.isub X3 hx (hb hby d1_35) (v := (0 : Int32)) (by decide) (pc' := 36) rfl ?_
    refine R.istore X3 hx (hb hby d1_36) (L' := #[.val (.ref a0), .val (.ref a1), .val (.int (2 : Int32)), .val (.ref b1), .val (.ref b3), .val (.int (0 : Int32)), .unset]) rfl (pc' := 38) rfl ?_
    refine R.iload X3 hx (hb hby d1_38) rfl (pc' := 40) rfl ?_
    refine R.ifNo X3 hx (hb hby d1_40) (flt (by decide : ¬ ((0 : Int32) < (0 : Int32)))).1 (pc' := 43) rfl ?_
    refine R.aload X3 hx (hb hby d1_43) rfl rfl (pc' := 45) rfl ?_
    refine R.iload X3 hx (hb hby d1_45) rfl (pc' := 47) rfl ?_
    refine R.aloadN X3 hx (hb hby d1_47) rfl rfl (pc' := 48) rfl ?_
    refine R.iload X3 hx (hb hby d1_48) rfl (pc' := 50) rfl ?_
    refine R.iloadN X3 hx (hb hby d1_50) rfl (pc' := 51) rfl ?_
    refine R.iadd X3 hx (hb hby d1_51) (v := (2 : Int32)) (by decide) (pc' := 52) rfl ?_
    refine R.daload X3 hx hZ e3 V_b1 (⟨by decide, by decide⟩ : ¬ (2 : Int32) < 0 ∧ (2 : Int32) < (3 : Int32)) (v := (.double x2)) (vx2) (hb hby d1_52) (pc' := 53) rfl ?_
    refine R.aloadN X3 hx (hb hby d1_53) rfl rfl (pc' := 54) rfl ?_
    refine R.iloadN X3 hx (hb hby d1_54) rfl (pc' := 55) rfl ?_
    refine R.daload X3 hx hZ e3 V_a1 (⟨by decide, by decide⟩ : ¬ (2 : Int32) < 0 ∧ (2 : Int32) < (3 : Int32)) (v := (.double y2)) (vy2) (hb hby d1_55) (pc' := 56) rfl ?_
    have Y4 := (Dy.div (m := Q0) (n := 0) Dx2 Dy2 hL (bq0.lt (by decide)) (by decide) (by simp only [own_one]; omega))
    refine R.ddiv X3 hx (hb hby d1_56) (Y4.nn : NoNaN64 (FP.ddiv x2 y2)) (pc' := 57) rfl ?_
    show Rn p e below (T3.setTop (mkF m 57 #[.val (.ref a0), .val (.ref a1), .val (.int (2 : Int32)), .val (.ref b1), .val (.ref b3), .val (.int (0 : Int32)), .unset] [(.double (FP.ddiv x2 y2)), (.int (0 : Int32)), (.ref b3)])) G
    generalize hr5 : (FP.ddiv x2 y2) = r5
    have D_r5 : Dy r5 (Q0) 0 := hr5 ▸ Y4
    refine R.dastore X3 hx hZ e3 V_b3 (⟨by decide, by decide⟩ : ¬ (0 : Int32) < 0 ∧ (0 : Int32) < (1 : Int32)) (hb hby d1_57) (pc' := 58) rfl ?_; intro T6 h6 X6 e6 W6 V6
    have V_a0 := V_a0.other W6 ne_a0_b3
    have E_a0 := E_a0.wr W6
    have V_a1 := V_a1.other W6 ne_a1_b3
    have V_b1 := V_b1.other W6 ne_b1_b3
    have E_b1 := E_b1.wr W6
    have V_b3 : Arh Z h6 b3 k3 .double (1 : Int32) [((0 : Int32), (.double r5))] [] (.double (0 : UInt64)) := V6
    have N6 := Fr.snoc X6 N0 g_b3
    have K6 : Keep h0 h6 [] := K3.wr W6 (Or.inr sz_b3)
    have Z6 : n0 ≤ h6.size := Nat.le_trans Z3 (Keep.of_wr W6).1
    refine R.iconst X6 hx (hb hby d1_58) (v := (0 : Int32)) (by decide) (pc' := 59) rfl ?_
    refine R.istore X6 hx (hb hby d1_59) (L' := #[.val (.ref a0), .val (.ref a1), .val (.int (2 : Int32)), .val (.ref b1), .val (.ref b3), .val (.int (0 : Int32)), .val (.int (0 : Int32))]) rfl (pc' := 61) rfl ?_
    refine R.iload X6 hx (hb hby d1_61) rfl (pc' := 63) rfl ?_
    refine R.iloadN X6 hx (hb hby d1_63) rfl (pc' := 64) rfl ?_
    refine R.icmpNo X6 hx (hb hby d1_64) (flt (by decide : ¬ ((2 : Int32) < (0 : Int32)))).2.2.1 (pc' := 67) rfl ?_
    refine R.aloadN X6 hx (hb hby d1_67) rfl rfl (pc' := 68) rfl ?_
    refine R.iload X6 hx (hb hby d1_68) rfl (pc' := 70) rfl ?_
    refine R.iload X6 hx (hb hby d1_70) rfl (pc' := 72) rfl ?_
    refine R.iadd X6 hx (hb hby d1_72) (v := (0 : Int32)) (by decide) (pc' := 73) rfl ?_
    refine R.dup2 X6 hx (hb hby d1_73) rfl rfl (pc' := 74) rfl ?_
    refine R.daload X6 hx hZ e6 V_b1 (⟨by decide, by decide⟩ : ¬ (0 : Int32) < 0 ∧ (0 : Int32) < (3 : Int32)) (v := (.double x0)) (vx0) (hb hby d1_74) (pc' := 75) rfl ?_
    refine R.aload X6 hx (hb hby d1_75) rfl rfl (pc' := 77) rfl ?_
    refine R.iload X6 hx (hb hby d1_77) rfl (pc' := 79) rfl ?_
    refine R.daload X6 hx hZ e6 V_b3 (⟨by decide, by decide⟩ : ¬ (0 : Int32) < 0 ∧ (0 : Int32) < (1 : Int32)) (v := (.double r5)) (getH_hit (by decide) (rfl)) (hb hby d1_79) (pc' := 80) rfl ?_
    refine R.aloadN X6 hx (hb hby d1_80) rfl rfl (pc' := 81) rfl ?_
    refine R.iload X6 hx (hb hby d1_81) rfl (pc' := 83) rfl ?_
    refine R.daload X6 hx hZ e6 V_a1 (⟨by decide, by decide⟩ : ¬ (0 : Int32) < 0 ∧ (0 : Int32) < (3 : Int32)) (v := (.double y0)) (vy0) (hb hby d1_83) (pc' := 84) rfl ?_
    have Y7 := (Dy.mul D_r5 Dy0 ((own_ab.mul bq0 bd0).lt (by decide)) (by decide))
    refine R.dmul X6 hx (hb hby d1_84) (Y7.nn : NoNaN64 (FP.dmul r5 y0)) (pc' := 85) rfl ?_
    have Y8 := (Dy.sub Dx0 Y7 ((own_ab.sub ac0 (own_ab.mul bq0 bd0)).lt (by decide)) (by decide))
    refine R.dsub X6 hx (hb hby d1_85) (Y8.nn : NoNaN64 (FP.dsub x0 (FP.dmul r5 y0))) (pc' := 86) rfl ?_
    show Rn p e below (T6.setTop (mkF m 86 #[.val (.ref a0), .val (.ref a1), .val (.int (2 : Int32)), .val (.ref b1), .val (.ref b3), .val (.int (0 : Int32)), .val (.int (0 : Int32))] [(.double (FP.dsub x0 (FP.dmul r5 y0))), (.int (0 : Int32)), (.ref b1)])) G
    generalize hr9 : (FP.dsub x0 (FP.dmul r5 y0)) = r9
    have D_r9 : Dy r9 ((C0 - (Q0 * D0))) 0 := hr9 ▸ Y8
    have A_r9 : own_ab ((C0 - (Q0 * D0))) 32896 := (own_ab.sub ac0 (own_ab.mul bq0 bd0))
    refine R.dastore X6 hx hZ e6 V_b1 (⟨by decide, by decide⟩ : ¬ (0 : Int32) < 0 ∧ (0 : Int32) < (3 : Int32)) (hb hby d1_86) (pc' := 87) rfl ?_; intro T10 h10 X10 e10 W10 V10
    have V_a0 := V_a0.other W10 ne_a0_b1
    have E_a0 := E_a0.wr W10
    have V_a1 := V_a1.other W10 ne_a1_b1
    have E_b1 := E_b1.wr W10
    have V_b3 := V_b3.other W10 (Ne.symm ne_b1_b3)
    have V_b1 : Arh Z h10 b1 ka .double (3 : Int32) (((0 : Int32), (.double r9)) :: ha) [] (.double (0 : UInt64)) := V10
    have N10 := Fr.snoc X10 N6 g_b1
    have K10 : Keep h0 h10 [] := K6.wr W10 (Or.inr sz_b1)
    have Z10 : n0 ≤ h10.size := Nat.le_trans Z6 (Keep.of_wr W10).1
    refine R.iinc X10 hx (hb hby d1_87) rfl (L' := #[.val (.ref a0), .val (.ref a1), .val (.int (2 : Int32)), .val (.ref b1), .val (.ref b3), .val (.int (0 : Int32)), .val (.int (1 : Int32))]) rfl (pc' := 90) rfl ?_
    refine R.goto X10 hx (hb hby d1_90) (by decide) (pc' := 61) (by decide) ?_
    refine R.iload X10 hx (hb hby d1_61) rfl (pc' := 63) rfl ?_
    refine R.iloadN X10 hx (hb hby d1_63) rfl (pc' := 64) rfl ?_
    refine R.icmpNo X10 hx (hb hby d1_64) (flt (by decide : ¬ ((2 : Int32) < (1 : Int32)))).2.2.1 (pc' := 67) rfl ?_
    refine R.aloadN X10 hx (hb hby d1_67) rfl rfl (pc' := 68) rfl ?_
    refine R.iload X10 hx (hb hby d1_68) rfl (pc' := 70) rfl ?_
    refine R.iload X10 hx (hb hby d1_70) rfl (pc' := 72) rfl ?_
    refine R.iadd X10 hx (hb hby d1_72) (v := (1 : Int32)) (by decide) (pc' := 73) rfl ?_
    refine R.dup2 X10 hx (hb hby d1_73) rfl rfl (pc' := 74) rfl ?_
    refine R.daload X10 hx hZ e10 V_b1 (⟨by decide, by decide⟩ : ¬ (1 : Int32) < 0 ∧ (1 : Int32) < (3 : Int32)) (v := (.double x1)) (getH_miss (by decide) (by decide) (vx1)) (hb hby d1_74) (pc' := 75) rfl ?_
    refine R.aload X10 hx (hb hby d1_75) rfl rfl (pc' := 77) rfl ?_
    refine R.iload X10 hx (hb hby d1_77) rfl (pc' := 79) rfl ?_
    refine R.daload X10 hx hZ e10 V_b3 (⟨by decide, by decide⟩ : ¬ (0 : Int32) < 0 ∧ (0 : Int32) < (1 : Int32)) (v := (.double r5)) (getH_hit (by decide) (rfl)) (hb hby d1_79) (pc' := 80) rfl ?_
    refine R.aloadN X10 hx (hb hby d1_80) rfl rfl (pc' := 81) rfl ?_
    refine R.iload X10 hx (hb hby d1_81) rfl (pc' := 83) rfl ?_
    refine R.daload X10 hx hZ e10 V_a1 (⟨by decide, by decide⟩ : ¬ (1 : Int32) < 0 ∧ (1 : Int32) < (3 : Int32)) (v := (.double y1)) (vy1) (hb hby d1_83) (pc' := 84) rfl ?_
    have Y11 := (Dy.mul D_r5 Dy1 ((own_ab.mul bq0 bd1).lt (by decide)) (by decide))
    refine R.dmul X10 hx (hb hby d1_84) (Y11.nn : NoNaN64 (FP.dmul r5 y1)) (pc' := 85) rfl ?_
    have Y12 := (Dy.sub Dx1 Y11 ((own_ab.sub ac1 (own_ab.mul bq0 bd1)).lt (by decide)) (by decide))
    refine R.dsub X10 hx (hb hby d1_85) (Y12.nn : NoNaN64 (FP.dsub x1 (FP.dmul r5 y1))) (pc' := 86) rfl ?_
    show Rn p e below (T10.setTop (mkF m 86 #[.val (.ref a0), .val (.ref a1), .val (.int (2 : Int32)), .val (.ref b1), .val (.ref b3), .val (.int (0 : Int32)), .val (.int (1 : Int32))] [(.double (FP.dsub x1 (FP.dmul r5 y1))), (.int (1 : Int32)), (.ref b1)])) G
    generalize hr13 : (FP.dsub x1 (FP.dmul r5 y1)) = r13
    have D_r13 : Dy r13 ((C1 - (Q0 * D1))) 0 := hr13 ▸ Y12
    have A_r13 : own_ab ((C1 - (Q0 * D1))) 32896 := (own_ab.sub ac1 (own_ab.mul bq0 bd1))
    refine R.dastore X10 hx hZ e10 V_b1 (⟨by decide, by decide⟩ : ¬ (1 : Int32) < 0 ∧ (1 : Int32) < (3 : Int32)) (hb hby d1_86) (pc' := 87) rfl ?_; intro T14 h14 X14 e14 W14 V14
    have V_a0 := V_a0.other W14 ne_a0_b1
    have E_a0 := E_a0.wr W14
    have V_a1 := V_a1.other W14 ne_a1_b1
    have E_b1 := E_b1.wr W14
    have V_b3 := V_b3.other W14 (Ne.symm ne_b1_b3)
    have V_b1 : Arh Z h14 b1 ka .double (3 : Int32) (((1 : Int32), (.double r13)) :: ((0 : Int32), (.double r9)) :: ha) [] (.double (0 : UInt64)) := V14
    have N14 := Fr.snoc X14 N10 g_b1
    have K14 : Keep h0 h14 [] := K10.wr W14 (Or.inr sz_b1)
    have Z14 : n0 ≤ h14.size := Nat.le_trans Z10 (Keep.of_wr W14).1
    refine R.iinc X14 hx (hb hby d1_87) rfl (L' := #[.val (.ref a0), .val (.ref a1), .val (.int (2 : Int32)), .val (.ref b1), .val (.ref b3), .val (.int (0 : Int32)), .val (.int (2 : Int32))]) rfl (pc' := 90) rfl ?_
    refine R.goto X14 hx (hb hby d1_90) (by decide) (pc' := 61) (by decide) ?_
    refine R.iload X14 hx (hb hby d1_61) rfl (pc' := 63) rfl ?_
    refine R.iloadN X14 hx (hb hby d1_63) rfl (pc' := 64) rfl ?_
    refine R.icmpNo X14 hx (hb hby d1_64) (flt (by decide : ¬ ((2 : Int32) < (2 : Int32)))).2.2.1 (pc' := 67) rfl ?_
    refine R.aloadN X14 hx (hb hby d1_67) rfl rfl (pc' := 68) rfl ?_
    refine R.iload X14 hx (hb hby d1_68) rfl (pc' := 70) rfl ?_
    refine R.iload X14 hx (hb hby d1_70) rfl (pc' := 72) rfl ?_
    refine R.iadd X14 hx (hb hby d1_72) (v := (2 : Int32)) (by decide) (pc' := 73) rfl ?_
    refine R.dup2 X14 hx (hb hby d1_73) rfl rfl (pc' := 74) rfl ?_
    refine R.daload X14 hx hZ e14 V_b1 (⟨by decide, by decide⟩ : ¬ (2 : Int32) < 0 ∧ (2 : Int32) < (3 : Int32)) (v := (.double x2)) (getH_miss (by decide) (by decide) (getH_miss (by decide) (by decide) (vx2))) (hb hby d1_74) (pc' := 75) rfl ?_
    refine R.aload X14 hx (hb hby d1_75) rfl rfl (pc' := 77) rfl ?_
    refine R.iload X14 hx (hb hby d1_77) rfl (pc' := 79) rfl ?_
    refine R.daload X14 hx hZ e14 V_b3 (⟨by decide, by decide⟩ : ¬ (0 : Int32) < 0 ∧ (0 : Int32) < (1 : Int32)) (v := (.double r5)) (getH_hit (by decide) (rfl)) (hb hby d1_79) (pc' := 80) rfl ?_
    refine R.aloadN X14 hx (hb hby d1_80) rfl rfl (pc' := 81) rfl ?_
    refine R.iload X14 hx (hb hby d1_81) rfl (pc' := 83) rfl ?_
    refine R.daload X14 hx hZ e14 V_a1 (⟨by decide, by decide⟩ : ¬ (2 : Int32) < 0 ∧ (2 : Int32) < (3 : Int32)) (v := (.double y2)) (vy2) (hb hby d1_83) (pc' := 84) rfl ?_
    have Y15 := (Dy.mul D_r5 Dy2 ((own_ab.mul bq0 bd2).lt (by decide)) (by decide))
    refine R.dmul X14 hx (hb hby d1_84) (Y15.nn : NoNaN64 (FP.dmul r5 y2)) (pc' := 85) rfl ?_
    have Y16 := (Dy.sub Dx2 Y15 ((own_ab.sub ac2 (own_ab.mul bq0 bd2)).lt (by decide)) (by decide))
    refine R.dsub X14 hx (hb hby d1_85) (Y16.nn : NoNaN64 (FP.dsub x2 (FP.dmul r5 y2))) (pc' := 86) rfl ?_
    show Rn p e below (T14.setTop (mkF m 86 #[.val (.ref a0), .val (.ref a1), .val (.int (2 : Int32)), .val (.ref b1), .val (.ref b3), .val (.int (0 : Int32)), .val (.int (2 : Int32))] [(.double (FP.dsub x2 (FP.dmul r5 y2))), (.int (2 : Int32)), (.ref b1)])) G
    generalize hr17 : (FP.dsub x2 (FP.dmul r5 y2)) = r17
    have D_r17 : Dy r17 ((C2 - (Q0 * D2))) 0 := hr17 ▸ Y16
    have A_r17 : own_ab ((C2 - (Q0 * D2))) 32768 := (own_ab.sub ac2 (own_ab.mul bq0 bd2))
    refine R.dastore X14 hx hZ e14 V_b1 (⟨by decide, by decide⟩ : ¬ (2 : Int32) < 0 ∧ (2 : Int32) < (3 : Int32)) (hb hby d1_86) (pc' := 87) rfl ?_; intro T18 h18 X18 e18 W18 V18
    have V_a0 := V_a0.other W18 ne_a0_b1
    have E_a0 := E_a0.wr W18
    have V_a1 := V_a1.other W18 ne_a1_b1
    have E_b1 := E_b1.wr W18
    have V_b3 := V_b3.other W18 (Ne.symm ne_b1_b3)
    have V_b1 : Arh Z h18 b1 ka .double (3 : Int32) (((2 : Int32), (.double r17)) :: ((1 : Int32), (.double r13)) :: ((0 : Int32), (.double r9)) :: ha) [] (.double (0 : UInt64)) := V18
    have N18 := Fr.snoc X18 N14 g_b1
    have K18 : Keep h0 h18 [] := K14.wr W18 (Or.inr sz_b1)
    have Z18 : n0 ≤ h18.size := Nat.le_trans Z14 (Keep.of_wr W18).1
    refine R.iinc X18 hx (hb hby d1_87) rfl (L' := #[.val (.ref a0), .val (.ref a1), .val (.int (2 : Int32)), .val (.ref b1), .val (.ref b3), .val (.int (0 : Int32)), .val (.int (3 : Int32))]) rfl (pc' := 90) rfl ?_
    refine R.goto X18 hx (hb hby d1_90) (by decide) (pc' := 61) (by decide) ?_
    refine R.iload X18 hx (hb hby d1_61) rfl (pc' := 63) rfl ?_
    refine R.iloadN X18 hx (hb hby d1_63) rfl (pc' := 64) rfl ?_
    refine R.icmpYes X18 hx (hb hby d1_64) (tlt (by decide : (2 : Int32) < (3 : Int32))).2.2.1 (by decide) (pc' := 93) (by decide) ?_
    refine R.iinc X18 hx (hb hby d1_93) rfl (L' := #[.val (.ref a0), .val (.ref a1), .val (.int (2 : Int32)), .val (.ref b1), .val (.ref b3), .val (.int (-1 : Int32)), .val (.int (3 : Int32))]) rfl (pc' := 96) rfl ?_
    refine R.goto X18 hx (hb hby d1_96) (by decide) (pc' := 38) (by decide) ?_
    refine R.iload X18 hx (hb hby d1_38) rfl (pc' := 40) rfl ?_
    refine R.ifYes X18 hx (hb hby d1_40) (tlt (by decide : (-1 : Int32) < (0 : Int32))).1 (by decide) (pc' := 99) (by decide) ?_
    refine R.aload X18 hx (hb hby d1_99) rfl rfl (pc' := 101) rfl ?_
    rw [← hG]
    exact Rn.ret X18 (BodyLoose.notSynchronized Bd) (v := some (.ref b3)) (fun h => by rw [Bd.returns] at h; cases h) (Q := Qqq31 Z a0 a1 ka kb ha hbb x0 x1 x2 y0 y1 y2 C0 C1 C2 D0 D1 D2 Q0 R0 R1 h0 n0) e18 (fun fs hr => retOut X18 hx (t := (.array .double)) Bd.returns rfl (Or.inr (Or.inr (Or.inr (Or.inr ⟨rfl, rfl, rfl⟩)))) (hb hby d1_101) hr) ⟨b3, k3, [((0 : Int32), (.double r5))], rfl, N18, K18, sz_b3, V_b3, ⟨_, getH_hit (by decide) (rfl), D_r5⟩⟩ (by decide) (by decide)
  exact (Rn.st (fun t k => castTop (ef_qq31 m a0 a1) k) first_ : Rn p e below (s₁.setTop (entryFrame m #[(.ref a0), (.ref a1)] 7)) (Fnqq31 Z a0 a1 ka kb ha hbb x0 x1 x2 y0 y1 y2 C0 C1 C2 D0 D1 D2 Q0 R0 R1 h0 n0 s))
theorem ef_qq32 (m : MethodId) (x0 : Addr) (x1 : Addr) : entryFrame m #[(.ref x0), (.ref x1)] 7 = mkF m 0 #[.val (.ref x0), .val (.ref x1), .unset, .unset, .unset, .unset, .unset] [] := by first | (simp [entryFrame, mkF, argsToLocals, Value.category]; done) | rfl
def Qqq32 (Z : State) (a0 : Addr) (a1 : Addr) (ka : ClassId) (kb : ClassId) (ha : List (Int32 × Value)) (hbb : List (Int32 × Value)) (x0 : UInt64) (x1 : UInt64) (x2 : UInt64) (x3 : UInt64) (y0 : UInt64) (y1 : UInt64) (y2 : UInt64) (C0 : Int) (C1 : Int) (C2 : Int) (C3 : Int) (D0 : Int) (D1 : Int) (D2 : Int) (Q0 : Int) (Q1 : Int) (R0 : Int) (R1 : Int) (h0 : Heap) (n0 : Nat) (vQ : Option Value) (hQ_ : Heap) (LQ : List Loc) : Prop := ∃ r : Addr, ∃ kr : ClassId, ∃ hr : List (Int32 × Value), vQ = some (.ref r) ∧ Fr n0 LQ ∧ Keep h0 hQ_ [] ∧ (h0.size ≤ r) ∧ (Arh Z hQ_ r kr .double (2 : Int32) hr [] (.double (0 : UInt64))) ∧ (∃ v : UInt64, getH hr [] (.double (0 : UInt64)) ((0 : Int32)).toNatClampNeg = (.double v) ∧ Dy v Q0 0) ∧ (∃ v : UInt64, getH hr [] (.double (0 : UInt64)) ((1 : Int32)).toNatClampNeg = (.double v) ∧ Dy v Q1 0)
def Fnqq32 (Z : State) (a0 : Addr) (a1 : Addr) (ka : ClassId) (kb : ClassId) (ha : List (Int32 × Value)) (hbb : List (Int32 × Value)) (x0 : UInt64) (x1 : UInt64) (x2 : UInt64) (x3 : UInt64) (y0 : UInt64) (y1 : UInt64) (y2 : UInt64) (C0 : Int) (C1 : Int) (C2 : Int) (C3 : Int) (D0 : Int) (D1 : Int) (D2 : Int) (Q0 : Int) (Q1 : Int) (R0 : Int) (R1 : Int) (h0 : Heap) (n0 : Nat) (sQ : State) (oQ : Outcome) (UQ : State) : Prop := ∃ vQ LQ, oQ = .returned vQ ∧ Qqq32 Z a0 a1 ka kb ha hbb x0 x1 x2 x3 y0 y1 y2 C0 C1 C2 C3 D0 D1 D2 Q0 Q1 R0 R1 h0 n0 vQ UQ.heap LQ ∧ FrameEnd sQ oQ UQ LQ ({ frames := 1, cells := 2, slots := 7, locals := 14 } : Room).cells ({ frames := 1, cells := 2, slots := 7, locals := 14 } : Room).slots
set_option maxRecDepth 65536 in
set_option maxHeartbeats 40000000 in
theorem rmqq32 (l : Launch) (Z : State) (aZ : Array Value) (hw : ∀ d ∈ tables_1, d.before aZ Z = true) (ws : List Jvm.Cond) (a0 : Addr) (a1 : Addr) (ka : ClassId) (kb : ClassId) (ha : List (Int32 × Value)) (hbb : List (Int32 × Value)) (x0 : UInt64) (x1 : UInt64) (x2 : UInt64) (x3 : UInt64) (y0 : UInt64) (y1 : UInt64) (y2 : UInt64) (C0 : Int) (C1 : Int) (C2 : Int) (C3 : Int) (D0 : Int) (D1 : Int) (D2 : Int) (Q0 : Int) (Q1 : Int) (R0 : Int) (R1 : Int) (h0 : Heap) (n0 : Nat) (Z0 : n0 ≤ h0.size) (V_a0 : Arh Z h0 a0 ka .double (4 : Int32) ha [] (.double (0 : UInt64))) (E_a0 : Exa Z h0 a0 "[D") (V_a1 : Arh Z h0 a1 kb .double (3 : Int32) hbb [] (.double (0 : UInt64))) (vx0 : getH ha [] (.double (0 : UInt64)) ((0 : Int32)).toNatClampNeg = (.double x0)) (Dx0 : Dy x0 C0 0) (vx1 : getH ha [] (.double (0 : UInt64)) ((1 : Int32)).toNatClampNeg = (.double x1)) (Dx1 : Dy x1 C1 0) (vx2 : getH ha [] (.double (0 : UInt64)) ((2 : Int32)).toNatClampNeg = (.double x2)) (Dx2 : Dy x2 C2 0) (vx3 : getH ha [] (.double (0 : UInt64)) ((3 : Int32)).toNatClampNeg = (.double x3)) (Dx3 : Dy x3 C3 0) (vy0 : getH hbb [] (.double (0 : UInt64)) ((0 : Int32)).toNatClampNeg = (.double y0)) (Dy0 : Dy y0 D0 0) (vy1 : getH hbb [] (.double (0 : UInt64)) ((1 : Int32)).toNatClampNeg = (.double y1)) (Dy1 : Dy y1 D1 0) (vy2 : getH hbb [] (.double (0 : UInt64)) ((2 : Int32)).toNatClampNeg = (.double y2)) (Dy2 : Dy y2 D2 0) (el0 : C0 = Q0 * D0 + R0) (el1 : C1 = Q0 * D1 + Q1 * D0 + R1) (el2 : C2 = Q0 * D2 + Q1 * D1) (el3 : C3 = Q1 * D2) (hL : D2 ≠ 0) (bd0 : own_ab D0 128) (bd1 : own_ab D1 128) (bd2 : own_ab D2 128) (bq0 : own_ab Q0 128) (bq1 : own_ab Q1 128) (br0 : own_ab R0 128) (br1 : own_ab R1 128) :
    MetFree l (⟨"com/example/deseason/deseason/arima/Polynomials", "quotient", "([D[D)[D"⟩ : MethodName) (head1 (Jvm.Cond.code (⟨"com/example/deseason/deseason/arima/Polynomials", "quotient", "([D[D)[D"⟩ : MethodName) prog_10_method_6_code 7 (some (.array .double)) :: ws) ({ frames := 1, cells := 2, slots := 7, locals := 14 } : Room)) (fun aQ UQ => aQ = #[(.ref a0), (.ref a1)] ∧ Z.Warmed39 UQ.vm ∧ UQ.heap = h0) (fun _ _ _ _ _ => True) (fun _ UQ oQ UR => ∃ vQ LQ, oQ = .returned vQ ∧ Qqq32 Z a0 a1 ka kb ha hbb x0 x1 x2 x3 y0 y1 y2 C0 C1 C2 C3 D0 D1 D2 Q0 Q1 R0 R1 h0 n0 vQ UR.heap LQ ∧ FrameEnd UQ oQ UR LQ ({ frames := 1, cells := 2, slots := 7, locals := 14 } : Room).cells ({ frames := 1, cells := 2, slots := 7, locals := 14 } : Room).slots) := by
  refine MetFree.of_bodySF (plainFor_of_name pn_1) hisR ?_
  intro p e s m args below meth c s₁ Bd hml0 hP hK
  obtain ⟨rfl, hZ, hh⟩ := hP
  have hx := Bd.exec
  have hby := Bd.bytes
  have hml : c.maxLocals = 7 := hml0
  have hown : s.vm.findClass "com/example/deseason/deseason/arima/Polynomials" = some m.cls := findClass_of_methodNamed Bd.named
  have hnm := (name_of_methodNamed Bd.named Bd.method).1
  have X0 : Stand p l e ({ frames := 1, cells := 2, slots := 7, locals := 14 } : Room) s m #[(.ref a0), (.ref a1)] below meth c s₁ [] 0 0 := Stand.of_body Bd
  have e0 : s₁.heap = h0 := by rw [← hh, Bd.state]; rfl
  have N0 := Fr.nil n0
  have K0 : Keep h0 h0 [] := Keep.refl _ _
  have w_1 := hw _ (List.mem_of_getElem? (i := 1) rfl)
  have w_16 := hw _ (List.mem_of_getElem? (i := 16) rfl)
  have w_17 := hw _ (List.mem_of_getElem? (i := 17) rfl)
  have w_19 := hw _ (List.mem_of_getElem? (i := 19) rfl)
  have w_20 := hw _ (List.mem_of_getElem? (i := 20) rfl)
  have w_21 := hw _ (List.mem_of_getElem? (i := 21) rfl)
  have w_22 := hw _ (List.mem_of_getElem? (i := 22) rfl)
  have w_23 := hw _ (List.mem_of_getElem? (i := 23) rfl)
  have first_ : Rn p e below (s₁.setTop (mkF m 0 #[.val (.ref a0), .val (.ref a1), .unset, .unset, .unset, .unset, .unset] [])) (Fnqq32 Z a0 a1 ka kb ha hbb x0 x1 x2 x3 y0 y1 y2 C0 C1 C2 C3 D0 D1 D2 Q0 Q1 R0 R1 h0 n0 s) := by
    generalize hG : (Fnqq32 Z a0 a1 ka kb ha hbb x0 x1 x2 x3 y0 y1 y2 C0 C1 C2 C3 D0 D1 D2 Q0 Q1 R0 R1 h0 n0 s) = G
    have ac0 : own_ab C0 16512 := el0 ▸ (own_ab.add (own_ab.mul bq0 bd0) br0)
    have ac1 : own_ab C1 32896 := el1 ▸ (own_ab.add (own_ab.add (own_ab.mul bq0 bd1) (own_ab.mul bq1 bd0)) br1)
    have ac2 : own_ab C2 32768 := el2 ▸ (own_ab.add (own_ab.mul bq0 bd2) (own_ab.mul bq1 bd1))
    have ac3 : own_ab C3 16384 := el3 ▸ (own_ab.mul bq1 bd2)
    refine R.aloadN X0 hx (hb hby d1_0) rfl rfl (pc' := 1) rfl ?_
    refine R.alen X0 hx hZ e0 V_a1 (hb hby d1_1) (pc' := 2) rfl ?_
    refine R.iconst X0 hx (hb hby d1_2) (v := (1 : Int32)) (by decide) (pc' := 3) rfl ?_
    refine R.isub X0 hx (hb hby d1_3) (v := (2 : Int32)) (by decide) (pc' := 4) rfl ?_
    refine R.istoreN X0 hx (hb hby d1_4) (L' := #[.val (.ref a0), .val (.ref a1), .val (.int (2 : Int32)), .unset, .unset, .unset, .unset]) rfl (pc' := 5) rfl ?_
    refine R.aloadN X0 hx (hb hby d1_5) rfl rfl (pc' := 6) rfl ?_
    refine R.alen X0 hx hZ e0 V_a0 (hb hby d1_6) (pc' := 7) rfl ?_
    refine R.iloadN X0 hx (hb hby d1_7) rfl (pc' := 8) rfl ?_
    refine R.icmpYes X0 hx (hb hby d1_8) (tlt (by decide : (2 : Int32) < (4 : Int32))).2.2.1 (by decide) (pc' := 15) (by decide) ?_
    refine R.aloadN X0 hx (hb hby d1_15) rfl rfl (pc' := 16) rfl ?_
    show Rn p e below (s₁.setTop (mkF m 16 #[.val (.ref a0), .val (.ref a1), .val (.int (2 : Int32)), .unset, .unset, .unset, .unset] [(.ref a0)])) G
    obtain ⟨T1, h1, X1, e1, E1, V1, EE1, st1⟩ := cloneH X0 hx hZ hown (ad := "[D") w_16 w_17 w_21 w_19 w_20 w_22 e0 V_a0 E_a0 (g := (mkF m 16 #[.val (.ref a0), .val (.ref a1), .val (.int (2 : Int32)), .unset, .unset, .unset, .unset] [(.ref a0)])) rfl (by rw [hml]; rfl) rfl (hb hby d1_16) (by decide) (W := 0) (cap := 5) (by show 2 * 0 + _ ≤ _; exact Nat.le_of_eq rfl) (by decide) (by decide) (by decide) (by decide)
    obtain ⟨b1, g1⟩ : ∃ z, z = h0.size := ⟨_, rfl⟩
    rw [← g1] at V1 EE1 st1
    have g_b1 : n0 ≤ b1 := Nat.le_trans Z0 (Nat.le_of_eq g1.symm)
    have sz_b1 : h0.size ≤ b1 := Nat.le_trans K0.1 (Nat.le_of_eq g1.symm)
    have ne_a0_b1 : a0 ≠ b1 := Nat.ne_of_lt (Nat.lt_of_lt_of_le V_a0.lt (Nat.le_of_eq g1.symm))
    have ne_a1_b1 : a1 ≠ b1 := Nat.ne_of_lt (Nat.lt_of_lt_of_le V_a1.lt (Nat.le_of_eq g1.symm))
    have K1 : Keep h0 h1 [] := K0.ext E1
    have Z1 : n0 ≤ h1.size := Nat.le_trans Z0 E1.1
    have V_a0 := V_a0.ext E1
    have E_a0 := E_a0.ext E1
    have V_a1 := V_a1.ext E1
    have V_b1 : Arh Z h1 b1 ka .double (4 : Int32) ha [] (.double (0 : UInt64)) := V1
    have E_b1 : Exa Z h1 b1 "[D" := EE1
    refine Rn.st st1 ?_
    show Rn p e below (T1.setTop (mkF m 19 #[.val (.ref a0), .val (.ref a1), .val (.int (2 : Int32)), .unset, .unset, .unset, .unset] [(.ref b1)])) G
    refine R.castY X1 hx hZ hown w_23 e1 (Ins.self E_b1) (hb hby d1_19) (pc' := 22) rfl ?_; intro T2 X2 e2
    refine R.astoreN X2 hx (hb hby d1_22) rfl (L' := #[.val (.ref a0), .val (.ref a1), .val (.int (2 : Int32)), .val (.ref b1), .unset, .unset, .unset]) rfl (pc' := 23) rfl ?_
    refine R.aloadN X2 hx (hb hby d1_23) rfl rfl (pc' := 24) rfl ?_
    refine R.alen X2 hx hZ e2 V_a0 (hb hby d1_24) (pc' := 25) rfl ?_
    refine R.iloadN X2 hx (hb hby d1_25) rfl (pc' := 26) rfl ?_
    refine R.isub X2 hx (hb hby d1_26) (v := (2 : Int32)) (by decide) (pc' := 27) rfl ?_
    refine R.newP X2 hx hZ (ty := .double) rfl w_1 e2 (by decide) (cap := 2) (by decide) (by decide) (ad := "[D") (by decide) (hb hby d1_27) (pc' := 29) rfl (by decide) (by decide) ?_; intro T3 h3 b3 k3 g3 X3 e3 E3 EE3 AA3
    have g_b3 : n0 ≤ b3 := Nat.le_trans Z1 (Nat.le_of_eq g3.symm)
    have sz_b3 : h0.size ≤ b3 := Nat.le_trans K1.1 (Nat.le_of_eq g3.symm)
    have ne_a0_b3 : a0 ≠ b3 := Nat.ne_of_lt (Nat.lt_of_lt_of_le V_a0.lt (Nat.le_of_eq g3.symm))
    have ne_a1_b3 : a1 ≠ b3 := Nat.ne_of_lt (Nat.lt_of_lt_of_le V_a1.lt (Nat.le_of_eq g3.symm))
    have ne_b1_b3 : b1 ≠ b3 := Nat.ne_of_lt (Nat.lt_of_lt_of_le V_b1.lt (Nat.le_of_eq g3.symm))
    have K3 : Keep h0 h3 [] := K1.ext E3
    have Z3 : n0 ≤ h3.size := Nat.le_trans Z1 E3.1
    have V_a0 := V_a0.ext E3
    have E_a0 := E_a0.ext E3
    have V_a1 := V_a1.ext E3
    have V_b1 := V_b1.ext E3
    have E_b1 := E_b1.ext E3
    have V_b3 : Arh Z h3 b3 k3 .double (2 : Int32) [] [] (.double (0 : UInt64)) := AA3
    refine R.astore X3 hx (hb hby d1_29) rfl (L' := #[.val (.ref a0), .val (.ref a1), .val (.int (2 : Int32)), .val (.ref b1), .val (.ref b3), .unset, .unset]) rfl (pc' := 31) rfl ?_
    refine R.aload X3 hx (hb hby d1_31) rfl rfl (pc' := 33) rfl ?_
    refine R.alen X3 hx hZ e3 V_b3 (hb hby d1_33) (pc' := 34) rfl ?_
    refine R.iconst X3 hx (hb hby d1_34) (v := (1 : Int32)) (by decide) (pc' := 35) rfl ?_
    refine R.isub X3 hx (hb hby d1_35) (v := (1 : Int32)) (by decide) (pc' := 36) rfl ?_
    refine R.istore X3 hx (hb hby d1_36) (L' := #[.val (.ref a0), .val (.ref a1), .val (.int (2 : Int32)), .val (.ref b1), .val (.ref b3), .val (.int (1 : Int32)), .unset]) rfl (pc' := 38) rfl ?_
    refine R.iload X3 hx (hb hby d1_38) rfl (pc' := 40) rfl ?_
    refine R.ifNo X3 hx (hb hby d1_40) (flt (by decide : ¬ ((1 : Int32) < (0 : Int32)))).1 (pc' := 43) rfl ?_
    refine R.aload X3 hx (hb hby d1_43) rfl rfl (pc' := 45) rfl ?_
    refine R.iload X3 hx (hb hby d1_45) rfl (pc' := 47) rfl ?_
    refine R.aloadN X3 hx (hb hby d1_47) rfl rfl (pc' := 48) rfl ?_
    refine R.iload X3 hx (hb hby d1_48) rfl (pc' := 50) rfl ?_
    refine R.iloadN X3 hx (hb hby d1_50) rfl (pc' := 51) rfl ?_
    refine R.iadd X3 hx (hb hby d1_51) (v := (3 : Int32)) (by decide) (pc' := 52) rfl ?_
    refine R.daload X3 hx hZ e3 V_b1 (⟨by decide, by decide⟩ : ¬ (3 : Int32) < 0 ∧ (3 : Int32) < (4 : Int32)) (v := (.double x3)) (vx3) (hb hby d1_52) (pc' := 53) rfl ?_
    refine R.aloadN X3 hx (hb hby d1_53) rfl rfl (pc' := 54) rfl ?_
    refine R.iloadN X3 hx (hb hby d1_54) rfl (pc' := 55) rfl ?_
    refine R.daload X3 hx hZ e3 V_a1 (⟨by decide, by decide⟩ : ¬ (2 : Int32) < 0 ∧ (2 : Int32) < (3 : Int32)) (v := (.double y2)) (vy2) (hb hby d1_55) (pc' := 56) rfl ?_
    have Y4 := (Dy.div (m := Q1) (n := 0) Dx3 Dy2 hL (bq1.lt (by decide)) (by decide) (by simp only [own_one]; omega))
    refine R.ddiv X3 hx (hb hby d1_56) (Y4.nn : NoNaN64 (FP.ddiv x3 y2)) (pc' := 57) rfl ?_
    show Rn p e below (T3.setTop (mkF m 57 #[.val (.ref a0), .val (.ref a1), .val (.int (2 : Int32)), .val (.ref b1), .val (.ref b3), .val (.int (1 : Int32)), .unset] [(.double (FP.ddiv x3 y2)), (.int (1 : Int32)), (.ref b3)])) G
    generalize hr5 : (FP.ddiv x3 y2) = r5
    have D_r5 : Dy r5 (Q1) 0 := hr5 ▸ Y4
    refine R.dastore X3 hx hZ e3 V_b3 (⟨by decide, by decide⟩ : ¬ (1 : Int32) < 0 ∧ (1 : Int32) < (2 : Int32)) (hb hby d1_57) (pc' := 58) rfl ?_; intro T6 h6 X6 e6 W6 V6
    have V_a0 := V_a0.other W6 ne_a0_b3
    have E_a0 := E_a0.wr W6
    have V_a1 := V_a1.other W6 ne_a1_b3
    have V_b1 := V_b1.other W6 ne_b1_b3
    have E_b1 := E_b1.wr W6
    have V_b3 : Arh Z h6 b3 k3 .double (2 : Int32) [((1 : Int32), (.double r5))] [] (.double (0 : UInt64)) := V6
    have N6 := Fr.snoc X6 N0 g_b3
    have K6 : Keep h0 h6 [] := K3.wr W6 (Or.inr sz_b3)
    have Z6 : n0 ≤ h6.size := Nat.le_trans Z3 (Keep.of_wr W6).1
    refine R.iconst X6 hx (hb hby d1_58) (v := (0 : Int32)) (by decide) (pc' := 59) rfl ?_
    refine R.istore X6 hx (hb hby d1_59) (L' := #[.val (.ref a0), .val (.ref a1), .val (.int (2 : Int32)), .val (.ref b1), .val (.ref b3), .val (.int (1 : Int32)), .val (.int (0 : Int32))]) rfl (pc' := 61) rfl ?_
    refine R.iload X6 hx (hb hby d1_61) rfl (pc' := 63) rfl ?_
    refine R.iloadN X6 hx (hb hby d1_63) rfl (pc' := 64) rfl ?_
    refine R.icmpNo X6 hx (hb hby d1_64) (flt (by decide : ¬ ((2 : Int32) < (0 : Int32)))).2.2.1 (pc' := 67) rfl ?_
    refine R.aloadN X6 hx (hb hby d1_67) rfl rfl (pc' := 68) rfl ?_
    refine R.iload X6 hx (hb hby d1_68) rfl (pc' := 70) rfl ?_
    refine R.iload X6 hx (hb hby d1_70) rfl (pc' := 72) rfl ?_
    refine R.iadd X6 hx (hb hby d1_72) (v := (1 : Int32)) (by decide) (pc' := 73) rfl ?_
    refine R.dup2 X6 hx (hb hby d1_73) rfl rfl (pc' := 74) rfl ?_
    refine R.daload X6 hx hZ e6 V_b1 (⟨by decide, by decide⟩ : ¬ (1 : Int32) < 0 ∧ (1 : Int32) < (4 : Int32)) (v := (.double x1)) (vx1) (hb hby d1_74) (pc' := 75) rfl ?_
    refine R.aload X6 hx (hb hby d1_75) rfl rfl (pc' := 77) rfl ?_
    refine R.iload X6 hx (hb hby d1_77) rfl (pc' := 79) rfl ?_
    refine R.daload X6 hx hZ e6 V_b3 (⟨by decide, by decide⟩ : ¬ (1 : Int32) < 0 ∧ (1 : Int32) < (2 : Int32)) (v := (.double r5)) (getH_hit (by decide) (rfl)) (hb hby d1_79) (pc' := 80) rfl ?_
    refine R.aloadN X6 hx (hb hby d1_80) rfl rfl (pc' := 81) rfl ?_
    refine R.iload X6 hx (hb hby d1_81) rfl (pc' := 83) rfl ?_
    refine R.daload X6 hx hZ e6 V_a1 (⟨by decide, by decide⟩ : ¬ (0 : Int32) < 0 ∧ (0 : Int32) < (3 : Int32)) (v := (.double y0)) (vy0) (hb hby d1_83) (pc' := 84) rfl ?_
    have Y7 := (Dy.mul D_r5 Dy0 ((own_ab.mul bq1 bd0).lt (by decide)) (by decide))
    refine R.dmul X6 hx (hb hby d1_84) (Y7.nn : NoNaN64 (FP.dmul r5 y0)) (pc' := 85) rfl ?_
    have Y8 := (Dy.sub Dx1 Y7 ((own_ab.sub ac1 (own_ab.mul bq1 bd0)).lt (by decide)) (by decide))
    refine R.dsub X6 hx (hb hby d1_85) (Y8.nn : NoNaN64 (FP.dsub x1 (FP.dmul r5 y0))) (pc' := 86) rfl ?_
    show Rn p e below (T6.setTop (mkF m 86 #[.val (.ref a0), .val (.ref a1), .val (.int (2 : Int32)), .val (.ref b1), .val (.ref b3), .val (.int (1 : Int32)), .val (.int (0 : Int32))] [(.double (FP.dsub x1 (FP.dmul r5 y0))), (.int (1 : Int32)), (.ref b1)])) G
    generalize hr9 : (FP.dsub x1 (FP.dmul r5 y0)) = r9
    have D_r9 : Dy r9 ((C1 - (Q1 * D0))) 0 := hr9 ▸ Y8
    have A_r9 : own_ab ((C1 - (Q1 * D0))) 49280 := (own_ab.sub ac1 (own_ab.mul bq1 bd0))
    refine R.dastore X6 hx hZ e6 V_b1 (⟨by decide, by decide⟩ : ¬ (1 : Int32) < 0 ∧ (1 : Int32) < (4 : Int32)) (hb hby d1_86) (pc' := 87) rfl ?_; intro T10 h10 X10 e10 W10 V10
    have V_a0 := V_a0.other W10 ne_a0_b1
    have E_a0 := E_a0.wr W10
    have V_a1 := V_a1.other W10 ne_a1_b1
    have E_b1 := E_b1.wr W10
    have V_b3 := V_b3.other W10 (Ne.symm ne_b1_b3)
    have V_b1 : Arh Z h10 b1 ka .double (4 : Int32) (((1 : Int32), (.double r9)) :: ha) [] (.double (0 : UInt64)) := V10
    have N10 := Fr.snoc X10 N6 g_b1
    have K10 : Keep h0 h10 [] := K6.wr W10 (Or.inr sz_b1)
    have Z10 : n0 ≤ h10.size := Nat.le_trans Z6 (Keep.of_wr W10).1
    refine R.iinc X10 hx (hb hby d1_87) rfl (L' := #[.val (.ref a0), .val (.ref a1), .val (.int (2 : Int32)), .val (.ref b1), .val (.ref b3), .val (.int (1 : Int32)), .val (.int (1 : Int32))]) rfl (pc' := 90) rfl ?_
    refine R.goto X10 hx (hb hby d1_90) (by decide) (pc' := 61) (by decide) ?_
    refine R.iload X10 hx (hb hby d1_61) rfl (pc' := 63) rfl ?_
    refine R.iloadN X10 hx (hb hby d1_63) rfl (pc' := 64) rfl ?_
    refine R.icmpNo X10 hx (hb hby d1_64) (flt (by decide : ¬ ((2 : Int32) < (1 : Int32)))).2.2.1 (pc' := 67) rfl ?_
    refine R.aloadN X10 hx (hb hby d1_67) rfl rfl (pc' := 68) rfl ?_
    refine R.iload X10 hx (hb hby d1_68) rfl (pc' := 70) rfl ?_
    refine R.iload X10 hx (hb hby d1_70) rfl (pc' := 72) rfl ?_
    refine R.iadd X10 hx (hb hby d1_72) (v := (2 : Int32)) (by decide) (pc' := 73) rfl ?_
    refine R.dup2 X10 hx (hb hby d1_73) rfl rfl (pc' := 74) rfl ?_
    refine R.daload X10 hx hZ e10 V_b1 (⟨by decide, by decide⟩ : ¬ (2 : Int32) < 0 ∧ (2 : Int32) < (4 : Int32)) (v := (.double x2)) (getH_miss (by decide) (by decide) (vx2)) (hb hby d1_74) (pc' := 75) rfl ?_
    refine R.aload X10 hx (hb hby d1_75) rfl rfl (pc' := 77) rfl ?_
    refine R.iload X10 hx (hb hby d1_77) rfl (pc' := 79) rfl ?_
    refine R.daload X10 hx hZ e10 V_b3 (⟨by decide, by decide⟩ : ¬ (1 : Int32) < 0 ∧ (1 : Int32) < (2 : Int32)) (v := (.double r5)) (getH_hit (by decide) (rfl)) (hb hby d1_79) (pc' := 80) rfl ?_
    refine R.aloadN X10 hx (hb hby d1_80) rfl rfl (pc' := 81) rfl ?_
    refine R.iload X10 hx (hb hby d1_81) rfl (pc' := 83) rfl ?_
    refine R.daload X10 hx hZ e10 V_a1 (⟨by decide, by decide⟩ : ¬ (1 : Int32) < 0 ∧ (1 : Int32) < (3 : Int32)) (v := (.double y1)) (vy1) (hb hby d1_83) (pc' := 84) rfl ?_
    have Y11 := (Dy.mul D_r5 Dy1 ((own_ab.mul bq1 bd1).lt (by decide)) (by decide))
    refine R.dmul X10 hx (hb hby d1_84) (Y11.nn : NoNaN64 (FP.dmul r5 y1)) (pc' := 85) rfl ?_
    have Y12 := (Dy.sub Dx2 Y11 ((own_ab.sub ac2 (own_ab.mul bq1 bd1)).lt (by decide)) (by decide))
    refine R.dsub X10 hx (hb hby d1_85) (Y12.nn : NoNaN64 (FP.dsub x2 (FP.dmul r5 y1))) (pc' := 86) rfl ?_
    show Rn p e below (T10.setTop (mkF m 86 #[.val (.ref a0), .val (.ref a1), .val (.int (2 : Int32)), .val (.ref b1), .val (.ref b3), .val (.int (1 : Int32)), .val (.int (1 : Int32))] [(.double (FP.dsub x2 (FP.dmul r5 y1))), (.int (2 : Int32)), (.ref b1)])) G
    generalize hr13 : (FP.dsub x2 (FP.dmul r5 y1)) = r13
    have D_r13 : Dy r13 ((C2 - (Q1 * D1))) 0 := hr13 ▸ Y12
    have A_r13 : own_ab ((C2 - (Q1 * D1))) 49152 := (own_ab.sub ac2 (own_ab.mul bq1 bd1))
    refine R.dastore X10 hx hZ e10 V_b1 (⟨by decide, by decide⟩ : ¬ (2 : Int32) < 0 ∧ (2 : Int32) < (4 : Int32)) (hb hby d1_86) (pc' := 87) rfl ?_; intro T14 h14 X14 e14 W14 V14
    have V_a0 := V_a0.other W14 ne_a0_b1
    have E_a0 := E_a0.wr W14
    have V_a1 := V_a1.other W14 ne_a1_b1
    have E_b1 := E_b1.wr W14
    have V_b3 := V_b3.other W14 (Ne.symm ne_b1_b3)
    have V_b1 : Arh Z h14 b1 ka .double (4 : Int32) (((2 : Int32), (.double r13)) :: ((1 : Int32), (.double r9)) :: ha) [] (.double (0 : UInt64)) := V14
    have N14 := Fr.snoc X14 N10 g_b1
    have K14 : Keep h0 h14 [] := K10.wr W14 (Or.inr sz_b1)
    have Z14 : n0 ≤ h14.size := Nat.le_trans Z10 (Keep.of_wr W14).1
    refine R.iinc X14 hx (hb hby d1_87) rfl (L' := #[.val (.ref a0), .val (.ref a1), .val (.int (2 : Int32)), .val (.ref b1), .val (.ref b3), .val (.int (1 : Int32)), .val (.int (2 : Int32))]) rfl (pc' := 90) rfl ?_
    refine R.goto X14 hx (hb hby d1_90) (by decide) (pc' := 61) (by decide) ?_
    refine R.iload X14 hx (hb hby d1_61) rfl (pc' := 63) rfl ?_
    refine R.iloadN X14 hx (hb hby d1_63) rfl (pc' := 64) rfl ?_
    refine R.icmpNo X14 hx (hb hby d1_64) (flt (by decide : ¬ ((2 : Int32) < (2 : Int32)))).2.2.1 (pc' := 67) rfl ?_
    refine R.aloadN X14 hx (hb hby d1_67) rfl rfl (pc' := 68) rfl ?_
    refine R.iload X14 hx (hb hby d1_68) rfl (pc' := 70) rfl ?_
    refine R.iload X14 hx (hb hby d1_70) rfl (pc' := 72) rfl ?_
    refine R.iadd X14 hx (hb hby d1_72) (v := (3 : Int32)) (by decide) (pc' := 73) rfl ?_
    refine R.dup2 X14 hx (hb hby d1_73) rfl rfl (pc' := 74) rfl ?_
    refine R.daload X14 hx hZ e14 V_b1 (⟨by decide, by decide⟩ : ¬ (3 : Int32) < 0 ∧ (3 : Int32) < (4 : Int32)) (v := (.double x3)) (getH_miss (by decide) (by decide) (getH_miss (by decide) (by decide) (vx3))) (hb hby d1_74) (pc' := 75) rfl ?_
    refine R.aload X14 hx (hb hby d1_75) rfl rfl (pc' := 77) rfl ?_
    refine R.iload X14 hx (hb hby d1_77) rfl (pc' := 79) rfl ?_
    refine R.daload X14 hx hZ e14 V_b3 (⟨by decide, by decide⟩ : ¬ (1 : Int32) < 0 ∧ (1 : Int32) < (2 : Int32)) (v := (.double r5)) (getH_hit (by decide) (rfl)) (hb hby d1_79) (pc' := 80) rfl ?_
    refine R.aloadN X14 hx (hb hby d1_80) rfl rfl (pc' := 81) rfl ?_
    refine R.iload X14 hx (hb hby d1_81) rfl (pc' := 83) rfl ?_
    refine R.daload X14 hx hZ e14 V_a1 (⟨by decide, by decide⟩ : ¬ (2 : Int32) < 0 ∧ (2 : Int32) < (3 : Int32)) (v := (.double y2)) (vy2) (hb hby d1_83) (pc' := 84) rfl ?_
    have Y15 := (Dy.mul D_r5 Dy2 ((own_ab.mul bq1 bd2).lt (by decide)) (by decide))
    refine R.dmul X14 hx (hb hby d1_84) (Y15.nn : NoNaN64 (FP.dmul r5 y2)) (pc' := 85) rfl ?_
    have Y16 := (Dy.sub Dx3 Y15 ((own_ab.sub ac3 (own_ab.mul bq1 bd2)).lt (by decide)) (by decide))
    refine R.dsub X14 hx (hb hby d1_85) (Y16.nn : NoNaN64 (FP.dsub x3 (FP.dmul r5 y2))) (pc' := 86) rfl ?_
    show Rn p e below (T14.setTop (mkF m 86 #[.val (.ref a0), .val (.ref a1), .val (.int (2 : Int32)), .val (.ref b1), .val (.ref b3), .val (.int (1 : Int32)), .val (.int (2 : Int32))] [(.double (FP.dsub x3 (FP.dmul r5 y2))), (.int (3 : Int32)), (.ref b1)])) G
    generalize hr17 : (FP.dsub x3 (FP.dmul r5 y2)) = r17
    have D_r17 : Dy r17 ((C3 - (Q1 * D2))) 0 := hr17 ▸ Y16
    have A_r17 : own_ab ((C3 - (Q1 * D2))) 32768 := (own_ab.sub ac3 (own_ab.mul bq1 bd2))
    refine R.dastore X14 hx hZ e14 V_b1 (⟨by decide, by decide⟩ : ¬ (3 : Int32) < 0 ∧ (3 : Int32) < (4 : Int32)) (hb hby d1_86) (pc' := 87) rfl ?_; intro T18 h18 X18 e18 W18 V18
    have V_a0 := V_a0.other W18 ne_a0_b1
    have E_a0 := E_a0.wr W18
    have V_a1 := V_a1.other W18 ne_a1_b1
    have E_b1 := E_b1.wr W18
    have V_b3 := V_b3.other W18 (Ne.symm ne_b1_b3)
    have V_b1 : Arh Z h18 b1 ka .double (4 : Int32) (((3 : Int32), (.double r17)) :: ((2 : Int32), (.double r13)) :: ((1 : Int32), (.double r9)) :: ha) [] (.double (0 : UInt64)) := V18
    have N18 := Fr.snoc X18 N14 g_b1
    have K18 : Keep h0 h18 [] := K14.wr W18 (Or.inr sz_b1)
    have Z18 : n0 ≤ h18.size := Nat.le_trans Z14 (Keep.of_wr W18).1
    refine R.iinc X18 hx (hb hby d1_87) rfl (L' := #[.val (.ref a0), .val (.ref a1), .val (.int (2 : Int32)), .val (.ref b1), .val (.ref b3), .val (.int (1 : Int32)), .val (.int (3 : Int32))]) rfl (pc' := 90) rfl ?_
    refine R.goto X18 hx (hb hby d1_90) (by decide) (pc' := 61) (by decide) ?_
    refine R.iload X18 hx (hb hby d1_61) rfl (pc' := 63) rfl ?_
    refine R.iloadN X18 hx (hb hby d1_63) rfl (pc' := 64) rfl ?_
    refine R.icmpYes X18 hx (hb hby d1_64) (tlt (by decide : (2 : Int32) < (3 : Int32))).2.2.1 (by decide) (pc' := 93) (by decide) ?_
    refine R.iinc X18 hx (hb hby d1_93) rfl (L' := #[.val (.ref a0), .val (.ref a1), .val (.int (2 : Int32)), .val (.ref b1), .val (.ref b3), .val (.int (0 : Int32)), .val (.int (3 : Int32))]) rfl (pc' := 96) rfl ?_
    refine R.goto X18 hx (hb hby d1_96) (by decide) (pc' := 38) (by decide) ?_
    refine R.iload X18 hx (hb hby d1_38) rfl (pc' := 40) rfl ?_
    refine R.ifNo X18 hx (hb hby d1_40) (flt (by decide : ¬ ((0 : Int32) < (0 : Int32)))).1 (pc' := 43) rfl ?_
    refine R.aload X18 hx (hb hby d1_43) rfl rfl (pc' := 45) rfl ?_
    refine R.iload X18 hx (hb hby d1_45) rfl (pc' := 47) rfl ?_
    refine R.aloadN X18 hx (hb hby d1_47) rfl rfl (pc' := 48) rfl ?_
    refine R.iload X18 hx (hb hby d1_48) rfl (pc' := 50) rfl ?_
    refine R.iloadN X18 hx (hb hby d1_50) rfl (pc' := 51) rfl ?_
    refine R.iadd X18 hx (hb hby d1_51) (v := (2 : Int32)) (by decide) (pc' := 52) rfl ?_
    refine R.daload X18 hx hZ e18 V_b1 (⟨by decide, by decide⟩ : ¬ (2 : Int32) < 0 ∧ (2 : Int32) < (4 : Int32)) (v := (.double r13)) (getH_miss (by decide) (by decide) (getH_hit (by decide) (rfl))) (hb hby d1_52) (pc' := 53) rfl ?_
    refine R.aloadN X18 hx (hb hby d1_53) rfl rfl (pc' := 54) rfl ?_
    refine R.iloadN X18 hx (hb hby d1_54) rfl (pc' := 55) rfl ?_
    refine R.daload X18 hx hZ e18 V_a1 (⟨by decide, by decide⟩ : ¬ (2 : Int32) < 0 ∧ (2 : Int32) < (3 : Int32)) (v := (.double y2)) (vy2) (hb hby d1_55) (pc' := 56) rfl ?_
    have Y19 := (Dy.div (m := Q0) (n := 0) D_r13 Dy2 hL (bq0.lt (by decide)) (by decide) (by simp only [own_one]; omega))
    refine R.ddiv X18 hx (hb hby d1_56) (Y19.nn : NoNaN64 (FP.ddiv r13 y2)) (pc' := 57) rfl ?_
    show Rn p e below (T18.setTop (mkF m 57 #[.val (.ref a0), .val (.ref a1), .val (.int (2 : Int32)), .val (.ref b1), .val (.ref b3), .val (.int (0 : Int32)), .val (.int (3 : Int32))] [(.double (FP.ddiv r13 y2)), (.int (0 : Int32)), (.ref b3)])) G
    generalize hr20 : (FP.ddiv r13 y2) = r20
    have D_r20 : Dy r20 (Q0) 0 := hr20 ▸ Y19
    refine R.dastore X18 hx hZ e18 V_b3 (⟨by decide, by decide⟩ : ¬ (0 : Int32) < 0 ∧ (0 : Int32) < (2 : Int32)) (hb hby d1_57) (pc' := 58) rfl ?_; intro T21 h21 X21 e21 W21 V21
    have V_a0 := V_a0.other W21 ne_a0_b3
    have E_a0 := E_a0.wr W21
    have V_a1 := V_a1.other W21 ne_a1_b3
    have E_b1 := E_b1.wr W21
    have V_b1 := V_b1.other W21 ne_b1_b3
    have V_b3 : Arh Z h21 b3 k3 .double (2 : Int32) [((0 : Int32), (.double r20)), ((1 : Int32), (.double r5))] [] (.double (0 : UInt64)) := V21
    have N21 := Fr.snoc X21 N18 g_b3
    have K21 : Keep h0 h21 [] := K18.wr W21 (Or.inr sz_b3)
    have Z21 : n0 ≤ h21.size := Nat.le_trans Z18 (Keep.of_wr W21).1
    refine R.iconst X21 hx (hb hby d1_58) (v := (0 : Int32)) (by decide) (pc' := 59) rfl ?_
    refine R.istore X21 hx (hb hby d1_59) (L' := #[.val (.ref a0), .val (.ref a1), .val (.int (2 : Int32)), .val (.ref b1), .val (.ref b3), .val (.int (0 : Int32)), .val (.int (0 : Int32))]) rfl (pc' := 61) rfl ?_
    refine R.iload X21 hx (hb hby d1_61) rfl (pc' := 63) rfl ?_
    refine R.iloadN X21 hx (hb hby d1_63) rfl (pc' := 64) rfl ?_
    refine R.icmpNo X21 hx (hb hby d1_64) (flt (by decide : ¬ ((2 : Int32) < (0 : Int32)))).2.2.1 (pc' := 67) rfl ?_
    refine R.aloadN X21 hx (hb hby d1_67) rfl rfl (pc' := 68) rfl ?_
    refine R.iload X21 hx (hb hby d1_68) rfl (pc' := 70) rfl ?_
    refine R.iload X21 hx (hb hby d1_70) rfl (pc' := 72) rfl ?_
    refine R.iadd X21 hx (hb hby d1_72) (v := (0 : Int32)) (by decide) (pc' := 73) rfl ?_
    refine R.dup2 X21 hx (hb hby d1_73) rfl rfl (pc' := 74) rfl ?_
    refine R.daload X21 hx hZ e21 V_b1 (⟨by decide, by decide⟩ : ¬ (0 : Int32) < 0 ∧ (0 : Int32) < (4 : Int32)) (v := (.double x0)) (getH_miss (by decide) (by decide) (getH_miss (by decide) (by decide) (getH_miss (by decide) (by decide) (vx0)))) (hb hby d1_74) (pc' := 75) rfl ?_
    refine R.aload X21 hx (hb hby d1_75) rfl rfl (pc' := 77) rfl ?_
    refine R.iload X21 hx (hb hby d1_77) rfl (pc' := 79) rfl ?_
    refine R.daload X21 hx hZ e21 V_b3 (⟨by decide, by decide⟩ : ¬ (0 : Int32) < 0 ∧ (0 : Int32) < (2 : Int32)) (v := (.double r20)) (getH_hit (by decide) (rfl)) (hb hby d1_79) (pc' := 80) rfl ?_
    refine R.aloadN X21 hx (hb hby d1_80) rfl rfl (pc' := 81) rfl ?_
    refine R.iload X21 hx (hb hby d1_81) rfl (pc' := 83) rfl ?_
    refine R.daload X21 hx hZ e21 V_a1 (⟨by decide, by decide⟩ : ¬ (0 : Int32) < 0 ∧ (0 : Int32) < (3 : Int32)) (v := (.double y0)) (vy0) (hb hby d1_83) (pc' := 84) rfl ?_
    have Y22 := (Dy.mul D_r20 Dy0 ((own_ab.mul bq0 bd0).lt (by decide)) (by decide))
    refine R.dmul X21 hx (hb hby d1_84) (Y22.nn : NoNaN64 (FP.dmul r20 y0)) (pc' := 85) rfl ?_
    have Y23 := (Dy.sub Dx0 Y22 ((own_ab.sub ac0 (own_ab.mul bq0 bd0)).lt (by decide)) (by decide))
    refine R.dsub X21 hx (hb hby d1_85) (Y23.nn : NoNaN64 (FP.dsub x0 (FP.dmul r20 y0))) (pc' := 86) rfl ?_
    show Rn p e below (T21.setTop (mkF m 86 #[.val (.ref a0), .val (.ref a1), .val (.int (2 : Int32)), .val (.ref b1), .val (.ref b3), .val (.int (0 : Int32)), .val (.int (0 : Int32))] [(.double (FP.dsub x0 (FP.dmul r20 y0))), (.int (0 : Int32)), (.ref b1)])) G
    generalize hr24 : (FP.dsub x0 (FP.dmul r20 y0)) = r24
    have D_r24 : Dy r24 ((C0 - (Q0 * D0))) 0 := hr24 ▸ Y23
    have A_r24 : own_ab ((C0 - (Q0 * D0))) 32896 := (own_ab.sub ac0 (own_ab.mul bq0 bd0))
    refine R.dastore X21 hx hZ e21 V_b1 (⟨by decide, by decide⟩ : ¬ (0 : Int32) < 0 ∧ (0 : Int32) < (4 : Int32)) (hb hby d1_86) (pc' := 87) rfl ?_; intro T25 h25 X25 e25 W25 V25
    have V_a0 := V_a0.other W25 ne_a0_b1
    have E_a0 := E_a0.wr W25
    have V_a1 := V_a1.other W25 ne_a1_b1
    have E_b1 := E_b1.wr W25
    have V_b3 := V_b3.other W25 (Ne.symm ne_b1_b3)
    have V_b1 : Arh Z h25 b1 ka .double (4 : Int32) (((0 : Int32), (.double r24)) :: ((3 : Int32), (.double r17)) :: ((2 : Int32), (.double r13)) :: ((1 : Int32), (.double r9)) :: ha) [] (.double (0 : UInt64)) := V25
    have N25 := Fr.snoc X25 N21 g_b1
    have K25 : Keep h0 h25 [] := K21.wr W25 (Or.inr sz_b1)
    have Z25 : n0 ≤ h25.size := Nat.le_trans Z21 (Keep.of_wr W25).1
    refine R.iinc X25 hx (hb hby d1_87) rfl (L' := #[.val (.ref a0), .val (.ref a1), .val (.int (2 : Int32)), .val (.ref b1), .val (.ref b3), .val (.int (0 : Int32)), .val (.int (1 : Int32))]) rfl (pc' := 90) rfl ?_
    refine R.goto X25 hx (hb hby d1_90) (by decide) (pc' := 61) (by decide) ?_
    refine R.iload X25 hx (hb hby d1_61) rfl (pc' := 63) rfl ?_
    refine R.iloadN X25 hx (hb hby d1_63) rfl (pc' := 64) rfl ?_
    refine R.icmpNo X25 hx (hb hby d1_64) (flt (by decide : ¬ ((2 : Int32) < (1 : Int32)))).2.2.1 (pc' := 67) rfl ?_
    refine R.aloadN X25 hx (hb hby d1_67) rfl rfl (pc' := 68) rfl ?_
    refine R.iload X25 hx (hb hby d1_68) rfl (pc' := 70) rfl ?_
    refine R.iload X25 hx (hb hby d1_70) rfl (pc' := 72) rfl ?_
    refine R.iadd X25 hx (hb hby d1_72) (v := (1 : Int32)) (by decide) (pc' := 73) rfl ?_
    refine R.dup2 X25 hx (hb hby d1_73) rfl rfl (pc' := 74) rfl ?_
    refine R.daload X25 hx hZ e25 V_b1 (⟨by decide, by decide⟩ : ¬ (1 : Int32) < 0 ∧ (1 : Int32) < (4 : Int32)) (v := (.double r9)) (getH_miss (by decide) (by decide) (getH_miss (by decide) (by decide) (getH_miss (by decide) (by decide) (getH_hit (by decide) (rfl))))) (hb hby d1_74) (pc' := 75) rfl ?_
    refine R.aload X25 hx (hb hby d1_75) rfl rfl (pc' := 77) rfl ?_
    refine R.iload X25 hx (hb hby d1_77) rfl (pc' := 79) rfl ?_
    refine R.daload X25 hx hZ e25 V_b3 (⟨by decide, by decide⟩ : ¬ (0 : Int32) < 0 ∧ (0 : Int32) < (2 : Int32)) (v := (.double r20)) (getH_hit (by decide) (rfl)) (hb hby d1_79) (pc' := 80) rfl ?_
    refine R.aloadN X25 hx (hb hby d1_80) rfl rfl (pc' := 81) rfl ?_
    refine R.iload X25 hx (hb hby d1_81) rfl (pc' := 83) rfl ?_
    refine R.daload X25 hx hZ e25 V_a1 (⟨by decide, by decide⟩ : ¬ (1 : Int32) < 0 ∧ (1 : Int32) < (3 : Int32)) (v := (.double y1)) (vy1) (hb hby d1_83) (pc' := 84) rfl ?_
    have Y26 := (Dy.mul D_r20 Dy1 ((own_ab.mul bq0 bd1).lt (by decide)) (by decide))
    refine R.dmul X25 hx (hb hby d1_84) (Y26.nn : NoNaN64 (FP.dmul r20 y1)) (pc' := 85) rfl ?_
    have Y27 := (Dy.sub D_r9 Y26 ((own_ab.sub A_r9 (own_ab.mul bq0 bd1)).lt (by decide)) (by decide))
    refine R.dsub X25 hx (hb hby d1_85) (Y27.nn : NoNaN64 (FP.dsub r9 (FP.dmul r20 y1))) (pc' := 86) rfl ?_
    show Rn p e below (T25.setTop (mkF m 86 #[.val (.ref a0), .val (.ref a1), .val (.int (2 : Int32)), .val (.ref b1), .val (.ref b3), .val (.int (0 : Int32)), .val (.int (1 : Int32))] [(.double (FP.dsub r9 (FP.dmul r20 y1))), (.int (1 : Int32)), (.ref b1)])) G
    generalize hr28 : (FP.dsub r9 (FP.dmul r20 y1)) = r28
    have D_r28 : Dy r28 (((C1 - (Q1 * D0)) - (Q0 * D1))) 0 := hr28 ▸ Y27
    have A_r28 : own_ab (((C1 - (Q1 * D0)) - (Q0 * D1))) 65664 := (own_ab.sub A_r9 (own_ab.mul bq0 bd1))
    refine R.dastore X25 hx hZ e25 V_b1 (⟨by decide, by decide⟩ : ¬ (1 : Int32) < 0 ∧ (1 : Int32) < (4 : Int32)) (hb hby d1_86) (pc' := 87) rfl ?_; intro T29 h29 X29 e29 W29 V29
    have V_a0 := V_a0.other W29 ne_a0_b1
    have E_a0 := E_a0.wr W29
    have V_a1 := V_a1.other W29 ne_a1_b1
    have E_b1 := E_b1.wr W29
    have V_b3 := V_b3.other W29 (Ne.symm ne_b1_b3)
    have V_b1 : Arh Z h29 b1 ka .double (4 : Int32) (((1 : Int32), (.double r28)) :: ((0 : Int32), (.double r24)) :: ((3 : Int32), (.double r17)) :: ((2 : Int32), (.double r13)) :: ((1 : Int32), (.double r9)) :: ha) [] (.double (0 : UInt64)) := V29
    have N29 := Fr.snoc X29 N25 g_b1
    have K29 : Keep h0 h29 [] := K25.wr W29 (Or.inr sz_b1)
    have Z29 : n0 ≤ h29.size := Nat.le_trans Z25 (Keep.of_wr W29).1
    refine R.iinc X29 hx (hb hby d1_87) rfl (L' := #[.val (.ref a0), .val (.ref a1), .val (.int (2 : Int32)), .val (.ref b1), .val (.ref b3), .val (.int (0 : Int32)), .val (.int (2 : Int32))]) rfl (pc' := 90) rfl ?_
    refine R.goto X29 hx (hb hby d1_90) (by decide) (pc' := 61) (by decide) ?_
    refine R.iload X29 hx (hb hby d1_61) rfl (pc' := 63) rfl ?_
    refine R.iloadN X29 hx (hb hby d1_63) rfl (pc' := 64) rfl ?_
    refine R.icmpNo X29 hx (hb hby d1_64) (flt (by decide : ¬ ((2 : Int32) < (2 : Int32)))).2.2.1 (pc' := 67) rfl ?_
    refine R.aloadN X29 hx (hb hby d1_67) rfl rfl (pc' := 68) rfl ?_
    refine R.iload X29 hx (hb hby d1_68) rfl (pc' := 70) rfl ?_
    refine R.iload X29 hx (hb hby d1_70) rfl (pc' := 72) rfl ?_
    refine R.iadd X29 hx (hb hby d1_72) (v := (2 : Int32)) (by decide) (pc' := 73) rfl ?_
    refine R.dup2 X29 hx (hb hby d1_73) rfl rfl (pc' := 74) rfl ?_
    refine R.daload X29 hx hZ e29 V_b1 (⟨by decide, by decide⟩ : ¬ (2 : Int32) < 0 ∧ (2 : Int32) < (4 : Int32)) (v := (.double r13)) (getH_miss (by decide) (by decide) (getH_miss (by decide) (by decide) (getH_miss (by decide) (by decide) (getH_hit (by decide) (rfl))))) (hb hby d1_74) (pc' := 75) rfl ?_
    refine R.aload X29 hx (hb hby d1_75) rfl rfl (pc' := 77) rfl ?_
    refine R.iload X29 hx (hb hby d1_77) rfl (pc' := 79) rfl ?_
    refine R.daload X29 hx hZ e29 V_b3 (⟨by decide, by decide⟩ : ¬ (0 : Int32) < 0 ∧ (0 : Int32) < (2 : Int32)) (v := (.double r20)) (getH_hit (by decide) (rfl)) (hb hby d1_79) (pc' := 80) rfl ?_
    refine R.aloadN X29 hx (hb hby d1_80) rfl rfl (pc' := 81) rfl ?_
    refine R.iload X29 hx (hb hby d1_81) rfl (pc' := 83) rfl ?_
    refine R.daload X29 hx hZ e29 V_a1 (⟨by decide, by decide⟩ : ¬ (2 : Int32) < 0 ∧ (2 : Int32) < (3 : Int32)) (v := (.double y2)) (vy2) (hb hby d1_83) (pc' := 84) rfl ?_
    have Y30 := (Dy.mul D_r20 Dy2 ((own_ab.mul bq0 bd2).lt (by decide)) (by decide))
    refine R.dmul X29 hx (hb hby d1_84) (Y30.nn : NoNaN64 (FP.dmul r20 y2)) (pc' := 85) rfl ?_
    have Y31 := (Dy.sub D_r13 Y30 ((own_ab.sub A_r13 (own_ab.mul bq0 bd2)).lt (by decide)) (by decide))
    refine R.dsub X29 hx (hb hby d1_85) (Y31.nn : NoNaN64 (FP.dsub r13 (FP.dmul r20 y2))) (pc' := 86) rfl ?_
    show Rn p e below (T29.setTop (mkF m 86 #[.val (.ref a0), .val (.ref a1), .val (.int (2 : Int32)), .val (.ref b1), .val (.ref b3), .val (.int (0 : Int32)), .val (.int (2 : Int32))] [(.double (FP.dsub r13 (FP.dmul r20 y2))), (.int (2 : Int32)), (.ref b1)])) G
    generalize hr32 : (FP.dsub r13 (FP.dmul r20 y2)) = r32
    have D_r32 : Dy r32 (((C2 - (Q1 * D1)) - (Q0 * D2))) 0 := hr32 ▸ Y31
    have A_r32 : own_ab (((C2 - (Q1 * D1)) - (Q0 * D2))) 65536 := (own_ab.sub A_r13 (own_ab.mul bq0 bd2))
    refine R.dastore X29 hx hZ e29 V_b1 (⟨by decide, by decide⟩ : ¬ (2 : Int32) < 0 ∧ (2 : Int32) < (4 : Int32)) (hb hby d1_86) (pc' := 87) rfl ?_; intro T33 h33 X33 e33 W33 V33
    have V_a0 := V_a0.other W33 ne_a0_b1
    have E_a0 := E_a0.wr W33
    have V_a1 := V_a1.other W33 ne_a1_b1
    have E_b1 := E_b1.wr W33
    have V_b3 := V_b3.other W33 (Ne.symm ne_b1_b3)
    have V_b1 : Arh Z h33 b1 ka .double (4 : Int32) (((2 : Int32), (.double r32)) :: ((1 : Int32), (.double r28)) :: ((0 : Int32), (.double r24)) :: ((3 : Int32), (.double r17)) :: ((2 : Int32), (.double r13)) :: ((1 : Int32), (.double r9)) :: ha) [] (.double (0 : UInt64)) := V33
    have N33 := Fr.snoc X33 N29 g_b1
    have K33 : Keep h0 h33 [] := K29.wr W33 (Or.inr sz_b1)
    have Z33 : n0 ≤ h33.size := Nat.le_trans Z29 (Keep.of_wr W33).1
    refine R.iinc X33 hx (hb hby d1_87) rfl (L' := #[.val (.ref a0), .val (.ref a1), .val (.int (2 : Int32)), .val (.ref b1), .val (.ref b3), .val (.int (0 : Int32)), .val (.int (3 : Int32))]) rfl (pc' := 90) rfl ?_
    refine R.goto X33 hx (hb hby d1_90) (by decide) (pc' := 61) (by decide) ?_
    refine R.iload X33 hx (hb hby d1_61) rfl (pc' := 63) rfl ?_
    refine R.iloadN X33 hx (hb hby d1_63) rfl (pc' := 64) rfl ?_
    refine R.icmpYes X33 hx (hb hby d1_64) (tlt (by decide : (2 : Int32) < (3 : Int32))).2.2.1 (by decide) (pc' := 93) (by decide) ?_
    refine R.iinc X33 hx (hb hby d1_93) rfl (L' := #[.val (.ref a0), .val (.ref a1), .val (.int (2 : Int32)), .val (.ref b1), .val (.ref b3), .val (.int (-1 : Int32)), .val (.int (3 : Int32))]) rfl (pc' := 96) rfl ?_
    refine R.goto X33 hx (hb hby d1_96) (by decide) (pc' := 38) (by decide) ?_
    refine R.iload X33 hx (hb hby d1_38) rfl (pc' := 40) rfl ?_
    refine R.ifYes X33 hx (hb hby d1_40) (tlt (by decide : (-1 : Int32) < (0 : Int32))).1 (by decide) (pc' := 99) (by decide) ?_
    refine R.aload X33 hx (hb hby d1_99) rfl rfl (pc' := 101) rfl ?_
    rw [← hG]
    exact Rn.ret X33 (BodyLoose.notSynchronized Bd) (v := some (.ref b3)) (fun h => by rw [Bd.returns] at h; cases h) (Q := Qqq32 Z a0 a1 ka kb ha hbb x0 x1 x2 x3 y0 y1 y2 C0 C1 C2 C3 D0 D1 D2 Q0 Q1 R0 R1 h0 n0) e33 (fun fs hr => retOut X33 hx (t := (.array .double)) Bd.returns rfl (Or.inr (Or.inr (Or.inr (Or.inr ⟨rfl, rfl, rfl⟩)))) (hb hby d1_101) hr) ⟨b3, k3, [((0 : Int32), (.double r20)), ((1 : Int32), (.double r5))], rfl, N33, K33, sz_b3, V_b3, ⟨_, getH_hit (by decide) (rfl), D_r20⟩, ⟨_, getH_miss (by decide) (by decide) (getH_hit (by decide) (rfl)), D_r5⟩⟩ (by decide) (by decide)
  exact (Rn.st (fun t k => castTop (ef_qq32 m a0 a1) k) first_ : Rn p e below (s₁.setTop (entryFrame m #[(.ref a0), (.ref a1)] 7)) (Fnqq32 Z a0 a1 ka kb ha hbb x0 x1 x2 x3 y0 y1 y2 C0 C1 C2 C3 D0 D1 D2 Q0 Q1 R0 R1 h0 n0 s))
theorem ef_qq33 (m : MethodId) (x0 : Addr) (x1 : Addr) : entryFrame m #[(.ref x0), (.ref x1)] 7 = mkF m 0 #[.val (.ref x0), .val (.ref x1), .unset, .unset, .unset, .unset, .unset] [] := by first | (simp [entryFrame, mkF, argsToLocals, Value.category]; done) | rfl
def Qqq33 (Z : State) (a0 : Addr) (a1 : Addr) (ka : ClassId) (kb : ClassId) (ha : List (Int32 × Value)) (hbb : List (Int32 × Value)) (x0 : UInt64) (x1 : UInt64) (x2 : UInt64) (x3 : UInt64) (x4 : UInt64) (y0 : UInt64) (y1 : UInt64) (y2 : UInt64) (C0 : Int) (C1 : Int) (C2 : Int) (C3 : Int) (C4 : Int) (D0 : Int) (D1 : Int) (D2 : Int) (Q0 : Int) (Q1 : Int) (Q2 : Int) (R0 : Int) (R1 : Int) (h0 : Heap) (n0 : Nat) (vQ : Option Value) (hQ_ : Heap) (LQ : List Loc) : Prop := ∃ r : Addr, ∃ kr : ClassId, ∃ hr : List (Int32 × Value), vQ = some (.ref r) ∧ Fr n0 LQ ∧ Keep h0 hQ_ [] ∧ (h0.size ≤ r) ∧ (Arh Z hQ_ r kr .double (3 : Int32) hr [] (.double (0 : UInt64))) ∧ (∃ v : UInt64, getH hr [] (.double (0 : UInt64)) ((0 : Int32)).toNatClampNeg = (.double v) ∧ Dy v Q0 0) ∧ (∃ v : UInt64, getH hr [] (.double (0 : UInt64)) ((1 : Int32)).toNatClampNeg = (.double v) ∧ Dy v Q1 0) ∧ (∃ v : UInt64, getH hr [] (.double (0 : UInt64)) ((2 : Int32)).toNatClampNeg = (.double v) ∧ Dy v Q2 0)
def Fnqq33 (Z : State) (a0 : Addr) (a1 : Addr) (ka : ClassId) (kb : ClassId) (ha : List (Int32 × Value)) (hbb : List (Int32 × Value)) (x0 : UInt64) (x1 : UInt64) (x2 : UInt64) (x3 : UInt64) (x4 : UInt64) (y0 : UInt64) (y1 : UInt64) (y2 : UInt64) (C0 : Int) (C1 : Int) (C2 : Int) (C3 : Int) (C4 : Int) (D0 : Int) (D1 : Int) (D2 : Int) (Q0 : Int) (Q1 : Int) (Q2 : Int) (R0 : Int) (R1 : Int) (h0 : Heap) (n0 : Nat) (sQ : State) (oQ : Outcome) (UQ : State) : Prop := ∃ vQ LQ, oQ = .returned vQ ∧ Qqq33 Z a0 a1 ka kb ha hbb x0 x1 x2 x3 x4 y0 y1 y2 C0 C1 C2 C3 C4 D0 D1 D2 Q0 Q1 Q2 R0 R1 h0 n0 vQ UQ.heap LQ ∧ FrameEnd sQ oQ UQ LQ ({ frames := 1, cells := 2, slots := 8, locals := 14 } : Room).cells ({ frames := 1, cells := 2, slots := 8, locals := 14 } : Room).slots
set_option maxRecDepth 65536 in
set_option maxHeartbeats 40000000 in
theorem rmqq33 (l : Launch) (Z : State) (aZ : Array Value) (hw : ∀ d ∈ tables_1, d.before aZ Z = true) (ws : List Jvm.Cond) (a0 : Addr) (a1 : Addr) (ka : ClassId) (kb : ClassId) (ha : List (Int32 × Value)) (hbb : List (Int32 × Value)) (x0 : UInt64) (x1 : UInt64) (x2 : UInt64) (x3 : UInt64) (x4 : UInt64) (y0 : UInt64) (y1 : UInt64) (y2 : UInt64) (C0 : Int) (C1 : Int) (C2 : Int) (C3 : Int) (C4 : Int) (D0 : Int) (D1 : Int) (D2 : Int) (Q0 : Int) (Q1 : Int) (Q2 : Int) (R0 : Int) (R1 : Int) (h0 : Heap) (n0 : Nat) (Z0 : n0 ≤ h0.size) (V_a0 : Arh Z h0 a0 ka .double (5 : Int32) ha [] (.double (0 : UInt64))) (E_a0 : Exa Z h0 a0 "[D") (V_a1 : Arh Z h0 a1 kb .double (3 : Int32) hbb [] (.double (0 : UInt64))) (vx0 : getH ha [] (.double (0 : UInt64)) ((0 : Int32)).toNatClampNeg = (.double x0)) (Dx0 : Dy x0 C0 0) (vx1 : getH ha [] (.double (0 : UInt64)) ((1 : Int32)).toNatClampNeg = (.double x1)) (Dx1 : Dy x1 C1 0) (vx2 : getH ha [] (.double (0 : UInt64)) ((2 : Int32)).toNatClampNeg = (.double x2)) (Dx2 : Dy x2 C2 0) (vx3 : getH ha [] (.double (0 : UInt64)) ((3 : Int32)).toNatClampNeg = (.double x3)) (Dx3 : Dy x3 C3 0) (vx4 : getH ha [] (.double (0 : UInt64)) ((4 : Int32)).toNatClampNeg = (.double x4)) (Dx4 : Dy x4 C4 0) (vy0 : getH hbb [] (.double (0 : UInt64)) ((0 : Int32)).toNatClampNeg = (.double y0)) (Dy0 : Dy y0 D0 0) (vy1 : getH hbb [] (.double (0 : UInt64)) ((1 : Int32)).toNatClampNeg = (.double y1)) (Dy1 : Dy y1 D1 0) (vy2 : getH hbb [] (.double (0 : UInt64)) ((2 : Int32)).toNatClampNeg = (.double y2)) (Dy2 : Dy y2 D2 0) (el0 : C0 = Q0 * D0 + R0) (el1 : C1 = Q0 * D1 + Q1 * D0 + R1) (el2 : C2 = Q0 * D2 + Q1 * D1 + Q2 * D0) (el3 : C3 = Q1 * D2 + Q2 * D1) (el4 : C4 = Q2 * D2) (hL : D2 ≠ 0) (bd0 : own_ab D0 128) (bd1 : own_ab D1 128) (bd2 : own_ab D2 128) (bq0 : own_ab Q0 128) (bq1 : own_ab Q1 128) (bq2 : own_ab Q2 128) (br0 : own_ab R0 128) (br1 : own_ab R1 128) :
    MetFree l (⟨"com/example/deseason/deseason/arima/Polynomials", "quotient", "([D[D)[D"⟩ : MethodName) (head1 (Jvm.Cond.code (⟨"com/example/deseason/deseason/arima/Polynomials", "quotient", "([D[D)[D"⟩ : MethodName) prog_10_method_6_code 7 (some (.array .double)) :: ws) ({ frames := 1, cells := 2, slots := 8, locals := 14 } : Room)) (fun aQ UQ => aQ = #[(.ref a0), (.ref a1)] ∧ Z.Warmed39 UQ.vm ∧ UQ.heap = h0) (fun _ _ _ _ _ => True) (fun _ UQ oQ UR => ∃ vQ LQ, oQ = .returned vQ ∧ Qqq33 Z a0 a1 ka kb ha hbb x0 x1 x2 x3 x4 y0 y1 y2 C0 C1 C2 C3 C4 D0 D1 D2 Q0 Q1 Q2 R0 R1 h0 n0 vQ UR.heap LQ ∧ FrameEnd UQ oQ UR LQ ({ frames := 1, cells := 2, slots := 8, locals := 14 } : Room).cells ({ frames := 1, cells := 2, slots := 8, locals := 14 } : Room).slots) := by
  refine MetFree.of_bodySF (plainFor_of_name pn_1) hisR ?_
  intro p e s m args below meth c s₁ Bd hml0 hP hK
  obtain ⟨rfl, hZ, hh⟩ := hP
  have hx := Bd.exec
  have hby := Bd.bytes
  have hml : c.maxLocals = 7 := hml0
  have hown : s.vm.findClass "com/example/deseason/deseason/arima/Polynomials" = some m.cls := findClass_of_methodNamed Bd.named
  have hnm := (name_of_methodNamed Bd.named Bd.method).1
  have X0 : Stand p l e ({ frames := 1, cells := 2, slots := 8, locals := 14 } : Room) s m #[(.ref a0), (.ref a1)] below meth c s₁ [] 0 0 := Stand.of_body Bd
  have e0 : s₁.heap = h0 := by rw [← hh, Bd.state]; rfl
  have N0 := Fr.nil n0
  have K0 : Keep h0 h0 [] := Keep.refl _ _
  have w_1 := hw _ (List.mem_of_getElem? (i := 1) rfl)
  have w_16 := hw _ (List.mem_of_getElem? (i := 16) rfl)
  have w_17 := hw _ (List.mem_of_getElem? (i := 17) rfl)
  have w_19 := hw _ (List.mem_of_getElem? (i := 19) rfl)
  have w_20 := hw _ (List.mem_of_getElem? (i := 20) rfl)
  have w_21 := hw _ (List.mem_of_getElem? (i := 21) rfl)
  have w_22 := hw _ (List.mem_of_getElem? (i := 22) rfl)
  have w_23 := hw _ (List.mem_of_getElem? (i := 23) rfl)
  have first_ : Rn p e below (s₁.setTop (mkF m 0 #[.val (.ref a0), .val (.ref a1), .unset, .unset, .unset, .unset, .unset] [])) (Fnqq33 Z a0 a1 ka kb ha hbb x0 x1 x2 x3 x4 y0 y1 y2 C0 C1 C2 C3 C4 D0 D1 D2 Q0 Q1 Q2 R0 R1 h0 n0 s) := by
    generalize hG : (Fnqq33 Z a0 a1 ka kb ha hbb x0 x1 x2 x3 x4 y0 y1 y2 C0 C1 C2 C3 C4 D0 D1 D2 Q0 Q1 Q2 R0 R1 h0 n0 s) = G
    have ac0 : own_ab C0 16512 := el0 ▸ (own_ab.add (own_ab.mul bq0 bd0) br0)
    have ac1 : own_ab C1 32896 := el1 ▸ (own_ab.add (own_ab.add (own_ab.mul bq0 bd1) (own_ab.mul bq1 bd0)) br1)
    have ac2 : own_ab C2 49152 := el2 ▸ (own_ab.add (own_ab.add (own_ab.mul bq0 bd2) (own_ab.mul bq1 bd1)) (own_ab.mul bq2 bd0))
    have ac3 : own_ab C3 32768 := el3 ▸ (own_ab.add (own_ab.mul bq1 bd2) (own_ab.mul bq2 bd1))
    have ac4 : own_ab C4 16384 := el4 ▸ (own_ab.mul bq2 bd2)
    refine R.aloadN X0 hx (hb hby d1_0) rfl rfl (pc' := 1) rfl ?_
    refine R.alen X0 hx hZ e0 V_a1 (hb hby d1_1) (pc' := 2) rfl ?_
    refine R.iconst X0 hx (hb hby d1_2) (v := (1 : Int32)) (by decide) (pc' := 3) rfl ?_
    refine R.isub X0 hx (hb hby d1_3) (v := (2 : Int32)) (by decide) (pc' := 4) rfl ?_
    refine R.istoreN X0 hx (hb hby d1_4) (L' := #[.val (.ref a0), .val (.ref a1), .val (.int (2 : Int32)), .unset, .unset, .unset, .unset]) rfl (pc' := 5) rfl ?_
    refine R.aloadN X0 hx (hb hby d1_5) rfl rfl (pc' := 6) rfl ?_
    refine R.alen X0 hx hZ e0 V_a0 (hb hby d1_6) (pc' := 7) rfl ?_
    refine R.iloadN X0 hx (hb hby d1_7) rfl (pc' := 8) rfl ?_
    refine R.icmpYes X0 hx (hb hby d1_8) (tlt (by decide : (2 : Int32) < (5 : Int32))).2.2.1 (by decide) (pc' := 15) (by decide) ?_
    refine R.aloadN X0 hx (hb hby d1_15) rfl rfl (pc' := 16) rfl ?_
    show Rn p e below (s₁.setTop (mkF m 16 #[.val (.ref a0), .val (.ref a1), .val (.int (2 : Int32)), .unset, .unset, .unset, .unset] [(.ref a0)])) G
    obtain ⟨T1, h1, X1, e1, E1, V1, EE1, st1⟩ := cloneH X0 hx hZ hown (ad := "[D") w_16 w_17 w_21 w_19 w_20 w_22 e0 V_a0 E_a0 (g := (mkF m 16 #[.val (.ref a0), .val (.ref a1), .val (.int (2 : Int32)), .unset, .unset, .unset, .unset] [(.ref a0)])) rfl (by rw [hml]; rfl) rfl (hb hby d1_16) (by decide) (W := 0) (cap := 5) (by show 2 * 0 + _ ≤ _; exact Nat.le_of_eq rfl) (by decide) (by decide) (by decide) (by decide)
    obtain ⟨b1, g1⟩ : ∃ z, z = h0.size := ⟨_, rfl⟩
    rw [← g1] at V1 EE1 st1
    have g_b1 : n0 ≤ b1 := Nat.le_trans Z0 (Nat.le_of_eq g1.symm)
    have sz_b1 : h0.size ≤ b1 := Nat.le_trans K0.1 (Nat.le_of_eq g1.symm)
    have ne_a0_b1 : a0 ≠ b1 := Nat.ne_of_lt (Nat.lt_of_lt_of_le V_a0.lt (Nat.le_of_eq g1.symm))
    have ne_a1_b1 : a1 ≠ b1 := Nat.ne_of_lt (Nat.lt_of_lt_of_le V_a1.lt (Nat.le_of_eq g1.symm))
    have K1 : Keep h0 h1 [] := K0.ext E1
    have Z1 : n0 ≤ h1.size := Nat.le_trans Z0 E1.1
    have V_a0 := V_a0.ext E1
    have E_a0 := E_a0.ext E1
    have V_a1 := V_a1.ext E1
    have V_b1 : Arh Z h1 b1 ka .double (5 : Int32) ha [] (.double (0 : UInt64)) := V1
    have E_b1 : Exa Z h1 b1 "[D" := EE1
    refine Rn.st st1 ?_
    show Rn p e below (T1.setTop (mkF m 19 #[.val (.ref a0), .val (.ref a1), .val (.int (2 : Int32)), .unset, .unset, .unset, .unset] [(.ref b1)])) G
    refine R.castY X1 hx hZ hown w_23 e1 (Ins.self E_b1) (hb hby d1_19) (pc' := 22) rfl ?_; intro T2 X2 e2
    refine R.astoreN X2 hx (hb hby d1_22) rfl (L' := #[.val (.ref a0), .val (.ref a1), .val (.int (2 : Int32)), .val (.ref b1), .unset, .unset, .unset]) rfl (pc' := 23) rfl ?_
    refine R.aloadN X2 hx (hb hby d1_23) rfl rfl (pc' := 24) rfl ?_
    refine R.alen X2 hx hZ e2 V_a0 (hb hby d1_24) (pc' := 25) rfl ?_
    refine R.iloadN X2 hx (hb hby d1_25) rfl (pc' := 26) rfl ?_
    refine R.isub X2 hx (hb hby d1_26) (v := (3 : Int32)) (by decide) (pc' := 27) rfl ?_
    refine R.newP X2 hx hZ (ty := .double) rfl w_1 e2 (by decide) (cap := 3) (by decide) (by decide) (ad := "[D") (by decide) (hb hby d1_27) (pc' := 29) rfl (by decide) (by decide) ?_; intro T3 h3 b3 k3 g3 X3 e3 E3 EE3 AA3
    have g_b3 : n0 ≤ b3 := Nat.le_trans Z1 (Nat.le_of_eq g3.symm)
    have sz_b3 : h0.size ≤ b3 := Nat.le_trans K1.1 (Nat.le_of_eq g3.symm)
    have ne_a0_b3 : a0 ≠ b3 := Nat.ne_of_lt (Nat.lt_of_lt_of_le V_a0.lt (Nat.le_of_eq g3.symm))
    have ne_a1_b3 : a1 ≠ b3 := Nat.ne_of_lt (Nat.lt_of_lt_of_le V_a1.lt (Nat.le_of_eq g3.symm))
    have ne_b1_b3 : b1 ≠ b3 := Nat.ne_of_lt (Nat.lt_of_lt_of_le V_b1.lt (Nat.le_of_eq g3.symm))
    have K3 : Keep h0 h3 [] := K1.ext E3
    have Z3 : n0 ≤ h3.size := Nat.le_trans Z1 E3.1
    have V_a0 := V_a0.ext E3
    have E_a0 := E_a0.ext E3
    have V_a1 := V_a1.ext E3
    have V_b1 := V_b1.ext E3
    have E_b1 := E_b1.ext E3
    have V_b3 : Arh Z h3 b3 k3 .double (3 : Int32) [] [] (.double (0 : UInt64)) := AA3
    refine R.astore X3 hx (hb hby d1_29) rfl (L' := #[.val (.ref a0), .val (.ref a1), .val (.int (2 : Int32)), .val (.ref b1), .val (.ref b3), .unset, .unset]) rfl (pc' := 31) rfl ?_
    refine R.aload X3 hx (hb hby d1_31) rfl rfl (pc' := 33) rfl ?_
    refine R.alen X3 hx hZ e3 V_b3 (hb hby d1_33) (pc' := 34) rfl ?_
    refine R.iconst X3 hx (hb hby d1_34) (v := (1 : Int32)) (by decide) (pc' := 35) rfl ?_
    refine R.isub X3 hx (hb hby d1_35) (v := (2 : Int32)) (by decide) (pc' := 36) rfl ?_
    refine R.istore X3 hx (hb hby d1_36) (L' := #[.val (.ref a0), .val (.ref a1), .val (.int (2 : Int32)), .val (.ref b1), .val (.ref b3), .val (.int (2 : Int32)), .unset]) rfl (pc' := 38) rfl ?_
    refine R.iload X3 hx (hb hby d1_38) rfl (pc' := 40) rfl ?_
    refine R.ifNo X3 hx (hb hby d1_40) (flt (by decide : ¬ ((2 : Int32) < (0 : Int32)))).1 (pc' := 43) rfl ?_
    refine R.aload X3 hx (hb hby d1_43) rfl rfl (pc' := 45) rfl ?_
    refine R.iload X3 hx (hb hby d1_45) rfl (pc' := 47) rfl ?_
    refine R.aloadN X3 hx (hb hby d1_47) rfl rfl (pc' := 48) rfl ?_
    refine R.iload X3 hx (hb hby d1_48) rfl (pc' := 50) rfl ?_
    refine R.iloadN X3 hx (hb hby d1_50) rfl (pc' := 51) rfl ?_
    refine R.iadd X3 hx (hb hby d1_51) (v := (4 : Int32)) (by decide) (pc' := 52) rfl ?_
    refine R.daload X3 hx hZ e3 V_b1 (⟨by decide, by decide⟩ : ¬ (4 : Int32) < 0 ∧ (4 : Int32) < (5 : Int32)) (v := (.double x4)) (vx4) (hb hby d1_52) (pc' := 53) rfl ?_
    refine R.aloadN X3 hx (hb hby d1_53) rfl rfl (pc' := 54) rfl ?_
    refine R.iloadN X3 hx (hb hby d1_54) rfl (pc' := 55) rfl ?_
    refine R.daload X3 hx hZ e3 V_a1 (⟨by decide, by decide⟩ : ¬ (2 : Int32) < 0 ∧ (2 : Int32) < (3 : Int32)) (v := (.double y2)) (vy2) (hb hby d1_55) (pc' := 56) rfl ?_
    have Y4 := (Dy.div (m := Q2) (n := 0) Dx4 Dy2 hL (bq2.lt (by decide)) (by decide) (by simp only [own_one]; omega))
    refine R.ddiv X3 hx (hb hby d1_56) (Y4.nn : NoNaN64 (FP.ddiv x4 y2)) (pc' := 57) rfl ?_
    show Rn p e below (T3.setTop (mkF m 57 #[.val (.ref a0), .val (.ref a1), .val (.int (2 : Int32)), .val (.ref b1), .val (.ref b3), .val (.int (2 : Int32)), .unset] [(.double (FP.ddiv x4 y2)), (.int (2 : Int32)), (.ref b3)])) G
    generalize hr5 : (FP.ddiv x4 y2) = r5
    have D_r5 : Dy r5 (Q2) 0 := hr5 ▸ Y4
    refine R.dastore X3 hx hZ e3 V_b3 (⟨by decide, by decide⟩ : ¬ (2 : Int32) < 0 ∧ (2 : Int32) < (3 : Int32)) (hb hby d1_57) (pc' := 58) rfl ?_; intro T6 h6 X6 e6 W6 V6
    have V_a0 := V_a0.other W6 ne_a0_b3
    have E_a0 := E_a0.wr W6
    have V_a1 := V_a1.other W6 ne_a1_b3
    have V_b1 := V_b1.other W6 ne_b1_b3
    have E_b1 := E_b1.wr W6
    have V_b3 : Arh Z h6 b3 k3 .double (3 : Int32) [((2 : Int32), (.double r5))] [] (.double (0 : UInt64)) := V6
    have N6 := Fr.snoc X6 N0 g_b3
    have K6 : Keep h0 h6 [] := K3.wr W6 (Or.inr sz_b3)
    have Z6 : n0 ≤ h6.size := Nat.le_trans Z3 (Keep.of_wr W6).1
    refine R.iconst X6 hx (hb hby d1_58) (v := (0 : Int32)) (by decide) (pc' := 59) rfl ?_
    refine R.istore X6 hx (hb hby d1_59) (L' := #[.val (.ref a0), .val (.ref a1), .val (.int (2 : Int32)), .val (.ref b1), .val (.ref b3), .val (.int (2 : Int32)), .val (.int (0 : Int32))]) rfl (pc' := 61) rfl ?_
    refine R.iload X6 hx (hb hby d1_61) rfl (pc' := 63) rfl ?_
    refine R.iloadN X6 hx (hb hby d1_63) rfl (pc' := 64) rfl ?_
    refine R.icmpNo X6 hx (hb hby d1_64) (flt (by decide : ¬ ((2 : Int32) < (0 : Int32)))).2.2.1 (pc' := 67) rfl ?_
    refine R.aloadN X6 hx (hb hby d1_67) rfl rfl (pc' := 68) rfl ?_
    refine R.iload X6 hx (hb hby d1_68) rfl (pc' := 70) rfl ?_
    refine R.iload X6 hx (hb hby d1_70) rfl (pc' := 72) rfl ?_
    refine R.iadd X6 hx (hb hby d1_72) (v := (2 : Int32)) (by decide) (pc' := 73) rfl ?_
    refine R.dup2 X6 hx (hb hby d1_73) rfl rfl (pc' := 74) rfl ?_
    refine R.daload X6 hx hZ e6 V_b1 (⟨by decide, by decide⟩ : ¬ (2 : Int32) < 0 ∧ (2 : Int32) < (5 : Int32)) (v := (.double x2)) (vx2) (hb hby d1_74) (pc' := 75) rfl ?_
    refine R.aload X6 hx (hb hby d1_75) rfl rfl (pc' := 77) rfl ?_
    refine R.iload X6 hx (hb hby d1_77) rfl (pc' := 79) rfl ?_
    refine R.daload X6 hx hZ e6 V_b3 (⟨by decide, by decide⟩ : ¬ (2 : Int32) < 0 ∧ (2 : Int32) < (3 : Int32)) (v := (.double r5)) (getH_hit (by decide) (rfl)) (hb hby d1_79) (pc' := 80) rfl ?_
    refine R.aloadN X6 hx (hb hby d1_80) rfl rfl (pc' := 81) rfl ?_
    refine R.iload X6 hx (hb hby d1_81) rfl (pc' := 83) rfl ?_
    refine R.daload X6 hx hZ e6 V_a1 (⟨by decide, by decide⟩ : ¬ (0 : Int32) < 0 ∧ (0 : Int32) < (3 : Int32)) (v := (.double y0)) (vy0) (hb hby d1_83) (pc' := 84) rfl ?_
    have Y7 := (Dy.mul D_r5 Dy0 ((own_ab.mul bq2 bd0).lt (by decide)) (by decide))
    refine R.dmul X6 hx (hb hby d1_84) (Y7.nn : NoNaN64 (FP.dmul r5 y0)) (pc' := 85) rfl ?_
    have Y8 := (Dy.sub Dx2 Y7 ((own_ab.sub ac2 (own_ab.mul bq2 bd0)).lt (by decide)) (by decide))
    refine R.dsub X6 hx (hb hby d1_85) (Y8.nn : NoNaN64 (FP.dsub x2 (FP.dmul r5 y0))) (pc' := 86) rfl ?_
    show Rn p e below (T6.setTop (mkF m 86 #[.val (.ref a0), .val (.ref a1), .val (.int (2 : Int32)), .val (.ref b1), .val (.ref b3), .val (.int (2 : Int32)), .val (.int (0 : Int32))] [(.double (FP.dsub x2 (FP.dmul r5 y0))), (.int (2 : Int32)), (.ref b1)])) G
    generalize hr9 : (FP.dsub x2 (FP.dmul r5 y0)) = r9
    have D_r9 : Dy r9 ((C2 - (Q2 * D0))) 0 := hr9 ▸ Y8
    have A_r9 : own_ab ((C2 - (Q2 * D0))) 65536 := (own_ab.sub ac2 (own_ab.mul bq2 bd0))
    refine R.dastore X6 hx hZ e6 V_b1 (⟨by decide, by decide⟩ : ¬ (2 : Int32) < 0 ∧ (2 : Int32) < (5 : Int32)) (hb hby d1_86) (pc' := 87) rfl ?_; intro T10 h10 X10 e10 W10 V10
    have V_a0 := V_a0.other W10 ne_a0_b1
    have E_a0 := E_a0.wr W10
    have V_a1 := V_a1.other W10 ne_a1_b1
    have E_b1 := E_b1.wr W10
    have V_b3 := V_b3.other W10 (Ne.symm ne_b1_b3)
    have V_b1 : Arh Z h10 b1 ka .double (5 : Int32) (((2 : Int32), (.double r9)) :: ha) [] (.double (0 : UInt64)) := V10
    have N10 := Fr.snoc X10 N6 g_b1
    have K10 : Keep h0 h10 [] := K6.wr W10 (Or.inr sz_b1)
    have Z10 : n0 ≤ h10.size := Nat.le_trans Z6 (Keep.of_wr W10).1
    refine R.iinc X10 hx (hb hby d1_87) rfl (L' := #[.val (.ref a0), .val (.ref a1), .val (.int (2 : Int32)), .val (.ref b1), .val (.ref b3), .val (.int (2 : Int32)), .val (.int (1 : Int32))]) rfl (pc' := 90) rfl ?_
    refine R.goto X10 hx (hb hby d1_90) (by decide) (pc' := 61) (by decide) ?_
    refine R.iload X10 hx (hb hby d1_61) rfl (pc' := 63) rfl ?_
    refine R.iloadN X10 hx (hb hby d1_63) rfl (pc' := 64) rfl ?_
    refine R.icmpNo X10 hx (hb hby d1_64) (flt (by decide : ¬ ((2 : Int32) < (1 : Int32)))).2.2.1 (pc' := 67) rfl ?_
    refine R.aloadN X10 hx (hb hby d1_67) rfl rfl (pc' := 68) rfl ?_
    refine R.iload X10 hx (hb hby d1_68) rfl (pc' := 70) rfl ?_
    refine R.iload X10 hx (hb hby d1_70) rfl (pc' := 72) rfl ?_
    refine R.iadd X10 hx (hb hby d1_72) (v := (3 : Int32)) (by decide) (pc' := 73) rfl ?_
    refine R.dup2 X10 hx (hb hby d1_73) rfl rfl (pc' := 74) rfl ?_
    refine R.daload X10 hx hZ e10 V_b1 (⟨by decide, by decide⟩ : ¬ (3 : Int32) < 0 ∧ (3 : Int32) < (5 : Int32)) (v := (.double x3)) (getH_miss (by decide) (by decide) (vx3)) (hb hby d1_74) (pc' := 75) rfl ?_
    refine R.aload X10 hx (hb hby d1_75) rfl rfl (pc' := 77) rfl ?_
    refine R.iload X10 hx (hb hby d1_77) rfl (pc' := 79) rfl ?_
    refine R.daload X10 hx hZ e10 V_b3 (⟨by decide, by decide⟩ : ¬ (2 : Int32) < 0 ∧ (2 : Int32) < (3 : Int32)) (v := (.double r5)) (getH_hit (by decide) (rfl)) (hb hby d1_79) (pc' := 80) rfl ?_
    refine R.aloadN X10 hx (hb hby d1_80) rfl rfl (pc' := 81) rfl ?_
    refine R.iload X10 hx (hb hby d1_81) rfl (pc' := 83) rfl ?_
    refine R.daload X10 hx hZ e10 V_a1 (⟨by decide, by decide⟩ : ¬ (1 : Int32) < 0 ∧ (1 : Int32) < (3 : Int32)) (v := (.double y1)) (vy1) (hb hby d1_83) (pc' := 84) rfl ?_
    have Y11 := (Dy.mul D_r5 Dy1 ((own_ab.mul bq2 bd1).lt (by decide)) (by decide))
    refine R.dmul X10 hx (hb hby d1_84) (Y11.nn : NoNaN64 (FP.dmul r5 y1)) (pc' := 85) rfl ?_
    have Y12 := (Dy.sub Dx3 Y11 ((own_ab.sub ac3 (own_ab.mul bq2 bd1)).lt (by decide)) (by decide))
    refine R.dsub X10 hx (hb hby d1_85) (Y12.nn : NoNaN64 (FP.dsub x3 (FP.dmul r5 y1))) (pc' := 86) rfl ?_
    show Rn p e below (T10.setTop (mkF m 86 #[.val (.ref a0), .val (.ref a1), .val (.int (2 : Int32)), .val (.ref b1), .val (.ref b3), .val (.int (2 : Int32)), .val (.int (1 : Int32))] [(.double (FP.dsub x3 (FP.dmul r5 y1))), (.int (3 : Int32)), (.ref b1)])) G
    generalize hr13 : (FP.dsub x3 (FP.dmul r5 y1)) = r13
    have D_r13 : Dy r13 ((C3 - (Q2 * D1))) 0 := hr13 ▸ Y12
    have A_r13 : own_ab ((C3 - (Q2 * D1))) 49152 := (own_ab.sub ac3 (own_ab.mul bq2 bd1))
    refine R.dastore X10 hx hZ e10 V_b1 (⟨by decide, by decide⟩ : ¬ (3 : Int32) < 0 ∧ (3 : Int32) < (5 : Int32)) (hb hby d1_86) (pc' := 87) rfl ?_; intro T14 h14 X14 e14 W14 V14
    have V_a0 := V_a0.other W14 ne_a0_b1
    have E_a0 := E_a0.wr W14
    have V_a1 := V_a1.other W14 ne_a1_b1
    have E_b1 := E_b1.wr W14
    have V_b3 := V_b3.other W14 (Ne.symm ne_b1_b3)
    have V_b1 : Arh Z h14 b1 ka .double (5 : Int32) (((3 : Int32), (.double r13)) :: ((2 : Int32), (.double r9)) :: ha) [] (.double (0 : UInt64)) := V14
    have N14 := Fr.snoc X14 N10 g_b1
    have K14 : Keep h0 h14 [] := K10.wr W14 (Or.inr sz_b1)
    have Z14 : n0 ≤ h14.size := Nat.le_trans Z10 (Keep.of_wr W14).1
    refine R.iinc X14 hx (hb hby d1_87) rfl (L' := #[.val (.ref a0), .val (.ref a1), .val (.int (2 : Int32)), .val (.ref b1), .val (.ref b3), .val (.int (2 : Int32)), .val (.int (2 : Int32))]) rfl (pc' := 90) rfl ?_
    refine R.goto X14 hx (hb hby d1_90) (by decide) (pc' := 61) (by decide) ?_
    refine R.iload X14 hx (hb hby d1_61) rfl (pc' := 63) rfl ?_
    refine R.iloadN X14 hx (hb hby d1_63) rfl (pc' := 64) rfl ?_
    refine R.icmpNo X14 hx (hb hby d1_64) (flt (by decide : ¬ ((2 : Int32) < (2 : Int32)))).2.2.1 (pc' := 67) rfl ?_
    refine R.aloadN X14 hx (hb hby d1_67) rfl rfl (pc' := 68) rfl ?_
    refine R.iload X14 hx (hb hby d1_68) rfl (pc' := 70) rfl ?_
    refine R.iload X14 hx (hb hby d1_70) rfl (pc' := 72) rfl ?_
    refine R.iadd X14 hx (hb hby d1_72) (v := (4 : Int32)) (by decide) (pc' := 73) rfl ?_
    refine R.dup2 X14 hx (hb hby d1_73) rfl rfl (pc' := 74) rfl ?_
    refine R.daload X14 hx hZ e14 V_b1 (⟨by decide, by decide⟩ : ¬ (4 : Int32) < 0 ∧ (4 : Int32) < (5 : Int32)) (v := (.double x4)) (getH_miss (by decide) (by decide) (getH_miss (by decide) (by decide) (vx4))) (hb hby d1_74) (pc' := 75) rfl ?_
    refine R.aload X14 hx (hb hby d1_75) rfl rfl (pc' := 77) rfl ?_
    refine R.iload X14 hx (hb hby d1_77) rfl (pc' := 79) rfl ?_
    refine R.daload X14 hx hZ e14 V_b3 (⟨by decide, by decide⟩ : ¬ (2 : Int32) < 0 ∧ (2 : Int32) < (3 : Int32)) (v := (.double r5)) (getH_hit (by decide) (rfl)) (hb hby d1_79) (pc' := 80) rfl ?_
    refine R.aloadN X14 hx (hb hby d1_80) rfl rfl (pc' := 81) rfl ?_
    refine R.iload X14 hx (hb hby d1_81) rfl (pc' := 83) rfl ?_
    refine R.daload X14 hx hZ e14 V_a1 (⟨by decide, by decide⟩ : ¬ (2 : Int32) < 0 ∧ (2 : Int32) < (3 : Int32)) (v := (.double y2)) (vy2) (hb hby d1_83) (pc' := 84) rfl ?_
    have Y15 := (Dy.mul D_r5 Dy2 ((own_ab.mul bq2 bd2).lt (by decide)) (by decide))
    refine R.dmul X14 hx (hb hby d1_84) (Y15.nn : NoNaN64 (FP.dmul r5 y2)) (pc' := 85) rfl ?_
    have Y16 := (Dy.sub Dx4 Y15 ((own_ab.sub ac4 (own_ab.mul bq2 bd2)).lt (by decide)) (by decide))
    refine R.dsub X14 hx (hb hby d1_85) (Y16.nn : NoNaN64 (FP.dsub x4 (FP.dmul r5 y2))) (pc' := 86) rfl ?_
    show Rn p e below (T14.setTop (mkF m 86 #[.val (.ref a0), .val (.ref a1), .val (.int (2 : Int32)), .val (.ref b1), .val (.ref b3), .val (.int (2 : Int32)), .val (.int (2 : Int32))] [(.double (FP.dsub x4 (FP.dmul r5 y2))), (.int (4 : Int32)), (.ref b1)])) G
    generalize hr17 : (FP.dsub x4 (FP.dmul r5 y2)) = r17
    have D_r17 : Dy r17 ((C4 - (Q2 * D2))) 0 := hr17 ▸ Y16
    have A_r17 : own_ab ((C4 - (Q2 * D2))) 32768 := (own_ab.sub ac4 (own_ab.mul bq2 bd2))
    refine R.dastore X14 hx hZ e14 V_b1 (⟨by decide, by decide⟩ : ¬ (4 : Int32) < 0 ∧ (4 : Int32) < (5 : Int32)) (hb hby d1_86) (pc' := 87) rfl ?_; intro T18 h18 X18 e18 W18 V18
    have V_a0 := V_a0.other W18 ne_a0_b1
    have E_a0 := E_a0.wr W18
    have V_a1 := V_a1.other W18 ne_a1_b1
    have E_b1 := E_b1.wr W18
    have V_b3 := V_b3.other W18 (Ne.symm ne_b1_b3)
    have V_b1 : Arh Z h18 b1 ka .double (5 : Int32) (((4 : Int32), (.double r17)) :: ((3 : Int32), (.double r13)) :: ((2 : Int32), (.double r9)) :: ha) [] (.double (0 : UInt64)) := V18
    have N18 := Fr.snoc X18 N14 g_b1
    have K18 : Keep h0 h18 [] := K14.wr W18 (Or.inr sz_b1)
    have Z18 : n0 ≤ h18.size := Nat.le_trans Z14 (Keep.of_wr W18).1
    refine R.iinc X18 hx (hb hby d1_87) rfl (L' := #[.val (.ref a0), .val (.ref a1), .val (.int (2 : Int32)), .val (.ref b1), .val (.ref b3), .val (.int (2 : Int32)), .val (.int (3 : Int32))]) rfl (pc' := 90) rfl ?_
    refine R.goto X18 hx (hb hby d1_90) (by decide) (pc' := 61) (by decide) ?_
    refine R.iload X18 hx (hb hby d1_61) rfl (pc' := 63) rfl ?_
    refine R.iloadN X18 hx (hb hby d1_63) rfl (pc' := 64) rfl ?_
    refine R.icmpYes X18 hx (hb hby d1_64) (tlt (by decide : (2 : Int32) < (3 : Int32))).2.2.1 (by decide) (pc' := 93) (by decide) ?_
    refine R.iinc X18 hx (hb hby d1_93) rfl (L' := #[.val (.ref a0), .val (.ref a1), .val (.int (2 : Int32)), .val (.ref b1), .val (.ref b3), .val (.int (1 : Int32)), .val (.int (3 : Int32))]) rfl (pc' := 96) rfl ?_
    refine R.goto X18 hx (hb hby d1_96) (by decide) (pc' := 38) (by decide) ?_
    refine R.iload X18 hx (hb hby d1_38) rfl (pc' := 40) rfl ?_
    refine R.ifNo X18 hx (hb hby d1_40) (flt (by decide : ¬ ((1 : Int32) < (0 : Int32)))).1 (pc' := 43) rfl ?_
    refine R.aload X18 hx (hb hby d1_43) rfl rfl (pc' := 45) rfl ?_
    refine R.iload X18 hx (hb hby d1_45) rfl (pc' := 47) rfl ?_
    refine R.aloadN X18 hx (hb hby d1_47) rfl rfl (pc' := 48) rfl ?_
    refine R.iload X18 hx (hb hby d1_48) rfl (pc' := 50) rfl ?_
    refine R.iloadN X18 hx (hb hby d1_50) rfl (pc' := 51) rfl ?_
    refine R.iadd X18 hx (hb hby d1_51) (v := (3 : Int32)) (by decide) (pc' := 52) rfl ?_
    refine R.daload X18 hx hZ e18 V_b1 (⟨by decide, by decide⟩ : ¬ (3 : Int32) < 0 ∧ (3 : Int32) < (5 : Int32)) (v := (.double r13)) (getH_miss (by decide) (by decide) (getH_hit (by decide) (rfl))) (hb hby d1_52) (pc' := 53) rfl ?_
    refine R.aloadN X18 hx (hb hby d1_53) rfl rfl (pc' := 54) rfl ?_
    refine R.iloadN X18 hx (hb hby d1_54) rfl (pc' := 55) rfl ?_
    refine R.daload X18 hx hZ e18 V_a1 (⟨by decide, by decide⟩ : ¬ (2 : Int32) < 0 ∧ (2 : Int32) < (3 : Int32)) (v := (.double y2)) (vy2) (hb hby d1_55) (pc' := 56) rfl ?_
    have Y19 := (Dy.div (m := Q1) (n := 0) D_r13 Dy2 hL (bq1.lt (by decide)) (by decide) (by simp only [own_one]; omega))
    refine R.ddiv X18 hx (hb hby d1_56) (Y19.nn : NoNaN64 (FP.ddiv r13 y2)) (pc' := 57) rfl ?_
    show Rn p e below (T18.setTop (mkF m 57 #[.val (.ref a0), .val (.ref a1), .val (.int (2 : Int32)), .val (.ref b1), .val (.ref b3), .val (.int (1 : Int32)), .val (.int (3 : Int32))] [(.double (FP.ddiv r13 y2)), (.int (1 : Int32)), (.ref b3)])) G
    generalize hr20 : (FP.ddiv r13 y2) = r20
    have D_r20 : Dy r20 (Q1) 0 := hr20 ▸ Y19
    refine R.dastore X18 hx hZ e18 V_b3 (⟨by decide, by decide⟩ : ¬ (1 : Int32) < 0 ∧ (1 : Int32) < (3 : Int32)) (hb hby d1_57) (pc' := 58) rfl ?_; intro T21 h21 X21 e21 W21 V21
    have V_a0 := V_a0.other W21 ne_a0_b3
    have E_a0 := E_a0.wr W21
    have V_a1 := V_a1.other W21 ne_a1_b3
    have E_b1 := E_b1.wr W21
    have V_b1 := V_b1.other W21 ne_b1_b3
    have V_b3 : Arh Z h21 b3 k3 .double (3 : Int32) [((1 : Int32), (.double r20)), ((2 : Int32), (.double r5))] [] (.double (0 : UInt64)) := V21
    have N21 := Fr.snoc X21 N18 g_b3
    have K21 : Keep h0 h21 [] := K18.wr W21 (Or.inr sz_b3)
    have Z21 : n0 ≤ h21.size := Nat.le_trans Z18 (Keep.of_wr W21).1
    refine R.iconst X21 hx (hb hby d1_58) (v := (0 : Int32)) (by decide) (pc' := 59) rfl ?_
    refine R.istore X21 hx (hb hby d1_59) (L' := #[.val (.ref a0), .val (.ref a1), .val (.int (2 : Int32)), .val (.ref b1), .val (.ref b3), .val (.int (1 : Int32)), .val (.int (0 : Int32))]) rfl (pc' := 61) rfl ?_
    refine R.iload X21 hx (hb hby d1_61) rfl (pc' := 63) rfl ?_
    refine R.iloadN X21 hx (hb hby d1_63) rfl (pc' := 64) rfl ?_
    refine R.icmpNo X21 hx (hb hby d1_64) (flt (by decide : ¬ ((2 : Int32) < (0 : Int32)))).2.2.1 (pc' := 67) rfl ?_
    refine R.aloadN X21 hx (hb hby d1_67) rfl rfl (pc' := 68) rfl ?_
    refine R.iload X21 hx (hb hby d1_68) rfl (pc' := 70) rfl ?_
    refine R.iload X21 hx (hb hby d1_70) rfl (pc' := 72) rfl ?_
    refine R.iadd X21 hx (hb hby d1_72) (v := (1 : Int32)) (by decide) (pc' := 73) rfl ?_
    refine R.dup2 X21 hx (hb hby d1_73) rfl rfl (pc' := 74) rfl ?_
    refine R.daload X21 hx hZ e21 V_b1 (⟨by decide, by decide⟩ : ¬ (1 : Int32) < 0 ∧ (1 : Int32) < (5 : Int32)) (v := (.double x1)) (getH_miss (by decide) (by decide) (getH_miss (by decide) (by decide) (getH_miss (by decide) (by decide) (vx1)))) (hb hby d1_74) (pc' := 75) rfl ?_
    refine R.aload X21 hx (hb hby d1_75) rfl rfl (pc' := 77) rfl ?_
    refine R.iload X21 hx (hb hby d1_77) rfl (pc' := 79) rfl ?_
    refine R.daload X21 hx hZ e21 V_b3 (⟨by decide, by decide⟩ : ¬ (1 : Int32) < 0 ∧ (1 : Int32) < (3 : Int32)) (v := (.double r20)) (getH_hit (by decide) (rfl)) (hb hby d1_79) (pc' := 80) rfl ?_
    refine R.aloadN X21 hx (hb hby d1_80) rfl rfl (pc' := 81) rfl ?_
    refine R.iload X21 hx (hb hby d1_81) rfl (pc' := 83) rfl ?_
    refine R.daload X21 hx hZ e21 V_a1 (⟨by decide, by decide⟩ : ¬ (0 : Int32) < 0 ∧ (0 : Int32) < (3 : Int32)) (v := (.double y0)) (vy0) (hb hby d1_83) (pc' := 84) rfl ?_
    have Y22 := (Dy.mul D_r20 Dy0 ((own_ab.mul bq1 bd0).lt (by decide)) (by decide))
    refine R.dmul X21 hx (hb hby d1_84) (Y22.nn : NoNaN64 (FP.dmul r20 y0)) (pc' := 85) rfl ?_
    have Y23 := (Dy.sub Dx1 Y22 ((own_ab.sub ac1 (own_ab.mul bq1 bd0)).lt (by decide)) (by decide))
    refine R.dsub X21 hx (hb hby d1_85) (Y23.nn : NoNaN64 (FP.dsub x1 (FP.dmul r20 y0))) (pc' := 86) rfl ?_
    show Rn p e below (T21.setTop (mkF m 86 #[.val (.ref a0), .val (.ref a1), .val (.int (2 : Int32)), .val (.ref b1), .val (.ref b3), .val (.int (1 : Int32)), .val (.int (0 : Int32))] [(.double (FP.dsub x1 (FP.dmul r20 y0))), (.int (1 : Int32)), (.ref b1)])) G
    generalize hr24 : (FP.dsub x1 (FP.dmul r20 y0)) = r24
    have D_r24 : Dy r24 ((C1 - (Q1 * D0))) 0 := hr24 ▸ Y23
    have A_r24 : own_ab ((C1 - (Q1 * D0))) 49280 := (own_ab.sub ac1 (own_ab.mul bq1 bd0))
    refine R.dastore X21 hx hZ e21 V_b1 (⟨by decide, by decide⟩ : ¬ (1 : Int32) < 0 ∧ (1 : Int32) < (5 : Int32)) (hb hby d1_86) (pc' := 87) rfl ?_; intro T25 h25 X25 e25 W25 V25
    have V_a0 := V_a0.other W25 ne_a0_b1
    have E_a0 := E_a0.wr W25
    have V_a1 := V_a1.other W25 ne_a1_b1
    have E_b1 := E_b1.wr W25
    have V_b3 := V_b3.other W25 (Ne.symm ne_b1_b3)
    have V_b1 : Arh Z h25 b1 ka .double (5 : Int32) (((1 : Int32), (.double r24)) :: ((4 : Int32), (.double r17)) :: ((3 : Int32), (.double r13)) :: ((2 : Int32), (.double r9)) :: ha) [] (.double (0 : UInt64)) := V25
    have N25 := Fr.snoc X25 N21 g_b1
    have K25 : Keep h0 h25 [] := K21.wr W25 (Or.inr sz_b1)
    have Z25 : n0 ≤ h25.size := Nat.le_trans Z21 (Keep.of_wr W25).1
    refine R.iinc X25 hx (hb hby d1_87) rfl (L' := #[.val (.ref a0), .val (.ref a1), .val (.int (2 : Int32)), .val (.ref b1), .val (.ref b3), .val (.int (1 : Int32)), .val (.int (1 : Int32))]) rfl (pc' := 90) rfl ?_
    refine R.goto X25 hx (hb hby d1_90) (by decide) (pc' := 61) (by decide) ?_
    refine R.iload X25 hx (hb hby d1_61) rfl (pc' := 63) rfl ?_
    refine R.iloadN X25 hx (hb hby d1_63) rfl (pc' := 64) rfl ?_
    refine R.icmpNo X25 hx (hb hby d1_64) (flt (by decide : ¬ ((2 : Int32) < (1 : Int32)))).2.2.1 (pc' := 67) rfl ?_
    refine R.aloadN X25 hx (hb hby d1_67) rfl rfl (pc' := 68) rfl ?_
    refine R.iload X25 hx (hb hby d1_68) rfl (pc' := 70) rfl ?_
    refine R.iload X25 hx (hb hby d1_70) rfl (pc' := 72) rfl ?_
    refine R.iadd X25 hx (hb hby d1_72) (v := (2 : Int32)) (by decide) (pc' := 73) rfl ?_
    refine R.dup2 X25 hx (hb hby d1_73) rfl rfl (pc' := 74) rfl ?_
    refine R.daload X25 hx hZ e25 V_b1 (⟨by decide, by decide⟩ : ¬ (2 : Int32) < 0 ∧ (2 : Int32) < (5 : Int32)) (v := (.double r9)) (getH_miss (by decide) (by decide) (getH_miss (by decide) (by decide) (getH_miss (by decide) (by decide) (getH_hit (by decide) (rfl))))) (hb hby d1_74) (pc' := 75) rfl ?_
    refine R.aload X25 hx (hb hby d1_75) rfl rfl (pc' := 77) rfl ?_
    refine R.iload X25 hx (hb hby d1_77) rfl (pc' := 79) rfl ?_
    refine R.daload X25 hx hZ e25 V_b3 (⟨by decide, by decide⟩ : ¬ (1 : Int32) < 0 ∧ (1 : Int32) < (3 : Int32)) (v := (.double r20)) (getH_hit (by decide) (rfl)) (hb hby d1_79) (pc' := 80) rfl ?_
    refine R.aloadN X25 hx (hb hby d1_80) rfl rfl (pc' := 81) rfl ?_
    refine R.iload X25 hx (hb hby d1_81) rfl (pc' := 83) rfl ?_
    refine R.daload X25 hx hZ e25 V_a1 (⟨by decide, by decide⟩ : ¬ (1 : Int32) < 0 ∧ (1 : Int32) < (3 : Int32)) (v := (.double y1)) (vy1) (hb hby d1_83) (pc' := 84) rfl ?_
    have Y26 := (Dy.mul D_r20 Dy1 ((own_ab.mul bq1 bd1).lt (by decide)) (by decide))
    refine R.dmul X25 hx (hb hby d1_84) (Y26.nn : NoNaN64 (FP.dmul r20 y1)) (pc' := 85) rfl ?_
    have Y27 := (Dy.sub D_r9 Y26 ((own_ab.sub A_r9 (own_ab.mul bq1 bd1)).lt (by decide)) (by decide))
    refine R.dsub X25 hx (hb hby d1_85) (Y27.nn : NoNaN64 (FP.dsub r9 (FP.dmul r20 y1))) (pc' := 86) rfl ?_
    show Rn p e below (T25.setTop (mkF m 86 #[.val (.ref a0), .val (.ref a1), .val (.int (2 : Int32)), .val (.ref b1), .val (.ref b3), .val (.int (1 : Int32)), .val (.int (1 : Int32))] [(.double (FP.dsub r9 (FP.dmul r20 y1))), (.int (2 : Int32)), (.ref b1)])) G
    generalize hr28 : (FP.dsub r9 (FP.dmul r20 y1)) = r28
    have D_r28 : Dy r28 (((C2 - (Q2 * D0)) - (Q1 * D1))) 0 := hr28 ▸ Y27
    have A_r28 : own_ab (((C2 - (Q2 * D0)) - (Q1 * D1))) 81920 := (own_ab.sub A_r9 (own_ab.mul bq1 bd1))
    refine R.dastore X25 hx hZ e25 V_b1 (⟨by decide, by decide⟩ : ¬ (2 : Int32) < 0 ∧ (2 : Int32) < (5 : Int32)) (hb hby d1_86) (pc' := 87) rfl ?_; intro T29 h29 X29 e29 W29 V29
    have V_a0 := V_a0.other W29 ne_a0_b1
    have E_a0 := E_a0.wr W29
    have V_a1 := V_a1.other W29 ne_a1_b1
    have E_b1 := E_b1.wr W29
    have V_b3 := V_b3.other W29 (Ne.symm ne_b1_b3)
    have V_b1 : Arh Z h29 b1 ka .double (5 : Int32) (((2 : Int32), (.double r28)) :: ((1 : Int32), (.double r24)) :: ((4 : Int32), (.double r17)) :: ((3 : Int32), (.double r13)) :: ((2 : Int32), (.double r9)) :: ha) [] (.double (0 : UInt64)) := V29
    have N29 := Fr.snoc X29 N25 g_b1
    have K29 : Keep h0 h29 [] := K25.wr W29 (Or.inr sz_b1)
    have Z29 : n0 ≤ h29.size := Nat.le_trans Z25 (Keep.of_wr W29).1
    refine R.iinc X29 hx (hb hby d1_87) rfl (L' := #[.val (.ref a0), .val (.ref a1), .val (.int (2 : Int32)), .val (.ref b1), .val (.ref b3), .val (.int (1 : Int32)), .val (.int (2 : Int32))]) rfl (pc' := 90) rfl ?_
    refine R.goto X29 hx (hb hby d1_90) (by decide) (pc' := 61) (by decide) ?_
    refine R.iload X29 hx (hb hby d1_61) rfl (pc' := 63) rfl ?_
    refine R.iloadN X29 hx (hb hby d1_63) rfl (pc' := 64) rfl ?_
    refine R.icmpNo X29 hx (hb hby d1_64) (flt (by decide : ¬ ((2 : Int32) < (2 : Int32)))).2.2.1 (pc' := 67) rfl ?_
    refine R.aloadN X29 hx (hb hby d1_67) rfl rfl (pc' := 68) rfl ?_
    refine R.iload X29 hx (hb hby d1_68) rfl (pc' := 70) rfl ?_
    refine R.iload X29 hx (hb hby d1_70) rfl (pc' := 72) rfl ?_
    refine R.iadd X29 hx (hb hby d1_72) (v := (3 : Int32)) (by decide) (pc' := 73) rfl ?_
    refine R.dup2 X29 hx (hb hby d1_73) rfl rfl (pc' := 74) rfl ?_
    refine R.daload X29 hx hZ e29 V_b1 (⟨by decide, by decide⟩ : ¬ (3 : Int32) < 0 ∧ (3 : Int32) < (5 : Int32)) (v := (.double r13)) (getH_miss (by decide) (by decide) (getH_miss (by decide) (by decide) (getH_miss (by decide) (by decide) (getH_hit (by decide) (rfl))))) (hb hby d1_74) (pc' := 75) rfl ?_
    refine R.aload X29 hx (hb hby d1_75) rfl rfl (pc' := 77) rfl ?_
    refine R.iload X29 hx (hb hby d1_77) rfl (pc' := 79) rfl ?_
    refine R.daload X29 hx hZ e29 V_b3 (⟨by decide, by decide⟩ : ¬ (1 : Int32) < 0 ∧ (1 : Int32) < (3 : Int32)) (v := (.double r20)) (getH_hit (by decide) (rfl)) (hb hby d1_79) (pc' := 80) rfl ?_
    refine R.aloadN X29 hx (hb hby d1_80) rfl rfl (pc' := 81) rfl ?_
    refine R.iload X29 hx (hb hby d1_81) rfl (pc' := 83) rfl ?_
    refine R.daload X29 hx hZ e29 V_a1 (⟨by decide, by decide⟩ : ¬ (2 : Int32) < 0 ∧ (2 : Int32) < (3 : Int32)) (v := (.double y2)) (vy2) (hb hby d1_83) (pc' := 84) rfl ?_
    have Y30 := (Dy.mul D_r20 Dy2 ((own_ab.mul bq1 bd2).lt (by decide)) (by decide))
    refine R.dmul X29 hx (hb hby d1_84) (Y30.nn : NoNaN64 (FP.dmul r20 y2)) (pc' := 85) rfl ?_
    have Y31 := (Dy.sub D_r13 Y30 ((own_ab.sub A_r13 (own_ab.mul bq1 bd2)).lt (by decide)) (by decide))
    refine R.dsub X29 hx (hb hby d1_85) (Y31.nn : NoNaN64 (FP.dsub r13 (FP.dmul r20 y2))) (pc' := 86) rfl ?_
    show Rn p e below (T29.setTop (mkF m 86 #[.val (.ref a0), .val (.ref a1), .val (.int (2 : Int32)), .val (.ref b1), .val (.ref b3), .val (.int (1 : Int32)), .val (.int (2 : Int32))] [(.double (FP.dsub r13 (FP.dmul r20 y2))), (.int (3 : Int32)), (.ref b1)])) G
    generalize hr32 : (FP.dsub r13 (FP.dmul r20 y2)) = r32
    have D_r32 : Dy r32 (((C3 - (Q2 * D1)) - (Q1 * D2))) 0 := hr32 ▸ Y31
    have A_r32 : own_ab (((C3 - (Q2 * D1)) - (Q1 * D2))) 65536 := (own_ab.sub A_r13 (own_ab.mul bq1 bd2))
    refine R.dastore X29 hx hZ e29 V_b1 (⟨by decide, by decide⟩ : ¬ (3 : Int32) < 0 ∧ (3 : Int32) < (5 : Int32)) (hb hby d1_86) (pc' := 87) rfl ?_; intro T33 h33 X33 e33 W33 V33
    have V_a0 := V_a0.other W33 ne_a0_b1
    have E_a0 := E_a0.wr W33
    have V_a1 := V_a1.other W33 ne_a1_b1
    have E_b1 := E_b1.wr W33
    have V_b3 := V_b3.other W33 (Ne.symm ne_b1_b3)
    have V_b1 : Arh Z h33 b1 ka .double (5 : Int32) (((3 : Int32), (.double r32)) :: ((2 : Int32), (.double r28)) :: ((1 : Int32), (.double r24)) :: ((4 : Int32), (.double r17)) :: ((3 : Int32), (.double r13)) :: ((2 : Int32), (.double r9)) :: ha) [] (.double (0 : UInt64)) := V33
    have N33 := Fr.snoc X33 N29 g_b1
    have K33 : Keep h0 h33 [] := K29.wr W33 (Or.inr sz_b1)
    have Z33 : n0 ≤ h33.size := Nat.le_trans Z29 (Keep.of_wr W33).1
    refine R.iinc X33 hx (hb hby d1_87) rfl (L' := #[.val (.ref a0), .val (.ref a1), .val (.int (2 : Int32)), .val (.ref b1), .val (.ref b3), .val (.int (1 : Int32)), .val (.int (3 : Int32))]) rfl (pc' := 90) rfl ?_
    refine R.goto X33 hx (hb hby d1_90) (by decide) (pc' := 61) (by decide) ?_
    refine R.iload X33 hx (hb hby d1_61) rfl (pc' := 63) rfl ?_
    refine R.iloadN X33 hx (hb hby d1_63) rfl (pc' := 64) rfl ?_
    refine R.icmpYes X33 hx (hb hby d1_64) (tlt (by decide : (2 : Int32) < (3 : Int32))).2.2.1 (by decide) (pc' := 93) (by decide) ?_
    refine R.iinc X33 hx (hb hby d1_93) rfl (L' := #[.val (.ref a0), .val (.ref a1), .val (.int (2 : Int32)), .val (.ref b1), .val (.ref b3), .val (.int (0 : Int32)), .val (.int (3 : Int32))]) rfl (pc' := 96) rfl ?_
    refine R.goto X33 hx (hb hby d1_96) (by decide) (pc' := 38) (by decide) ?_
    refine R.iload X33 hx (hb hby d1_38) rfl (pc' := 40) rfl ?_
    refine R.ifNo X33 hx (hb hby d1_40) (flt (by decide : ¬ ((0 : Int32) < (0 : Int32)))).1 (pc' := 43) rfl ?_
    refine R.aload X33 hx (hb hby d1_43) rfl rfl (pc' := 45) rfl ?_
    refine R.iload X33 hx (hb hby d1_45) rfl (pc' := 47) rfl ?_
    refine R.aloadN X33 hx (hb hby d1_47) rfl rfl (pc' := 48) rfl ?_
    refine R.iload X33 hx (hb hby d1_48) rfl (pc' := 50) rfl ?_
    refine R.iloadN X33 hx (hb hby d1_50) rfl (pc' := 51) rfl ?_
    refine R.iadd X33 hx (hb hby d1_51) (v := (2 : Int32)) (by decide) (pc' := 52) rfl ?_
    refine R.daload X33 hx hZ e33 V_b1 (⟨by decide, by decide⟩ : ¬ (2 : Int32) < 0 ∧ (2 : Int32) < (5 : Int32)) (v := (.double r28)) (getH_miss (by decide) (by decide) (getH_hit (by decide) (rfl))) (hb hby d1_52) (pc' := 53) rfl ?_
    refine R.aloadN X33 hx (hb hby d1_53) rfl rfl (pc' := 54) rfl ?_
    refine R.iloadN X33 hx (hb hby d1_54) rfl (pc' := 55) rfl ?_
    refine R.daload X33 hx hZ e33 V_a1 (⟨by decide, by decide⟩ : ¬ (2 : Int32) < 0 ∧ (2 : Int32) < (3 : Int32)) (v := (.double y2)) (vy2) (hb hby d1_55) (pc' := 56) rfl ?_
    have Y34 := (Dy.div (m := Q0) (n := 0) D_r28 Dy2 hL (bq0.lt (by decide)) (by decide) (by simp only [own_one]; omega))
    refine R.ddiv X33 hx (hb hby d1_56) (Y34.nn : NoNaN64 (FP.ddiv r28 y2)) (pc' := 57) rfl ?_
    show Rn p e below (T33.setTop (mkF m 57 #[.val (.ref a0), .val (.ref a1), .val (.int (2 : Int32)), .val (.ref b1), .val (.ref b3), .val (.int (0 : Int32)), .val (.int (3 : Int32))] [(.double (FP.ddiv r28 y2)), (.int (0 : Int32)), (.ref b3)])) G
    generalize hr35 : (FP.ddiv r28 y2) = r35
    have D_r35 : Dy r35 (Q0) 0 := hr35 ▸ Y34
    refine R.dastore X33 hx hZ e33 V_b3 (⟨by decide, by decide⟩ : ¬ (0 : Int32) < 0 ∧ (0 : Int32) < (3 : Int32)) (hb hby d1_57) (pc' := 58) rfl ?_; intro T36 h36 X36 e36 W36 V36
    have V_a0 := V_a0.other W36 ne_a0_b3
    have E_a0 := E_a0.wr W36
    have V_a1 := V_a1.other W36 ne_a1_b3
    have E_b1 := E_b1.wr W36
    have V_b1 := V_b1.other W36 ne_b1_b3
    have V_b3 : Arh Z h36 b3 k3 .double (3 : Int32) [((0 : Int32), (.double r35)), ((1 : Int32), (.double r20)), ((2 : Int32), (.double r5))] [] (.double (0 : UInt64)) := V36
    have N36 := Fr.snoc X36 N33 g_b3
    have K36 : Keep h0 h36 [] := K33.wr W36 (Or.inr sz_b3)
    have Z36 : n0 ≤ h36.size := Nat.le_trans Z33 (Keep.of_wr W36).1
    refine R.iconst X36 hx (hb hby d1_58) (v := (0 : Int32)) (by decide) (pc' := 59) rfl ?_
    refine R.istore X36 hx (hb hby d1_59) (L' := #[.val (.ref a0), .val (.ref a1), .val (.int (2 : Int32)), .val (.ref b1), .val (.ref b3), .val (.int (0 : Int32)), .val (.int (0 : Int32))]) rfl (pc' := 61) rfl ?_
    refine R.iload X36 hx (hb hby d1_61) rfl (pc' := 63) rfl ?_
    refine R.iloadN X36 hx (hb hby d1_63) rfl (pc' := 64) rfl ?_
    refine R.icmpNo X36 hx (hb hby d1_64) (flt (by decide : ¬ ((2 : Int32) < (0 : Int32)))).2.2.1 (pc' := 67) rfl ?_
    refine R.aloadN X36 hx (hb hby d1_67) rfl rfl (pc' := 68) rfl ?_
    refine R.iload X36 hx (hb hby d1_68) rfl (pc' := 70) rfl ?_
    refine R.iload X36 hx (hb hby d1_70) rfl (pc' := 72) rfl ?_
    refine R.iadd X36 hx (hb hby d1_72) (v := (0 : Int32)) (by decide) (pc' := 73) rfl ?_
    refine R.dup2 X36 hx (hb hby d1_73) rfl rfl (pc' := 74) rfl ?_
    refine R.daload X36 hx hZ e36 V_b1 (⟨by decide, by decide⟩ : ¬ (0 : Int32) < 0 ∧ (0 : Int32) < (5 : Int32)) (v := (.double x0)) (getH_miss (by decide) (by decide) (getH_miss (by decide) (by decide) (getH_miss (by decide) (by decide) (getH_miss (by decide) (by decide) (getH_miss (by decide) (by decide) (getH_miss (by decide) (by decide) (vx0))))))) (hb hby d1_74) (pc' := 75) rfl ?_
    refine R.aload X36 hx (hb hby d1_75) rfl rfl (pc' := 77) rfl ?_
    refine R.iload X36 hx (hb hby d1_77) rfl (pc' := 79) rfl ?_
    refine R.daload X36 hx hZ e36 V_b3 (⟨by decide, by decide⟩ : ¬ (0 : Int32) < 0 ∧ (0 : Int32) < (3 : Int32)) (v := (.double r35)) (getH_hit (by decide) (rfl)) (hb hby d1_79) (pc' := 80) rfl ?_
    refine R.aloadN X36 hx (hb hby d1_80) rfl rfl (pc' := 81) rfl ?_
    refine R.iload X36 hx (hb hby d1_81) rfl (pc' := 83) rfl ?_
    refine R.daload X36 hx hZ e36 V_a1 (⟨by decide, by decide⟩ : ¬ (0 : Int32) < 0 ∧ (0 : Int32) < (3 : Int32)) (v := (.double y0)) (vy0) (hb hby d1_83) (pc' := 84) rfl ?_
    have Y37 := (Dy.mul D_r35 Dy0 ((own_ab.mul bq0 bd0).lt (by decide)) (by decide))
    refine R.dmul X36 hx (hb hby d1_84) (Y37.nn : NoNaN64 (FP.dmul r35 y0)) (pc' := 85) rfl ?_
    have Y38 := (Dy.sub Dx0 Y37 ((own_ab.sub ac0 (own_ab.mul bq0 bd0)).lt (by decide)) (by decide))
    refine R.dsub X36 hx (hb hby d1_85) (Y38.nn : NoNaN64 (FP.dsub x0 (FP.dmul r35 y0))) (pc' := 86) rfl ?_
    show Rn p e below (T36.setTop (mkF m 86 #[.val (.ref a0), .val (.ref a1), .val (.int (2 : Int32)), .val (.ref b1), .val (.ref b3), .val (.int (0 : Int32)), .val (.int (0 : Int32))] [(.double (FP.dsub x0 (FP.dmul r35 y0))), (.int (0 : Int32)), (.ref b1)])) G
    generalize hr39 : (FP.dsub x0 (FP.dmul r35 y0)) = r39
    have D_r39 : Dy r39 ((C0 - (Q0 * D0))) 0 := hr39 ▸ Y38
    have A_r39 : own_ab ((C0 - (Q0 * D0))) 32896 := (own_ab.sub ac0 (own_ab.mul bq0 bd0))
    refine R.dastore X36 hx hZ e36 V_b1 (⟨by decide, by decide⟩ : ¬ (0 : Int32) < 0 ∧ (0 : Int32) < (5 : Int32)) (hb hby d1_86) (pc' := 87) rfl ?_; intro T40 h40 X40 e40 W40 V40
    have V_a0 := V_a0.other W40 ne_a0_b1
    have E_a0 := E_a0.wr W40
    have V_a1 := V_a1.other W40 ne_a1_b1
    have E_b1 := E_b1.wr W40
    have V_b3 := V_b3.other W40 (Ne.symm ne_b1_b3)
    have V_b1 : Arh Z h40 b1 ka .double (5 : Int32) (((0 : Int32), (.double r39)) :: ((3 : Int32), (.double r32)) :: ((2 : Int32), (.double r28)) :: ((1 : Int32), (.double r24)) :: ((4 : Int32), (.double r17)) :: ((3 : Int32), (.double r13)) :: ((2 : Int32), (.double r9)) :: ha) [] (.double (0 : UInt64)) := V40
    have N40 := Fr.snoc X40 N36 g_b1
    have K40 : Keep h0 h40 [] := K36.wr W40 (Or.inr sz_b1)
    have Z40 : n0 ≤ h40.size := Nat.le_trans Z36 (Keep.of_wr W40).1
    refine R.iinc X40 hx (hb hby d1_87) rfl (L' := #[.val (.ref a0), .val (.ref a1), .val (.int (2 : Int32)), .val (.ref b1), .val (.ref b3), .val (.int (0 : Int32)), .val (.int (1 : Int32))]) rfl (pc' := 90) rfl ?_
    refine R.goto X40 hx (hb hby d1_90) (by decide) (pc' := 61) (by decide) ?_
    refine R.iload X40 hx (hb hby d1_61) rfl (pc' := 63) rfl ?_
    refine R.iloadN X40 hx (hb hby d1_63) rfl (pc' := 64) rfl ?_
    refine R.icmpNo X40 hx (hb hby d1_64) (flt (by decide : ¬ ((2 : Int32) < (1 : Int32)))).2.2.1 (pc' := 67) rfl ?_
    refine R.aloadN X40 hx (hb hby d1_67) rfl rfl (pc' := 68) rfl ?_
    refine R.iload X40 hx (hb hby d1_68) rfl (pc' := 70) rfl ?_
    refine R.iload X40 hx (hb hby d1_70) rfl (pc' := 72) rfl ?_
    refine R.iadd X40 hx (hb hby d1_72) (v := (1 : Int32)) (by decide) (pc' := 73) rfl ?_
    refine R.dup2 X40 hx (hb hby d1_73) rfl rfl (pc' := 74) rfl ?_
    refine R.daload X40 hx hZ e40 V_b1 (⟨by decide, by decide⟩ : ¬ (1 : Int32) < 0 ∧ (1 : Int32) < (5 : Int32)) (v := (.double r24)) (getH_miss (by decide) (by decide) (getH_miss (by decide) (by decide) (getH_miss (by decide) (by decide) (getH_hit (by decide) (rfl))))) (hb hby d1_74) (pc' := 75) rfl ?_
    refine R.aload X40 hx (hb hby d1_75) rfl rfl (pc' := 77) rfl ?_
    refine R.iload X40 hx (hb hby d1_77) rfl (pc' := 79) rfl ?_
    refine R.daload X40 hx hZ e40 V_b3 (⟨by decide, by decide⟩ : ¬ (0 : Int32) < 0 ∧ (0 : Int32) < (3 : Int32)) (v := (.double r35)) (getH_hit (by decide) (rfl)) (hb hby d1_79) (pc' := 80) rfl ?_
    refine R.aloadN X40 hx (hb hby d1_80) rfl rfl (pc' := 81) rfl ?_
    refine R.iload X40 hx (hb hby d1_81) rfl (pc' := 83) rfl ?_
    refine R.daload X40 hx hZ e40 V_a1 (⟨by decide, by decide⟩ : ¬ (1 : Int32) < 0 ∧ (1 : Int32) < (3 : Int32)) (v := (.double y1)) (vy1) (hb hby d1_83) (pc' := 84) rfl ?_
    have Y41 := (Dy.mul D_r35 Dy1 ((own_ab.mul bq0 bd1).lt (by decide)) (by decide))
    refine R.dmul X40 hx (hb hby d1_84) (Y41.nn : NoNaN64 (FP.dmul r35 y1)) (pc' := 85) rfl ?_
    have Y42 := (Dy.sub D_r24 Y41 ((own_ab.sub A_r24 (own_ab.mul bq0 bd1)).lt (by decide)) (by decide))
    refine R.dsub X40 hx (hb hby d1_85) (Y42.nn : NoNaN64 (FP.dsub r24 (FP.dmul r35 y1))) (pc' := 86) rfl ?_
    show Rn p e below (T40.setTop (mkF m 86 #[.val (.ref a0), .val (.ref a1), .val (.int (2 : Int32)), .val (.ref b1), .val (.ref b3), .val (.int (0 : Int32)), .val (.int (1 : Int32))] [(.double (FP.dsub r24 (FP.dmul r35 y1))), (.int (1 : Int32)), (.ref b1)])) G
    generalize hr43 : (FP.dsub r24 (FP.dmul r35 y1)) = r43
    have D_r43 : Dy r43 (((C1 - (Q1 * D0)) - (Q0 * D1))) 0 := hr43 ▸ Y42
    have A_r43 : own_ab (((C1 - (Q1 * D0)) - (Q0 * D1))) 65664 := (own_ab.sub A_r24 (own_ab.mul bq0 bd1))
    refine R.dastore X40 hx hZ e40 V_b1 (⟨by decide, by decide⟩ : ¬ (1 : Int32) < 0 ∧ (1 : Int32) < (5 : Int32)) (hb hby d1_86) (pc' := 87) rfl ?_; intro T44 h44 X44 e44 W44 V44
    have V_a0 := V_a0.other W44 ne_a0_b1
    have E_a0 := E_a0.wr W44
    have V_a1 := V_a1.other W44 ne_a1_b1
    have E_b1 := E_b1.wr W44
    have V_b3 := V_b3.other W44 (Ne.symm ne_b1_b3)
    have V_b1 : Arh Z h44 b1 ka .double (5 : Int32) (((1 : Int32), (.double r43)) :: ((0 : Int32), (.double r39)) :: ((3 : Int32), (.double r32)) :: ((2 : Int32), (.double r28)) :: ((1 : Int32), (.double r24)) :: ((4 : Int32), (.double r17)) :: ((3 : Int32), (.double r13)) :: ((2 : Int32), (.double r9)) :: ha) [] (.double (0 : UInt64)) := V44
    have N44 := Fr.snoc X44 N40 g_b1
    have K44 : Keep h0 h44 [] := K40.wr W44 (Or.inr sz_b1)
    have Z44 : n0 ≤ h44.size := Nat.le_trans Z40 (Keep.of_wr W44).1
    refine R.iinc X44 hx (hb hby d1_87) rfl (L' := #[.val (.ref a0), .val (.ref a1), .val (.int (2 : Int32)), .val (.ref b1), .val (.ref b3), .val (.int (0 : Int32)), .val (.int (2 : Int32))]) rfl (pc' := 90) rfl ?_
    refine R.goto X44 hx (hb hby d1_90) (by decide) (pc' := 61) (by decide) ?_
    refine R.iload X44 hx (hb hby d1_61) rfl (pc' := 63) rfl ?_
    refine R.iloadN X44 hx (hb hby d1_63) rfl (pc' := 64) rfl ?_
    refine R.icmpNo X44 hx (hb hby d1_64) (flt (by decide : ¬ ((2 : Int32) < (2 : Int32)))).2.2.1 (pc' := 67) rfl ?_
    refine R.aloadN X44 hx (hb hby d1_67) rfl rfl (pc' := 68) rfl ?_
    refine R.iload X44 hx (hb hby d1_68) rfl (pc' := 70) rfl ?_
    refine R.iload X44 hx (hb hby d1_70) rfl (pc' := 72) rfl ?_
    refine R.iadd X44 hx (hb hby d1_72) (v := (2 : Int32)) (by decide) (pc' := 73) rfl ?_
    refine R.dup2 X44 hx (hb hby d1_73) rfl rfl (pc' := 74) rfl ?_
    refine R.daload X44 hx hZ e44 V_b1 (⟨by decide, by decide⟩ : ¬ (2 : Int32) < 0 ∧ (2 : Int32) < (5 : Int32)) (v := (.double r28)) (getH_miss (by decide) (by decide) (getH_miss (by decide) (by decide) (getH_miss (by decide) (by decide) (getH_hit (by decide) (rfl))))) (hb hby d1_74) (pc' := 75) rfl ?_
    refine R.aload X44 hx (hb hby d1_75) rfl rfl (pc' := 77) rfl ?_
    refine R.iload X44 hx (hb hby d1_77) rfl (pc' := 79) rfl ?_
    refine R.daload X44 hx hZ e44 V_b3 (⟨by decide, by decide⟩ : ¬ (0 : Int32) < 0 ∧ (0 : Int32) < (3 : Int32)) (v := (.double r35)) (getH_hit (by decide) (rfl)) (hb hby d1_79) (pc' := 80) rfl ?_
    refine R.aloadN X44 hx (hb hby d1_80) rfl rfl (pc' := 81) rfl ?_
    refine R.iload X44 hx (hb hby d1_81) rfl (pc' := 83) rfl ?_
    refine R.daload X44 hx hZ e44 V_a1 (⟨by decide, by decide⟩ : ¬ (2 : Int32) < 0 ∧ (2 : Int32) < (3 : Int32)) (v := (.double y2)) (vy2) (hb hby d1_83) (pc' := 84) rfl ?_
    have Y45 := (Dy.mul D_r35 Dy2 ((own_ab.mul bq0 bd2).lt (by decide)) (by decide))
    refine R.dmul X44 hx (hb hby d1_84) (Y45.nn : NoNaN64 (FP.dmul r35 y2)) (pc' := 85) rfl ?_
    have Y46 := (Dy.sub D_r28 Y45 ((own_ab.sub A_r28 (own_ab.mul bq0 bd2)).lt (by decide)) (by decide))
    refine R.dsub X44 hx (hb hby d1_85) (Y46.nn : NoNaN64 (FP.dsub r28 (FP.dmul r35 y2))) (pc' := 86) rfl ?_
    show Rn p e below (T44.setTop (mkF m 86 #[.val (.ref a0), .val (.ref a1), .val (.int (2 : Int32)), .val (.ref b1), .val (.ref b3), .val (.int (0 : Int32)), .val (.int (2 : Int32))] [(.double (FP.dsub r28 (FP.dmul r35 y2))), (.int (2 : Int32)), (.ref b1)])) G
    generalize hr47 : (FP.dsub r28 (FP.dmul r35 y2)) = r47
    have D_r47 : Dy r47 ((((C2 - (Q2 * D0)) - (Q1 * D1)) - (Q0 * D2))) 0 := hr47 ▸ Y46
    have A_r47 : own_ab ((((C2 - (Q2 * D0)) - (Q1 * D1)) - (Q0 * D2))) 98304 := (own_ab.sub A_r28 (own_ab.mul bq0 bd2))
    refine R.dastore X44 hx hZ e44 V_b1 (⟨by decide, by decide⟩ : ¬ (2 : Int32) < 0 ∧ (2 : Int32) < (5 : Int32)) (hb hby d1_86) (pc' := 87) rfl ?_; intro T48 h48 X48 e48 W48 V48
    have V_a0 := V_a0.other W48 ne_a0_b1
    have E_a0 := E_a0.wr W48
    have V_a1 := V_a1.other W48 ne_a1_b1
    have E_b1 := E_b1.wr W48
    have V_b3 := V_b3.other W48 (Ne.symm ne_b1_b3)
    have V_b1 : Arh Z h48 b1 ka .double (5 : Int32) (((2 : Int32), (.double r47)) :: ((1 : Int32), (.double r43)) :: ((0 : Int32), (.double r39)) :: ((3 : Int32), (.double r32)) :: ((2 : Int32), (.double r28)) :: ((1 : Int32), (.double r24)) :: ((4 : Int32), (.double r17)) :: ((3 : Int32), (.double r13)) :: ((2 : Int32), (.double r9)) :: ha) [] (.double (0 : UInt64)) := V48
    have N48 := Fr.snoc X48 N44 g_b1
    have K48 : Keep h0 h48 [] := K44.wr W48 (Or.inr sz_b1)
    have Z48 : n0 ≤ h48.size := Nat.le_trans Z44 (Keep.of_wr W48).1
    refine R.iinc X48 hx (hb hby d1_87) rfl (L' := #[.val (.ref a0), .val (.ref a1), .val (.int (2 : Int32)), .val (.ref b1), .val (.ref b3), .val (.int (0 : Int32)), .val (.int (3 : Int32))]) rfl (pc' := 90) rfl ?_
    refine R.goto X48 hx (hb hby d1_90) (by decide) (pc' := 61) (by decide) ?_
    refine R.iload X48 hx (hb hby d1_61) rfl (pc' := 63) rfl ?_
    refine R.iloadN X48 hx (hb hby d1_63) rfl (pc' := 64) rfl ?_
    refine R.icmpYes X48 hx (hb hby d1_64) (tlt (by decide : (2 : Int32) < (3 : Int32))).2.2.1 (by decide) (pc' := 93) (by decide) ?_
    refine R.iinc X48 hx (hb hby d1_93) rfl (L' := #[.val (.ref a0), .val (.ref a1), .val (.int (2 : Int32)), .val (.ref b1), .val (.ref b3), .val (.int (-1 : Int32)), .val (.int (3 : Int32))]) rfl (pc' := 96) rfl ?_
    refine R.goto X48 hx (hb hby d1_96) (by decide) (pc' := 38) (by decide) ?_
    refine R.iload X48 hx (hb hby d1_38) rfl (pc' := 40) rfl ?_
    refine R.ifYes X48 hx (hb hby d1_40) (tlt (by decide : (-1 : Int32) < (0 : Int32))).1 (by decide) (pc' := 99) (by decide) ?_
    refine R.aload X48 hx (hb hby d1_99) rfl rfl (pc' := 101) rfl ?_
    rw [← hG]
    exact Rn.ret X48 (BodyLoose.notSynchronized Bd) (v := some (.ref b3)) (fun h => by rw [Bd.returns] at h; cases h) (Q := Qqq33 Z a0 a1 ka kb ha hbb x0 x1 x2 x3 x4 y0 y1 y2 C0 C1 C2 C3 C4 D0 D1 D2 Q0 Q1 Q2 R0 R1 h0 n0) e48 (fun fs hr => retOut X48 hx (t := (.array .double)) Bd.returns rfl (Or.inr (Or.inr (Or.inr (Or.inr ⟨rfl, rfl, rfl⟩)))) (hb hby d1_101) hr) ⟨b3, k3, [((0 : Int32), (.double r35)), ((1 : Int32), (.double r20)), ((2 : Int32), (.double r5))], rfl, N48, K48, sz_b3, V_b3, ⟨_, getH_hit (by decide) (rfl), D_r35⟩, ⟨_, getH_miss (by decide) (by decide) (getH_hit (by decide) (rfl)), D_r20⟩, ⟨_, getH_miss (by decide) (by decide) (getH_miss (by decide) (by decide) (getH_hit (by decide) (rfl))), D_r5⟩⟩ (by decide) (by decide)
  exact (Rn.st (fun t k => castTop (ef_qq33 m a0 a1) k) first_ : Rn p e below (s₁.setTop (entryFrame m #[(.ref a0), (.ref a1)] 7)) (Fnqq33 Z a0 a1 ka kb ha hbb x0 x1 x2 x3 x4 y0 y1 y2 C0 C1 C2 C3 C4 D0 D1 D2 Q0 Q1 Q2 R0 R1 h0 n0 s))
theorem pd_1 : parseMethodDescriptor "([D[D)[D" = some ⟨[(.array .double), (.array .double)], some (.array .double)⟩ := by decide +kernel
abbrev mY1 : MethodName := (⟨"com/example/deseason/deseason/arima/Polynomials", "quotient", "([D[D)[D"⟩ : MethodName)
theorem pd_2 : parseMethodDescriptor "([DII)Z" = some ⟨[(.array .double), .int, .int], some .boolean⟩ := by decide +kernel
abbrev mY2 : MethodName := (⟨"com/example/deseason/deseason/arima/PolynomialsQuotientPinLaw", "keptAt", "([DII)Z"⟩ : MethodName)
theorem pd_3 : parseMethodDescriptor "([I[I[II)I" = some ⟨[(.array .int), (.array .int), (.array .int), .int], some .int⟩ := by decide +kernel
abbrev mY3 : MethodName := (⟨"com/example/deseason/deseason/arima/PolynomialsQuotientPinLaw", "coef", "([I[I[II)I"⟩ : MethodName)
theorem pd_4 : parseMethodDescriptor "([DI[I)Z" = some ⟨[(.array .double), .int, (.array .int)], some .boolean⟩ := by decide +kernel
abbrev mY4 : MethodName := (⟨"com/example/deseason/deseason/arima/PolynomialsQuotientPinLaw", "qAt", "([DI[I)Z"⟩ : MethodName)
theorem ef_0 (m : MethodId) (x0 : Int32) (x1 : Int32) (x2 : Int32) (x3 : Int32) : entryFrame m #[(.int x0), (.int x1), (.int x2), (.int x3)] maxLocals = mkF m 0 #[.val (.int x0), .val (.int x1), .val (.int x2), .val (.int x3), .unset, .unset, .unset, .unset, .unset, .unset, .unset, .unset, .unset, .unset, .unset, .unset, .unset, .unset, .unset, .unset, .unset, .unset, .unset, .unset] [] := by first | (simp [entryFrame, mkF, argsToLocals, Value.category, maxLocals]; done) | rfl
def Q0 (Z : State) (p0 : Int32) (p1 : Int32) (p2 : Int32) (p3 : Int32) (h0 : Heap) (n0 : Nat) (vQ : Option Value) (hQ_ : Heap) (LQ : List Loc) : Prop := vQ = some (.int 1) ∧ Fr n0 LQ
def Fn0 (Z : State) (p0 : Int32) (p1 : Int32) (p2 : Int32) (p3 : Int32) (h0 : Heap) (n0 : Nat) (sQ : State) (oQ : Outcome) (UQ : State) : Prop := ∃ vQ LQ, oQ = .returned vQ ∧ Q0 Z p0 p1 p2 p3 h0 n0 vQ UQ.heap LQ ∧ FrameEnd sQ oQ UQ LQ room_1.cells room_1.slots
set_option maxRecDepth 65536 in
set_option maxHeartbeats 40000000 in
theorem rm0_10 (l : Launch) (Z : State) (aZ : Array Value) (hw : ∀ d ∈ tables_1, d.before aZ Z = true) (ws : List Jvm.Cond) (p0 : Int32) (p1 : Int32) (p2 : Int32) (p3 : Int32) (h0 : Heap) (n0 : Nat) {p : Program} {e : Env} {s : State} {m : MethodId} {below : List Frame} {meth : Method} {c : Code} {s₁ : State} (Bd : BodyLoose p l x (head1 (Jvm.Cond.code x code maxLocals ret :: ws) room_1) code maxLocals ret e s m #[(.int p0), (.int p1), (.int p2), (.int p3)] below meth c s₁) (hml : c.maxLocals = 24) (hZ : Z.Warmed39 s.vm) {TL : State} {hL : Heap} {lL : List Loc} (XL : Stand p l e room_1 s m #[(.int p0), (.int p1), (.int p2), (.int p3)] below meth c TL lL 2 4) (eL : TL.heap = hL) (NL : Fr n0 lL) (KL : Keep h0 hL []) (ZL : n0 ≤ hL.size) (ld : Int32) (b10 : Addr) (b4 : Addr) (i12 : Int32) (i13 : Int32) (i5 : Int32) (k10 : ClassId) (k4 : ClassId) {G : Outcome → State → Prop} (hG : (Fn0 Z p0 p1 p2 p3 h0 n0 s) = G) (V_b4 : Arh Z hL b4 k4 .int (3 : Int32) [((0 : Int32), (.int ld)), ((2 : Int32), (.int (0 : Int32))), ((1 : Int32), (.int (0 : Int32))), ((0 : Int32), (.int i5))] [] (.int (0 : Int32))) (V_b10 : Arh Z hL b10 k10 .double (1 : Int32) [((0 : Int32), (.double (FP.i2d ld)))] [] (.double (0 : UInt64))) (ne_b4_b10 : b4 ≠ b10) (g_b4 : n0 ≤ b4) (g_b10 : n0 ≤ b10) (sz_b4 : h0.size ≤ b4) (sz_b10 : h0.size ≤ b10) (nl : ld.toInt ≠ 0) (bl : ld.toInt.natAbs ≤ 128) (b_i12 : i12.toInt.natAbs ≤ 128) (b_i13 : i13.toInt.natAbs ≤ 128) (b_i5 : i5.toInt.natAbs ≤ 128) : Rn p e below (TL.setTop (mkF m 147 #[.val (.int p0), .val (.int p1), .val (.int p2), .val (.int p3), .val (.int (1 : Int32)), .val (.int (0 : Int32)), .val (.int (0 : Int32)), .val (.int ld), .val (.ref b4), .val (.ref b10), .val (.int i12), .val (.int i13), .unset, .unset, .unset, .unset, .unset, .unset, .unset, .unset, .unset, .unset, .unset, .unset] [])) G := by
  have hx := Bd.exec
  have hby := Bd.bytes
  have hown : s.vm.findClass "com/example/deseason/deseason/arima/PolynomialsQuotientPinLaw" = some m.cls := findClass_of_methodNamed Bd.named
  have hnm := (name_of_methodNamed Bd.named Bd.method).1
  have w_1 := hw _ (List.mem_of_getElem? (i := 1) rfl)
  have w_2 := hw _ (List.mem_of_getElem? (i := 2) rfl)
  have w_3 := hw _ (List.mem_of_getElem? (i := 3) rfl)
  have w_4 := hw _ (List.mem_of_getElem? (i := 4) rfl)
  have w_5 := hw _ (List.mem_of_getElem? (i := 5) rfl)
  have w_6 := hw _ (List.mem_of_getElem? (i := 6) rfl)
  have w_7 := hw _ (List.mem_of_getElem? (i := 7) rfl)
  have w_8 := hw _ (List.mem_of_getElem? (i := 8) rfl)
  have w_9 := hw _ (List.mem_of_getElem? (i := 9) rfl)
  show Rn p e below (TL.setTop (mkF m 147 #[.val (.int p0), .val (.int p1), .val (.int p2), .val (.int p3), .val (.int (1 : Int32)), .val (.int (0 : Int32)), .val (.int (0 : Int32)), .val (.int ld), .val (.ref b4), .val (.ref b10), .val (.int i12), .val (.int i13), .unset, .unset, .unset, .unset, .unset, .unset, .unset, .unset, .unset, .unset, .unset, .unset] [])) G
  refine R.iload XL hx (hb hby at_147) rfl (pc' := 149) rfl ?_
  refine R.ifNo XL hx (hb hby at_149) (teq (by decide : (0 : Int32) = (0 : Int32))).2 (pc' := 152) rfl ?_
  refine R.iloadN XL hx (hb hby at_152) rfl (pc' := 153) rfl ?_
  refine R.bipush XL hx (hb hby at_153) (v := (20 : Int32)) (by decide) (pc' := 155) rfl ?_
  refine R.ishr XL hx (hb hby at_155) (pc' := 156) rfl ?_
  refine R.iconst XL hx (hb hby at_156) (v := (3 : Int32)) (by decide) (pc' := 157) rfl ?_
  refine R.iand XL hx (hb hby at_157) rfl (pc' := 158) rfl ?_
  refine R.iload XL hx (hb hby at_158) rfl (pc' := 160) rfl ?_
  refine R.irem XL hx (hb hby at_160) (by decide : (1 : Int32) ≠ (0 : Int32)) (pc' := 161) rfl ?_
  generalize hi14 : (((p0 >>> ((20 : Int32) &&& 31)) &&& (3 : Int32)) % (1 : Int32)) = i14
  refine R.istore XL hx (hb hby at_161) (L' := #[.val (.int p0), .val (.int p1), .val (.int p2), .val (.int p3), .val (.int (1 : Int32)), .val (.int (0 : Int32)), .val (.int (0 : Int32)), .val (.int ld), .val (.ref b4), .val (.ref b10), .val (.int i12), .val (.int i13), .val (.int i14), .unset, .unset, .unset, .unset, .unset, .unset, .unset, .unset, .unset, .unset, .unset]) rfl (pc' := 163) rfl ?_
  have hm12 := own_m (z := (1 : Int32)) (by decide) hi14
  have z12 : ((1 : Int32)).toInt = 1 := by decide
  rw [z12] at hm12
  refine R.iload XL hx (hb hby at_163) rfl (pc' := 165) rfl ?_
  refine R.newP XL hx hZ (ty := .double) rfl w_1 eL (own_nneg (by omega)) (cap := 2) (show i14.toInt.toNat ≤ 2 by omega) (by decide) (ad := "[D") (by decide) (hb hby at_165) (pc' := 167) rfl (by decide) (by decide) ?_; intro T15 h15 b15 k15 g15 X15 e15 E15 EE15 AA15
  have g_b15 : n0 ≤ b15 := Nat.le_trans ZL (Nat.le_of_eq g15.symm)
  have sz_b15 : h0.size ≤ b15 := Nat.le_trans KL.1 (Nat.le_of_eq g15.symm)
  have ne_b4_b15 : b4 ≠ b15 := Nat.ne_of_lt (Nat.lt_of_lt_of_le V_b4.lt (Nat.le_of_eq g15.symm))
  have ne_b10_b15 : b10 ≠ b15 := Nat.ne_of_lt (Nat.lt_of_lt_of_le V_b10.lt (Nat.le_of_eq g15.symm))
  have K15 : Keep h0 h15 [] := KL.ext E15
  have Z15 : n0 ≤ h15.size := Nat.le_trans ZL E15.1
  have V_b4 := V_b4.ext E15
  have V_b10 := V_b10.ext E15
  have V_b15 : Arh Z h15 b15 k15 .double i14 [] [] (.double (0 : UInt64)) := AA15
  refine R.astore X15 hx (hb hby at_167) rfl (L' := #[.val (.int p0), .val (.int p1), .val (.int p2), .val (.int p3), .val (.int (1 : Int32)), .val (.int (0 : Int32)), .val (.int (0 : Int32)), .val (.int ld), .val (.ref b4), .val (.ref b10), .val (.int i12), .val (.int i13), .val (.int i14), .val (.ref b15), .unset, .unset, .unset, .unset, .unset, .unset, .unset, .unset, .unset, .unset]) rfl (pc' := 169) rfl ?_
  refine R.iload X15 hx (hb hby at_169) rfl (pc' := 171) rfl ?_
  by_cases hc171 : (0 : Int32) < i14
  · refine R.ifNo X15 hx (hb hby at_171) (tlt hc171).2.2.2 (pc' := 174) rfl ?_
    refine R.aload X15 hx (hb hby at_174) rfl rfl (pc' := 176) rfl ?_
    refine R.iconst X15 hx (hb hby at_176) (v := (0 : Int32)) (by decide) (pc' := 177) rfl ?_
    refine R.iload X15 hx (hb hby at_177) rfl (pc' := 179) rfl ?_
    refine R.i2d X15 hx (hb hby at_179) (pc' := 180) rfl ?_
    refine R.dastore X15 hx hZ e15 V_b15 (own_bd (show (0 : Int) ≤ 0 ∧ (0 : Int) < i14.toInt by have q := Int32.lt_iff_toInt_lt.mp hc171; have z0 : (0 : Int32).toInt = 0 := (by decide); omega) : ¬ (0 : Int32) < 0 ∧ (0 : Int32) < i14) (hb hby at_180) (pc' := 181) rfl ?_; intro T16 h16 X16 e16 W16 V16
    have V_b4 := V_b4.other W16 ne_b4_b15
    have V_b10 := V_b10.other W16 ne_b10_b15
    have V_b15 : Arh Z h16 b15 k15 .double i14 [((0 : Int32), (.double (FP.i2d i12)))] [] (.double (0 : UInt64)) := V16
    have N16 := Fr.snoc X16 NL g_b15
    have K16 : Keep h0 h16 [] := K15.wr W16 (Or.inr sz_b15)
    have Z16 : n0 ≤ h16.size := Nat.le_trans Z15 (Keep.of_wr W16).1
    refine R.iload X16 hx (hb hby at_181) rfl (pc' := 183) rfl ?_
    refine R.iconst X16 hx (hb hby at_183) (v := (1 : Int32)) (by decide) (pc' := 184) rfl ?_
    by_cases hc184 : (1 : Int32) < i14
    · refine R.icmpNo X16 hx (hb hby at_184) (tlt hc184).2.2.2 (pc' := 187) rfl ?_
      refine R.aload X16 hx (hb hby at_187) rfl rfl (pc' := 189) rfl ?_
      refine R.iconst X16 hx (hb hby at_189) (v := (1 : Int32)) (by decide) (pc' := 190) rfl ?_
      refine R.iload X16 hx (hb hby at_190) rfl (pc' := 192) rfl ?_
      refine R.i2d X16 hx (hb hby at_192) (pc' := 193) rfl ?_
      refine R.dastore X16 hx hZ e16 V_b15 (own_bd (show (0 : Int) ≤ 1 ∧ (1 : Int) < i14.toInt by have q := Int32.lt_iff_toInt_lt.mp hc184; have z1 : (1 : Int32).toInt = 1 := (by decide); omega) : ¬ (1 : Int32) < 0 ∧ (1 : Int32) < i14) (hb hby at_193) (pc' := 194) rfl ?_; intro T17 h17 X17 e17 W17 V17
      have V_b4 := V_b4.other W17 ne_b4_b15
      have V_b10 := V_b10.other W17 ne_b10_b15
      have V_b15 : Arh Z h17 b15 k15 .double i14 [((1 : Int32), (.double (FP.i2d i13))), ((0 : Int32), (.double (FP.i2d i12)))] [] (.double (0 : UInt64)) := V17
      have N17 := Fr.snoc X17 N16 g_b15
      have K17 : Keep h0 h17 [] := K16.wr W17 (Or.inr sz_b15)
      have Z17 : n0 ≤ h17.size := Nat.le_trans Z16 (Keep.of_wr W17).1
      refine R.aload X17 hx (hb hby at_194) rfl rfl (pc' := 196) rfl ?_
      refine R.aload X17 hx (hb hby at_196) rfl rfl (pc' := 198) rfl ?_
      refine R.callS X17 hx hZ (y := mY1) hown w_2 w_3 w_4 w_5 (by decide) e17 (rmq0 l Z aZ hw [] b15 b10 k15 k10 i14 (1 : Int32) [((1 : Int32), (.double (FP.i2d i13))), ((0 : Int32), (.double (FP.i2d i12)))] [((0 : Int32), (.double (FP.i2d ld)))] h17 n0 Z17 V_b15 V_b10 (fun q => absurd (Int32.lt_iff_toInt_lt.mp q) (by have e : ((1 : Int32) - (1 : Int32)).toInt = 0 := (by decide); omega))) (by decide) (W := 0) (Nat.le_of_eq rfl) (by decide) (by rw [hml]; rfl) (lenOf pd_1 rfl) rfl (hb hby at_198) (pc' := 201) rfl (by decide) (by decide) ?_; intro v18 T18 L18 X18 hQ18
      obtain ⟨r_18, kr_18, rfl, N18q, Kc18, P18_0, P18_1⟩ := hQ18
      have N18 := Fr.app N17 N18q
      generalize e18 : T18.heap = h18 at Kc18 P18_0 P18_1
      have K18 : Keep h0 h18 [] := K17.trans Kc18 (all0)
      have Z18 : n0 ≤ h18.size := Nat.le_trans Z17 Kc18.1
      have ne_b4_r_18 : b4 ≠ r_18 := Nat.ne_of_lt (Nat.lt_of_lt_of_le V_b4.lt P18_0)
      have ne_b10_r_18 : b10 ≠ r_18 := Nat.ne_of_lt (Nat.lt_of_lt_of_le V_b10.lt P18_0)
      have ne_b15_r_18 : b15 ≠ r_18 := Nat.ne_of_lt (Nat.lt_of_lt_of_le V_b15.lt P18_0)
      have g_r_18 : n0 ≤ r_18 := Nat.le_trans Z17 P18_0
      have sz_r_18 : h0.size ≤ r_18 := Nat.le_trans K17.1 P18_0
      have V_b4 := V_b4.keep Kc18 nin0
      have V_b10 := V_b10.keep Kc18 nin0
      have V_b15 := V_b15.keep Kc18 nin0
      have fresh_18 := P18_0
      have V_r_18 : Arh Z h18 r_18 kr_18 .double (0 : Int32) [] [] (.double (0 : UInt64)) := P18_1
      have V_r_18 : Arh Z h18 r_18 kr_18 .double (0 : Int32) [] [] (.double (0 : UInt64)) := V_r_18
      refine R.astore X18 hx (hb hby at_201) rfl (L' := #[.val (.int p0), .val (.int p1), .val (.int p2), .val (.int p3), .val (.int (1 : Int32)), .val (.int (0 : Int32)), .val (.int (0 : Int32)), .val (.int ld), .val (.ref b4), .val (.ref b10), .val (.int i12), .val (.int i13), .val (.int i14), .val (.ref b15), .val (.ref r_18), .unset, .unset, .unset, .unset, .unset, .unset, .unset, .unset, .unset]) rfl (pc' := 203) rfl ?_
      refine R.aload X18 hx (hb hby at_203) rfl rfl (pc' := 205) rfl ?_
      refine R.alen X18 hx hZ e18 V_r_18 (hb hby at_205) (pc' := 206) rfl ?_
      refine R.ifNo X18 hx (hb hby at_206) (teq (by decide : (0 : Int32) = (0 : Int32))).2 (pc' := 209) rfl ?_
      refine R.aload X18 hx (hb hby at_209) rfl rfl (pc' := 211) rfl ?_
      refine R.iconst X18 hx (hb hby at_211) (v := (0 : Int32)) (by decide) (pc' := 212) rfl ?_
      refine R.iload X18 hx (hb hby at_212) rfl (pc' := 214) rfl ?_
      refine R.callS X18 hx hZ (y := mY2) hown w_6 w_7 w_8 w_9 (by decide) e18 (rm2 l Z aZ hw [] b15 (0 : Int32) i12 k15 i14 [((1 : Int32), (.double (FP.i2d i13))), ((0 : Int32), (.double (FP.i2d i12)))] h18 n0 Z18 V_b15 (by decide) (fun _ => getH_miss (by decide) (by decide) (getH_hit (by decide) (rfl)))) (by decide) (W := 0) (Nat.le_of_eq rfl) (by decide) (by rw [hml]; rfl) (lenOf pd_2 rfl) rfl (hb hby at_214) (pc' := 217) rfl (by decide) (by decide) ?_; intro v19 T19 L19 X19 hQ19
      obtain ⟨rfl, N19q, e19⟩ := hQ19
      have N19 := Fr.app N18 N19q
      refine R.ifNo X19 hx (hb hby at_217) (feq (by decide : ¬ ((1 : Int32) = (0 : Int32)))).1 (pc' := 220) rfl ?_
      refine R.aload X19 hx (hb hby at_220) rfl rfl (pc' := 222) rfl ?_
      refine R.iconst X19 hx (hb hby at_222) (v := (1 : Int32)) (by decide) (pc' := 223) rfl ?_
      refine R.iload X19 hx (hb hby at_223) rfl (pc' := 225) rfl ?_
      refine R.callS X19 hx hZ (y := mY2) hown w_6 w_7 w_8 w_9 (by decide) e19 (rm2 l Z aZ hw [] b15 (1 : Int32) i13 k15 i14 [((1 : Int32), (.double (FP.i2d i13))), ((0 : Int32), (.double (FP.i2d i12)))] h18 n0 Z18 V_b15 (by decide) (fun _ => getH_hit (by decide) (rfl))) (by decide) (W := 0) (Nat.le_of_eq rfl) (by decide) (by rw [hml]; rfl) (lenOf pd_2 rfl) rfl (hb hby at_225) (pc' := 228) rfl (by decide) (by decide) ?_; intro v20 T20 L20 X20 hQ20
      obtain ⟨rfl, N20q, e20⟩ := hQ20
      have N20 := Fr.app N19 N20q
      refine R.ifNo X20 hx (hb hby at_228) (feq (by decide : ¬ ((1 : Int32) = (0 : Int32)))).1 (pc' := 231) rfl ?_
      refine R.iconst X20 hx (hb hby at_231) (v := (1 : Int32)) (by decide) (pc' := 232) rfl ?_
      refine R.goto X20 hx (hb hby at_232) (by decide) (pc' := 236) (by decide) ?_
      rw [← hG]
      exact Rn.ret X20 (BodyLoose.notSynchronized Bd) (v := some (.int (1 : Int32))) (fun h => by rw [Bd.returns] at h; cases h) (Q := Q0 Z p0 p1 p2 p3 h0 n0) e20 (fun fs hr => retN X20 hx (t := .boolean) Bd.returns (by simp) (hb hby at_236) hr) ⟨rfl, N20⟩ (by decide) (by decide)
    · refine R.icmpYes X16 hx (hb hby at_184) (flt hc184).2.2.2 (by decide) (pc' := 194) (by decide) ?_
      refine R.aload X16 hx (hb hby at_194) rfl rfl (pc' := 196) rfl ?_
      refine R.aload X16 hx (hb hby at_196) rfl rfl (pc' := 198) rfl ?_
      refine R.callS X16 hx hZ (y := mY1) hown w_2 w_3 w_4 w_5 (by decide) e16 (rmq0 l Z aZ hw [] b15 b10 k15 k10 i14 (1 : Int32) [((0 : Int32), (.double (FP.i2d i12)))] [((0 : Int32), (.double (FP.i2d ld)))] h16 n0 Z16 V_b15 V_b10 (fun q => absurd (Int32.lt_iff_toInt_lt.mp q) (by have e : ((1 : Int32) - (1 : Int32)).toInt = 0 := (by decide); omega))) (by decide) (W := 0) (Nat.le_of_eq rfl) (by decide) (by rw [hml]; rfl) (lenOf pd_1 rfl) rfl (hb hby at_198) (pc' := 201) rfl (by decide) (by decide) ?_; intro v21 T21 L21 X21 hQ21
      obtain ⟨r_21, kr_21, rfl, N21q, Kc21, P21_0, P21_1⟩ := hQ21
      have N21 := Fr.app N16 N21q
      generalize e21 : T21.heap = h21 at Kc21 P21_0 P21_1
      have K21 : Keep h0 h21 [] := K16.trans Kc21 (all0)
      have Z21 : n0 ≤ h21.size := Nat.le_trans Z16 Kc21.1
      have ne_b4_r_21 : b4 ≠ r_21 := Nat.ne_of_lt (Nat.lt_of_lt_of_le V_b4.lt P21_0)
      have ne_b10_r_21 : b10 ≠ r_21 := Nat.ne_of_lt (Nat.lt_of_lt_of_le V_b10.lt P21_0)
      have ne_b15_r_21 : b15 ≠ r_21 := Nat.ne_of_lt (Nat.lt_of_lt_of_le V_b15.lt P21_0)
      have g_r_21 : n0 ≤ r_21 := Nat.le_trans Z16 P21_0
      have sz_r_21 : h0.size ≤ r_21 := Nat.le_trans K16.1 P21_0
      have V_b4 := V_b4.keep Kc21 nin0
      have V_b10 := V_b10.keep Kc21 nin0
      have V_b15 := V_b15.keep Kc21 nin0
      have fresh_21 := P21_0
      have V_r_21 : Arh Z h21 r_21 kr_21 .double (0 : Int32) [] [] (.double (0 : UInt64)) := P21_1
      have V_r_21 : Arh Z h21 r_21 kr_21 .double (0 : Int32) [] [] (.double (0 : UInt64)) := V_r_21
      refine R.astore X21 hx (hb hby at_201) rfl (L' := #[.val (.int p0), .val (.int p1), .val (.int p2), .val (.int p3), .val (.int (1 : Int32)), .val (.int (0 : Int32)), .val (.int (0 : Int32)), .val (.int ld), .val (.ref b4), .val (.ref b10), .val (.int i12), .val (.int i13), .val (.int i14), .val (.ref b15), .val (.ref r_21), .unset, .unset, .unset, .unset, .unset, .unset, .unset, .unset, .unset]) rfl (pc' := 203) rfl ?_
      refine R.aload X21 hx (hb hby at_203) rfl rfl (pc' := 205) rfl ?_
      refine R.alen X21 hx hZ e21 V_r_21 (hb hby at_205) (pc' := 206) rfl ?_
      refine R.ifNo X21 hx (hb hby at_206) (teq (by decide : (0 : Int32) = (0 : Int32))).2 (pc' := 209) rfl ?_
      refine R.aload X21 hx (hb hby at_209) rfl rfl (pc' := 211) rfl ?_
      refine R.iconst X21 hx (hb hby at_211) (v := (0 : Int32)) (by decide) (pc' := 212) rfl ?_
      refine R.iload X21 hx (hb hby at_212) rfl (pc' := 214) rfl ?_
      refine R.callS X21 hx hZ (y := mY2) hown w_6 w_7 w_8 w_9 (by decide) e21 (rm2 l Z aZ hw [] b15 (0 : Int32) i12 k15 i14 [((0 : Int32), (.double (FP.i2d i12)))] h21 n0 Z21 V_b15 (by decide) (fun _ => getH_hit (by decide) (rfl))) (by decide) (W := 0) (Nat.le_of_eq rfl) (by decide) (by rw [hml]; rfl) (lenOf pd_2 rfl) rfl (hb hby at_214) (pc' := 217) rfl (by decide) (by decide) ?_; intro v22 T22 L22 X22 hQ22
      obtain ⟨rfl, N22q, e22⟩ := hQ22
      have N22 := Fr.app N21 N22q
      refine R.ifNo X22 hx (hb hby at_217) (feq (by decide : ¬ ((1 : Int32) = (0 : Int32)))).1 (pc' := 220) rfl ?_
      refine R.aload X22 hx (hb hby at_220) rfl rfl (pc' := 222) rfl ?_
      refine R.iconst X22 hx (hb hby at_222) (v := (1 : Int32)) (by decide) (pc' := 223) rfl ?_
      refine R.iload X22 hx (hb hby at_223) rfl (pc' := 225) rfl ?_
      refine R.callS X22 hx hZ (y := mY2) hown w_6 w_7 w_8 w_9 (by decide) e22 (rm2 l Z aZ hw [] b15 (1 : Int32) i13 k15 i14 [((0 : Int32), (.double (FP.i2d i12)))] h21 n0 Z21 V_b15 (by decide) (fun q => absurd q hc184)) (by decide) (W := 0) (Nat.le_of_eq rfl) (by decide) (by rw [hml]; rfl) (lenOf pd_2 rfl) rfl (hb hby at_225) (pc' := 228) rfl (by decide) (by decide) ?_; intro v23 T23 L23 X23 hQ23
      obtain ⟨rfl, N23q, e23⟩ := hQ23
      have N23 := Fr.app N22 N23q
      refine R.ifNo X23 hx (hb hby at_228) (feq (by decide : ¬ ((1 : Int32) = (0 : Int32)))).1 (pc' := 231) rfl ?_
      refine R.iconst X23 hx (hb hby at_231) (v := (1 : Int32)) (by decide) (pc' := 232) rfl ?_
      refine R.goto X23 hx (hb hby at_232) (by decide) (pc' := 236) (by decide) ?_
      rw [← hG]
      exact Rn.ret X23 (BodyLoose.notSynchronized Bd) (v := some (.int (1 : Int32))) (fun h => by rw [Bd.returns] at h; cases h) (Q := Q0 Z p0 p1 p2 p3 h0 n0) e23 (fun fs hr => retN X23 hx (t := .boolean) Bd.returns (by simp) (hb hby at_236) hr) ⟨rfl, N23⟩ (by decide) (by decide)
  · refine R.ifYes X15 hx (hb hby at_171) (flt hc171).2.2.2 (by decide) (pc' := 181) (by decide) ?_
    refine R.iload X15 hx (hb hby at_181) rfl (pc' := 183) rfl ?_
    refine R.iconst X15 hx (hb hby at_183) (v := (1 : Int32)) (by decide) (pc' := 184) rfl ?_
    refine R.icmpYes X15 hx (hb hby at_184) (flt (fun q => absurd (Int32.lt_iff_toInt_lt.mp q) (by have e := hc171; rw [Int32.lt_iff_toInt_lt] at e; have z0 : (0 : Int32).toInt = 0 := (by decide); have z1 : (1 : Int32).toInt = 1 := (by decide); omega) : ¬ ((1 : Int32) < i14))).2.2.2 (by decide) (pc' := 194) (by decide) ?_
    refine R.aload X15 hx (hb hby at_194) rfl rfl (pc' := 196) rfl ?_
    refine R.aload X15 hx (hb hby at_196) rfl rfl (pc' := 198) rfl ?_
    refine R.callS X15 hx hZ (y := mY1) hown w_2 w_3 w_4 w_5 (by decide) e15 (rmq0 l Z aZ hw [] b15 b10 k15 k10 i14 (1 : Int32) [] [((0 : Int32), (.double (FP.i2d ld)))] h15 n0 Z15 V_b15 V_b10 (fun q => absurd (Int32.lt_iff_toInt_lt.mp q) (by have e : ((1 : Int32) - (1 : Int32)).toInt = 0 := (by decide); omega))) (by decide) (W := 0) (Nat.le_of_eq rfl) (by decide) (by rw [hml]; rfl) (lenOf pd_1 rfl) rfl (hb hby at_198) (pc' := 201) rfl (by decide) (by decide) ?_; intro v24 T24 L24 X24 hQ24
    obtain ⟨r_24, kr_24, rfl, N24q, Kc24, P24_0, P24_1⟩ := hQ24
    have N24 := Fr.app NL N24q
    generalize e24 : T24.heap = h24 at Kc24 P24_0 P24_1
    have K24 : Keep h0 h24 [] := K15.trans Kc24 (all0)
    have Z24 : n0 ≤ h24.size := Nat.le_trans Z15 Kc24.1
    have ne_b4_r_24 : b4 ≠ r_24 := Nat.ne_of_lt (Nat.lt_of_lt_of_le V_b4.lt P24_0)
    have ne_b10_r_24 : b10 ≠ r_24 := Nat.ne_of_lt (Nat.lt_of_lt_of_le V_b10.lt P24_0)
    have ne_b15_r_24 : b15 ≠ r_24 := Nat.ne_of_lt (Nat.lt_of_lt_of_le V_b15.lt P24_0)
    have g_r_24 : n0 ≤ r_24 := Nat.le_trans Z15 P24_0
    have sz_r_24 : h0.size ≤ r_24 := Nat.le_trans K15.1 P24_0
    have V_b4 := V_b4.keep Kc24 nin0
    have V_b10 := V_b10.keep Kc24 nin0
    have V_b15 := V_b15.keep Kc24 nin0
    have fresh_24 := P24_0
    have V_r_24 : Arh Z h24 r_24 kr_24 .double (0 : Int32) [] [] (.double (0 : UInt64)) := P24_1
    have V_r_24 : Arh Z h24 r_24 kr_24 .double (0 : Int32) [] [] (.double (0 : UInt64)) := V_r_24
    refine R.astore X24 hx (hb hby at_201) rfl (L' := #[.val (.int p0), .val (.int p1), .val (.int p2), .val (.int p3), .val (.int (1 : Int32)), .val (.int (0 : Int32)), .val (.int (0 : Int32)), .val (.int ld), .val (.ref b4), .val (.ref b10), .val (.int i12), .val (.int i13), .val (.int i14), .val (.ref b15), .val (.ref r_24), .unset, .unset, .unset, .unset, .unset, .unset, .unset, .unset, .unset]) rfl (pc' := 203) rfl ?_
    refine R.aload X24 hx (hb hby at_203) rfl rfl (pc' := 205) rfl ?_
    refine R.alen X24 hx hZ e24 V_r_24 (hb hby at_205) (pc' := 206) rfl ?_
    refine R.ifNo X24 hx (hb hby at_206) (teq (by decide : (0 : Int32) = (0 : Int32))).2 (pc' := 209) rfl ?_
    refine R.aload X24 hx (hb hby at_209) rfl rfl (pc' := 211) rfl ?_
    refine R.iconst X24 hx (hb hby at_211) (v := (0 : Int32)) (by decide) (pc' := 212) rfl ?_
    refine R.iload X24 hx (hb hby at_212) rfl (pc' := 214) rfl ?_
    refine R.callS X24 hx hZ (y := mY2) hown w_6 w_7 w_8 w_9 (by decide) e24 (rm2 l Z aZ hw [] b15 (0 : Int32) i12 k15 i14 [] h24 n0 Z24 V_b15 (by decide) (fun q => absurd q hc171)) (by decide) (W := 0) (Nat.le_of_eq rfl) (by decide) (by rw [hml]; rfl) (lenOf pd_2 rfl) rfl (hb hby at_214) (pc' := 217) rfl (by decide) (by decide) ?_; intro v25 T25 L25 X25 hQ25
    obtain ⟨rfl, N25q, e25⟩ := hQ25
    have N25 := Fr.app N24 N25q
    refine R.ifNo X25 hx (hb hby at_217) (feq (by decide : ¬ ((1 : Int32) = (0 : Int32)))).1 (pc' := 220) rfl ?_
    refine R.aload X25 hx (hb hby at_220) rfl rfl (pc' := 222) rfl ?_
    refine R.iconst X25 hx (hb hby at_222) (v := (1 : Int32)) (by decide) (pc' := 223) rfl ?_
    refine R.iload X25 hx (hb hby at_223) rfl (pc' := 225) rfl ?_
    refine R.callS X25 hx hZ (y := mY2) hown w_6 w_7 w_8 w_9 (by decide) e25 (rm2 l Z aZ hw [] b15 (1 : Int32) i13 k15 i14 [] h24 n0 Z24 V_b15 (by decide) (fun q => absurd (Int32.lt_iff_toInt_lt.mp q) (by have e := hc171; rw [Int32.lt_iff_toInt_lt] at e; have z0 : (0 : Int32).toInt = 0 := (by decide); have z1 : (1 : Int32).toInt = 1 := (by decide); omega))) (by decide) (W := 0) (Nat.le_of_eq rfl) (by decide) (by rw [hml]; rfl) (lenOf pd_2 rfl) rfl (hb hby at_225) (pc' := 228) rfl (by decide) (by decide) ?_; intro v26 T26 L26 X26 hQ26
    obtain ⟨rfl, N26q, e26⟩ := hQ26
    have N26 := Fr.app N25 N26q
    refine R.ifNo X26 hx (hb hby at_228) (feq (by decide : ¬ ((1 : Int32) = (0 : Int32)))).1 (pc' := 231) rfl ?_
    refine R.iconst X26 hx (hb hby at_231) (v := (1 : Int32)) (by decide) (pc' := 232) rfl ?_
    refine R.goto X26 hx (hb hby at_232) (by decide) (pc' := 236) (by decide) ?_
    rw [← hG]
    exact Rn.ret X26 (BodyLoose.notSynchronized Bd) (v := some (.int (1 : Int32))) (fun h => by rw [Bd.returns] at h; cases h) (Q := Q0 Z p0 p1 p2 p3 h0 n0) e26 (fun fs hr => retN X26 hx (t := .boolean) Bd.returns (by simp) (hb hby at_236) hr) ⟨rfl, N26⟩ (by decide) (by decide)
set_option maxRecDepth 65536 in
set_option maxHeartbeats 40000000 in
theorem rm0_11 (l : Launch) (Z : State) (aZ : Array Value) (hw : ∀ d ∈ tables_1, d.before aZ Z = true) (ws : List Jvm.Cond) (p0 : Int32) (p1 : Int32) (p2 : Int32) (p3 : Int32) (h0 : Heap) (n0 : Nat) {p : Program} {e : Env} {s : State} {m : MethodId} {below : List Frame} {meth : Method} {c : Code} {s₁ : State} (Bd : BodyLoose p l x (head1 (Jvm.Cond.code x code maxLocals ret :: ws) room_1) code maxLocals ret e s m #[(.int p0), (.int p1), (.int p2), (.int p3)] below meth c s₁) (hml : c.maxLocals = 24) (hZ : Z.Warmed39 s.vm) {TL : State} {hL : Heap} {lL : List Loc} (XL : Stand p l e room_1 s m #[(.int p0), (.int p1), (.int p2), (.int p3)] below meth c TL lL 2 4) (eL : TL.heap = hL) (NL : Fr n0 lL) (KL : Keep h0 hL []) (ZL : n0 ≤ hL.size) (ld : Int32) (b10 : Addr) (b4 : Addr) (i12 : Int32) (i13 : Int32) (i5 : Int32) (k10 : ClassId) (k4 : ClassId) {G : Outcome → State → Prop} (hG : (Fn0 Z p0 p1 p2 p3 h0 n0 s) = G) (V_b4 : Arh Z hL b4 k4 .int (3 : Int32) [((0 : Int32), (.int ld)), ((2 : Int32), (.int (0 : Int32))), ((1 : Int32), (.int (0 : Int32))), ((0 : Int32), (.int i5))] [] (.int (0 : Int32))) (V_b10 : Arh Z hL b10 k10 .double (1 : Int32) [((0 : Int32), (.double (FP.i2d ld)))] [] (.double (0 : UInt64))) (ne_b4_b10 : b4 ≠ b10) (g_b4 : n0 ≤ b4) (g_b10 : n0 ≤ b10) (sz_b4 : h0.size ≤ b4) (sz_b10 : h0.size ≤ b10) (nl : ld.toInt ≠ 0) (bl : ld.toInt.natAbs ≤ 128) (b_i12 : i12.toInt.natAbs ≤ 128) (b_i13 : i13.toInt.natAbs ≤ 128) (b_i5 : i5.toInt.natAbs ≤ 128) : Rn p e below (TL.setTop (mkF m 147 #[.val (.int p0), .val (.int p1), .val (.int p2), .val (.int p3), .val (.int (1 : Int32)), .val (.int (0 : Int32)), .val (.int (1 : Int32)), .val (.int ld), .val (.ref b4), .val (.ref b10), .val (.int i12), .val (.int i13), .unset, .unset, .unset, .unset, .unset, .unset, .unset, .unset, .unset, .unset, .unset, .unset] [])) G := by
  have hx := Bd.exec
  have hby := Bd.bytes
  have hown : s.vm.findClass "com/example/deseason/deseason/arima/PolynomialsQuotientPinLaw" = some m.cls := findClass_of_methodNamed Bd.named
  have hnm := (name_of_methodNamed Bd.named Bd.method).1
  have w_0 := hw _ (List.mem_of_getElem? (i := 0) rfl)
  have w_1 := hw _ (List.mem_of_getElem? (i := 1) rfl)
  have w_2 := hw _ (List.mem_of_getElem? (i := 2) rfl)
  have w_3 := hw _ (List.mem_of_getElem? (i := 3) rfl)
  have w_4 := hw _ (List.mem_of_getElem? (i := 4) rfl)
  have w_5 := hw _ (List.mem_of_getElem? (i := 5) rfl)
  have w_6 := hw _ (List.mem_of_getElem? (i := 6) rfl)
  have w_7 := hw _ (List.mem_of_getElem? (i := 7) rfl)
  have w_8 := hw _ (List.mem_of_getElem? (i := 8) rfl)
  have w_9 := hw _ (List.mem_of_getElem? (i := 9) rfl)
  have w_10 := hw _ (List.mem_of_getElem? (i := 10) rfl)
  have w_11 := hw _ (List.mem_of_getElem? (i := 11) rfl)
  have w_12 := hw _ (List.mem_of_getElem? (i := 12) rfl)
  have w_25 := hw _ (List.mem_of_getElem? (i := 25) rfl)
  have w_26 := hw _ (List.mem_of_getElem? (i := 26) rfl)
  have w_27 := hw _ (List.mem_of_getElem? (i := 27) rfl)
  show Rn p e below (TL.setTop (mkF m 147 #[.val (.int p0), .val (.int p1), .val (.int p2), .val (.int p3), .val (.int (1 : Int32)), .val (.int (0 : Int32)), .val (.int (1 : Int32)), .val (.int ld), .val (.ref b4), .val (.ref b10), .val (.int i12), .val (.int i13), .unset, .unset, .unset, .unset, .unset, .unset, .unset, .unset, .unset, .unset, .unset, .unset] [])) G
  refine R.iload XL hx (hb hby at_147) rfl (pc' := 149) rfl ?_
  refine R.ifYes XL hx (hb hby at_149) (feq (by decide : ¬ ((1 : Int32) = (0 : Int32)))).2 (by decide) (pc' := 237) (by decide) ?_
  refine R.iconst XL hx (hb hby at_237) (v := (3 : Int32)) (by decide) (pc' := 238) rfl ?_
  refine R.newP XL hx hZ (ty := .int) rfl w_0 eL (by decide) (cap := 3) (by decide) (by decide) (ad := "[I") (by decide) (hb hby at_238) (pc' := 240) rfl (by decide) (by decide) ?_; intro T27 h27 b27 k27 g27 X27 e27 E27 EE27 AA27
  have g_b27 : n0 ≤ b27 := Nat.le_trans ZL (Nat.le_of_eq g27.symm)
  have sz_b27 : h0.size ≤ b27 := Nat.le_trans KL.1 (Nat.le_of_eq g27.symm)
  have ne_b4_b27 : b4 ≠ b27 := Nat.ne_of_lt (Nat.lt_of_lt_of_le V_b4.lt (Nat.le_of_eq g27.symm))
  have ne_b10_b27 : b10 ≠ b27 := Nat.ne_of_lt (Nat.lt_of_lt_of_le V_b10.lt (Nat.le_of_eq g27.symm))
  have K27 : Keep h0 h27 [] := KL.ext E27
  have Z27 : n0 ≤ h27.size := Nat.le_trans ZL E27.1
  have V_b4 := V_b4.ext E27
  have V_b10 := V_b10.ext E27
  have V_b27 : Arh Z h27 b27 k27 .int (3 : Int32) [] [] (.int (0 : Int32)) := AA27
  refine R.astore X27 hx (hb hby at_240) rfl (L' := #[.val (.int p0), .val (.int p1), .val (.int p2), .val (.int p3), .val (.int (1 : Int32)), .val (.int (0 : Int32)), .val (.int (1 : Int32)), .val (.int ld), .val (.ref b4), .val (.ref b10), .val (.int i12), .val (.int i13), .val (.ref b27), .unset, .unset, .unset, .unset, .unset, .unset, .unset, .unset, .unset, .unset, .unset]) rfl (pc' := 242) rfl ?_
  refine R.aload X27 hx (hb hby at_242) rfl rfl (pc' := 244) rfl ?_
  refine R.iconst X27 hx (hb hby at_244) (v := (0 : Int32)) (by decide) (pc' := 245) rfl ?_
  refine R.iloadN X27 hx (hb hby at_245) rfl (pc' := 246) rfl ?_
  refine R.i2b X27 hx (hb hby at_246) (pc' := 247) rfl ?_
  show Rn p e below (T27.setTop (mkF m 247 #[.val (.int p0), .val (.int p1), .val (.int p2), .val (.int p3), .val (.int (1 : Int32)), .val (.int (0 : Int32)), .val (.int (1 : Int32)), .val (.int ld), .val (.ref b4), .val (.ref b10), .val (.int i12), .val (.int i13), .val (.ref b27), .unset, .unset, .unset, .unset, .unset, .unset, .unset, .unset, .unset, .unset, .unset] [(.int (p2.toInt8.toInt32)), (.int (0 : Int32)), (.ref b27)])) G
  generalize hi28 : (p2.toInt8.toInt32) = i28
  have b_i28 := own_byte hi28
  refine R.iastore X27 hx hZ e27 V_b27 (⟨by decide, by decide⟩ : ¬ (0 : Int32) < 0 ∧ (0 : Int32) < (3 : Int32)) (hb hby at_247) (pc' := 248) rfl ?_; intro T29 h29 X29 e29 W29 V29
  have V_b4 := V_b4.other W29 ne_b4_b27
  have V_b10 := V_b10.other W29 ne_b10_b27
  have V_b27 : Arh Z h29 b27 k27 .int (3 : Int32) [((0 : Int32), (.int i28))] [] (.int (0 : Int32)) := V29
  have N29 := Fr.snoc X29 NL g_b27
  have K29 : Keep h0 h29 [] := K27.wr W29 (Or.inr sz_b27)
  have Z29 : n0 ≤ h29.size := Nat.le_trans Z27 (Keep.of_wr W29).1
  refine R.aload X29 hx (hb hby at_248) rfl rfl (pc' := 250) rfl ?_
  refine R.iconst X29 hx (hb hby at_250) (v := (1 : Int32)) (by decide) (pc' := 251) rfl ?_
  refine R.iload X29 hx (hb hby at_251) rfl (pc' := 253) rfl ?_
  refine R.iconst X29 hx (hb hby at_253) (v := (2 : Int32)) (by decide) (pc' := 254) rfl ?_
  refine R.icmpYes X29 hx (hb hby at_254) (tlt (by decide : (1 : Int32) < (2 : Int32))).1 (by decide) (pc' := 265) (by decide) ?_
  refine R.iconst X29 hx (hb hby at_265) (v := (0 : Int32)) (by decide) (pc' := 266) rfl ?_
  refine R.iastore X29 hx hZ e29 V_b27 (⟨by decide, by decide⟩ : ¬ (1 : Int32) < 0 ∧ (1 : Int32) < (3 : Int32)) (hb hby at_266) (pc' := 267) rfl ?_; intro T30 h30 X30 e30 W30 V30
  have V_b4 := V_b4.other W30 ne_b4_b27
  have V_b10 := V_b10.other W30 ne_b10_b27
  have V_b27 : Arh Z h30 b27 k27 .int (3 : Int32) [((1 : Int32), (.int (0 : Int32))), ((0 : Int32), (.int i28))] [] (.int (0 : Int32)) := V30
  have N30 := Fr.snoc X30 N29 g_b27
  have K30 : Keep h0 h30 [] := K29.wr W30 (Or.inr sz_b27)
  have Z30 : n0 ≤ h30.size := Nat.le_trans Z29 (Keep.of_wr W30).1
  refine R.aload X30 hx (hb hby at_267) rfl rfl (pc' := 269) rfl ?_
  refine R.iconst X30 hx (hb hby at_269) (v := (2 : Int32)) (by decide) (pc' := 270) rfl ?_
  refine R.iload X30 hx (hb hby at_270) rfl (pc' := 272) rfl ?_
  refine R.iconst X30 hx (hb hby at_272) (v := (3 : Int32)) (by decide) (pc' := 273) rfl ?_
  refine R.icmpYes X30 hx (hb hby at_273) (tlt (by decide : (1 : Int32) < (3 : Int32))).1 (by decide) (pc' := 284) (by decide) ?_
  refine R.iconst X30 hx (hb hby at_284) (v := (0 : Int32)) (by decide) (pc' := 285) rfl ?_
  refine R.iastore X30 hx hZ e30 V_b27 (⟨by decide, by decide⟩ : ¬ (2 : Int32) < 0 ∧ (2 : Int32) < (3 : Int32)) (hb hby at_285) (pc' := 286) rfl ?_; intro T31 h31 X31 e31 W31 V31
  have V_b4 := V_b4.other W31 ne_b4_b27
  have V_b10 := V_b10.other W31 ne_b10_b27
  have V_b27 : Arh Z h31 b27 k27 .int (3 : Int32) [((2 : Int32), (.int (0 : Int32))), ((1 : Int32), (.int (0 : Int32))), ((0 : Int32), (.int i28))] [] (.int (0 : Int32)) := V31
  have N31 := Fr.snoc X31 N30 g_b27
  have K31 : Keep h0 h31 [] := K30.wr W31 (Or.inr sz_b27)
  have Z31 : n0 ≤ h31.size := Nat.le_trans Z30 (Keep.of_wr W31).1
  refine R.iconst X31 hx (hb hby at_286) (v := (2 : Int32)) (by decide) (pc' := 287) rfl ?_
  refine R.newP X31 hx hZ (ty := .int) rfl w_0 e31 (by decide) (cap := 2) (by decide) (by decide) (ad := "[I") (by decide) (hb hby at_287) (pc' := 289) rfl (by decide) (by decide) ?_; intro T32 h32 b32 k32 g32 X32 e32 E32 EE32 AA32
  have g_b32 : n0 ≤ b32 := Nat.le_trans Z31 (Nat.le_of_eq g32.symm)
  have sz_b32 : h0.size ≤ b32 := Nat.le_trans K31.1 (Nat.le_of_eq g32.symm)
  have ne_b4_b32 : b4 ≠ b32 := Nat.ne_of_lt (Nat.lt_of_lt_of_le V_b4.lt (Nat.le_of_eq g32.symm))
  have ne_b10_b32 : b10 ≠ b32 := Nat.ne_of_lt (Nat.lt_of_lt_of_le V_b10.lt (Nat.le_of_eq g32.symm))
  have ne_b27_b32 : b27 ≠ b32 := Nat.ne_of_lt (Nat.lt_of_lt_of_le V_b27.lt (Nat.le_of_eq g32.symm))
  have K32 : Keep h0 h32 [] := K31.ext E32
  have Z32 : n0 ≤ h32.size := Nat.le_trans Z31 E32.1
  have V_b4 := V_b4.ext E32
  have V_b10 := V_b10.ext E32
  have V_b27 := V_b27.ext E32
  have V_b32 : Arh Z h32 b32 k32 .int (2 : Int32) [] [] (.int (0 : Int32)) := AA32
  refine R.astore X32 hx (hb hby at_289) rfl (L' := #[.val (.int p0), .val (.int p1), .val (.int p2), .val (.int p3), .val (.int (1 : Int32)), .val (.int (0 : Int32)), .val (.int (1 : Int32)), .val (.int ld), .val (.ref b4), .val (.ref b10), .val (.int i12), .val (.int i13), .val (.ref b27), .val (.ref b32), .unset, .unset, .unset, .unset, .unset, .unset, .unset, .unset, .unset, .unset]) rfl (pc' := 291) rfl ?_
  refine R.aload X32 hx (hb hby at_291) rfl rfl (pc' := 293) rfl ?_
  refine R.iconst X32 hx (hb hby at_293) (v := (0 : Int32)) (by decide) (pc' := 294) rfl ?_
  refine R.iload X32 hx (hb hby at_294) rfl (pc' := 296) rfl ?_
  refine R.ifYes X32 hx (hb hby at_296) (flt (by decide : ¬ ((0 : Int32) < (0 : Int32)))).2.2.2 (by decide) (pc' := 304) (by decide) ?_
  refine R.iconst X32 hx (hb hby at_304) (v := (0 : Int32)) (by decide) (pc' := 305) rfl ?_
  refine R.iastore X32 hx hZ e32 V_b32 (⟨by decide, by decide⟩ : ¬ (0 : Int32) < 0 ∧ (0 : Int32) < (2 : Int32)) (hb hby at_305) (pc' := 306) rfl ?_; intro T33 h33 X33 e33 W33 V33
  have V_b4 := V_b4.other W33 ne_b4_b32
  have V_b10 := V_b10.other W33 ne_b10_b32
  have V_b27 := V_b27.other W33 ne_b27_b32
  have V_b32 : Arh Z h33 b32 k32 .int (2 : Int32) [((0 : Int32), (.int (0 : Int32)))] [] (.int (0 : Int32)) := V33
  have N33 := Fr.snoc X33 N31 g_b32
  have K33 : Keep h0 h33 [] := K32.wr W33 (Or.inr sz_b32)
  have Z33 : n0 ≤ h33.size := Nat.le_trans Z32 (Keep.of_wr W33).1
  refine R.aload X33 hx (hb hby at_306) rfl rfl (pc' := 308) rfl ?_
  refine R.iconst X33 hx (hb hby at_308) (v := (1 : Int32)) (by decide) (pc' := 309) rfl ?_
  refine R.iload X33 hx (hb hby at_309) rfl (pc' := 311) rfl ?_
  refine R.iconst X33 hx (hb hby at_311) (v := (1 : Int32)) (by decide) (pc' := 312) rfl ?_
  refine R.icmpYes X33 hx (hb hby at_312) (flt (by decide : ¬ ((1 : Int32) < (0 : Int32)))).2.2.2 (by decide) (pc' := 320) (by decide) ?_
  refine R.iconst X33 hx (hb hby at_320) (v := (0 : Int32)) (by decide) (pc' := 321) rfl ?_
  refine R.iastore X33 hx hZ e33 V_b32 (⟨by decide, by decide⟩ : ¬ (1 : Int32) < 0 ∧ (1 : Int32) < (2 : Int32)) (hb hby at_321) (pc' := 322) rfl ?_; intro T34 h34 X34 e34 W34 V34
  have V_b4 := V_b4.other W34 ne_b4_b32
  have V_b10 := V_b10.other W34 ne_b10_b32
  have V_b27 := V_b27.other W34 ne_b27_b32
  have V_b32 : Arh Z h34 b32 k32 .int (2 : Int32) [((1 : Int32), (.int (0 : Int32))), ((0 : Int32), (.int (0 : Int32)))] [] (.int (0 : Int32)) := V34
  have N34 := Fr.snoc X34 N33 g_b32
  have K34 : Keep h0 h34 [] := K33.wr W34 (Or.inr sz_b32)
  have Z34 : n0 ≤ h34.size := Nat.le_trans Z33 (Keep.of_wr W34).1
  refine R.iload X34 hx (hb hby at_322) rfl (pc' := 324) rfl ?_
  refine R.iload X34 hx (hb hby at_324) rfl (pc' := 326) rfl ?_
  refine R.iadd X34 hx (hb hby at_326) (v := (1 : Int32)) (by decide) (pc' := 327) rfl ?_
  refine R.istore X34 hx (hb hby at_327) (L' := #[.val (.int p0), .val (.int p1), .val (.int p2), .val (.int p3), .val (.int (1 : Int32)), .val (.int (0 : Int32)), .val (.int (1 : Int32)), .val (.int ld), .val (.ref b4), .val (.ref b10), .val (.int i12), .val (.int i13), .val (.ref b27), .val (.ref b32), .val (.int (1 : Int32)), .unset, .unset, .unset, .unset, .unset, .unset, .unset, .unset, .unset]) rfl (pc' := 329) rfl ?_
  refine R.aload X34 hx (hb hby at_329) rfl rfl (pc' := 331) rfl ?_
  refine R.aload X34 hx (hb hby at_331) rfl rfl (pc' := 333) rfl ?_
  refine R.aload X34 hx (hb hby at_333) rfl rfl (pc' := 335) rfl ?_
  refine R.iconst X34 hx (hb hby at_335) (v := (0 : Int32)) (by decide) (pc' := 336) rfl ?_
  refine R.callS X34 hx hZ (y := mY3) hown w_10 w_11 w_8 w_12 (by decide) e34 (rmcf0 l Z aZ hw [] b27 b4 b32 k27 k4 k32 [((2 : Int32), (.int (0 : Int32))), ((1 : Int32), (.int (0 : Int32))), ((0 : Int32), (.int i28))] [((0 : Int32), (.int ld)), ((2 : Int32), (.int (0 : Int32))), ((1 : Int32), (.int (0 : Int32))), ((0 : Int32), (.int i5))] [((1 : Int32), (.int (0 : Int32))), ((0 : Int32), (.int (0 : Int32)))] i28 (0 : Int32) (0 : Int32) ld (0 : Int32) (0 : Int32) (0 : Int32) (0 : Int32) h34 n0 Z34 V_b27 V_b4 V_b32 (getH_miss (by decide) (by decide) (getH_miss (by decide) (by decide) (getH_hit (by decide) (rfl)))) (getH_miss (by decide) (by decide) (getH_hit (by decide) (rfl))) (getH_hit (by decide) (rfl)) (getH_hit (by decide) (rfl)) (getH_miss (by decide) (by decide) (getH_miss (by decide) (by decide) (getH_hit (by decide) (rfl)))) (getH_miss (by decide) (by decide) (getH_hit (by decide) (rfl))) (getH_miss (by decide) (by decide) (getH_hit (by decide) (rfl))) (getH_hit (by decide) (rfl))) (by decide) (W := 0) (Nat.le_of_eq rfl) (by decide) (by rw [hml]; rfl) (lenOf pd_3 rfl) rfl (hb hby at_336) (pc' := 339) rfl (by decide) (by decide) ?_; intro v35 T35 L35 X35 hQ35
  obtain ⟨rfl, N35q, e35⟩ := hQ35
  have N35 := Fr.app N34 N35q
  show Rn p e below (T35.setTop (mkF m 339 #[.val (.int p0), .val (.int p1), .val (.int p2), .val (.int p3), .val (.int (1 : Int32)), .val (.int (0 : Int32)), .val (.int (1 : Int32)), .val (.int ld), .val (.ref b4), .val (.ref b10), .val (.int i12), .val (.int i13), .val (.ref b27), .val (.ref b32), .val (.int (1 : Int32)), .unset, .unset, .unset, .unset, .unset, .unset, .unset, .unset, .unset] [(.int ((((i28 * ld) + ((0 : Int32) * (0 : Int32))) + ((0 : Int32) * (0 : Int32))) + (0 : Int32)))])) G
  generalize hi36 : ((((i28 * ld) + ((0 : Int32) * (0 : Int32))) + ((0 : Int32) * (0 : Int32))) + (0 : Int32)) = i36
  refine R.istore X35 hx (hb hby at_339) (L' := #[.val (.int p0), .val (.int p1), .val (.int p2), .val (.int p3), .val (.int (1 : Int32)), .val (.int (0 : Int32)), .val (.int (1 : Int32)), .val (.int ld), .val (.ref b4), .val (.ref b10), .val (.int i12), .val (.int i13), .val (.ref b27), .val (.ref b32), .val (.int (1 : Int32)), .val (.int i36), .unset, .unset, .unset, .unset, .unset, .unset, .unset, .unset]) rfl (pc' := 341) rfl ?_
  refine R.aload X35 hx (hb hby at_341) rfl rfl (pc' := 343) rfl ?_
  refine R.aload X35 hx (hb hby at_343) rfl rfl (pc' := 345) rfl ?_
  refine R.aload X35 hx (hb hby at_345) rfl rfl (pc' := 347) rfl ?_
  refine R.iconst X35 hx (hb hby at_347) (v := (1 : Int32)) (by decide) (pc' := 348) rfl ?_
  refine R.callS X35 hx hZ (y := mY3) hown w_10 w_11 w_8 w_12 (by decide) e35 (rmcf1 l Z aZ hw [] b27 b4 b32 k27 k4 k32 [((2 : Int32), (.int (0 : Int32))), ((1 : Int32), (.int (0 : Int32))), ((0 : Int32), (.int i28))] [((0 : Int32), (.int ld)), ((2 : Int32), (.int (0 : Int32))), ((1 : Int32), (.int (0 : Int32))), ((0 : Int32), (.int i5))] [((1 : Int32), (.int (0 : Int32))), ((0 : Int32), (.int (0 : Int32)))] i28 (0 : Int32) (0 : Int32) ld (0 : Int32) (0 : Int32) (0 : Int32) (0 : Int32) h34 n0 Z34 V_b27 V_b4 V_b32 (getH_miss (by decide) (by decide) (getH_miss (by decide) (by decide) (getH_hit (by decide) (rfl)))) (getH_miss (by decide) (by decide) (getH_hit (by decide) (rfl))) (getH_hit (by decide) (rfl)) (getH_hit (by decide) (rfl)) (getH_miss (by decide) (by decide) (getH_miss (by decide) (by decide) (getH_hit (by decide) (rfl)))) (getH_miss (by decide) (by decide) (getH_hit (by decide) (rfl))) (getH_miss (by decide) (by decide) (getH_hit (by decide) (rfl))) (getH_hit (by decide) (rfl))) (by decide) (W := 0) (Nat.le_of_eq rfl) (by decide) (by rw [hml]; rfl) (lenOf pd_3 rfl) rfl (hb hby at_348) (pc' := 351) rfl (by decide) (by decide) ?_; intro v37 T37 L37 X37 hQ37
  obtain ⟨rfl, N37q, e37⟩ := hQ37
  have N37 := Fr.app N35 N37q
  show Rn p e below (T37.setTop (mkF m 351 #[.val (.int p0), .val (.int p1), .val (.int p2), .val (.int p3), .val (.int (1 : Int32)), .val (.int (0 : Int32)), .val (.int (1 : Int32)), .val (.int ld), .val (.ref b4), .val (.ref b10), .val (.int i12), .val (.int i13), .val (.ref b27), .val (.ref b32), .val (.int (1 : Int32)), .val (.int i36), .unset, .unset, .unset, .unset, .unset, .unset, .unset, .unset] [(.int ((((i28 * (0 : Int32)) + ((0 : Int32) * ld)) + ((0 : Int32) * (0 : Int32))) + (0 : Int32)))])) G
  generalize hi38 : ((((i28 * (0 : Int32)) + ((0 : Int32) * ld)) + ((0 : Int32) * (0 : Int32))) + (0 : Int32)) = i38
  refine R.istore X37 hx (hb hby at_351) (L' := #[.val (.int p0), .val (.int p1), .val (.int p2), .val (.int p3), .val (.int (1 : Int32)), .val (.int (0 : Int32)), .val (.int (1 : Int32)), .val (.int ld), .val (.ref b4), .val (.ref b10), .val (.int i12), .val (.int i13), .val (.ref b27), .val (.ref b32), .val (.int (1 : Int32)), .val (.int i36), .val (.int i38), .unset, .unset, .unset, .unset, .unset, .unset, .unset]) rfl (pc' := 353) rfl ?_
  refine R.aload X37 hx (hb hby at_353) rfl rfl (pc' := 355) rfl ?_
  refine R.aload X37 hx (hb hby at_355) rfl rfl (pc' := 357) rfl ?_
  refine R.aload X37 hx (hb hby at_357) rfl rfl (pc' := 359) rfl ?_
  refine R.iconst X37 hx (hb hby at_359) (v := (2 : Int32)) (by decide) (pc' := 360) rfl ?_
  refine R.callS X37 hx hZ (y := mY3) hown w_10 w_11 w_8 w_12 (by decide) e37 (rmcf2 l Z aZ hw [] b27 b4 b32 k27 k4 k32 [((2 : Int32), (.int (0 : Int32))), ((1 : Int32), (.int (0 : Int32))), ((0 : Int32), (.int i28))] [((0 : Int32), (.int ld)), ((2 : Int32), (.int (0 : Int32))), ((1 : Int32), (.int (0 : Int32))), ((0 : Int32), (.int i5))] [((1 : Int32), (.int (0 : Int32))), ((0 : Int32), (.int (0 : Int32)))] i28 (0 : Int32) (0 : Int32) ld (0 : Int32) (0 : Int32) (0 : Int32) (0 : Int32) h34 n0 Z34 V_b27 V_b4 V_b32 (getH_miss (by decide) (by decide) (getH_miss (by decide) (by decide) (getH_hit (by decide) (rfl)))) (getH_miss (by decide) (by decide) (getH_hit (by decide) (rfl))) (getH_hit (by decide) (rfl)) (getH_hit (by decide) (rfl)) (getH_miss (by decide) (by decide) (getH_miss (by decide) (by decide) (getH_hit (by decide) (rfl)))) (getH_miss (by decide) (by decide) (getH_hit (by decide) (rfl))) (getH_miss (by decide) (by decide) (getH_hit (by decide) (rfl))) (getH_hit (by decide) (rfl))) (by decide) (W := 0) (Nat.le_of_eq rfl) (by decide) (by rw [hml]; rfl) (lenOf pd_3 rfl) rfl (hb hby at_360) (pc' := 363) rfl (by decide) (by decide) ?_; intro v39 T39 L39 X39 hQ39
  obtain ⟨rfl, N39q, e39⟩ := hQ39
  have N39 := Fr.app N37 N39q
  show Rn p e below (T39.setTop (mkF m 363 #[.val (.int p0), .val (.int p1), .val (.int p2), .val (.int p3), .val (.int (1 : Int32)), .val (.int (0 : Int32)), .val (.int (1 : Int32)), .val (.int ld), .val (.ref b4), .val (.ref b10), .val (.int i12), .val (.int i13), .val (.ref b27), .val (.ref b32), .val (.int (1 : Int32)), .val (.int i36), .val (.int i38), .unset, .unset, .unset, .unset, .unset, .unset, .unset] [(.int ((((i28 * (0 : Int32)) + ((0 : Int32) * (0 : Int32))) + ((0 : Int32) * ld)) + (0 : Int32)))])) G
  generalize hi40 : ((((i28 * (0 : Int32)) + ((0 : Int32) * (0 : Int32))) + ((0 : Int32) * ld)) + (0 : Int32)) = i40
  refine R.istore X39 hx (hb hby at_363) (L' := #[.val (.int p0), .val (.int p1), .val (.int p2), .val (.int p3), .val (.int (1 : Int32)), .val (.int (0 : Int32)), .val (.int (1 : Int32)), .val (.int ld), .val (.ref b4), .val (.ref b10), .val (.int i12), .val (.int i13), .val (.ref b27), .val (.ref b32), .val (.int (1 : Int32)), .val (.int i36), .val (.int i38), .val (.int i40), .unset, .unset, .unset, .unset, .unset, .unset]) rfl (pc' := 365) rfl ?_
  refine R.aload X39 hx (hb hby at_365) rfl rfl (pc' := 367) rfl ?_
  refine R.aload X39 hx (hb hby at_367) rfl rfl (pc' := 369) rfl ?_
  refine R.aload X39 hx (hb hby at_369) rfl rfl (pc' := 371) rfl ?_
  refine R.iconst X39 hx (hb hby at_371) (v := (3 : Int32)) (by decide) (pc' := 372) rfl ?_
  refine R.callS X39 hx hZ (y := mY3) hown w_10 w_11 w_8 w_12 (by decide) e39 (rmcf3 l Z aZ hw [] b27 b4 b32 k27 k4 k32 [((2 : Int32), (.int (0 : Int32))), ((1 : Int32), (.int (0 : Int32))), ((0 : Int32), (.int i28))] [((0 : Int32), (.int ld)), ((2 : Int32), (.int (0 : Int32))), ((1 : Int32), (.int (0 : Int32))), ((0 : Int32), (.int i5))] [((1 : Int32), (.int (0 : Int32))), ((0 : Int32), (.int (0 : Int32)))] i28 (0 : Int32) (0 : Int32) ld (0 : Int32) (0 : Int32) (0 : Int32) (0 : Int32) h34 n0 Z34 V_b27 V_b4 V_b32 (getH_miss (by decide) (by decide) (getH_miss (by decide) (by decide) (getH_hit (by decide) (rfl)))) (getH_miss (by decide) (by decide) (getH_hit (by decide) (rfl))) (getH_hit (by decide) (rfl)) (getH_hit (by decide) (rfl)) (getH_miss (by decide) (by decide) (getH_miss (by decide) (by decide) (getH_hit (by decide) (rfl)))) (getH_miss (by decide) (by decide) (getH_hit (by decide) (rfl))) (getH_miss (by decide) (by decide) (getH_hit (by decide) (rfl))) (getH_hit (by decide) (rfl))) (by decide) (W := 0) (Nat.le_of_eq rfl) (by decide) (by rw [hml]; rfl) (lenOf pd_3 rfl) rfl (hb hby at_372) (pc' := 375) rfl (by decide) (by decide) ?_; intro v41 T41 L41 X41 hQ41
  obtain ⟨rfl, N41q, e41⟩ := hQ41
  have N41 := Fr.app N39 N41q
  show Rn p e below (T41.setTop (mkF m 375 #[.val (.int p0), .val (.int p1), .val (.int p2), .val (.int p3), .val (.int (1 : Int32)), .val (.int (0 : Int32)), .val (.int (1 : Int32)), .val (.int ld), .val (.ref b4), .val (.ref b10), .val (.int i12), .val (.int i13), .val (.ref b27), .val (.ref b32), .val (.int (1 : Int32)), .val (.int i36), .val (.int i38), .val (.int i40), .unset, .unset, .unset, .unset, .unset, .unset] [(.int ((((i28 * (0 : Int32)) + ((0 : Int32) * (0 : Int32))) + ((0 : Int32) * (0 : Int32))) + (0 : Int32)))])) G
  generalize hi42 : ((((i28 * (0 : Int32)) + ((0 : Int32) * (0 : Int32))) + ((0 : Int32) * (0 : Int32))) + (0 : Int32)) = i42
  refine R.istore X41 hx (hb hby at_375) (L' := #[.val (.int p0), .val (.int p1), .val (.int p2), .val (.int p3), .val (.int (1 : Int32)), .val (.int (0 : Int32)), .val (.int (1 : Int32)), .val (.int ld), .val (.ref b4), .val (.ref b10), .val (.int i12), .val (.int i13), .val (.ref b27), .val (.ref b32), .val (.int (1 : Int32)), .val (.int i36), .val (.int i38), .val (.int i40), .val (.int i42), .unset, .unset, .unset, .unset, .unset]) rfl (pc' := 377) rfl ?_
  refine R.aload X41 hx (hb hby at_377) rfl rfl (pc' := 379) rfl ?_
  refine R.aload X41 hx (hb hby at_379) rfl rfl (pc' := 381) rfl ?_
  refine R.aload X41 hx (hb hby at_381) rfl rfl (pc' := 383) rfl ?_
  refine R.iconst X41 hx (hb hby at_383) (v := (4 : Int32)) (by decide) (pc' := 384) rfl ?_
  refine R.callS X41 hx hZ (y := mY3) hown w_10 w_11 w_8 w_12 (by decide) e41 (rmcf4 l Z aZ hw [] b27 b4 b32 k27 k4 k32 [((2 : Int32), (.int (0 : Int32))), ((1 : Int32), (.int (0 : Int32))), ((0 : Int32), (.int i28))] [((0 : Int32), (.int ld)), ((2 : Int32), (.int (0 : Int32))), ((1 : Int32), (.int (0 : Int32))), ((0 : Int32), (.int i5))] [((1 : Int32), (.int (0 : Int32))), ((0 : Int32), (.int (0 : Int32)))] i28 (0 : Int32) (0 : Int32) ld (0 : Int32) (0 : Int32) (0 : Int32) (0 : Int32) h34 n0 Z34 V_b27 V_b4 V_b32 (getH_miss (by decide) (by decide) (getH_miss (by decide) (by decide) (getH_hit (by decide) (rfl)))) (getH_miss (by decide) (by decide) (getH_hit (by decide) (rfl))) (getH_hit (by decide) (rfl)) (getH_hit (by decide) (rfl)) (getH_miss (by decide) (by decide) (getH_miss (by decide) (by decide) (getH_hit (by decide) (rfl)))) (getH_miss (by decide) (by decide) (getH_hit (by decide) (rfl))) (getH_miss (by decide) (by decide) (getH_hit (by decide) (rfl))) (getH_hit (by decide) (rfl))) (by decide) (W := 0) (Nat.le_of_eq rfl) (by decide) (by rw [hml]; rfl) (lenOf pd_3 rfl) rfl (hb hby at_384) (pc' := 387) rfl (by decide) (by decide) ?_; intro v43 T43 L43 X43 hQ43
  obtain ⟨rfl, N43q, e43⟩ := hQ43
  have N43 := Fr.app N41 N43q
  show Rn p e below (T43.setTop (mkF m 387 #[.val (.int p0), .val (.int p1), .val (.int p2), .val (.int p3), .val (.int (1 : Int32)), .val (.int (0 : Int32)), .val (.int (1 : Int32)), .val (.int ld), .val (.ref b4), .val (.ref b10), .val (.int i12), .val (.int i13), .val (.ref b27), .val (.ref b32), .val (.int (1 : Int32)), .val (.int i36), .val (.int i38), .val (.int i40), .val (.int i42), .unset, .unset, .unset, .unset, .unset] [(.int ((((i28 * (0 : Int32)) + ((0 : Int32) * (0 : Int32))) + ((0 : Int32) * (0 : Int32))) + (0 : Int32)))])) G
  generalize hi44 : ((((i28 * (0 : Int32)) + ((0 : Int32) * (0 : Int32))) + ((0 : Int32) * (0 : Int32))) + (0 : Int32)) = i44
  refine R.istore X43 hx (hb hby at_387) (L' := #[.val (.int p0), .val (.int p1), .val (.int p2), .val (.int p3), .val (.int (1 : Int32)), .val (.int (0 : Int32)), .val (.int (1 : Int32)), .val (.int ld), .val (.ref b4), .val (.ref b10), .val (.int i12), .val (.int i13), .val (.ref b27), .val (.ref b32), .val (.int (1 : Int32)), .val (.int i36), .val (.int i38), .val (.int i40), .val (.int i42), .val (.int i44), .unset, .unset, .unset, .unset]) rfl (pc' := 389) rfl ?_
  have tc0 := own_cf (b_i28 : i28.toInt.natAbs ≤ 128) (bl : ld.toInt.natAbs ≤ 128) (own_z0 : (0 : Int32).toInt.natAbs ≤ 128) (own_z0 : (0 : Int32).toInt.natAbs ≤ 128) (own_z0 : (0 : Int32).toInt.natAbs ≤ 128) (own_z0 : (0 : Int32).toInt.natAbs ≤ 128) (own_z0 : (0 : Int32).toInt.natAbs ≤ 128) hi36
  simp only [own_zi, Int.zero_mul, Int.mul_zero, Int.add_zero, Int.zero_add] at tc0
  have tc1 := own_cf (b_i28 : i28.toInt.natAbs ≤ 128) (own_z0 : (0 : Int32).toInt.natAbs ≤ 128) (own_z0 : (0 : Int32).toInt.natAbs ≤ 128) (bl : ld.toInt.natAbs ≤ 128) (own_z0 : (0 : Int32).toInt.natAbs ≤ 128) (own_z0 : (0 : Int32).toInt.natAbs ≤ 128) (own_z0 : (0 : Int32).toInt.natAbs ≤ 128) hi38
  simp only [own_zi, Int.zero_mul, Int.mul_zero, Int.add_zero, Int.zero_add] at tc1
  have tc2 := own_cf (b_i28 : i28.toInt.natAbs ≤ 128) (own_z0 : (0 : Int32).toInt.natAbs ≤ 128) (own_z0 : (0 : Int32).toInt.natAbs ≤ 128) (own_z0 : (0 : Int32).toInt.natAbs ≤ 128) (own_z0 : (0 : Int32).toInt.natAbs ≤ 128) (bl : ld.toInt.natAbs ≤ 128) (own_z0 : (0 : Int32).toInt.natAbs ≤ 128) hi40
  simp only [own_zi, Int.zero_mul, Int.mul_zero, Int.add_zero, Int.zero_add] at tc2
  have tc3 := own_cf (b_i28 : i28.toInt.natAbs ≤ 128) (own_z0 : (0 : Int32).toInt.natAbs ≤ 128) (own_z0 : (0 : Int32).toInt.natAbs ≤ 128) (own_z0 : (0 : Int32).toInt.natAbs ≤ 128) (own_z0 : (0 : Int32).toInt.natAbs ≤ 128) (own_z0 : (0 : Int32).toInt.natAbs ≤ 128) (own_z0 : (0 : Int32).toInt.natAbs ≤ 128) hi42
  simp only [own_zi, Int.zero_mul, Int.mul_zero, Int.add_zero, Int.zero_add] at tc3
  have tc4 := own_cf (b_i28 : i28.toInt.natAbs ≤ 128) (own_z0 : (0 : Int32).toInt.natAbs ≤ 128) (own_z0 : (0 : Int32).toInt.natAbs ≤ 128) (own_z0 : (0 : Int32).toInt.natAbs ≤ 128) (own_z0 : (0 : Int32).toInt.natAbs ≤ 128) (own_z0 : (0 : Int32).toInt.natAbs ≤ 128) (own_z0 : (0 : Int32).toInt.natAbs ≤ 128) hi44
  simp only [own_zi, Int.zero_mul, Int.mul_zero, Int.add_zero, Int.zero_add] at tc4
  refine R.iload X43 hx (hb hby at_389) rfl (pc' := 391) rfl ?_
  refine R.newP X43 hx hZ (ty := .double) rfl w_1 e43 (by decide) (cap := 1) (by decide) (by decide) (ad := "[D") (by decide) (hb hby at_391) (pc' := 393) rfl (by decide) (by decide) ?_; intro T45 h45 b45 k45 g45 X45 e45 E45 EE45 AA45
  have g_b45 : n0 ≤ b45 := Nat.le_trans Z34 (Nat.le_of_eq g45.symm)
  have sz_b45 : h0.size ≤ b45 := Nat.le_trans K34.1 (Nat.le_of_eq g45.symm)
  have ne_b4_b45 : b4 ≠ b45 := Nat.ne_of_lt (Nat.lt_of_lt_of_le V_b4.lt (Nat.le_of_eq g45.symm))
  have ne_b10_b45 : b10 ≠ b45 := Nat.ne_of_lt (Nat.lt_of_lt_of_le V_b10.lt (Nat.le_of_eq g45.symm))
  have ne_b27_b45 : b27 ≠ b45 := Nat.ne_of_lt (Nat.lt_of_lt_of_le V_b27.lt (Nat.le_of_eq g45.symm))
  have ne_b32_b45 : b32 ≠ b45 := Nat.ne_of_lt (Nat.lt_of_lt_of_le V_b32.lt (Nat.le_of_eq g45.symm))
  have K45 : Keep h0 h45 [] := K34.ext E45
  have Z45 : n0 ≤ h45.size := Nat.le_trans Z34 E45.1
  have V_b4 := V_b4.ext E45
  have V_b10 := V_b10.ext E45
  have V_b27 := V_b27.ext E45
  have V_b32 := V_b32.ext E45
  have E_b45 : Exa Z h45 b45 "[D" := EE45
  have V_b45 : Arh Z h45 b45 k45 .double (1 : Int32) [] [] (.double (0 : UInt64)) := AA45
  refine R.astore X45 hx (hb hby at_393) rfl (L' := #[.val (.int p0), .val (.int p1), .val (.int p2), .val (.int p3), .val (.int (1 : Int32)), .val (.int (0 : Int32)), .val (.int (1 : Int32)), .val (.int ld), .val (.ref b4), .val (.ref b10), .val (.int i12), .val (.int i13), .val (.ref b27), .val (.ref b32), .val (.int (1 : Int32)), .val (.int i36), .val (.int i38), .val (.int i40), .val (.int i42), .val (.int i44), .val (.ref b45), .unset, .unset, .unset]) rfl (pc' := 395) rfl ?_
  refine R.iload X45 hx (hb hby at_395) rfl (pc' := 397) rfl ?_
  refine R.ifNo X45 hx (hb hby at_397) (tlt (by decide : (0 : Int32) < (1 : Int32))).2.2.2 (pc' := 400) rfl ?_
  refine R.aload X45 hx (hb hby at_400) rfl rfl (pc' := 402) rfl ?_
  refine R.iconst X45 hx (hb hby at_402) (v := (0 : Int32)) (by decide) (pc' := 403) rfl ?_
  refine R.iload X45 hx (hb hby at_403) rfl (pc' := 405) rfl ?_
  refine R.i2d X45 hx (hb hby at_405) (pc' := 406) rfl ?_
  refine R.dastore X45 hx hZ e45 V_b45 (⟨by decide, by decide⟩ : ¬ (0 : Int32) < 0 ∧ (0 : Int32) < (1 : Int32)) (hb hby at_406) (pc' := 407) rfl ?_; intro T46 h46 X46 e46 W46 V46
  have V_b4 := V_b4.other W46 ne_b4_b45
  have V_b10 := V_b10.other W46 ne_b10_b45
  have V_b27 := V_b27.other W46 ne_b27_b45
  have V_b32 := V_b32.other W46 ne_b32_b45
  have E_b45 := E_b45.wr W46
  have V_b45 : Arh Z h46 b45 k45 .double (1 : Int32) [((0 : Int32), (.double (FP.i2d i36)))] [] (.double (0 : UInt64)) := V46
  have N46 := Fr.snoc X46 N43 g_b45
  have K46 : Keep h0 h46 [] := K45.wr W46 (Or.inr sz_b45)
  have Z46 : n0 ≤ h46.size := Nat.le_trans Z45 (Keep.of_wr W46).1
  refine R.iload X46 hx (hb hby at_407) rfl (pc' := 409) rfl ?_
  refine R.iconst X46 hx (hb hby at_409) (v := (1 : Int32)) (by decide) (pc' := 410) rfl ?_
  refine R.icmpYes X46 hx (hb hby at_410) (flt (by decide : ¬ ((1 : Int32) < (1 : Int32)))).2.2.2 (by decide) (pc' := 420) (by decide) ?_
  refine R.iload X46 hx (hb hby at_420) rfl (pc' := 422) rfl ?_
  refine R.iconst X46 hx (hb hby at_422) (v := (2 : Int32)) (by decide) (pc' := 423) rfl ?_
  refine R.icmpYes X46 hx (hb hby at_423) (flt (by decide : ¬ ((2 : Int32) < (1 : Int32)))).2.2.2 (by decide) (pc' := 433) (by decide) ?_
  refine R.iload X46 hx (hb hby at_433) rfl (pc' := 435) rfl ?_
  refine R.iconst X46 hx (hb hby at_435) (v := (3 : Int32)) (by decide) (pc' := 436) rfl ?_
  refine R.icmpYes X46 hx (hb hby at_436) (flt (by decide : ¬ ((3 : Int32) < (1 : Int32)))).2.2.2 (by decide) (pc' := 446) (by decide) ?_
  refine R.iload X46 hx (hb hby at_446) rfl (pc' := 448) rfl ?_
  refine R.iconst X46 hx (hb hby at_448) (v := (4 : Int32)) (by decide) (pc' := 449) rfl ?_
  refine R.icmpYes X46 hx (hb hby at_449) (flt (by decide : ¬ ((4 : Int32) < (1 : Int32)))).2.2.2 (by decide) (pc' := 459) (by decide) ?_
  refine R.aload X46 hx (hb hby at_459) rfl rfl (pc' := 461) rfl ?_
  refine R.aload X46 hx (hb hby at_461) rfl rfl (pc' := 463) rfl ?_
  refine R.callS X46 hx hZ (y := mY1) hown w_2 w_3 w_4 w_5 (by decide) e46 (rmqq11 l Z aZ hw [] b45 b10 k45 k10 [((0 : Int32), (.double (FP.i2d i36)))] [((0 : Int32), (.double (FP.i2d ld)))] (FP.i2d i36) (FP.i2d ld) i36.toInt ld.toInt i28.toInt h46 n0 Z46 V_b45 E_b45 V_b10 (getH_hit (by decide) (rfl)) (Dy.i2d _) (getH_hit (by decide) (rfl)) (Dy.i2d _) (tc0) (nl) (bl) (b_i28)) (by decide) (W := 0) (Nat.le_of_eq rfl) (by decide) (by rw [hml]; rfl) (lenOf pd_1 rfl) rfl (hb hby at_463) (pc' := 466) rfl (by decide) (by decide) ?_; intro v47 T47 L47 X47 hQ47
  obtain ⟨r_47, kr_47, hr_47, rfl, N47q, Kc47, P47_0, P47_1, P47_2⟩ := hQ47
  have N47 := Fr.app N46 N47q
  generalize e47 : T47.heap = h47 at Kc47 P47_0 P47_1 P47_2
  have K47 : Keep h0 h47 [] := K46.trans Kc47 (all0)
  have Z47 : n0 ≤ h47.size := Nat.le_trans Z46 Kc47.1
  have ne_b4_r_47 : b4 ≠ r_47 := Nat.ne_of_lt (Nat.lt_of_lt_of_le V_b4.lt P47_0)
  have ne_b10_r_47 : b10 ≠ r_47 := Nat.ne_of_lt (Nat.lt_of_lt_of_le V_b10.lt P47_0)
  have ne_b27_r_47 : b27 ≠ r_47 := Nat.ne_of_lt (Nat.lt_of_lt_of_le V_b27.lt P47_0)
  have ne_b32_r_47 : b32 ≠ r_47 := Nat.ne_of_lt (Nat.lt_of_lt_of_le V_b32.lt P47_0)
  have ne_b45_r_47 : b45 ≠ r_47 := Nat.ne_of_lt (Nat.lt_of_lt_of_le E_b45.lt P47_0)
  have g_r_47 : n0 ≤ r_47 := Nat.le_trans Z46 P47_0
  have sz_r_47 : h0.size ≤ r_47 := Nat.le_trans K46.1 P47_0
  have V_b4 := V_b4.keep Kc47 nin0
  have V_b10 := V_b10.keep Kc47 nin0
  have V_b27 := V_b27.keep Kc47 nin0
  have V_b32 := V_b32.keep Kc47 nin0
  have E_b45 := E_b45.keep Kc47
  have V_b45 := V_b45.keep Kc47 nin0
  have fresh_47 := P47_0
  have V_r_47 : Arh Z h47 r_47 kr_47 .double (1 : Int32) hr_47 [] (.double (0 : UInt64)) := P47_1
  have V_r_47 : Arh Z h47 r_47 kr_47 .double (1 : Int32) hr_47 [] (.double (0 : UInt64)) := V_r_47
  have c0_47 := P47_2
  refine R.astore X47 hx (hb hby at_466) rfl (L' := #[.val (.int p0), .val (.int p1), .val (.int p2), .val (.int p3), .val (.int (1 : Int32)), .val (.int (0 : Int32)), .val (.int (1 : Int32)), .val (.int ld), .val (.ref b4), .val (.ref b10), .val (.int i12), .val (.int i13), .val (.ref b27), .val (.ref b32), .val (.int (1 : Int32)), .val (.int i36), .val (.int i38), .val (.int i40), .val (.int i42), .val (.int i44), .val (.ref b45), .val (.ref r_47), .unset, .unset]) rfl (pc' := 468) rfl ?_
  refine R.aload X47 hx (hb hby at_468) rfl rfl (pc' := 470) rfl ?_
  refine R.alen X47 hx hZ e47 V_r_47 (hb hby at_470) (pc' := 471) rfl ?_
  refine R.iload X47 hx (hb hby at_471) rfl (pc' := 473) rfl ?_
  refine R.icmpNo X47 hx (hb hby at_473) (teq (by decide : (1 : Int32) = (1 : Int32))).2 (pc' := 476) rfl ?_
  refine R.aload X47 hx (hb hby at_476) rfl rfl (pc' := 478) rfl ?_
  refine R.iconst X47 hx (hb hby at_478) (v := (0 : Int32)) (by decide) (pc' := 479) rfl ?_
  refine R.aload X47 hx (hb hby at_479) rfl rfl (pc' := 481) rfl ?_
  refine R.callS X47 hx hZ (y := mY4) hown w_25 w_26 w_8 w_27 (by decide) e47 (rm5 l Z aZ hw [] r_47 (0 : Int32) b27 kr_47 (1 : Int32) hr_47 k27 [((2 : Int32), (.int (0 : Int32))), ((1 : Int32), (.int (0 : Int32))), ((0 : Int32), (.int i28))] i28 h47 n0 Z47 V_r_47 V_b27 (by decide) (getH_miss (by decide) (by decide) (getH_miss (by decide) (by decide) (getH_hit (by decide) (rfl)))) (fun _ => c0_47)) (by decide) (W := 0) (Nat.le_of_eq rfl) (by decide) (by rw [hml]; rfl) (lenOf pd_4 rfl) rfl (hb hby at_481) (pc' := 484) rfl (by decide) (by decide) ?_; intro v48 T48 L48 X48 hQ48
  obtain ⟨rfl, N48q, e48⟩ := hQ48
  have N48 := Fr.app N47 N48q
  refine R.ifNo X48 hx (hb hby at_484) (feq (by decide : ¬ ((1 : Int32) = (0 : Int32)))).1 (pc' := 487) rfl ?_
  refine R.aload X48 hx (hb hby at_487) rfl rfl (pc' := 489) rfl ?_
  refine R.iconst X48 hx (hb hby at_489) (v := (1 : Int32)) (by decide) (pc' := 490) rfl ?_
  refine R.aload X48 hx (hb hby at_490) rfl rfl (pc' := 492) rfl ?_
  refine R.callS X48 hx hZ (y := mY4) hown w_25 w_26 w_8 w_27 (by decide) e48 (rm5 l Z aZ hw [] r_47 (1 : Int32) b27 kr_47 (1 : Int32) hr_47 k27 [((2 : Int32), (.int (0 : Int32))), ((1 : Int32), (.int (0 : Int32))), ((0 : Int32), (.int i28))] (0 : Int32) h47 n0 Z47 V_r_47 V_b27 (by decide) (getH_miss (by decide) (by decide) (getH_hit (by decide) (rfl))) (fun q => absurd q (by decide))) (by decide) (W := 0) (Nat.le_of_eq rfl) (by decide) (by rw [hml]; rfl) (lenOf pd_4 rfl) rfl (hb hby at_492) (pc' := 495) rfl (by decide) (by decide) ?_; intro v49 T49 L49 X49 hQ49
  obtain ⟨rfl, N49q, e49⟩ := hQ49
  have N49 := Fr.app N48 N49q
  refine R.ifNo X49 hx (hb hby at_495) (feq (by decide : ¬ ((1 : Int32) = (0 : Int32)))).1 (pc' := 498) rfl ?_
  refine R.aload X49 hx (hb hby at_498) rfl rfl (pc' := 500) rfl ?_
  refine R.iconst X49 hx (hb hby at_500) (v := (2 : Int32)) (by decide) (pc' := 501) rfl ?_
  refine R.aload X49 hx (hb hby at_501) rfl rfl (pc' := 503) rfl ?_
  refine R.callS X49 hx hZ (y := mY4) hown w_25 w_26 w_8 w_27 (by decide) e49 (rm5 l Z aZ hw [] r_47 (2 : Int32) b27 kr_47 (1 : Int32) hr_47 k27 [((2 : Int32), (.int (0 : Int32))), ((1 : Int32), (.int (0 : Int32))), ((0 : Int32), (.int i28))] (0 : Int32) h47 n0 Z47 V_r_47 V_b27 (by decide) (getH_hit (by decide) (rfl)) (fun q => absurd q (by decide))) (by decide) (W := 0) (Nat.le_of_eq rfl) (by decide) (by rw [hml]; rfl) (lenOf pd_4 rfl) rfl (hb hby at_503) (pc' := 506) rfl (by decide) (by decide) ?_; intro v50 T50 L50 X50 hQ50
  obtain ⟨rfl, N50q, e50⟩ := hQ50
  have N50 := Fr.app N49 N50q
  refine R.ifNo X50 hx (hb hby at_506) (feq (by decide : ¬ ((1 : Int32) = (0 : Int32)))).1 (pc' := 509) rfl ?_
  refine R.iconst X50 hx (hb hby at_509) (v := (1 : Int32)) (by decide) (pc' := 510) rfl ?_
  refine R.goto X50 hx (hb hby at_510) (by decide) (pc' := 514) (by decide) ?_
  refine R.istore X50 hx (hb hby at_514) (L' := #[.val (.int p0), .val (.int p1), .val (.int p2), .val (.int p3), .val (.int (1 : Int32)), .val (.int (0 : Int32)), .val (.int (1 : Int32)), .val (.int ld), .val (.ref b4), .val (.ref b10), .val (.int i12), .val (.int i13), .val (.ref b27), .val (.ref b32), .val (.int (1 : Int32)), .val (.int i36), .val (.int i38), .val (.int i40), .val (.int i42), .val (.int i44), .val (.ref b45), .val (.ref r_47), .val (.int (1 : Int32)), .unset]) rfl (pc' := 516) rfl ?_
  refine R.aload X50 hx (hb hby at_516) rfl rfl (pc' := 518) rfl ?_
  refine R.iconst X50 hx (hb hby at_518) (v := (0 : Int32)) (by decide) (pc' := 519) rfl ?_
  refine R.iload X50 hx (hb hby at_519) rfl (pc' := 521) rfl ?_
  refine R.callS X50 hx hZ (y := mY2) hown w_6 w_7 w_8 w_9 (by decide) e50 (rm2 l Z aZ hw [] b45 (0 : Int32) i36 k45 (1 : Int32) [((0 : Int32), (.double (FP.i2d i36)))] h47 n0 Z47 V_b45 (by decide) (fun _ => getH_hit (by decide) (rfl))) (by decide) (W := 0) (Nat.le_of_eq rfl) (by decide) (by rw [hml]; rfl) (lenOf pd_2 rfl) rfl (hb hby at_521) (pc' := 524) rfl (by decide) (by decide) ?_; intro v51 T51 L51 X51 hQ51
  obtain ⟨rfl, N51q, e51⟩ := hQ51
  have N51 := Fr.app N50 N51q
  refine R.ifNo X51 hx (hb hby at_524) (feq (by decide : ¬ ((1 : Int32) = (0 : Int32)))).1 (pc' := 527) rfl ?_
  refine R.aload X51 hx (hb hby at_527) rfl rfl (pc' := 529) rfl ?_
  refine R.iconst X51 hx (hb hby at_529) (v := (1 : Int32)) (by decide) (pc' := 530) rfl ?_
  refine R.iload X51 hx (hb hby at_530) rfl (pc' := 532) rfl ?_
  refine R.callS X51 hx hZ (y := mY2) hown w_6 w_7 w_8 w_9 (by decide) e51 (rm2 l Z aZ hw [] b45 (1 : Int32) i38 k45 (1 : Int32) [((0 : Int32), (.double (FP.i2d i36)))] h47 n0 Z47 V_b45 (by decide) (fun q => absurd q (by decide))) (by decide) (W := 0) (Nat.le_of_eq rfl) (by decide) (by rw [hml]; rfl) (lenOf pd_2 rfl) rfl (hb hby at_532) (pc' := 535) rfl (by decide) (by decide) ?_; intro v52 T52 L52 X52 hQ52
  obtain ⟨rfl, N52q, e52⟩ := hQ52
  have N52 := Fr.app N51 N52q
  refine R.ifNo X52 hx (hb hby at_535) (feq (by decide : ¬ ((1 : Int32) = (0 : Int32)))).1 (pc' := 538) rfl ?_
  refine R.aload X52 hx (hb hby at_538) rfl rfl (pc' := 540) rfl ?_
  refine R.iconst X52 hx (hb hby at_540) (v := (2 : Int32)) (by decide) (pc' := 541) rfl ?_
  refine R.iload X52 hx (hb hby at_541) rfl (pc' := 543) rfl ?_
  refine R.callS X52 hx hZ (y := mY2) hown w_6 w_7 w_8 w_9 (by decide) e52 (rm2 l Z aZ hw [] b45 (2 : Int32) i40 k45 (1 : Int32) [((0 : Int32), (.double (FP.i2d i36)))] h47 n0 Z47 V_b45 (by decide) (fun q => absurd q (by decide))) (by decide) (W := 0) (Nat.le_of_eq rfl) (by decide) (by rw [hml]; rfl) (lenOf pd_2 rfl) rfl (hb hby at_543) (pc' := 546) rfl (by decide) (by decide) ?_; intro v53 T53 L53 X53 hQ53
  obtain ⟨rfl, N53q, e53⟩ := hQ53
  have N53 := Fr.app N52 N53q
  refine R.ifNo X53 hx (hb hby at_546) (feq (by decide : ¬ ((1 : Int32) = (0 : Int32)))).1 (pc' := 549) rfl ?_
  refine R.aload X53 hx (hb hby at_549) rfl rfl (pc' := 551) rfl ?_
  refine R.iconst X53 hx (hb hby at_551) (v := (3 : Int32)) (by decide) (pc' := 552) rfl ?_
  refine R.iload X53 hx (hb hby at_552) rfl (pc' := 554) rfl ?_
  refine R.callS X53 hx hZ (y := mY2) hown w_6 w_7 w_8 w_9 (by decide) e53 (rm2 l Z aZ hw [] b45 (3 : Int32) i42 k45 (1 : Int32) [((0 : Int32), (.double (FP.i2d i36)))] h47 n0 Z47 V_b45 (by decide) (fun q => absurd q (by decide))) (by decide) (W := 0) (Nat.le_of_eq rfl) (by decide) (by rw [hml]; rfl) (lenOf pd_2 rfl) rfl (hb hby at_554) (pc' := 557) rfl (by decide) (by decide) ?_; intro v54 T54 L54 X54 hQ54
  obtain ⟨rfl, N54q, e54⟩ := hQ54
  have N54 := Fr.app N53 N54q
  refine R.ifNo X54 hx (hb hby at_557) (feq (by decide : ¬ ((1 : Int32) = (0 : Int32)))).1 (pc' := 560) rfl ?_
  refine R.aload X54 hx (hb hby at_560) rfl rfl (pc' := 562) rfl ?_
  refine R.iconst X54 hx (hb hby at_562) (v := (4 : Int32)) (by decide) (pc' := 563) rfl ?_
  refine R.iload X54 hx (hb hby at_563) rfl (pc' := 565) rfl ?_
  refine R.callS X54 hx hZ (y := mY2) hown w_6 w_7 w_8 w_9 (by decide) e54 (rm2 l Z aZ hw [] b45 (4 : Int32) i44 k45 (1 : Int32) [((0 : Int32), (.double (FP.i2d i36)))] h47 n0 Z47 V_b45 (by decide) (fun q => absurd q (by decide))) (by decide) (W := 0) (Nat.le_of_eq rfl) (by decide) (by rw [hml]; rfl) (lenOf pd_2 rfl) rfl (hb hby at_565) (pc' := 568) rfl (by decide) (by decide) ?_; intro v55 T55 L55 X55 hQ55
  obtain ⟨rfl, N55q, e55⟩ := hQ55
  have N55 := Fr.app N54 N55q
  refine R.ifNo X55 hx (hb hby at_568) (feq (by decide : ¬ ((1 : Int32) = (0 : Int32)))).1 (pc' := 571) rfl ?_
  refine R.iconst X55 hx (hb hby at_571) (v := (1 : Int32)) (by decide) (pc' := 572) rfl ?_
  refine R.goto X55 hx (hb hby at_572) (by decide) (pc' := 576) (by decide) ?_
  refine R.istore X55 hx (hb hby at_576) (L' := #[.val (.int p0), .val (.int p1), .val (.int p2), .val (.int p3), .val (.int (1 : Int32)), .val (.int (0 : Int32)), .val (.int (1 : Int32)), .val (.int ld), .val (.ref b4), .val (.ref b10), .val (.int i12), .val (.int i13), .val (.ref b27), .val (.ref b32), .val (.int (1 : Int32)), .val (.int i36), .val (.int i38), .val (.int i40), .val (.int i42), .val (.int i44), .val (.ref b45), .val (.ref r_47), .val (.int (1 : Int32)), .val (.int (1 : Int32))]) rfl (pc' := 578) rfl ?_
  refine R.iload X55 hx (hb hby at_578) rfl (pc' := 580) rfl ?_
  refine R.ifNo X55 hx (hb hby at_580) (feq (by decide : ¬ ((1 : Int32) = (0 : Int32)))).1 (pc' := 583) rfl ?_
  refine R.iload X55 hx (hb hby at_583) rfl (pc' := 585) rfl ?_
  refine R.ifNo X55 hx (hb hby at_585) (feq (by decide : ¬ ((1 : Int32) = (0 : Int32)))).1 (pc' := 588) rfl ?_
  refine R.iconst X55 hx (hb hby at_588) (v := (1 : Int32)) (by decide) (pc' := 589) rfl ?_
  refine R.goto X55 hx (hb hby at_589) (by decide) (pc' := 593) (by decide) ?_
  rw [← hG]
  exact Rn.ret X55 (BodyLoose.notSynchronized Bd) (v := some (.int (1 : Int32))) (fun h => by rw [Bd.returns] at h; cases h) (Q := Q0 Z p0 p1 p2 p3 h0 n0) e55 (fun fs hr => retN X55 hx (t := .boolean) Bd.returns (by simp) (hb hby at_593) hr) ⟨rfl, N55⟩ (by decide) (by decide)
set_option maxRecDepth 65536 in
set_option maxHeartbeats 40000000 in
theorem rm0_12 (l : Launch) (Z : State) (aZ : Array Value) (hw : ∀ d ∈ tables_1, d.before aZ Z = true) (ws : List Jvm.Cond) (p0 : Int32) (p1 : Int32) (p2 : Int32) (p3 : Int32) (h0 : Heap) (n0 : Nat) {p : Program} {e : Env} {s : State} {m : MethodId} {below : List Frame} {meth : Method} {c : Code} {s₁ : State} (Bd : BodyLoose p l x (head1 (Jvm.Cond.code x code maxLocals ret :: ws) room_1) code maxLocals ret e s m #[(.int p0), (.int p1), (.int p2), (.int p3)] below meth c s₁) (hml : c.maxLocals = 24) (hZ : Z.Warmed39 s.vm) {TL : State} {hL : Heap} {lL : List Loc} (XL : Stand p l e room_1 s m #[(.int p0), (.int p1), (.int p2), (.int p3)] below meth c TL lL 2 4) (eL : TL.heap = hL) (NL : Fr n0 lL) (KL : Keep h0 hL []) (ZL : n0 ≤ hL.size) (ld : Int32) (b10 : Addr) (b4 : Addr) (i12 : Int32) (i13 : Int32) (i5 : Int32) (k10 : ClassId) (k4 : ClassId) {G : Outcome → State → Prop} (hG : (Fn0 Z p0 p1 p2 p3 h0 n0 s) = G) (V_b4 : Arh Z hL b4 k4 .int (3 : Int32) [((0 : Int32), (.int ld)), ((2 : Int32), (.int (0 : Int32))), ((1 : Int32), (.int (0 : Int32))), ((0 : Int32), (.int i5))] [] (.int (0 : Int32))) (V_b10 : Arh Z hL b10 k10 .double (1 : Int32) [((0 : Int32), (.double (FP.i2d ld)))] [] (.double (0 : UInt64))) (ne_b4_b10 : b4 ≠ b10) (g_b4 : n0 ≤ b4) (g_b10 : n0 ≤ b10) (sz_b4 : h0.size ≤ b4) (sz_b10 : h0.size ≤ b10) (nl : ld.toInt ≠ 0) (bl : ld.toInt.natAbs ≤ 128) (b_i12 : i12.toInt.natAbs ≤ 128) (b_i13 : i13.toInt.natAbs ≤ 128) (b_i5 : i5.toInt.natAbs ≤ 128) : Rn p e below (TL.setTop (mkF m 147 #[.val (.int p0), .val (.int p1), .val (.int p2), .val (.int p3), .val (.int (1 : Int32)), .val (.int (0 : Int32)), .val (.int (2 : Int32)), .val (.int ld), .val (.ref b4), .val (.ref b10), .val (.int i12), .val (.int i13), .unset, .unset, .unset, .unset, .unset, .unset, .unset, .unset, .unset, .unset, .unset, .unset] [])) G := by
  have hx := Bd.exec
  have hby := Bd.bytes
  have hown : s.vm.findClass "com/example/deseason/deseason/arima/PolynomialsQuotientPinLaw" = some m.cls := findClass_of_methodNamed Bd.named
  have hnm := (name_of_methodNamed Bd.named Bd.method).1
  have w_0 := hw _ (List.mem_of_getElem? (i := 0) rfl)
  have w_1 := hw _ (List.mem_of_getElem? (i := 1) rfl)
  have w_2 := hw _ (List.mem_of_getElem? (i := 2) rfl)
  have w_3 := hw _ (List.mem_of_getElem? (i := 3) rfl)
  have w_4 := hw _ (List.mem_of_getElem? (i := 4) rfl)
  have w_5 := hw _ (List.mem_of_getElem? (i := 5) rfl)
  have w_6 := hw _ (List.mem_of_getElem? (i := 6) rfl)
  have w_7 := hw _ (List.mem_of_getElem? (i := 7) rfl)
  have w_8 := hw _ (List.mem_of_getElem? (i := 8) rfl)
  have w_9 := hw _ (List.mem_of_getElem? (i := 9) rfl)
  have w_10 := hw _ (List.mem_of_getElem? (i := 10) rfl)
  have w_11 := hw _ (List.mem_of_getElem? (i := 11) rfl)
  have w_12 := hw _ (List.mem_of_getElem? (i := 12) rfl)
  have w_25 := hw _ (List.mem_of_getElem? (i := 25) rfl)
  have w_26 := hw _ (List.mem_of_getElem? (i := 26) rfl)
  have w_27 := hw _ (List.mem_of_getElem? (i := 27) rfl)
  show Rn p e below (TL.setTop (mkF m 147 #[.val (.int p0), .val (.int p1), .val (.int p2), .val (.int p3), .val (.int (1 : Int32)), .val (.int (0 : Int32)), .val (.int (2 : Int32)), .val (.int ld), .val (.ref b4), .val (.ref b10), .val (.int i12), .val (.int i13), .unset, .unset, .unset, .unset, .unset, .unset, .unset, .unset, .unset, .unset, .unset, .unset] [])) G
  refine R.iload XL hx (hb hby at_147) rfl (pc' := 149) rfl ?_
  refine R.ifYes XL hx (hb hby at_149) (feq (by decide : ¬ ((2 : Int32) = (0 : Int32)))).2 (by decide) (pc' := 237) (by decide) ?_
  refine R.iconst XL hx (hb hby at_237) (v := (3 : Int32)) (by decide) (pc' := 238) rfl ?_
  refine R.newP XL hx hZ (ty := .int) rfl w_0 eL (by decide) (cap := 3) (by decide) (by decide) (ad := "[I") (by decide) (hb hby at_238) (pc' := 240) rfl (by decide) (by decide) ?_; intro T56 h56 b56 k56 g56 X56 e56 E56 EE56 AA56
  have g_b56 : n0 ≤ b56 := Nat.le_trans ZL (Nat.le_of_eq g56.symm)
  have sz_b56 : h0.size ≤ b56 := Nat.le_trans KL.1 (Nat.le_of_eq g56.symm)
  have ne_b4_b56 : b4 ≠ b56 := Nat.ne_of_lt (Nat.lt_of_lt_of_le V_b4.lt (Nat.le_of_eq g56.symm))
  have ne_b10_b56 : b10 ≠ b56 := Nat.ne_of_lt (Nat.lt_of_lt_of_le V_b10.lt (Nat.le_of_eq g56.symm))
  have K56 : Keep h0 h56 [] := KL.ext E56
  have Z56 : n0 ≤ h56.size := Nat.le_trans ZL E56.1
  have V_b4 := V_b4.ext E56
  have V_b10 := V_b10.ext E56
  have V_b56 : Arh Z h56 b56 k56 .int (3 : Int32) [] [] (.int (0 : Int32)) := AA56
  refine R.astore X56 hx (hb hby at_240) rfl (L' := #[.val (.int p0), .val (.int p1), .val (.int p2), .val (.int p3), .val (.int (1 : Int32)), .val (.int (0 : Int32)), .val (.int (2 : Int32)), .val (.int ld), .val (.ref b4), .val (.ref b10), .val (.int i12), .val (.int i13), .val (.ref b56), .unset, .unset, .unset, .unset, .unset, .unset, .unset, .unset, .unset, .unset, .unset]) rfl (pc' := 242) rfl ?_
  refine R.aload X56 hx (hb hby at_242) rfl rfl (pc' := 244) rfl ?_
  refine R.iconst X56 hx (hb hby at_244) (v := (0 : Int32)) (by decide) (pc' := 245) rfl ?_
  refine R.iloadN X56 hx (hb hby at_245) rfl (pc' := 246) rfl ?_
  refine R.i2b X56 hx (hb hby at_246) (pc' := 247) rfl ?_
  show Rn p e below (T56.setTop (mkF m 247 #[.val (.int p0), .val (.int p1), .val (.int p2), .val (.int p3), .val (.int (1 : Int32)), .val (.int (0 : Int32)), .val (.int (2 : Int32)), .val (.int ld), .val (.ref b4), .val (.ref b10), .val (.int i12), .val (.int i13), .val (.ref b56), .unset, .unset, .unset, .unset, .unset, .unset, .unset, .unset, .unset, .unset, .unset] [(.int (p2.toInt8.toInt32)), (.int (0 : Int32)), (.ref b56)])) G
  generalize hi57 : (p2.toInt8.toInt32) = i57
  have b_i57 := own_byte hi57
  refine R.iastore X56 hx hZ e56 V_b56 (⟨by decide, by decide⟩ : ¬ (0 : Int32) < 0 ∧ (0 : Int32) < (3 : Int32)) (hb hby at_247) (pc' := 248) rfl ?_; intro T58 h58 X58 e58 W58 V58
  have V_b4 := V_b4.other W58 ne_b4_b56
  have V_b10 := V_b10.other W58 ne_b10_b56
  have V_b56 : Arh Z h58 b56 k56 .int (3 : Int32) [((0 : Int32), (.int i57))] [] (.int (0 : Int32)) := V58
  have N58 := Fr.snoc X58 NL g_b56
  have K58 : Keep h0 h58 [] := K56.wr W58 (Or.inr sz_b56)
  have Z58 : n0 ≤ h58.size := Nat.le_trans Z56 (Keep.of_wr W58).1
  refine R.aload X58 hx (hb hby at_248) rfl rfl (pc' := 250) rfl ?_
  refine R.iconst X58 hx (hb hby at_250) (v := (1 : Int32)) (by decide) (pc' := 251) rfl ?_
  refine R.iload X58 hx (hb hby at_251) rfl (pc' := 253) rfl ?_
  refine R.iconst X58 hx (hb hby at_253) (v := (2 : Int32)) (by decide) (pc' := 254) rfl ?_
  refine R.icmpNo X58 hx (hb hby at_254) (flt (by decide : ¬ ((2 : Int32) < (2 : Int32)))).1 (pc' := 257) rfl ?_
  refine R.iloadN X58 hx (hb hby at_257) rfl (pc' := 258) rfl ?_
  refine R.bipush X58 hx (hb hby at_258) (v := (8 : Int32)) (by decide) (pc' := 260) rfl ?_
  refine R.ishr X58 hx (hb hby at_260) (pc' := 261) rfl ?_
  refine R.i2b X58 hx (hb hby at_261) (pc' := 262) rfl ?_
  show Rn p e below (T58.setTop (mkF m 262 #[.val (.int p0), .val (.int p1), .val (.int p2), .val (.int p3), .val (.int (1 : Int32)), .val (.int (0 : Int32)), .val (.int (2 : Int32)), .val (.int ld), .val (.ref b4), .val (.ref b10), .val (.int i12), .val (.int i13), .val (.ref b56), .unset, .unset, .unset, .unset, .unset, .unset, .unset, .unset, .unset, .unset, .unset] [(.int ((p2 >>> ((8 : Int32) &&& 31)).toInt8.toInt32)), (.int (1 : Int32)), (.ref b56)])) G
  generalize hi59 : ((p2 >>> ((8 : Int32) &&& 31)).toInt8.toInt32) = i59
  have b_i59 := own_byte hi59
  refine R.goto X58 hx (hb hby at_262) (by decide) (pc' := 266) (by decide) ?_
  refine R.iastore X58 hx hZ e58 V_b56 (⟨by decide, by decide⟩ : ¬ (1 : Int32) < 0 ∧ (1 : Int32) < (3 : Int32)) (hb hby at_266) (pc' := 267) rfl ?_; intro T60 h60 X60 e60 W60 V60
  have V_b4 := V_b4.other W60 ne_b4_b56
  have V_b10 := V_b10.other W60 ne_b10_b56
  have V_b56 : Arh Z h60 b56 k56 .int (3 : Int32) [((1 : Int32), (.int i59)), ((0 : Int32), (.int i57))] [] (.int (0 : Int32)) := V60
  have N60 := Fr.snoc X60 N58 g_b56
  have K60 : Keep h0 h60 [] := K58.wr W60 (Or.inr sz_b56)
  have Z60 : n0 ≤ h60.size := Nat.le_trans Z58 (Keep.of_wr W60).1
  refine R.aload X60 hx (hb hby at_267) rfl rfl (pc' := 269) rfl ?_
  refine R.iconst X60 hx (hb hby at_269) (v := (2 : Int32)) (by decide) (pc' := 270) rfl ?_
  refine R.iload X60 hx (hb hby at_270) rfl (pc' := 272) rfl ?_
  refine R.iconst X60 hx (hb hby at_272) (v := (3 : Int32)) (by decide) (pc' := 273) rfl ?_
  refine R.icmpYes X60 hx (hb hby at_273) (tlt (by decide : (2 : Int32) < (3 : Int32))).1 (by decide) (pc' := 284) (by decide) ?_
  refine R.iconst X60 hx (hb hby at_284) (v := (0 : Int32)) (by decide) (pc' := 285) rfl ?_
  refine R.iastore X60 hx hZ e60 V_b56 (⟨by decide, by decide⟩ : ¬ (2 : Int32) < 0 ∧ (2 : Int32) < (3 : Int32)) (hb hby at_285) (pc' := 286) rfl ?_; intro T61 h61 X61 e61 W61 V61
  have V_b4 := V_b4.other W61 ne_b4_b56
  have V_b10 := V_b10.other W61 ne_b10_b56
  have V_b56 : Arh Z h61 b56 k56 .int (3 : Int32) [((2 : Int32), (.int (0 : Int32))), ((1 : Int32), (.int i59)), ((0 : Int32), (.int i57))] [] (.int (0 : Int32)) := V61
  have N61 := Fr.snoc X61 N60 g_b56
  have K61 : Keep h0 h61 [] := K60.wr W61 (Or.inr sz_b56)
  have Z61 : n0 ≤ h61.size := Nat.le_trans Z60 (Keep.of_wr W61).1
  refine R.iconst X61 hx (hb hby at_286) (v := (2 : Int32)) (by decide) (pc' := 287) rfl ?_
  refine R.newP X61 hx hZ (ty := .int) rfl w_0 e61 (by decide) (cap := 2) (by decide) (by decide) (ad := "[I") (by decide) (hb hby at_287) (pc' := 289) rfl (by decide) (by decide) ?_; intro T62 h62 b62 k62 g62 X62 e62 E62 EE62 AA62
  have g_b62 : n0 ≤ b62 := Nat.le_trans Z61 (Nat.le_of_eq g62.symm)
  have sz_b62 : h0.size ≤ b62 := Nat.le_trans K61.1 (Nat.le_of_eq g62.symm)
  have ne_b4_b62 : b4 ≠ b62 := Nat.ne_of_lt (Nat.lt_of_lt_of_le V_b4.lt (Nat.le_of_eq g62.symm))
  have ne_b10_b62 : b10 ≠ b62 := Nat.ne_of_lt (Nat.lt_of_lt_of_le V_b10.lt (Nat.le_of_eq g62.symm))
  have ne_b56_b62 : b56 ≠ b62 := Nat.ne_of_lt (Nat.lt_of_lt_of_le V_b56.lt (Nat.le_of_eq g62.symm))
  have K62 : Keep h0 h62 [] := K61.ext E62
  have Z62 : n0 ≤ h62.size := Nat.le_trans Z61 E62.1
  have V_b4 := V_b4.ext E62
  have V_b10 := V_b10.ext E62
  have V_b56 := V_b56.ext E62
  have V_b62 : Arh Z h62 b62 k62 .int (2 : Int32) [] [] (.int (0 : Int32)) := AA62
  refine R.astore X62 hx (hb hby at_289) rfl (L' := #[.val (.int p0), .val (.int p1), .val (.int p2), .val (.int p3), .val (.int (1 : Int32)), .val (.int (0 : Int32)), .val (.int (2 : Int32)), .val (.int ld), .val (.ref b4), .val (.ref b10), .val (.int i12), .val (.int i13), .val (.ref b56), .val (.ref b62), .unset, .unset, .unset, .unset, .unset, .unset, .unset, .unset, .unset, .unset]) rfl (pc' := 291) rfl ?_
  refine R.aload X62 hx (hb hby at_291) rfl rfl (pc' := 293) rfl ?_
  refine R.iconst X62 hx (hb hby at_293) (v := (0 : Int32)) (by decide) (pc' := 294) rfl ?_
  refine R.iload X62 hx (hb hby at_294) rfl (pc' := 296) rfl ?_
  refine R.ifYes X62 hx (hb hby at_296) (flt (by decide : ¬ ((0 : Int32) < (0 : Int32)))).2.2.2 (by decide) (pc' := 304) (by decide) ?_
  refine R.iconst X62 hx (hb hby at_304) (v := (0 : Int32)) (by decide) (pc' := 305) rfl ?_
  refine R.iastore X62 hx hZ e62 V_b62 (⟨by decide, by decide⟩ : ¬ (0 : Int32) < 0 ∧ (0 : Int32) < (2 : Int32)) (hb hby at_305) (pc' := 306) rfl ?_; intro T63 h63 X63 e63 W63 V63
  have V_b4 := V_b4.other W63 ne_b4_b62
  have V_b10 := V_b10.other W63 ne_b10_b62
  have V_b56 := V_b56.other W63 ne_b56_b62
  have V_b62 : Arh Z h63 b62 k62 .int (2 : Int32) [((0 : Int32), (.int (0 : Int32)))] [] (.int (0 : Int32)) := V63
  have N63 := Fr.snoc X63 N61 g_b62
  have K63 : Keep h0 h63 [] := K62.wr W63 (Or.inr sz_b62)
  have Z63 : n0 ≤ h63.size := Nat.le_trans Z62 (Keep.of_wr W63).1
  refine R.aload X63 hx (hb hby at_306) rfl rfl (pc' := 308) rfl ?_
  refine R.iconst X63 hx (hb hby at_308) (v := (1 : Int32)) (by decide) (pc' := 309) rfl ?_
  refine R.iload X63 hx (hb hby at_309) rfl (pc' := 311) rfl ?_
  refine R.iconst X63 hx (hb hby at_311) (v := (1 : Int32)) (by decide) (pc' := 312) rfl ?_
  refine R.icmpYes X63 hx (hb hby at_312) (flt (by decide : ¬ ((1 : Int32) < (0 : Int32)))).2.2.2 (by decide) (pc' := 320) (by decide) ?_
  refine R.iconst X63 hx (hb hby at_320) (v := (0 : Int32)) (by decide) (pc' := 321) rfl ?_
  refine R.iastore X63 hx hZ e63 V_b62 (⟨by decide, by decide⟩ : ¬ (1 : Int32) < 0 ∧ (1 : Int32) < (2 : Int32)) (hb hby at_321) (pc' := 322) rfl ?_; intro T64 h64 X64 e64 W64 V64
  have V_b4 := V_b4.other W64 ne_b4_b62
  have V_b10 := V_b10.other W64 ne_b10_b62
  have V_b56 := V_b56.other W64 ne_b56_b62
  have V_b62 : Arh Z h64 b62 k62 .int (2 : Int32) [((1 : Int32), (.int (0 : Int32))), ((0 : Int32), (.int (0 : Int32)))] [] (.int (0 : Int32)) := V64
  have N64 := Fr.snoc X64 N63 g_b62
  have K64 : Keep h0 h64 [] := K63.wr W64 (Or.inr sz_b62)
  have Z64 : n0 ≤ h64.size := Nat.le_trans Z63 (Keep.of_wr W64).1
  refine R.iload X64 hx (hb hby at_322) rfl (pc' := 324) rfl ?_
  refine R.iload X64 hx (hb hby at_324) rfl (pc' := 326) rfl ?_
  refine R.iadd X64 hx (hb hby at_326) (v := (2 : Int32)) (by decide) (pc' := 327) rfl ?_
  refine R.istore X64 hx (hb hby at_327) (L' := #[.val (.int p0), .val (.int p1), .val (.int p2), .val (.int p3), .val (.int (1 : Int32)), .val (.int (0 : Int32)), .val (.int (2 : Int32)), .val (.int ld), .val (.ref b4), .val (.ref b10), .val (.int i12), .val (.int i13), .val (.ref b56), .val (.ref b62), .val (.int (2 : Int32)), .unset, .unset, .unset, .unset, .unset, .unset, .unset, .unset, .unset]) rfl (pc' := 329) rfl ?_
  refine R.aload X64 hx (hb hby at_329) rfl rfl (pc' := 331) rfl ?_
  refine R.aload X64 hx (hb hby at_331) rfl rfl (pc' := 333) rfl ?_
  refine R.aload X64 hx (hb hby at_333) rfl rfl (pc' := 335) rfl ?_
  refine R.iconst X64 hx (hb hby at_335) (v := (0 : Int32)) (by decide) (pc' := 336) rfl ?_
  refine R.callS X64 hx hZ (y := mY3) hown w_10 w_11 w_8 w_12 (by decide) e64 (rmcf0 l Z aZ hw [] b56 b4 b62 k56 k4 k62 [((2 : Int32), (.int (0 : Int32))), ((1 : Int32), (.int i59)), ((0 : Int32), (.int i57))] [((0 : Int32), (.int ld)), ((2 : Int32), (.int (0 : Int32))), ((1 : Int32), (.int (0 : Int32))), ((0 : Int32), (.int i5))] [((1 : Int32), (.int (0 : Int32))), ((0 : Int32), (.int (0 : Int32)))] i57 i59 (0 : Int32) ld (0 : Int32) (0 : Int32) (0 : Int32) (0 : Int32) h64 n0 Z64 V_b56 V_b4 V_b62 (getH_miss (by decide) (by decide) (getH_miss (by decide) (by decide) (getH_hit (by decide) (rfl)))) (getH_miss (by decide) (by decide) (getH_hit (by decide) (rfl))) (getH_hit (by decide) (rfl)) (getH_hit (by decide) (rfl)) (getH_miss (by decide) (by decide) (getH_miss (by decide) (by decide) (getH_hit (by decide) (rfl)))) (getH_miss (by decide) (by decide) (getH_hit (by decide) (rfl))) (getH_miss (by decide) (by decide) (getH_hit (by decide) (rfl))) (getH_hit (by decide) (rfl))) (by decide) (W := 0) (Nat.le_of_eq rfl) (by decide) (by rw [hml]; rfl) (lenOf pd_3 rfl) rfl (hb hby at_336) (pc' := 339) rfl (by decide) (by decide) ?_; intro v65 T65 L65 X65 hQ65
  obtain ⟨rfl, N65q, e65⟩ := hQ65
  have N65 := Fr.app N64 N65q
  show Rn p e below (T65.setTop (mkF m 339 #[.val (.int p0), .val (.int p1), .val (.int p2), .val (.int p3), .val (.int (1 : Int32)), .val (.int (0 : Int32)), .val (.int (2 : Int32)), .val (.int ld), .val (.ref b4), .val (.ref b10), .val (.int i12), .val (.int i13), .val (.ref b56), .val (.ref b62), .val (.int (2 : Int32)), .unset, .unset, .unset, .unset, .unset, .unset, .unset, .unset, .unset] [(.int ((((i57 * ld) + (i59 * (0 : Int32))) + ((0 : Int32) * (0 : Int32))) + (0 : Int32)))])) G
  generalize hi66 : ((((i57 * ld) + (i59 * (0 : Int32))) + ((0 : Int32) * (0 : Int32))) + (0 : Int32)) = i66
  refine R.istore X65 hx (hb hby at_339) (L' := #[.val (.int p0), .val (.int p1), .val (.int p2), .val (.int p3), .val (.int (1 : Int32)), .val (.int (0 : Int32)), .val (.int (2 : Int32)), .val (.int ld), .val (.ref b4), .val (.ref b10), .val (.int i12), .val (.int i13), .val (.ref b56), .val (.ref b62), .val (.int (2 : Int32)), .val (.int i66), .unset, .unset, .unset, .unset, .unset, .unset, .unset, .unset]) rfl (pc' := 341) rfl ?_
  refine R.aload X65 hx (hb hby at_341) rfl rfl (pc' := 343) rfl ?_
  refine R.aload X65 hx (hb hby at_343) rfl rfl (pc' := 345) rfl ?_
  refine R.aload X65 hx (hb hby at_345) rfl rfl (pc' := 347) rfl ?_
  refine R.iconst X65 hx (hb hby at_347) (v := (1 : Int32)) (by decide) (pc' := 348) rfl ?_
  refine R.callS X65 hx hZ (y := mY3) hown w_10 w_11 w_8 w_12 (by decide) e65 (rmcf1 l Z aZ hw [] b56 b4 b62 k56 k4 k62 [((2 : Int32), (.int (0 : Int32))), ((1 : Int32), (.int i59)), ((0 : Int32), (.int i57))] [((0 : Int32), (.int ld)), ((2 : Int32), (.int (0 : Int32))), ((1 : Int32), (.int (0 : Int32))), ((0 : Int32), (.int i5))] [((1 : Int32), (.int (0 : Int32))), ((0 : Int32), (.int (0 : Int32)))] i57 i59 (0 : Int32) ld (0 : Int32) (0 : Int32) (0 : Int32) (0 : Int32) h64 n0 Z64 V_b56 V_b4 V_b62 (getH_miss (by decide) (by decide) (getH_miss (by decide) (by decide) (getH_hit (by decide) (rfl)))) (getH_miss (by decide) (by decide) (getH_hit (by decide) (rfl))) (getH_hit (by decide) (rfl)) (getH_hit (by decide) (rfl)) (getH_miss (by decide) (by decide) (getH_miss (by decide) (by decide) (getH_hit (by decide) (rfl)))) (getH_miss (by decide) (by decide) (getH_hit (by decide) (rfl))) (getH_miss (by decide) (by decide) (getH_hit (by decide) (rfl))) (getH_hit (by decide) (rfl))) (by decide) (W := 0) (Nat.le_of_eq rfl) (by decide) (by rw [hml]; rfl) (lenOf pd_3 rfl) rfl (hb hby at_348) (pc' := 351) rfl (by decide) (by decide) ?_; intro v67 T67 L67 X67 hQ67
  obtain ⟨rfl, N67q, e67⟩ := hQ67
  have N67 := Fr.app N65 N67q
  show Rn p e below (T67.setTop (mkF m 351 #[.val (.int p0), .val (.int p1), .val (.int p2), .val (.int p3), .val (.int (1 : Int32)), .val (.int (0 : Int32)), .val (.int (2 : Int32)), .val (.int ld), .val (.ref b4), .val (.ref b10), .val (.int i12), .val (.int i13), .val (.ref b56), .val (.ref b62), .val (.int (2 : Int32)), .val (.int i66), .unset, .unset, .unset, .unset, .unset, .unset, .unset, .unset] [(.int ((((i57 * (0 : Int32)) + (i59 * ld)) + ((0 : Int32) * (0 : Int32))) + (0 : Int32)))])) G
  generalize hi68 : ((((i57 * (0 : Int32)) + (i59 * ld)) + ((0 : Int32) * (0 : Int32))) + (0 : Int32)) = i68
  refine R.istore X67 hx (hb hby at_351) (L' := #[.val (.int p0), .val (.int p1), .val (.int p2), .val (.int p3), .val (.int (1 : Int32)), .val (.int (0 : Int32)), .val (.int (2 : Int32)), .val (.int ld), .val (.ref b4), .val (.ref b10), .val (.int i12), .val (.int i13), .val (.ref b56), .val (.ref b62), .val (.int (2 : Int32)), .val (.int i66), .val (.int i68), .unset, .unset, .unset, .unset, .unset, .unset, .unset]) rfl (pc' := 353) rfl ?_
  refine R.aload X67 hx (hb hby at_353) rfl rfl (pc' := 355) rfl ?_
  refine R.aload X67 hx (hb hby at_355) rfl rfl (pc' := 357) rfl ?_
  refine R.aload X67 hx (hb hby at_357) rfl rfl (pc' := 359) rfl ?_
  refine R.iconst X67 hx (hb hby at_359) (v := (2 : Int32)) (by decide) (pc' := 360) rfl ?_
  refine R.callS X67 hx hZ (y := mY3) hown w_10 w_11 w_8 w_12 (by decide) e67 (rmcf2 l Z aZ hw [] b56 b4 b62 k56 k4 k62 [((2 : Int32), (.int (0 : Int32))), ((1 : Int32), (.int i59)), ((0 : Int32), (.int i57))] [((0 : Int32), (.int ld)), ((2 : Int32), (.int (0 : Int32))), ((1 : Int32), (.int (0 : Int32))), ((0 : Int32), (.int i5))] [((1 : Int32), (.int (0 : Int32))), ((0 : Int32), (.int (0 : Int32)))] i57 i59 (0 : Int32) ld (0 : Int32) (0 : Int32) (0 : Int32) (0 : Int32) h64 n0 Z64 V_b56 V_b4 V_b62 (getH_miss (by decide) (by decide) (getH_miss (by decide) (by decide) (getH_hit (by decide) (rfl)))) (getH_miss (by decide) (by decide) (getH_hit (by decide) (rfl))) (getH_hit (by decide) (rfl)) (getH_hit (by decide) (rfl)) (getH_miss (by decide) (by decide) (getH_miss (by decide) (by decide) (getH_hit (by decide) (rfl)))) (getH_miss (by decide) (by decide) (getH_hit (by decide) (rfl))) (getH_miss (by decide) (by decide) (getH_hit (by decide) (rfl))) (getH_hit (by decide) (rfl))) (by decide) (W := 0) (Nat.le_of_eq rfl) (by decide) (by rw [hml]; rfl) (lenOf pd_3 rfl) rfl (hb hby at_360) (pc' := 363) rfl (by decide) (by decide) ?_; intro v69 T69 L69 X69 hQ69
  obtain ⟨rfl, N69q, e69⟩ := hQ69
  have N69 := Fr.app N67 N69q
  show Rn p e below (T69.setTop (mkF m 363 #[.val (.int p0), .val (.int p1), .val (.int p2), .val (.int p3), .val (.int (1 : Int32)), .val (.int (0 : Int32)), .val (.int (2 : Int32)), .val (.int ld), .val (.ref b4), .val (.ref b10), .val (.int i12), .val (.int i13), .val (.ref b56), .val (.ref b62), .val (.int (2 : Int32)), .val (.int i66), .val (.int i68), .unset, .unset, .unset, .unset, .unset, .unset, .unset] [(.int ((((i57 * (0 : Int32)) + (i59 * (0 : Int32))) + ((0 : Int32) * ld)) + (0 : Int32)))])) G
  generalize hi70 : ((((i57 * (0 : Int32)) + (i59 * (0 : Int32))) + ((0 : Int32) * ld)) + (0 : Int32)) = i70
  refine R.istore X69 hx (hb hby at_363) (L' := #[.val (.int p0), .val (.int p1), .val (.int p2), .val (.int p3), .val (.int (1 : Int32)), .val (.int (0 : Int32)), .val (.int (2 : Int32)), .val (.int ld), .val (.ref b4), .val (.ref b10), .val (.int i12), .val (.int i13), .val (.ref b56), .val (.ref b62), .val (.int (2 : Int32)), .val (.int i66), .val (.int i68), .val (.int i70), .unset, .unset, .unset, .unset, .unset, .unset]) rfl (pc' := 365) rfl ?_
  refine R.aload X69 hx (hb hby at_365) rfl rfl (pc' := 367) rfl ?_
  refine R.aload X69 hx (hb hby at_367) rfl rfl (pc' := 369) rfl ?_
  refine R.aload X69 hx (hb hby at_369) rfl rfl (pc' := 371) rfl ?_
  refine R.iconst X69 hx (hb hby at_371) (v := (3 : Int32)) (by decide) (pc' := 372) rfl ?_
  refine R.callS X69 hx hZ (y := mY3) hown w_10 w_11 w_8 w_12 (by decide) e69 (rmcf3 l Z aZ hw [] b56 b4 b62 k56 k4 k62 [((2 : Int32), (.int (0 : Int32))), ((1 : Int32), (.int i59)), ((0 : Int32), (.int i57))] [((0 : Int32), (.int ld)), ((2 : Int32), (.int (0 : Int32))), ((1 : Int32), (.int (0 : Int32))), ((0 : Int32), (.int i5))] [((1 : Int32), (.int (0 : Int32))), ((0 : Int32), (.int (0 : Int32)))] i57 i59 (0 : Int32) ld (0 : Int32) (0 : Int32) (0 : Int32) (0 : Int32) h64 n0 Z64 V_b56 V_b4 V_b62 (getH_miss (by decide) (by decide) (getH_miss (by decide) (by decide) (getH_hit (by decide) (rfl)))) (getH_miss (by decide) (by decide) (getH_hit (by decide) (rfl))) (getH_hit (by decide) (rfl)) (getH_hit (by decide) (rfl)) (getH_miss (by decide) (by decide) (getH_miss (by decide) (by decide) (getH_hit (by decide) (rfl)))) (getH_miss (by decide) (by decide) (getH_hit (by decide) (rfl))) (getH_miss (by decide) (by decide) (getH_hit (by decide) (rfl))) (getH_hit (by decide) (rfl))) (by decide) (W := 0) (Nat.le_of_eq rfl) (by decide) (by rw [hml]; rfl) (lenOf pd_3 rfl) rfl (hb hby at_372) (pc' := 375) rfl (by decide) (by decide) ?_; intro v71 T71 L71 X71 hQ71
  obtain ⟨rfl, N71q, e71⟩ := hQ71
  have N71 := Fr.app N69 N71q
  show Rn p e below (T71.setTop (mkF m 375 #[.val (.int p0), .val (.int p1), .val (.int p2), .val (.int p3), .val (.int (1 : Int32)), .val (.int (0 : Int32)), .val (.int (2 : Int32)), .val (.int ld), .val (.ref b4), .val (.ref b10), .val (.int i12), .val (.int i13), .val (.ref b56), .val (.ref b62), .val (.int (2 : Int32)), .val (.int i66), .val (.int i68), .val (.int i70), .unset, .unset, .unset, .unset, .unset, .unset] [(.int ((((i57 * (0 : Int32)) + (i59 * (0 : Int32))) + ((0 : Int32) * (0 : Int32))) + (0 : Int32)))])) G
  generalize hi72 : ((((i57 * (0 : Int32)) + (i59 * (0 : Int32))) + ((0 : Int32) * (0 : Int32))) + (0 : Int32)) = i72
  refine R.istore X71 hx (hb hby at_375) (L' := #[.val (.int p0), .val (.int p1), .val (.int p2), .val (.int p3), .val (.int (1 : Int32)), .val (.int (0 : Int32)), .val (.int (2 : Int32)), .val (.int ld), .val (.ref b4), .val (.ref b10), .val (.int i12), .val (.int i13), .val (.ref b56), .val (.ref b62), .val (.int (2 : Int32)), .val (.int i66), .val (.int i68), .val (.int i70), .val (.int i72), .unset, .unset, .unset, .unset, .unset]) rfl (pc' := 377) rfl ?_
  refine R.aload X71 hx (hb hby at_377) rfl rfl (pc' := 379) rfl ?_
  refine R.aload X71 hx (hb hby at_379) rfl rfl (pc' := 381) rfl ?_
  refine R.aload X71 hx (hb hby at_381) rfl rfl (pc' := 383) rfl ?_
  refine R.iconst X71 hx (hb hby at_383) (v := (4 : Int32)) (by decide) (pc' := 384) rfl ?_
  refine R.callS X71 hx hZ (y := mY3) hown w_10 w_11 w_8 w_12 (by decide) e71 (rmcf4 l Z aZ hw [] b56 b4 b62 k56 k4 k62 [((2 : Int32), (.int (0 : Int32))), ((1 : Int32), (.int i59)), ((0 : Int32), (.int i57))] [((0 : Int32), (.int ld)), ((2 : Int32), (.int (0 : Int32))), ((1 : Int32), (.int (0 : Int32))), ((0 : Int32), (.int i5))] [((1 : Int32), (.int (0 : Int32))), ((0 : Int32), (.int (0 : Int32)))] i57 i59 (0 : Int32) ld (0 : Int32) (0 : Int32) (0 : Int32) (0 : Int32) h64 n0 Z64 V_b56 V_b4 V_b62 (getH_miss (by decide) (by decide) (getH_miss (by decide) (by decide) (getH_hit (by decide) (rfl)))) (getH_miss (by decide) (by decide) (getH_hit (by decide) (rfl))) (getH_hit (by decide) (rfl)) (getH_hit (by decide) (rfl)) (getH_miss (by decide) (by decide) (getH_miss (by decide) (by decide) (getH_hit (by decide) (rfl)))) (getH_miss (by decide) (by decide) (getH_hit (by decide) (rfl))) (getH_miss (by decide) (by decide) (getH_hit (by decide) (rfl))) (getH_hit (by decide) (rfl))) (by decide) (W := 0) (Nat.le_of_eq rfl) (by decide) (by rw [hml]; rfl) (lenOf pd_3 rfl) rfl (hb hby at_384) (pc' := 387) rfl (by decide) (by decide) ?_; intro v73 T73 L73 X73 hQ73
  obtain ⟨rfl, N73q, e73⟩ := hQ73
  have N73 := Fr.app N71 N73q
  show Rn p e below (T73.setTop (mkF m 387 #[.val (.int p0), .val (.int p1), .val (.int p2), .val (.int p3), .val (.int (1 : Int32)), .val (.int (0 : Int32)), .val (.int (2 : Int32)), .val (.int ld), .val (.ref b4), .val (.ref b10), .val (.int i12), .val (.int i13), .val (.ref b56), .val (.ref b62), .val (.int (2 : Int32)), .val (.int i66), .val (.int i68), .val (.int i70), .val (.int i72), .unset, .unset, .unset, .unset, .unset] [(.int ((((i57 * (0 : Int32)) + (i59 * (0 : Int32))) + ((0 : Int32) * (0 : Int32))) + (0 : Int32)))])) G
  generalize hi74 : ((((i57 * (0 : Int32)) + (i59 * (0 : Int32))) + ((0 : Int32) * (0 : Int32))) + (0 : Int32)) = i74
  refine R.istore X73 hx (hb hby at_387) (L' := #[.val (.int p0), .val (.int p1), .val (.int p2), .val (.int p3), .val (.int (1 : Int32)), .val (.int (0 : Int32)), .val (.int (2 : Int32)), .val (.int ld), .val (.ref b4), .val (.ref b10), .val (.int i12), .val (.int i13), .val (.ref b56), .val (.ref b62), .val (.int (2 : Int32)), .val (.int i66), .val (.int i68), .val (.int i70), .val (.int i72), .val (.int i74), .unset, .unset, .unset, .unset]) rfl (pc' := 389) rfl ?_
  have tc0 := own_cf (b_i57 : i57.toInt.natAbs ≤ 128) (bl : ld.toInt.natAbs ≤ 128) (b_i59 : i59.toInt.natAbs ≤ 128) (own_z0 : (0 : Int32).toInt.natAbs ≤ 128) (own_z0 : (0 : Int32).toInt.natAbs ≤ 128) (own_z0 : (0 : Int32).toInt.natAbs ≤ 128) (own_z0 : (0 : Int32).toInt.natAbs ≤ 128) hi66
  simp only [own_zi, Int.zero_mul, Int.mul_zero, Int.add_zero, Int.zero_add] at tc0
  have tc1 := own_cf (b_i57 : i57.toInt.natAbs ≤ 128) (own_z0 : (0 : Int32).toInt.natAbs ≤ 128) (b_i59 : i59.toInt.natAbs ≤ 128) (bl : ld.toInt.natAbs ≤ 128) (own_z0 : (0 : Int32).toInt.natAbs ≤ 128) (own_z0 : (0 : Int32).toInt.natAbs ≤ 128) (own_z0 : (0 : Int32).toInt.natAbs ≤ 128) hi68
  simp only [own_zi, Int.zero_mul, Int.mul_zero, Int.add_zero, Int.zero_add] at tc1
  have tc2 := own_cf (b_i57 : i57.toInt.natAbs ≤ 128) (own_z0 : (0 : Int32).toInt.natAbs ≤ 128) (b_i59 : i59.toInt.natAbs ≤ 128) (own_z0 : (0 : Int32).toInt.natAbs ≤ 128) (own_z0 : (0 : Int32).toInt.natAbs ≤ 128) (bl : ld.toInt.natAbs ≤ 128) (own_z0 : (0 : Int32).toInt.natAbs ≤ 128) hi70
  simp only [own_zi, Int.zero_mul, Int.mul_zero, Int.add_zero, Int.zero_add] at tc2
  have tc3 := own_cf (b_i57 : i57.toInt.natAbs ≤ 128) (own_z0 : (0 : Int32).toInt.natAbs ≤ 128) (b_i59 : i59.toInt.natAbs ≤ 128) (own_z0 : (0 : Int32).toInt.natAbs ≤ 128) (own_z0 : (0 : Int32).toInt.natAbs ≤ 128) (own_z0 : (0 : Int32).toInt.natAbs ≤ 128) (own_z0 : (0 : Int32).toInt.natAbs ≤ 128) hi72
  simp only [own_zi, Int.zero_mul, Int.mul_zero, Int.add_zero, Int.zero_add] at tc3
  have tc4 := own_cf (b_i57 : i57.toInt.natAbs ≤ 128) (own_z0 : (0 : Int32).toInt.natAbs ≤ 128) (b_i59 : i59.toInt.natAbs ≤ 128) (own_z0 : (0 : Int32).toInt.natAbs ≤ 128) (own_z0 : (0 : Int32).toInt.natAbs ≤ 128) (own_z0 : (0 : Int32).toInt.natAbs ≤ 128) (own_z0 : (0 : Int32).toInt.natAbs ≤ 128) hi74
  simp only [own_zi, Int.zero_mul, Int.mul_zero, Int.add_zero, Int.zero_add] at tc4
  refine R.iload X73 hx (hb hby at_389) rfl (pc' := 391) rfl ?_
  refine R.newP X73 hx hZ (ty := .double) rfl w_1 e73 (by decide) (cap := 2) (by decide) (by decide) (ad := "[D") (by decide) (hb hby at_391) (pc' := 393) rfl (by decide) (by decide) ?_; intro T75 h75 b75 k75 g75 X75 e75 E75 EE75 AA75
  have g_b75 : n0 ≤ b75 := Nat.le_trans Z64 (Nat.le_of_eq g75.symm)
  have sz_b75 : h0.size ≤ b75 := Nat.le_trans K64.1 (Nat.le_of_eq g75.symm)
  have ne_b4_b75 : b4 ≠ b75 := Nat.ne_of_lt (Nat.lt_of_lt_of_le V_b4.lt (Nat.le_of_eq g75.symm))
  have ne_b10_b75 : b10 ≠ b75 := Nat.ne_of_lt (Nat.lt_of_lt_of_le V_b10.lt (Nat.le_of_eq g75.symm))
  have ne_b56_b75 : b56 ≠ b75 := Nat.ne_of_lt (Nat.lt_of_lt_of_le V_b56.lt (Nat.le_of_eq g75.symm))
  have ne_b62_b75 : b62 ≠ b75 := Nat.ne_of_lt (Nat.lt_of_lt_of_le V_b62.lt (Nat.le_of_eq g75.symm))
  have K75 : Keep h0 h75 [] := K64.ext E75
  have Z75 : n0 ≤ h75.size := Nat.le_trans Z64 E75.1
  have V_b4 := V_b4.ext E75
  have V_b10 := V_b10.ext E75
  have V_b56 := V_b56.ext E75
  have V_b62 := V_b62.ext E75
  have E_b75 : Exa Z h75 b75 "[D" := EE75
  have V_b75 : Arh Z h75 b75 k75 .double (2 : Int32) [] [] (.double (0 : UInt64)) := AA75
  refine R.astore X75 hx (hb hby at_393) rfl (L' := #[.val (.int p0), .val (.int p1), .val (.int p2), .val (.int p3), .val (.int (1 : Int32)), .val (.int (0 : Int32)), .val (.int (2 : Int32)), .val (.int ld), .val (.ref b4), .val (.ref b10), .val (.int i12), .val (.int i13), .val (.ref b56), .val (.ref b62), .val (.int (2 : Int32)), .val (.int i66), .val (.int i68), .val (.int i70), .val (.int i72), .val (.int i74), .val (.ref b75), .unset, .unset, .unset]) rfl (pc' := 395) rfl ?_
  refine R.iload X75 hx (hb hby at_395) rfl (pc' := 397) rfl ?_
  refine R.ifNo X75 hx (hb hby at_397) (tlt (by decide : (0 : Int32) < (2 : Int32))).2.2.2 (pc' := 400) rfl ?_
  refine R.aload X75 hx (hb hby at_400) rfl rfl (pc' := 402) rfl ?_
  refine R.iconst X75 hx (hb hby at_402) (v := (0 : Int32)) (by decide) (pc' := 403) rfl ?_
  refine R.iload X75 hx (hb hby at_403) rfl (pc' := 405) rfl ?_
  refine R.i2d X75 hx (hb hby at_405) (pc' := 406) rfl ?_
  refine R.dastore X75 hx hZ e75 V_b75 (⟨by decide, by decide⟩ : ¬ (0 : Int32) < 0 ∧ (0 : Int32) < (2 : Int32)) (hb hby at_406) (pc' := 407) rfl ?_; intro T76 h76 X76 e76 W76 V76
  have V_b4 := V_b4.other W76 ne_b4_b75
  have V_b10 := V_b10.other W76 ne_b10_b75
  have V_b56 := V_b56.other W76 ne_b56_b75
  have V_b62 := V_b62.other W76 ne_b62_b75
  have E_b75 := E_b75.wr W76
  have V_b75 : Arh Z h76 b75 k75 .double (2 : Int32) [((0 : Int32), (.double (FP.i2d i66)))] [] (.double (0 : UInt64)) := V76
  have N76 := Fr.snoc X76 N73 g_b75
  have K76 : Keep h0 h76 [] := K75.wr W76 (Or.inr sz_b75)
  have Z76 : n0 ≤ h76.size := Nat.le_trans Z75 (Keep.of_wr W76).1
  refine R.iload X76 hx (hb hby at_407) rfl (pc' := 409) rfl ?_
  refine R.iconst X76 hx (hb hby at_409) (v := (1 : Int32)) (by decide) (pc' := 410) rfl ?_
  refine R.icmpNo X76 hx (hb hby at_410) (tlt (by decide : (1 : Int32) < (2 : Int32))).2.2.2 (pc' := 413) rfl ?_
  refine R.aload X76 hx (hb hby at_413) rfl rfl (pc' := 415) rfl ?_
  refine R.iconst X76 hx (hb hby at_415) (v := (1 : Int32)) (by decide) (pc' := 416) rfl ?_
  refine R.iload X76 hx (hb hby at_416) rfl (pc' := 418) rfl ?_
  refine R.i2d X76 hx (hb hby at_418) (pc' := 419) rfl ?_
  refine R.dastore X76 hx hZ e76 V_b75 (⟨by decide, by decide⟩ : ¬ (1 : Int32) < 0 ∧ (1 : Int32) < (2 : Int32)) (hb hby at_419) (pc' := 420) rfl ?_; intro T77 h77 X77 e77 W77 V77
  have V_b4 := V_b4.other W77 ne_b4_b75
  have V_b10 := V_b10.other W77 ne_b10_b75
  have V_b56 := V_b56.other W77 ne_b56_b75
  have V_b62 := V_b62.other W77 ne_b62_b75
  have E_b75 := E_b75.wr W77
  have V_b75 : Arh Z h77 b75 k75 .double (2 : Int32) [((1 : Int32), (.double (FP.i2d i68))), ((0 : Int32), (.double (FP.i2d i66)))] [] (.double (0 : UInt64)) := V77
  have N77 := Fr.snoc X77 N76 g_b75
  have K77 : Keep h0 h77 [] := K76.wr W77 (Or.inr sz_b75)
  have Z77 : n0 ≤ h77.size := Nat.le_trans Z76 (Keep.of_wr W77).1
  refine R.iload X77 hx (hb hby at_420) rfl (pc' := 422) rfl ?_
  refine R.iconst X77 hx (hb hby at_422) (v := (2 : Int32)) (by decide) (pc' := 423) rfl ?_
  refine R.icmpYes X77 hx (hb hby at_423) (flt (by decide : ¬ ((2 : Int32) < (2 : Int32)))).2.2.2 (by decide) (pc' := 433) (by decide) ?_
  refine R.iload X77 hx (hb hby at_433) rfl (pc' := 435) rfl ?_
  refine R.iconst X77 hx (hb hby at_435) (v := (3 : Int32)) (by decide) (pc' := 436) rfl ?_
  refine R.icmpYes X77 hx (hb hby at_436) (flt (by decide : ¬ ((3 : Int32) < (2 : Int32)))).2.2.2 (by decide) (pc' := 446) (by decide) ?_
  refine R.iload X77 hx (hb hby at_446) rfl (pc' := 448) rfl ?_
  refine R.iconst X77 hx (hb hby at_448) (v := (4 : Int32)) (by decide) (pc' := 449) rfl ?_
  refine R.icmpYes X77 hx (hb hby at_449) (flt (by decide : ¬ ((4 : Int32) < (2 : Int32)))).2.2.2 (by decide) (pc' := 459) (by decide) ?_
  refine R.aload X77 hx (hb hby at_459) rfl rfl (pc' := 461) rfl ?_
  refine R.aload X77 hx (hb hby at_461) rfl rfl (pc' := 463) rfl ?_
  refine R.callS X77 hx hZ (y := mY1) hown w_2 w_3 w_4 w_5 (by decide) e77 (rmqq12 l Z aZ hw [] b75 b10 k75 k10 [((1 : Int32), (.double (FP.i2d i68))), ((0 : Int32), (.double (FP.i2d i66)))] [((0 : Int32), (.double (FP.i2d ld)))] (FP.i2d i66) (FP.i2d i68) (FP.i2d ld) i66.toInt i68.toInt ld.toInt i57.toInt i59.toInt h77 n0 Z77 V_b75 E_b75 V_b10 (getH_miss (by decide) (by decide) (getH_hit (by decide) (rfl))) (Dy.i2d _) (getH_hit (by decide) (rfl)) (Dy.i2d _) (getH_hit (by decide) (rfl)) (Dy.i2d _) (tc0) (tc1) (nl) (bl) (b_i57) (b_i59)) (by decide) (W := 0) (Nat.le_of_eq rfl) (by decide) (by rw [hml]; rfl) (lenOf pd_1 rfl) rfl (hb hby at_463) (pc' := 466) rfl (by decide) (by decide) ?_; intro v78 T78 L78 X78 hQ78
  obtain ⟨r_78, kr_78, hr_78, rfl, N78q, Kc78, P78_0, P78_1, P78_2, P78_3⟩ := hQ78
  have N78 := Fr.app N77 N78q
  generalize e78 : T78.heap = h78 at Kc78 P78_0 P78_1 P78_2 P78_3
  have K78 : Keep h0 h78 [] := K77.trans Kc78 (all0)
  have Z78 : n0 ≤ h78.size := Nat.le_trans Z77 Kc78.1
  have ne_b4_r_78 : b4 ≠ r_78 := Nat.ne_of_lt (Nat.lt_of_lt_of_le V_b4.lt P78_0)
  have ne_b10_r_78 : b10 ≠ r_78 := Nat.ne_of_lt (Nat.lt_of_lt_of_le V_b10.lt P78_0)
  have ne_b56_r_78 : b56 ≠ r_78 := Nat.ne_of_lt (Nat.lt_of_lt_of_le V_b56.lt P78_0)
  have ne_b62_r_78 : b62 ≠ r_78 := Nat.ne_of_lt (Nat.lt_of_lt_of_le V_b62.lt P78_0)
  have ne_b75_r_78 : b75 ≠ r_78 := Nat.ne_of_lt (Nat.lt_of_lt_of_le E_b75.lt P78_0)
  have g_r_78 : n0 ≤ r_78 := Nat.le_trans Z77 P78_0
  have sz_r_78 : h0.size ≤ r_78 := Nat.le_trans K77.1 P78_0
  have V_b4 := V_b4.keep Kc78 nin0
  have V_b10 := V_b10.keep Kc78 nin0
  have V_b56 := V_b56.keep Kc78 nin0
  have V_b62 := V_b62.keep Kc78 nin0
  have E_b75 := E_b75.keep Kc78
  have V_b75 := V_b75.keep Kc78 nin0
  have fresh_78 := P78_0
  have V_r_78 : Arh Z h78 r_78 kr_78 .double (2 : Int32) hr_78 [] (.double (0 : UInt64)) := P78_1
  have V_r_78 : Arh Z h78 r_78 kr_78 .double (2 : Int32) hr_78 [] (.double (0 : UInt64)) := V_r_78
  have c0_78 := P78_2
  have c1_78 := P78_3
  refine R.astore X78 hx (hb hby at_466) rfl (L' := #[.val (.int p0), .val (.int p1), .val (.int p2), .val (.int p3), .val (.int (1 : Int32)), .val (.int (0 : Int32)), .val (.int (2 : Int32)), .val (.int ld), .val (.ref b4), .val (.ref b10), .val (.int i12), .val (.int i13), .val (.ref b56), .val (.ref b62), .val (.int (2 : Int32)), .val (.int i66), .val (.int i68), .val (.int i70), .val (.int i72), .val (.int i74), .val (.ref b75), .val (.ref r_78), .unset, .unset]) rfl (pc' := 468) rfl ?_
  refine R.aload X78 hx (hb hby at_468) rfl rfl (pc' := 470) rfl ?_
  refine R.alen X78 hx hZ e78 V_r_78 (hb hby at_470) (pc' := 471) rfl ?_
  refine R.iload X78 hx (hb hby at_471) rfl (pc' := 473) rfl ?_
  refine R.icmpNo X78 hx (hb hby at_473) (teq (by decide : (2 : Int32) = (2 : Int32))).2 (pc' := 476) rfl ?_
  refine R.aload X78 hx (hb hby at_476) rfl rfl (pc' := 478) rfl ?_
  refine R.iconst X78 hx (hb hby at_478) (v := (0 : Int32)) (by decide) (pc' := 479) rfl ?_
  refine R.aload X78 hx (hb hby at_479) rfl rfl (pc' := 481) rfl ?_
  refine R.callS X78 hx hZ (y := mY4) hown w_25 w_26 w_8 w_27 (by decide) e78 (rm5 l Z aZ hw [] r_78 (0 : Int32) b56 kr_78 (2 : Int32) hr_78 k56 [((2 : Int32), (.int (0 : Int32))), ((1 : Int32), (.int i59)), ((0 : Int32), (.int i57))] i57 h78 n0 Z78 V_r_78 V_b56 (by decide) (getH_miss (by decide) (by decide) (getH_miss (by decide) (by decide) (getH_hit (by decide) (rfl)))) (fun _ => c0_78)) (by decide) (W := 0) (Nat.le_of_eq rfl) (by decide) (by rw [hml]; rfl) (lenOf pd_4 rfl) rfl (hb hby at_481) (pc' := 484) rfl (by decide) (by decide) ?_; intro v79 T79 L79 X79 hQ79
  obtain ⟨rfl, N79q, e79⟩ := hQ79
  have N79 := Fr.app N78 N79q
  refine R.ifNo X79 hx (hb hby at_484) (feq (by decide : ¬ ((1 : Int32) = (0 : Int32)))).1 (pc' := 487) rfl ?_
  refine R.aload X79 hx (hb hby at_487) rfl rfl (pc' := 489) rfl ?_
  refine R.iconst X79 hx (hb hby at_489) (v := (1 : Int32)) (by decide) (pc' := 490) rfl ?_
  refine R.aload X79 hx (hb hby at_490) rfl rfl (pc' := 492) rfl ?_
  refine R.callS X79 hx hZ (y := mY4) hown w_25 w_26 w_8 w_27 (by decide) e79 (rm5 l Z aZ hw [] r_78 (1 : Int32) b56 kr_78 (2 : Int32) hr_78 k56 [((2 : Int32), (.int (0 : Int32))), ((1 : Int32), (.int i59)), ((0 : Int32), (.int i57))] i59 h78 n0 Z78 V_r_78 V_b56 (by decide) (getH_miss (by decide) (by decide) (getH_hit (by decide) (rfl))) (fun _ => c1_78)) (by decide) (W := 0) (Nat.le_of_eq rfl) (by decide) (by rw [hml]; rfl) (lenOf pd_4 rfl) rfl (hb hby at_492) (pc' := 495) rfl (by decide) (by decide) ?_; intro v80 T80 L80 X80 hQ80
  obtain ⟨rfl, N80q, e80⟩ := hQ80
  have N80 := Fr.app N79 N80q
  refine R.ifNo X80 hx (hb hby at_495) (feq (by decide : ¬ ((1 : Int32) = (0 : Int32)))).1 (pc' := 498) rfl ?_
  refine R.aload X80 hx (hb hby at_498) rfl rfl (pc' := 500) rfl ?_
  refine R.iconst X80 hx (hb hby at_500) (v := (2 : Int32)) (by decide) (pc' := 501) rfl ?_
  refine R.aload X80 hx (hb hby at_501) rfl rfl (pc' := 503) rfl ?_
  refine R.callS X80 hx hZ (y := mY4) hown w_25 w_26 w_8 w_27 (by decide) e80 (rm5 l Z aZ hw [] r_78 (2 : Int32) b56 kr_78 (2 : Int32) hr_78 k56 [((2 : Int32), (.int (0 : Int32))), ((1 : Int32), (.int i59)), ((0 : Int32), (.int i57))] (0 : Int32) h78 n0 Z78 V_r_78 V_b56 (by decide) (getH_hit (by decide) (rfl)) (fun q => absurd q (by decide))) (by decide) (W := 0) (Nat.le_of_eq rfl) (by decide) (by rw [hml]; rfl) (lenOf pd_4 rfl) rfl (hb hby at_503) (pc' := 506) rfl (by decide) (by decide) ?_; intro v81 T81 L81 X81 hQ81
  obtain ⟨rfl, N81q, e81⟩ := hQ81
  have N81 := Fr.app N80 N81q
  refine R.ifNo X81 hx (hb hby at_506) (feq (by decide : ¬ ((1 : Int32) = (0 : Int32)))).1 (pc' := 509) rfl ?_
  refine R.iconst X81 hx (hb hby at_509) (v := (1 : Int32)) (by decide) (pc' := 510) rfl ?_
  refine R.goto X81 hx (hb hby at_510) (by decide) (pc' := 514) (by decide) ?_
  refine R.istore X81 hx (hb hby at_514) (L' := #[.val (.int p0), .val (.int p1), .val (.int p2), .val (.int p3), .val (.int (1 : Int32)), .val (.int (0 : Int32)), .val (.int (2 : Int32)), .val (.int ld), .val (.ref b4), .val (.ref b10), .val (.int i12), .val (.int i13), .val (.ref b56), .val (.ref b62), .val (.int (2 : Int32)), .val (.int i66), .val (.int i68), .val (.int i70), .val (.int i72), .val (.int i74), .val (.ref b75), .val (.ref r_78), .val (.int (1 : Int32)), .unset]) rfl (pc' := 516) rfl ?_
  refine R.aload X81 hx (hb hby at_516) rfl rfl (pc' := 518) rfl ?_
  refine R.iconst X81 hx (hb hby at_518) (v := (0 : Int32)) (by decide) (pc' := 519) rfl ?_
  refine R.iload X81 hx (hb hby at_519) rfl (pc' := 521) rfl ?_
  refine R.callS X81 hx hZ (y := mY2) hown w_6 w_7 w_8 w_9 (by decide) e81 (rm2 l Z aZ hw [] b75 (0 : Int32) i66 k75 (2 : Int32) [((1 : Int32), (.double (FP.i2d i68))), ((0 : Int32), (.double (FP.i2d i66)))] h78 n0 Z78 V_b75 (by decide) (fun _ => getH_miss (by decide) (by decide) (getH_hit (by decide) (rfl)))) (by decide) (W := 0) (Nat.le_of_eq rfl) (by decide) (by rw [hml]; rfl) (lenOf pd_2 rfl) rfl (hb hby at_521) (pc' := 524) rfl (by decide) (by decide) ?_; intro v82 T82 L82 X82 hQ82
  obtain ⟨rfl, N82q, e82⟩ := hQ82
  have N82 := Fr.app N81 N82q
  refine R.ifNo X82 hx (hb hby at_524) (feq (by decide : ¬ ((1 : Int32) = (0 : Int32)))).1 (pc' := 527) rfl ?_
  refine R.aload X82 hx (hb hby at_527) rfl rfl (pc' := 529) rfl ?_
  refine R.iconst X82 hx (hb hby at_529) (v := (1 : Int32)) (by decide) (pc' := 530) rfl ?_
  refine R.iload X82 hx (hb hby at_530) rfl (pc' := 532) rfl ?_
  refine R.callS X82 hx hZ (y := mY2) hown w_6 w_7 w_8 w_9 (by decide) e82 (rm2 l Z aZ hw [] b75 (1 : Int32) i68 k75 (2 : Int32) [((1 : Int32), (.double (FP.i2d i68))), ((0 : Int32), (.double (FP.i2d i66)))] h78 n0 Z78 V_b75 (by decide) (fun _ => getH_hit (by decide) (rfl))) (by decide) (W := 0) (Nat.le_of_eq rfl) (by decide) (by rw [hml]; rfl) (lenOf pd_2 rfl) rfl (hb hby at_532) (pc' := 535) rfl (by decide) (by decide) ?_; intro v83 T83 L83 X83 hQ83
  obtain ⟨rfl, N83q, e83⟩ := hQ83
  have N83 := Fr.app N82 N83q
  refine R.ifNo X83 hx (hb hby at_535) (feq (by decide : ¬ ((1 : Int32) = (0 : Int32)))).1 (pc' := 538) rfl ?_
  refine R.aload X83 hx (hb hby at_538) rfl rfl (pc' := 540) rfl ?_
  refine R.iconst X83 hx (hb hby at_540) (v := (2 : Int32)) (by decide) (pc' := 541) rfl ?_
  refine R.iload X83 hx (hb hby at_541) rfl (pc' := 543) rfl ?_
  refine R.callS X83 hx hZ (y := mY2) hown w_6 w_7 w_8 w_9 (by decide) e83 (rm2 l Z aZ hw [] b75 (2 : Int32) i70 k75 (2 : Int32) [((1 : Int32), (.double (FP.i2d i68))), ((0 : Int32), (.double (FP.i2d i66)))] h78 n0 Z78 V_b75 (by decide) (fun q => absurd q (by decide))) (by decide) (W := 0) (Nat.le_of_eq rfl) (by decide) (by rw [hml]; rfl) (lenOf pd_2 rfl) rfl (hb hby at_543) (pc' := 546) rfl (by decide) (by decide) ?_; intro v84 T84 L84 X84 hQ84
  obtain ⟨rfl, N84q, e84⟩ := hQ84
  have N84 := Fr.app N83 N84q
  refine R.ifNo X84 hx (hb hby at_546) (feq (by decide : ¬ ((1 : Int32) = (0 : Int32)))).1 (pc' := 549) rfl ?_
  refine R.aload X84 hx (hb hby at_549) rfl rfl (pc' := 551) rfl ?_
  refine R.iconst X84 hx (hb hby at_551) (v := (3 : Int32)) (by decide) (pc' := 552) rfl ?_
  refine R.iload X84 hx (hb hby at_552) rfl (pc' := 554) rfl ?_
  refine R.callS X84 hx hZ (y := mY2) hown w_6 w_7 w_8 w_9 (by decide) e84 (rm2 l Z aZ hw [] b75 (3 : Int32) i72 k75 (2 : Int32) [((1 : Int32), (.double (FP.i2d i68))), ((0 : Int32), (.double (FP.i2d i66)))] h78 n0 Z78 V_b75 (by decide) (fun q => absurd q (by decide))) (by decide) (W := 0) (Nat.le_of_eq rfl) (by decide) (by rw [hml]; rfl) (lenOf pd_2 rfl) rfl (hb hby at_554) (pc' := 557) rfl (by decide) (by decide) ?_; intro v85 T85 L85 X85 hQ85
  obtain ⟨rfl, N85q, e85⟩ := hQ85
  have N85 := Fr.app N84 N85q
  refine R.ifNo X85 hx (hb hby at_557) (feq (by decide : ¬ ((1 : Int32) = (0 : Int32)))).1 (pc' := 560) rfl ?_
  refine R.aload X85 hx (hb hby at_560) rfl rfl (pc' := 562) rfl ?_
  refine R.iconst X85 hx (hb hby at_562) (v := (4 : Int32)) (by decide) (pc' := 563) rfl ?_
  refine R.iload X85 hx (hb hby at_563) rfl (pc' := 565) rfl ?_
  refine R.callS X85 hx hZ (y := mY2) hown w_6 w_7 w_8 w_9 (by decide) e85 (rm2 l Z aZ hw [] b75 (4 : Int32) i74 k75 (2 : Int32) [((1 : Int32), (.double (FP.i2d i68))), ((0 : Int32), (.double (FP.i2d i66)))] h78 n0 Z78 V_b75 (by decide) (fun q => absurd q (by decide))) (by decide) (W := 0) (Nat.le_of_eq rfl) (by decide) (by rw [hml]; rfl) (lenOf pd_2 rfl) rfl (hb hby at_565) (pc' := 568) rfl (by decide) (by decide) ?_; intro v86 T86 L86 X86 hQ86
  obtain ⟨rfl, N86q, e86⟩ := hQ86
  have N86 := Fr.app N85 N86q
  refine R.ifNo X86 hx (hb hby at_568) (feq (by decide : ¬ ((1 : Int32) = (0 : Int32)))).1 (pc' := 571) rfl ?_
  refine R.iconst X86 hx (hb hby at_571) (v := (1 : Int32)) (by decide) (pc' := 572) rfl ?_
  refine R.goto X86 hx (hb hby at_572) (by decide) (pc' := 576) (by decide) ?_
  refine R.istore X86 hx (hb hby at_576) (L' := #[.val (.int p0), .val (.int p1), .val (.int p2), .val (.int p3), .val (.int (1 : Int32)), .val (.int (0 : Int32)), .val (.int (2 : Int32)), .val (.int ld), .val (.ref b4), .val (.ref b10), .val (.int i12), .val (.int i13), .val (.ref b56), .val (.ref b62), .val (.int (2 : Int32)), .val (.int i66), .val (.int i68), .val (.int i70), .val (.int i72), .val (.int i74), .val (.ref b75), .val (.ref r_78), .val (.int (1 : Int32)), .val (.int (1 : Int32))]) rfl (pc' := 578) rfl ?_
  refine R.iload X86 hx (hb hby at_578) rfl (pc' := 580) rfl ?_
  refine R.ifNo X86 hx (hb hby at_580) (feq (by decide : ¬ ((1 : Int32) = (0 : Int32)))).1 (pc' := 583) rfl ?_
  refine R.iload X86 hx (hb hby at_583) rfl (pc' := 585) rfl ?_
  refine R.ifNo X86 hx (hb hby at_585) (feq (by decide : ¬ ((1 : Int32) = (0 : Int32)))).1 (pc' := 588) rfl ?_
  refine R.iconst X86 hx (hb hby at_588) (v := (1 : Int32)) (by decide) (pc' := 589) rfl ?_
  refine R.goto X86 hx (hb hby at_589) (by decide) (pc' := 593) (by decide) ?_
  rw [← hG]
  exact Rn.ret X86 (BodyLoose.notSynchronized Bd) (v := some (.int (1 : Int32))) (fun h => by rw [Bd.returns] at h; cases h) (Q := Q0 Z p0 p1 p2 p3 h0 n0) e86 (fun fs hr => retN X86 hx (t := .boolean) Bd.returns (by simp) (hb hby at_593) hr) ⟨rfl, N86⟩ (by decide) (by decide)
set_option maxRecDepth 65536 in
set_option maxHeartbeats 40000000 in
theorem rm0_13 (l : Launch) (Z : State) (aZ : Array Value) (hw : ∀ d ∈ tables_1, d.before aZ Z = true) (ws : List Jvm.Cond) (p0 : Int32) (p1 : Int32) (p2 : Int32) (p3 : Int32) (h0 : Heap) (n0 : Nat) {p : Program} {e : Env} {s : State} {m : MethodId} {below : List Frame} {meth : Method} {c : Code} {s₁ : State} (Bd : BodyLoose p l x (head1 (Jvm.Cond.code x code maxLocals ret :: ws) room_1) code maxLocals ret e s m #[(.int p0), (.int p1), (.int p2), (.int p3)] below meth c s₁) (hml : c.maxLocals = 24) (hZ : Z.Warmed39 s.vm) {TL : State} {hL : Heap} {lL : List Loc} (XL : Stand p l e room_1 s m #[(.int p0), (.int p1), (.int p2), (.int p3)] below meth c TL lL 2 4) (eL : TL.heap = hL) (NL : Fr n0 lL) (KL : Keep h0 hL []) (ZL : n0 ≤ hL.size) (ld : Int32) (b10 : Addr) (b4 : Addr) (i12 : Int32) (i13 : Int32) (i5 : Int32) (k10 : ClassId) (k4 : ClassId) {G : Outcome → State → Prop} (hG : (Fn0 Z p0 p1 p2 p3 h0 n0 s) = G) (V_b4 : Arh Z hL b4 k4 .int (3 : Int32) [((0 : Int32), (.int ld)), ((2 : Int32), (.int (0 : Int32))), ((1 : Int32), (.int (0 : Int32))), ((0 : Int32), (.int i5))] [] (.int (0 : Int32))) (V_b10 : Arh Z hL b10 k10 .double (1 : Int32) [((0 : Int32), (.double (FP.i2d ld)))] [] (.double (0 : UInt64))) (ne_b4_b10 : b4 ≠ b10) (g_b4 : n0 ≤ b4) (g_b10 : n0 ≤ b10) (sz_b4 : h0.size ≤ b4) (sz_b10 : h0.size ≤ b10) (nl : ld.toInt ≠ 0) (bl : ld.toInt.natAbs ≤ 128) (b_i12 : i12.toInt.natAbs ≤ 128) (b_i13 : i13.toInt.natAbs ≤ 128) (b_i5 : i5.toInt.natAbs ≤ 128) : Rn p e below (TL.setTop (mkF m 147 #[.val (.int p0), .val (.int p1), .val (.int p2), .val (.int p3), .val (.int (1 : Int32)), .val (.int (0 : Int32)), .val (.int (3 : Int32)), .val (.int ld), .val (.ref b4), .val (.ref b10), .val (.int i12), .val (.int i13), .unset, .unset, .unset, .unset, .unset, .unset, .unset, .unset, .unset, .unset, .unset, .unset] [])) G := by
  have hx := Bd.exec
  have hby := Bd.bytes
  have hown : s.vm.findClass "com/example/deseason/deseason/arima/PolynomialsQuotientPinLaw" = some m.cls := findClass_of_methodNamed Bd.named
  have hnm := (name_of_methodNamed Bd.named Bd.method).1
  have w_0 := hw _ (List.mem_of_getElem? (i := 0) rfl)
  have w_1 := hw _ (List.mem_of_getElem? (i := 1) rfl)
  have w_2 := hw _ (List.mem_of_getElem? (i := 2) rfl)
  have w_3 := hw _ (List.mem_of_getElem? (i := 3) rfl)
  have w_4 := hw _ (List.mem_of_getElem? (i := 4) rfl)
  have w_5 := hw _ (List.mem_of_getElem? (i := 5) rfl)
  have w_6 := hw _ (List.mem_of_getElem? (i := 6) rfl)
  have w_7 := hw _ (List.mem_of_getElem? (i := 7) rfl)
  have w_8 := hw _ (List.mem_of_getElem? (i := 8) rfl)
  have w_9 := hw _ (List.mem_of_getElem? (i := 9) rfl)
  have w_10 := hw _ (List.mem_of_getElem? (i := 10) rfl)
  have w_11 := hw _ (List.mem_of_getElem? (i := 11) rfl)
  have w_12 := hw _ (List.mem_of_getElem? (i := 12) rfl)
  have w_25 := hw _ (List.mem_of_getElem? (i := 25) rfl)
  have w_26 := hw _ (List.mem_of_getElem? (i := 26) rfl)
  have w_27 := hw _ (List.mem_of_getElem? (i := 27) rfl)
  show Rn p e below (TL.setTop (mkF m 147 #[.val (.int p0), .val (.int p1), .val (.int p2), .val (.int p3), .val (.int (1 : Int32)), .val (.int (0 : Int32)), .val (.int (3 : Int32)), .val (.int ld), .val (.ref b4), .val (.ref b10), .val (.int i12), .val (.int i13), .unset, .unset, .unset, .unset, .unset, .unset, .unset, .unset, .unset, .unset, .unset, .unset] [])) G
  refine R.iload XL hx (hb hby at_147) rfl (pc' := 149) rfl ?_
  refine R.ifYes XL hx (hb hby at_149) (feq (by decide : ¬ ((3 : Int32) = (0 : Int32)))).2 (by decide) (pc' := 237) (by decide) ?_
  refine R.iconst XL hx (hb hby at_237) (v := (3 : Int32)) (by decide) (pc' := 238) rfl ?_
  refine R.newP XL hx hZ (ty := .int) rfl w_0 eL (by decide) (cap := 3) (by decide) (by decide) (ad := "[I") (by decide) (hb hby at_238) (pc' := 240) rfl (by decide) (by decide) ?_; intro T87 h87 b87 k87 g87 X87 e87 E87 EE87 AA87
  have g_b87 : n0 ≤ b87 := Nat.le_trans ZL (Nat.le_of_eq g87.symm)
  have sz_b87 : h0.size ≤ b87 := Nat.le_trans KL.1 (Nat.le_of_eq g87.symm)
  have ne_b4_b87 : b4 ≠ b87 := Nat.ne_of_lt (Nat.lt_of_lt_of_le V_b4.lt (Nat.le_of_eq g87.symm))
  have ne_b10_b87 : b10 ≠ b87 := Nat.ne_of_lt (Nat.lt_of_lt_of_le V_b10.lt (Nat.le_of_eq g87.symm))
  have K87 : Keep h0 h87 [] := KL.ext E87
  have Z87 : n0 ≤ h87.size := Nat.le_trans ZL E87.1
  have V_b4 := V_b4.ext E87
  have V_b10 := V_b10.ext E87
  have V_b87 : Arh Z h87 b87 k87 .int (3 : Int32) [] [] (.int (0 : Int32)) := AA87
  refine R.astore X87 hx (hb hby at_240) rfl (L' := #[.val (.int p0), .val (.int p1), .val (.int p2), .val (.int p3), .val (.int (1 : Int32)), .val (.int (0 : Int32)), .val (.int (3 : Int32)), .val (.int ld), .val (.ref b4), .val (.ref b10), .val (.int i12), .val (.int i13), .val (.ref b87), .unset, .unset, .unset, .unset, .unset, .unset, .unset, .unset, .unset, .unset, .unset]) rfl (pc' := 242) rfl ?_
  refine R.aload X87 hx (hb hby at_242) rfl rfl (pc' := 244) rfl ?_
  refine R.iconst X87 hx (hb hby at_244) (v := (0 : Int32)) (by decide) (pc' := 245) rfl ?_
  refine R.iloadN X87 hx (hb hby at_245) rfl (pc' := 246) rfl ?_
  refine R.i2b X87 hx (hb hby at_246) (pc' := 247) rfl ?_
  show Rn p e below (T87.setTop (mkF m 247 #[.val (.int p0), .val (.int p1), .val (.int p2), .val (.int p3), .val (.int (1 : Int32)), .val (.int (0 : Int32)), .val (.int (3 : Int32)), .val (.int ld), .val (.ref b4), .val (.ref b10), .val (.int i12), .val (.int i13), .val (.ref b87), .unset, .unset, .unset, .unset, .unset, .unset, .unset, .unset, .unset, .unset, .unset] [(.int (p2.toInt8.toInt32)), (.int (0 : Int32)), (.ref b87)])) G
  generalize hi88 : (p2.toInt8.toInt32) = i88
  have b_i88 := own_byte hi88
  refine R.iastore X87 hx hZ e87 V_b87 (⟨by decide, by decide⟩ : ¬ (0 : Int32) < 0 ∧ (0 : Int32) < (3 : Int32)) (hb hby at_247) (pc' := 248) rfl ?_; intro T89 h89 X89 e89 W89 V89
  have V_b4 := V_b4.other W89 ne_b4_b87
  have V_b10 := V_b10.other W89 ne_b10_b87
  have V_b87 : Arh Z h89 b87 k87 .int (3 : Int32) [((0 : Int32), (.int i88))] [] (.int (0 : Int32)) := V89
  have N89 := Fr.snoc X89 NL g_b87
  have K89 : Keep h0 h89 [] := K87.wr W89 (Or.inr sz_b87)
  have Z89 : n0 ≤ h89.size := Nat.le_trans Z87 (Keep.of_wr W89).1
  refine R.aload X89 hx (hb hby at_248) rfl rfl (pc' := 250) rfl ?_
  refine R.iconst X89 hx (hb hby at_250) (v := (1 : Int32)) (by decide) (pc' := 251) rfl ?_
  refine R.iload X89 hx (hb hby at_251) rfl (pc' := 253) rfl ?_
  refine R.iconst X89 hx (hb hby at_253) (v := (2 : Int32)) (by decide) (pc' := 254) rfl ?_
  refine R.icmpNo X89 hx (hb hby at_254) (flt (by decide : ¬ ((3 : Int32) < (2 : Int32)))).1 (pc' := 257) rfl ?_
  refine R.iloadN X89 hx (hb hby at_257) rfl (pc' := 258) rfl ?_
  refine R.bipush X89 hx (hb hby at_258) (v := (8 : Int32)) (by decide) (pc' := 260) rfl ?_
  refine R.ishr X89 hx (hb hby at_260) (pc' := 261) rfl ?_
  refine R.i2b X89 hx (hb hby at_261) (pc' := 262) rfl ?_
  show Rn p e below (T89.setTop (mkF m 262 #[.val (.int p0), .val (.int p1), .val (.int p2), .val (.int p3), .val (.int (1 : Int32)), .val (.int (0 : Int32)), .val (.int (3 : Int32)), .val (.int ld), .val (.ref b4), .val (.ref b10), .val (.int i12), .val (.int i13), .val (.ref b87), .unset, .unset, .unset, .unset, .unset, .unset, .unset, .unset, .unset, .unset, .unset] [(.int ((p2 >>> ((8 : Int32) &&& 31)).toInt8.toInt32)), (.int (1 : Int32)), (.ref b87)])) G
  generalize hi90 : ((p2 >>> ((8 : Int32) &&& 31)).toInt8.toInt32) = i90
  have b_i90 := own_byte hi90
  refine R.goto X89 hx (hb hby at_262) (by decide) (pc' := 266) (by decide) ?_
  refine R.iastore X89 hx hZ e89 V_b87 (⟨by decide, by decide⟩ : ¬ (1 : Int32) < 0 ∧ (1 : Int32) < (3 : Int32)) (hb hby at_266) (pc' := 267) rfl ?_; intro T91 h91 X91 e91 W91 V91
  have V_b4 := V_b4.other W91 ne_b4_b87
  have V_b10 := V_b10.other W91 ne_b10_b87
  have V_b87 : Arh Z h91 b87 k87 .int (3 : Int32) [((1 : Int32), (.int i90)), ((0 : Int32), (.int i88))] [] (.int (0 : Int32)) := V91
  have N91 := Fr.snoc X91 N89 g_b87
  have K91 : Keep h0 h91 [] := K89.wr W91 (Or.inr sz_b87)
  have Z91 : n0 ≤ h91.size := Nat.le_trans Z89 (Keep.of_wr W91).1
  refine R.aload X91 hx (hb hby at_267) rfl rfl (pc' := 269) rfl ?_
  refine R.iconst X91 hx (hb hby at_269) (v := (2 : Int32)) (by decide) (pc' := 270) rfl ?_
  refine R.iload X91 hx (hb hby at_270) rfl (pc' := 272) rfl ?_
  refine R.iconst X91 hx (hb hby at_272) (v := (3 : Int32)) (by decide) (pc' := 273) rfl ?_
  refine R.icmpNo X91 hx (hb hby at_273) (flt (by decide : ¬ ((3 : Int32) < (3 : Int32)))).1 (pc' := 276) rfl ?_
  refine R.iloadN X91 hx (hb hby at_276) rfl (pc' := 277) rfl ?_
  refine R.bipush X91 hx (hb hby at_277) (v := (16 : Int32)) (by decide) (pc' := 279) rfl ?_
  refine R.ishr X91 hx (hb hby at_279) (pc' := 280) rfl ?_
  refine R.i2b X91 hx (hb hby at_280) (pc' := 281) rfl ?_
  show Rn p e below (T91.setTop (mkF m 281 #[.val (.int p0), .val (.int p1), .val (.int p2), .val (.int p3), .val (.int (1 : Int32)), .val (.int (0 : Int32)), .val (.int (3 : Int32)), .val (.int ld), .val (.ref b4), .val (.ref b10), .val (.int i12), .val (.int i13), .val (.ref b87), .unset, .unset, .unset, .unset, .unset, .unset, .unset, .unset, .unset, .unset, .unset] [(.int ((p2 >>> ((16 : Int32) &&& 31)).toInt8.toInt32)), (.int (2 : Int32)), (.ref b87)])) G
  generalize hi92 : ((p2 >>> ((16 : Int32) &&& 31)).toInt8.toInt32) = i92
  have b_i92 := own_byte hi92
  refine R.goto X91 hx (hb hby at_281) (by decide) (pc' := 285) (by decide) ?_
  refine R.iastore X91 hx hZ e91 V_b87 (⟨by decide, by decide⟩ : ¬ (2 : Int32) < 0 ∧ (2 : Int32) < (3 : Int32)) (hb hby at_285) (pc' := 286) rfl ?_; intro T93 h93 X93 e93 W93 V93
  have V_b4 := V_b4.other W93 ne_b4_b87
  have V_b10 := V_b10.other W93 ne_b10_b87
  have V_b87 : Arh Z h93 b87 k87 .int (3 : Int32) [((2 : Int32), (.int i92)), ((1 : Int32), (.int i90)), ((0 : Int32), (.int i88))] [] (.int (0 : Int32)) := V93
  have N93 := Fr.snoc X93 N91 g_b87
  have K93 : Keep h0 h93 [] := K91.wr W93 (Or.inr sz_b87)
  have Z93 : n0 ≤ h93.size := Nat.le_trans Z91 (Keep.of_wr W93).1
  refine R.iconst X93 hx (hb hby at_286) (v := (2 : Int32)) (by decide) (pc' := 287) rfl ?_
  refine R.newP X93 hx hZ (ty := .int) rfl w_0 e93 (by decide) (cap := 2) (by decide) (by decide) (ad := "[I") (by decide) (hb hby at_287) (pc' := 289) rfl (by decide) (by decide) ?_; intro T94 h94 b94 k94 g94 X94 e94 E94 EE94 AA94
  have g_b94 : n0 ≤ b94 := Nat.le_trans Z93 (Nat.le_of_eq g94.symm)
  have sz_b94 : h0.size ≤ b94 := Nat.le_trans K93.1 (Nat.le_of_eq g94.symm)
  have ne_b4_b94 : b4 ≠ b94 := Nat.ne_of_lt (Nat.lt_of_lt_of_le V_b4.lt (Nat.le_of_eq g94.symm))
  have ne_b10_b94 : b10 ≠ b94 := Nat.ne_of_lt (Nat.lt_of_lt_of_le V_b10.lt (Nat.le_of_eq g94.symm))
  have ne_b87_b94 : b87 ≠ b94 := Nat.ne_of_lt (Nat.lt_of_lt_of_le V_b87.lt (Nat.le_of_eq g94.symm))
  have K94 : Keep h0 h94 [] := K93.ext E94
  have Z94 : n0 ≤ h94.size := Nat.le_trans Z93 E94.1
  have V_b4 := V_b4.ext E94
  have V_b10 := V_b10.ext E94
  have V_b87 := V_b87.ext E94
  have V_b94 : Arh Z h94 b94 k94 .int (2 : Int32) [] [] (.int (0 : Int32)) := AA94
  refine R.astore X94 hx (hb hby at_289) rfl (L' := #[.val (.int p0), .val (.int p1), .val (.int p2), .val (.int p3), .val (.int (1 : Int32)), .val (.int (0 : Int32)), .val (.int (3 : Int32)), .val (.int ld), .val (.ref b4), .val (.ref b10), .val (.int i12), .val (.int i13), .val (.ref b87), .val (.ref b94), .unset, .unset, .unset, .unset, .unset, .unset, .unset, .unset, .unset, .unset]) rfl (pc' := 291) rfl ?_
  refine R.aload X94 hx (hb hby at_291) rfl rfl (pc' := 293) rfl ?_
  refine R.iconst X94 hx (hb hby at_293) (v := (0 : Int32)) (by decide) (pc' := 294) rfl ?_
  refine R.iload X94 hx (hb hby at_294) rfl (pc' := 296) rfl ?_
  refine R.ifYes X94 hx (hb hby at_296) (flt (by decide : ¬ ((0 : Int32) < (0 : Int32)))).2.2.2 (by decide) (pc' := 304) (by decide) ?_
  refine R.iconst X94 hx (hb hby at_304) (v := (0 : Int32)) (by decide) (pc' := 305) rfl ?_
  refine R.iastore X94 hx hZ e94 V_b94 (⟨by decide, by decide⟩ : ¬ (0 : Int32) < 0 ∧ (0 : Int32) < (2 : Int32)) (hb hby at_305) (pc' := 306) rfl ?_; intro T95 h95 X95 e95 W95 V95
  have V_b4 := V_b4.other W95 ne_b4_b94
  have V_b10 := V_b10.other W95 ne_b10_b94
  have V_b87 := V_b87.other W95 ne_b87_b94
  have V_b94 : Arh Z h95 b94 k94 .int (2 : Int32) [((0 : Int32), (.int (0 : Int32)))] [] (.int (0 : Int32)) := V95
  have N95 := Fr.snoc X95 N93 g_b94
  have K95 : Keep h0 h95 [] := K94.wr W95 (Or.inr sz_b94)
  have Z95 : n0 ≤ h95.size := Nat.le_trans Z94 (Keep.of_wr W95).1
  refine R.aload X95 hx (hb hby at_306) rfl rfl (pc' := 308) rfl ?_
  refine R.iconst X95 hx (hb hby at_308) (v := (1 : Int32)) (by decide) (pc' := 309) rfl ?_
  refine R.iload X95 hx (hb hby at_309) rfl (pc' := 311) rfl ?_
  refine R.iconst X95 hx (hb hby at_311) (v := (1 : Int32)) (by decide) (pc' := 312) rfl ?_
  refine R.icmpYes X95 hx (hb hby at_312) (flt (by decide : ¬ ((1 : Int32) < (0 : Int32)))).2.2.2 (by decide) (pc' := 320) (by decide) ?_
  refine R.iconst X95 hx (hb hby at_320) (v := (0 : Int32)) (by decide) (pc' := 321) rfl ?_
  refine R.iastore X95 hx hZ e95 V_b94 (⟨by decide, by decide⟩ : ¬ (1 : Int32) < 0 ∧ (1 : Int32) < (2 : Int32)) (hb hby at_321) (pc' := 322) rfl ?_; intro T96 h96 X96 e96 W96 V96
  have V_b4 := V_b4.other W96 ne_b4_b94
  have V_b10 := V_b10.other W96 ne_b10_b94
  have V_b87 := V_b87.other W96 ne_b87_b94
  have V_b94 : Arh Z h96 b94 k94 .int (2 : Int32) [((1 : Int32), (.int (0 : Int32))), ((0 : Int32), (.int (0 : Int32)))] [] (.int (0 : Int32)) := V96
  have N96 := Fr.snoc X96 N95 g_b94
  have K96 : Keep h0 h96 [] := K95.wr W96 (Or.inr sz_b94)
  have Z96 : n0 ≤ h96.size := Nat.le_trans Z95 (Keep.of_wr W96).1
  refine R.iload X96 hx (hb hby at_322) rfl (pc' := 324) rfl ?_
  refine R.iload X96 hx (hb hby at_324) rfl (pc' := 326) rfl ?_
  refine R.iadd X96 hx (hb hby at_326) (v := (3 : Int32)) (by decide) (pc' := 327) rfl ?_
  refine R.istore X96 hx (hb hby at_327) (L' := #[.val (.int p0), .val (.int p1), .val (.int p2), .val (.int p3), .val (.int (1 : Int32)), .val (.int (0 : Int32)), .val (.int (3 : Int32)), .val (.int ld), .val (.ref b4), .val (.ref b10), .val (.int i12), .val (.int i13), .val (.ref b87), .val (.ref b94), .val (.int (3 : Int32)), .unset, .unset, .unset, .unset, .unset, .unset, .unset, .unset, .unset]) rfl (pc' := 329) rfl ?_
  refine R.aload X96 hx (hb hby at_329) rfl rfl (pc' := 331) rfl ?_
  refine R.aload X96 hx (hb hby at_331) rfl rfl (pc' := 333) rfl ?_
  refine R.aload X96 hx (hb hby at_333) rfl rfl (pc' := 335) rfl ?_
  refine R.iconst X96 hx (hb hby at_335) (v := (0 : Int32)) (by decide) (pc' := 336) rfl ?_
  refine R.callS X96 hx hZ (y := mY3) hown w_10 w_11 w_8 w_12 (by decide) e96 (rmcf0 l Z aZ hw [] b87 b4 b94 k87 k4 k94 [((2 : Int32), (.int i92)), ((1 : Int32), (.int i90)), ((0 : Int32), (.int i88))] [((0 : Int32), (.int ld)), ((2 : Int32), (.int (0 : Int32))), ((1 : Int32), (.int (0 : Int32))), ((0 : Int32), (.int i5))] [((1 : Int32), (.int (0 : Int32))), ((0 : Int32), (.int (0 : Int32)))] i88 i90 i92 ld (0 : Int32) (0 : Int32) (0 : Int32) (0 : Int32) h96 n0 Z96 V_b87 V_b4 V_b94 (getH_miss (by decide) (by decide) (getH_miss (by decide) (by decide) (getH_hit (by decide) (rfl)))) (getH_miss (by decide) (by decide) (getH_hit (by decide) (rfl))) (getH_hit (by decide) (rfl)) (getH_hit (by decide) (rfl)) (getH_miss (by decide) (by decide) (getH_miss (by decide) (by decide) (getH_hit (by decide) (rfl)))) (getH_miss (by decide) (by decide) (getH_hit (by decide) (rfl))) (getH_miss (by decide) (by decide) (getH_hit (by decide) (rfl))) (getH_hit (by decide) (rfl))) (by decide) (W := 0) (Nat.le_of_eq rfl) (by decide) (by rw [hml]; rfl) (lenOf pd_3 rfl) rfl (hb hby at_336) (pc' := 339) rfl (by decide) (by decide) ?_; intro v97 T97 L97 X97 hQ97
  obtain ⟨rfl, N97q, e97⟩ := hQ97
  have N97 := Fr.app N96 N97q
  show Rn p e below (T97.setTop (mkF m 339 #[.val (.int p0), .val (.int p1), .val (.int p2), .val (.int p3), .val (.int (1 : Int32)), .val (.int (0 : Int32)), .val (.int (3 : Int32)), .val (.int ld), .val (.ref b4), .val (.ref b10), .val (.int i12), .val (.int i13), .val (.ref b87), .val (.ref b94), .val (.int (3 : Int32)), .unset, .unset, .unset, .unset, .unset, .unset, .unset, .unset, .unset] [(.int ((((i88 * ld) + (i90 * (0 : Int32))) + (i92 * (0 : Int32))) + (0 : Int32)))])) G
  generalize hi98 : ((((i88 * ld) + (i90 * (0 : Int32))) + (i92 * (0 : Int32))) + (0 : Int32)) = i98
  refine R.istore X97 hx (hb hby at_339) (L' := #[.val (.int p0), .val (.int p1), .val (.int p2), .val (.int p3), .val (.int (1 : Int32)), .val (.int (0 : Int32)), .val (.int (3 : Int32)), .val (.int ld), .val (.ref b4), .val (.ref b10), .val (.int i12), .val (.int i13), .val (.ref b87), .val (.ref b94), .val (.int (3 : Int32)), .val (.int i98), .unset, .unset, .unset, .unset, .unset, .unset, .unset, .unset]) rfl (pc' := 341) rfl ?_
  refine R.aload X97 hx (hb hby at_341) rfl rfl (pc' := 343) rfl ?_
  refine R.aload X97 hx (hb hby at_343) rfl rfl (pc' := 345) rfl ?_
  refine R.aload X97 hx (hb hby at_345) rfl rfl (pc' := 347) rfl ?_
  refine R.iconst X97 hx (hb hby at_347) (v := (1 : Int32)) (by decide) (pc' := 348) rfl ?_
  refine R.callS X97 hx hZ (y := mY3) hown w_10 w_11 w_8 w_12 (by decide) e97 (rmcf1 l Z aZ hw [] b87 b4 b94 k87 k4 k94 [((2 : Int32), (.int i92)), ((1 : Int32), (.int i90)), ((0 : Int32), (.int i88))] [((0 : Int32), (.int ld)), ((2 : Int32), (.int (0 : Int32))), ((1 : Int32), (.int (0 : Int32))), ((0 : Int32), (.int i5))] [((1 : Int32), (.int (0 : Int32))), ((0 : Int32), (.int (0 : Int32)))] i88 i90 i92 ld (0 : Int32) (0 : Int32) (0 : Int32) (0 : Int32) h96 n0 Z96 V_b87 V_b4 V_b94 (getH_miss (by decide) (by decide) (getH_miss (by decide) (by decide) (getH_hit (by decide) (rfl)))) (getH_miss (by decide) (by decide) (getH_hit (by decide) (rfl))) (getH_hit (by decide) (rfl)) (getH_hit (by decide) (rfl)) (getH_miss (by decide) (by decide) (getH_miss (by decide) (by decide) (getH_hit (by decide) (rfl)))) (getH_miss (by decide) (by decide) (getH_hit (by decide) (rfl))) (getH_miss (by decide) (by decide) (getH_hit (by decide) (rfl))) (getH_hit (by decide) (rfl))) (by decide) (W := 0) (Nat.le_of_eq rfl) (by decide) (by rw [hml]; rfl) (lenOf pd_3 rfl) rfl (hb hby at_348) (pc' := 351) rfl (by decide) (by decide) ?_; intro v99 T99 L99 X99 hQ99
  obtain ⟨rfl, N99q, e99⟩ := hQ99
  have N99 := Fr.app N97 N99q
  show Rn p e below (T99.setTop (mkF m 351 #[.val (.int p0), .val (.int p1), .val (.int p2), .val (.int p3), .val (.int (1 : Int32)), .val (.int (0 : Int32)), .val (.int (3 : Int32)), .val (.int ld), .val (.ref b4), .val (.ref b10), .val (.int i12), .val (.int i13), .val (.ref b87), .val (.ref b94), .val (.int (3 : Int32)), .val (.int i98), .unset, .unset, .unset, .unset, .unset, .unset, .unset, .unset] [(.int ((((i88 * (0 : Int32)) + (i90 * ld)) + (i92 * (0 : Int32))) + (0 : Int32)))])) G
  generalize hi100 : ((((i88 * (0 : Int32)) + (i90 * ld)) + (i92 * (0 : Int32))) + (0 : Int32)) = i100
  refine R.istore X99 hx (hb hby at_351) (L' := #[.val (.int p0), .val (.int p1), .val (.int p2), .val (.int p3), .val (.int (1 : Int32)), .val (.int (0 : Int32)), .val (.int (3 : Int32)), .val (.int ld), .val (.ref b4), .val (.ref b10), .val (.int i12), .val (.int i13), .val (.ref b87), .val (.ref b94), .val (.int (3 : Int32)), .val (.int i98), .val (.int i100), .unset, .unset, .unset, .unset, .unset, .unset, .unset]) rfl (pc' := 353) rfl ?_
  refine R.aload X99 hx (hb hby at_353) rfl rfl (pc' := 355) rfl ?_
  refine R.aload X99 hx (hb hby at_355) rfl rfl (pc' := 357) rfl ?_
  refine R.aload X99 hx (hb hby at_357) rfl rfl (pc' := 359) rfl ?_
  refine R.iconst X99 hx (hb hby at_359) (v := (2 : Int32)) (by decide) (pc' := 360) rfl ?_
  refine R.callS X99 hx hZ (y := mY3) hown w_10 w_11 w_8 w_12 (by decide) e99 (rmcf2 l Z aZ hw [] b87 b4 b94 k87 k4 k94 [((2 : Int32), (.int i92)), ((1 : Int32), (.int i90)), ((0 : Int32), (.int i88))] [((0 : Int32), (.int ld)), ((2 : Int32), (.int (0 : Int32))), ((1 : Int32), (.int (0 : Int32))), ((0 : Int32), (.int i5))] [((1 : Int32), (.int (0 : Int32))), ((0 : Int32), (.int (0 : Int32)))] i88 i90 i92 ld (0 : Int32) (0 : Int32) (0 : Int32) (0 : Int32) h96 n0 Z96 V_b87 V_b4 V_b94 (getH_miss (by decide) (by decide) (getH_miss (by decide) (by decide) (getH_hit (by decide) (rfl)))) (getH_miss (by decide) (by decide) (getH_hit (by decide) (rfl))) (getH_hit (by decide) (rfl)) (getH_hit (by decide) (rfl)) (getH_miss (by decide) (by decide) (getH_miss (by decide) (by decide) (getH_hit (by decide) (rfl)))) (getH_miss (by decide) (by decide) (getH_hit (by decide) (rfl))) (getH_miss (by decide) (by decide) (getH_hit (by decide) (rfl))) (getH_hit (by decide) (rfl))) (by decide) (W := 0) (Nat.le_of_eq rfl) (by decide) (by rw [hml]; rfl) (lenOf pd_3 rfl) rfl (hb hby at_360) (pc' := 363) rfl (by decide) (by decide) ?_; intro v101 T101 L101 X101 hQ101
  obtain ⟨rfl, N101q, e101⟩ := hQ101
  have N101 := Fr.app N99 N101q
  show Rn p e below (T101.setTop (mkF m 363 #[.val (.int p0), .val (.int p1), .val (.int p2), .val (.int p3), .val (.int (1 : Int32)), .val (.int (0 : Int32)), .val (.int (3 : Int32)), .val (.int ld), .val (.ref b4), .val (.ref b10), .val (.int i12), .val (.int i13), .val (.ref b87), .val (.ref b94), .val (.int (3 : Int32)), .val (.int i98), .val (.int i100), .unset, .unset, .unset, .unset, .unset, .unset, .unset] [(.int ((((i88 * (0 : Int32)) + (i90 * (0 : Int32))) + (i92 * ld)) + (0 : Int32)))])) G
  generalize hi102 : ((((i88 * (0 : Int32)) + (i90 * (0 : Int32))) + (i92 * ld)) + (0 : Int32)) = i102
  refine R.istore X101 hx (hb hby at_363) (L' := #[.val (.int p0), .val (.int p1), .val (.int p2), .val (.int p3), .val (.int (1 : Int32)), .val (.int (0 : Int32)), .val (.int (3 : Int32)), .val (.int ld), .val (.ref b4), .val (.ref b10), .val (.int i12), .val (.int i13), .val (.ref b87), .val (.ref b94), .val (.int (3 : Int32)), .val (.int i98), .val (.int i100), .val (.int i102), .unset, .unset, .unset, .unset, .unset, .unset]) rfl (pc' := 365) rfl ?_
  refine R.aload X101 hx (hb hby at_365) rfl rfl (pc' := 367) rfl ?_
  refine R.aload X101 hx (hb hby at_367) rfl rfl (pc' := 369) rfl ?_
  refine R.aload X101 hx (hb hby at_369) rfl rfl (pc' := 371) rfl ?_
  refine R.iconst X101 hx (hb hby at_371) (v := (3 : Int32)) (by decide) (pc' := 372) rfl ?_
  refine R.callS X101 hx hZ (y := mY3) hown w_10 w_11 w_8 w_12 (by decide) e101 (rmcf3 l Z aZ hw [] b87 b4 b94 k87 k4 k94 [((2 : Int32), (.int i92)), ((1 : Int32), (.int i90)), ((0 : Int32), (.int i88))] [((0 : Int32), (.int ld)), ((2 : Int32), (.int (0 : Int32))), ((1 : Int32), (.int (0 : Int32))), ((0 : Int32), (.int i5))] [((1 : Int32), (.int (0 : Int32))), ((0 : Int32), (.int (0 : Int32)))] i88 i90 i92 ld (0 : Int32) (0 : Int32) (0 : Int32) (0 : Int32) h96 n0 Z96 V_b87 V_b4 V_b94 (getH_miss (by decide) (by decide) (getH_miss (by decide) (by decide) (getH_hit (by decide) (rfl)))) (getH_miss (by decide) (by decide) (getH_hit (by decide) (rfl))) (getH_hit (by decide) (rfl)) (getH_hit (by decide) (rfl)) (getH_miss (by decide) (by decide) (getH_miss (by decide) (by decide) (getH_hit (by decide) (rfl)))) (getH_miss (by decide) (by decide) (getH_hit (by decide) (rfl))) (getH_miss (by decide) (by decide) (getH_hit (by decide) (rfl))) (getH_hit (by decide) (rfl))) (by decide) (W := 0) (Nat.le_of_eq rfl) (by decide) (by rw [hml]; rfl) (lenOf pd_3 rfl) rfl (hb hby at_372) (pc' := 375) rfl (by decide) (by decide) ?_; intro v103 T103 L103 X103 hQ103
  obtain ⟨rfl, N103q, e103⟩ := hQ103
  have N103 := Fr.app N101 N103q
  show Rn p e below (T103.setTop (mkF m 375 #[.val (.int p0), .val (.int p1), .val (.int p2), .val (.int p3), .val (.int (1 : Int32)), .val (.int (0 : Int32)), .val (.int (3 : Int32)), .val (.int ld), .val (.ref b4), .val (.ref b10), .val (.int i12), .val (.int i13), .val (.ref b87), .val (.ref b94), .val (.int (3 : Int32)), .val (.int i98), .val (.int i100), .val (.int i102), .unset, .unset, .unset, .unset, .unset, .unset] [(.int ((((i88 * (0 : Int32)) + (i90 * (0 : Int32))) + (i92 * (0 : Int32))) + (0 : Int32)))])) G
  generalize hi104 : ((((i88 * (0 : Int32)) + (i90 * (0 : Int32))) + (i92 * (0 : Int32))) + (0 : Int32)) = i104
  refine R.istore X103 hx (hb hby at_375) (L' := #[.val (.int p0), .val (.int p1), .val (.int p2), .val (.int p3), .val (.int (1 : Int32)), .val (.int (0 : Int32)), .val (.int (3 : Int32)), .val (.int ld), .val (.ref b4), .val (.ref b10), .val (.int i12), .val (.int i13), .val (.ref b87), .val (.ref b94), .val (.int (3 : Int32)), .val (.int i98), .val (.int i100), .val (.int i102), .val (.int i104), .unset, .unset, .unset, .unset, .unset]) rfl (pc' := 377) rfl ?_
  refine R.aload X103 hx (hb hby at_377) rfl rfl (pc' := 379) rfl ?_
  refine R.aload X103 hx (hb hby at_379) rfl rfl (pc' := 381) rfl ?_
  refine R.aload X103 hx (hb hby at_381) rfl rfl (pc' := 383) rfl ?_
  refine R.iconst X103 hx (hb hby at_383) (v := (4 : Int32)) (by decide) (pc' := 384) rfl ?_
  refine R.callS X103 hx hZ (y := mY3) hown w_10 w_11 w_8 w_12 (by decide) e103 (rmcf4 l Z aZ hw [] b87 b4 b94 k87 k4 k94 [((2 : Int32), (.int i92)), ((1 : Int32), (.int i90)), ((0 : Int32), (.int i88))] [((0 : Int32), (.int ld)), ((2 : Int32), (.int (0 : Int32))), ((1 : Int32), (.int (0 : Int32))), ((0 : Int32), (.int i5))] [((1 : Int32), (.int (0 : Int32))), ((0 : Int32), (.int (0 : Int32)))] i88 i90 i92 ld (0 : Int32) (0 : Int32) (0 : Int32) (0 : Int32) h96 n0 Z96 V_b87 V_b4 V_b94 (getH_miss (by decide) (by decide) (getH_miss (by decide) (by decide) (getH_hit (by decide) (rfl)))) (getH_miss (by decide) (by decide) (getH_hit (by decide) (rfl))) (getH_hit (by decide) (rfl)) (getH_hit (by decide) (rfl)) (getH_miss (by decide) (by decide) (getH_miss (by decide) (by decide) (getH_hit (by decide) (rfl)))) (getH_miss (by decide) (by decide) (getH_hit (by decide) (rfl))) (getH_miss (by decide) (by decide) (getH_hit (by decide) (rfl))) (getH_hit (by decide) (rfl))) (by decide) (W := 0) (Nat.le_of_eq rfl) (by decide) (by rw [hml]; rfl) (lenOf pd_3 rfl) rfl (hb hby at_384) (pc' := 387) rfl (by decide) (by decide) ?_; intro v105 T105 L105 X105 hQ105
  obtain ⟨rfl, N105q, e105⟩ := hQ105
  have N105 := Fr.app N103 N105q
  show Rn p e below (T105.setTop (mkF m 387 #[.val (.int p0), .val (.int p1), .val (.int p2), .val (.int p3), .val (.int (1 : Int32)), .val (.int (0 : Int32)), .val (.int (3 : Int32)), .val (.int ld), .val (.ref b4), .val (.ref b10), .val (.int i12), .val (.int i13), .val (.ref b87), .val (.ref b94), .val (.int (3 : Int32)), .val (.int i98), .val (.int i100), .val (.int i102), .val (.int i104), .unset, .unset, .unset, .unset, .unset] [(.int ((((i88 * (0 : Int32)) + (i90 * (0 : Int32))) + (i92 * (0 : Int32))) + (0 : Int32)))])) G
  generalize hi106 : ((((i88 * (0 : Int32)) + (i90 * (0 : Int32))) + (i92 * (0 : Int32))) + (0 : Int32)) = i106
  refine R.istore X105 hx (hb hby at_387) (L' := #[.val (.int p0), .val (.int p1), .val (.int p2), .val (.int p3), .val (.int (1 : Int32)), .val (.int (0 : Int32)), .val (.int (3 : Int32)), .val (.int ld), .val (.ref b4), .val (.ref b10), .val (.int i12), .val (.int i13), .val (.ref b87), .val (.ref b94), .val (.int (3 : Int32)), .val (.int i98), .val (.int i100), .val (.int i102), .val (.int i104), .val (.int i106), .unset, .unset, .unset, .unset]) rfl (pc' := 389) rfl ?_
  have tc0 := own_cf (b_i88 : i88.toInt.natAbs ≤ 128) (bl : ld.toInt.natAbs ≤ 128) (b_i90 : i90.toInt.natAbs ≤ 128) (own_z0 : (0 : Int32).toInt.natAbs ≤ 128) (b_i92 : i92.toInt.natAbs ≤ 128) (own_z0 : (0 : Int32).toInt.natAbs ≤ 128) (own_z0 : (0 : Int32).toInt.natAbs ≤ 128) hi98
  simp only [own_zi, Int.zero_mul, Int.mul_zero, Int.add_zero, Int.zero_add] at tc0
  have tc1 := own_cf (b_i88 : i88.toInt.natAbs ≤ 128) (own_z0 : (0 : Int32).toInt.natAbs ≤ 128) (b_i90 : i90.toInt.natAbs ≤ 128) (bl : ld.toInt.natAbs ≤ 128) (b_i92 : i92.toInt.natAbs ≤ 128) (own_z0 : (0 : Int32).toInt.natAbs ≤ 128) (own_z0 : (0 : Int32).toInt.natAbs ≤ 128) hi100
  simp only [own_zi, Int.zero_mul, Int.mul_zero, Int.add_zero, Int.zero_add] at tc1
  have tc2 := own_cf (b_i88 : i88.toInt.natAbs ≤ 128) (own_z0 : (0 : Int32).toInt.natAbs ≤ 128) (b_i90 : i90.toInt.natAbs ≤ 128) (own_z0 : (0 : Int32).toInt.natAbs ≤ 128) (b_i92 : i92.toInt.natAbs ≤ 128) (bl : ld.toInt.natAbs ≤ 128) (own_z0 : (0 : Int32).toInt.natAbs ≤ 128) hi102
  simp only [own_zi, Int.zero_mul, Int.mul_zero, Int.add_zero, Int.zero_add] at tc2
  have tc3 := own_cf (b_i88 : i88.toInt.natAbs ≤ 128) (own_z0 : (0 : Int32).toInt.natAbs ≤ 128) (b_i90 : i90.toInt.natAbs ≤ 128) (own_z0 : (0 : Int32).toInt.natAbs ≤ 128) (b_i92 : i92.toInt.natAbs ≤ 128) (own_z0 : (0 : Int32).toInt.natAbs ≤ 128) (own_z0 : (0 : Int32).toInt.natAbs ≤ 128) hi104
  simp only [own_zi, Int.zero_mul, Int.mul_zero, Int.add_zero, Int.zero_add] at tc3
  have tc4 := own_cf (b_i88 : i88.toInt.natAbs ≤ 128) (own_z0 : (0 : Int32).toInt.natAbs ≤ 128) (b_i90 : i90.toInt.natAbs ≤ 128) (own_z0 : (0 : Int32).toInt.natAbs ≤ 128) (b_i92 : i92.toInt.natAbs ≤ 128) (own_z0 : (0 : Int32).toInt.natAbs ≤ 128) (own_z0 : (0 : Int32).toInt.natAbs ≤ 128) hi106
  simp only [own_zi, Int.zero_mul, Int.mul_zero, Int.add_zero, Int.zero_add] at tc4
  refine R.iload X105 hx (hb hby at_389) rfl (pc' := 391) rfl ?_
  refine R.newP X105 hx hZ (ty := .double) rfl w_1 e105 (by decide) (cap := 3) (by decide) (by decide) (ad := "[D") (by decide) (hb hby at_391) (pc' := 393) rfl (by decide) (by decide) ?_; intro T107 h107 b107 k107 g107 X107 e107 E107 EE107 AA107
  have g_b107 : n0 ≤ b107 := Nat.le_trans Z96 (Nat.le_of_eq g107.symm)
  have sz_b107 : h0.size ≤ b107 := Nat.le_trans K96.1 (Nat.le_of_eq g107.symm)
  have ne_b4_b107 : b4 ≠ b107 := Nat.ne_of_lt (Nat.lt_of_lt_of_le V_b4.lt (Nat.le_of_eq g107.symm))
  have ne_b10_b107 : b10 ≠ b107 := Nat.ne_of_lt (Nat.lt_of_lt_of_le V_b10.lt (Nat.le_of_eq g107.symm))
  have ne_b87_b107 : b87 ≠ b107 := Nat.ne_of_lt (Nat.lt_of_lt_of_le V_b87.lt (Nat.le_of_eq g107.symm))
  have ne_b94_b107 : b94 ≠ b107 := Nat.ne_of_lt (Nat.lt_of_lt_of_le V_b94.lt (Nat.le_of_eq g107.symm))
  have K107 : Keep h0 h107 [] := K96.ext E107
  have Z107 : n0 ≤ h107.size := Nat.le_trans Z96 E107.1
  have V_b4 := V_b4.ext E107
  have V_b10 := V_b10.ext E107
  have V_b87 := V_b87.ext E107
  have V_b94 := V_b94.ext E107
  have E_b107 : Exa Z h107 b107 "[D" := EE107
  have V_b107 : Arh Z h107 b107 k107 .double (3 : Int32) [] [] (.double (0 : UInt64)) := AA107
  refine R.astore X107 hx (hb hby at_393) rfl (L' := #[.val (.int p0), .val (.int p1), .val (.int p2), .val (.int p3), .val (.int (1 : Int32)), .val (.int (0 : Int32)), .val (.int (3 : Int32)), .val (.int ld), .val (.ref b4), .val (.ref b10), .val (.int i12), .val (.int i13), .val (.ref b87), .val (.ref b94), .val (.int (3 : Int32)), .val (.int i98), .val (.int i100), .val (.int i102), .val (.int i104), .val (.int i106), .val (.ref b107), .unset, .unset, .unset]) rfl (pc' := 395) rfl ?_
  refine R.iload X107 hx (hb hby at_395) rfl (pc' := 397) rfl ?_
  refine R.ifNo X107 hx (hb hby at_397) (tlt (by decide : (0 : Int32) < (3 : Int32))).2.2.2 (pc' := 400) rfl ?_
  refine R.aload X107 hx (hb hby at_400) rfl rfl (pc' := 402) rfl ?_
  refine R.iconst X107 hx (hb hby at_402) (v := (0 : Int32)) (by decide) (pc' := 403) rfl ?_
  refine R.iload X107 hx (hb hby at_403) rfl (pc' := 405) rfl ?_
  refine R.i2d X107 hx (hb hby at_405) (pc' := 406) rfl ?_
  refine R.dastore X107 hx hZ e107 V_b107 (⟨by decide, by decide⟩ : ¬ (0 : Int32) < 0 ∧ (0 : Int32) < (3 : Int32)) (hb hby at_406) (pc' := 407) rfl ?_; intro T108 h108 X108 e108 W108 V108
  have V_b4 := V_b4.other W108 ne_b4_b107
  have V_b10 := V_b10.other W108 ne_b10_b107
  have V_b87 := V_b87.other W108 ne_b87_b107
  have V_b94 := V_b94.other W108 ne_b94_b107
  have E_b107 := E_b107.wr W108
  have V_b107 : Arh Z h108 b107 k107 .double (3 : Int32) [((0 : Int32), (.double (FP.i2d i98)))] [] (.double (0 : UInt64)) := V108
  have N108 := Fr.snoc X108 N105 g_b107
  have K108 : Keep h0 h108 [] := K107.wr W108 (Or.inr sz_b107)
  have Z108 : n0 ≤ h108.size := Nat.le_trans Z107 (Keep.of_wr W108).1
  refine R.iload X108 hx (hb hby at_407) rfl (pc' := 409) rfl ?_
  refine R.iconst X108 hx (hb hby at_409) (v := (1 : Int32)) (by decide) (pc' := 410) rfl ?_
  refine R.icmpNo X108 hx (hb hby at_410) (tlt (by decide : (1 : Int32) < (3 : Int32))).2.2.2 (pc' := 413) rfl ?_
  refine R.aload X108 hx (hb hby at_413) rfl rfl (pc' := 415) rfl ?_
  refine R.iconst X108 hx (hb hby at_415) (v := (1 : Int32)) (by decide) (pc' := 416) rfl ?_
  refine R.iload X108 hx (hb hby at_416) rfl (pc' := 418) rfl ?_
  refine R.i2d X108 hx (hb hby at_418) (pc' := 419) rfl ?_
  refine R.dastore X108 hx hZ e108 V_b107 (⟨by decide, by decide⟩ : ¬ (1 : Int32) < 0 ∧ (1 : Int32) < (3 : Int32)) (hb hby at_419) (pc' := 420) rfl ?_; intro T109 h109 X109 e109 W109 V109
  have V_b4 := V_b4.other W109 ne_b4_b107
  have V_b10 := V_b10.other W109 ne_b10_b107
  have V_b87 := V_b87.other W109 ne_b87_b107
  have V_b94 := V_b94.other W109 ne_b94_b107
  have E_b107 := E_b107.wr W109
  have V_b107 : Arh Z h109 b107 k107 .double (3 : Int32) [((1 : Int32), (.double (FP.i2d i100))), ((0 : Int32), (.double (FP.i2d i98)))] [] (.double (0 : UInt64)) := V109
  have N109 := Fr.snoc X109 N108 g_b107
  have K109 : Keep h0 h109 [] := K108.wr W109 (Or.inr sz_b107)
  have Z109 : n0 ≤ h109.size := Nat.le_trans Z108 (Keep.of_wr W109).1
  refine R.iload X109 hx (hb hby at_420) rfl (pc' := 422) rfl ?_
  refine R.iconst X109 hx (hb hby at_422) (v := (2 : Int32)) (by decide) (pc' := 423) rfl ?_
  refine R.icmpNo X109 hx (hb hby at_423) (tlt (by decide : (2 : Int32) < (3 : Int32))).2.2.2 (pc' := 426) rfl ?_
  refine R.aload X109 hx (hb hby at_426) rfl rfl (pc' := 428) rfl ?_
  refine R.iconst X109 hx (hb hby at_428) (v := (2 : Int32)) (by decide) (pc' := 429) rfl ?_
  refine R.iload X109 hx (hb hby at_429) rfl (pc' := 431) rfl ?_
  refine R.i2d X109 hx (hb hby at_431) (pc' := 432) rfl ?_
  refine R.dastore X109 hx hZ e109 V_b107 (⟨by decide, by decide⟩ : ¬ (2 : Int32) < 0 ∧ (2 : Int32) < (3 : Int32)) (hb hby at_432) (pc' := 433) rfl ?_; intro T110 h110 X110 e110 W110 V110
  have V_b4 := V_b4.other W110 ne_b4_b107
  have V_b10 := V_b10.other W110 ne_b10_b107
  have V_b87 := V_b87.other W110 ne_b87_b107
  have V_b94 := V_b94.other W110 ne_b94_b107
  have E_b107 := E_b107.wr W110
  have V_b107 : Arh Z h110 b107 k107 .double (3 : Int32) [((2 : Int32), (.double (FP.i2d i102))), ((1 : Int32), (.double (FP.i2d i100))), ((0 : Int32), (.double (FP.i2d i98)))] [] (.double (0 : UInt64)) := V110
  have N110 := Fr.snoc X110 N109 g_b107
  have K110 : Keep h0 h110 [] := K109.wr W110 (Or.inr sz_b107)
  have Z110 : n0 ≤ h110.size := Nat.le_trans Z109 (Keep.of_wr W110).1
  refine R.iload X110 hx (hb hby at_433) rfl (pc' := 435) rfl ?_
  refine R.iconst X110 hx (hb hby at_435) (v := (3 : Int32)) (by decide) (pc' := 436) rfl ?_
  refine R.icmpYes X110 hx (hb hby at_436) (flt (by decide : ¬ ((3 : Int32) < (3 : Int32)))).2.2.2 (by decide) (pc' := 446) (by decide) ?_
  refine R.iload X110 hx (hb hby at_446) rfl (pc' := 448) rfl ?_
  refine R.iconst X110 hx (hb hby at_448) (v := (4 : Int32)) (by decide) (pc' := 449) rfl ?_
  refine R.icmpYes X110 hx (hb hby at_449) (flt (by decide : ¬ ((4 : Int32) < (3 : Int32)))).2.2.2 (by decide) (pc' := 459) (by decide) ?_
  refine R.aload X110 hx (hb hby at_459) rfl rfl (pc' := 461) rfl ?_
  refine R.aload X110 hx (hb hby at_461) rfl rfl (pc' := 463) rfl ?_
  refine R.callS X110 hx hZ (y := mY1) hown w_2 w_3 w_4 w_5 (by decide) e110 (rmqq13 l Z aZ hw [] b107 b10 k107 k10 [((2 : Int32), (.double (FP.i2d i102))), ((1 : Int32), (.double (FP.i2d i100))), ((0 : Int32), (.double (FP.i2d i98)))] [((0 : Int32), (.double (FP.i2d ld)))] (FP.i2d i98) (FP.i2d i100) (FP.i2d i102) (FP.i2d ld) i98.toInt i100.toInt i102.toInt ld.toInt i88.toInt i90.toInt i92.toInt h110 n0 Z110 V_b107 E_b107 V_b10 (getH_miss (by decide) (by decide) (getH_miss (by decide) (by decide) (getH_hit (by decide) (rfl)))) (Dy.i2d _) (getH_miss (by decide) (by decide) (getH_hit (by decide) (rfl))) (Dy.i2d _) (getH_hit (by decide) (rfl)) (Dy.i2d _) (getH_hit (by decide) (rfl)) (Dy.i2d _) (tc0) (tc1) (tc2) (nl) (bl) (b_i88) (b_i90) (b_i92)) (by decide) (W := 0) (Nat.le_of_eq rfl) (by decide) (by rw [hml]; rfl) (lenOf pd_1 rfl) rfl (hb hby at_463) (pc' := 466) rfl (by decide) (by decide) ?_; intro v111 T111 L111 X111 hQ111
  obtain ⟨r_111, kr_111, hr_111, rfl, N111q, Kc111, P111_0, P111_1, P111_2, P111_3, P111_4⟩ := hQ111
  have N111 := Fr.app N110 N111q
  generalize e111 : T111.heap = h111 at Kc111 P111_0 P111_1 P111_2 P111_3 P111_4
  have K111 : Keep h0 h111 [] := K110.trans Kc111 (all0)
  have Z111 : n0 ≤ h111.size := Nat.le_trans Z110 Kc111.1
  have ne_b4_r_111 : b4 ≠ r_111 := Nat.ne_of_lt (Nat.lt_of_lt_of_le V_b4.lt P111_0)
  have ne_b10_r_111 : b10 ≠ r_111 := Nat.ne_of_lt (Nat.lt_of_lt_of_le V_b10.lt P111_0)
  have ne_b87_r_111 : b87 ≠ r_111 := Nat.ne_of_lt (Nat.lt_of_lt_of_le V_b87.lt P111_0)
  have ne_b94_r_111 : b94 ≠ r_111 := Nat.ne_of_lt (Nat.lt_of_lt_of_le V_b94.lt P111_0)
  have ne_b107_r_111 : b107 ≠ r_111 := Nat.ne_of_lt (Nat.lt_of_lt_of_le E_b107.lt P111_0)
  have g_r_111 : n0 ≤ r_111 := Nat.le_trans Z110 P111_0
  have sz_r_111 : h0.size ≤ r_111 := Nat.le_trans K110.1 P111_0
  have V_b4 := V_b4.keep Kc111 nin0
  have V_b10 := V_b10.keep Kc111 nin0
  have V_b87 := V_b87.keep Kc111 nin0
  have V_b94 := V_b94.keep Kc111 nin0
  have E_b107 := E_b107.keep Kc111
  have V_b107 := V_b107.keep Kc111 nin0
  have fresh_111 := P111_0
  have V_r_111 : Arh Z h111 r_111 kr_111 .double (3 : Int32) hr_111 [] (.double (0 : UInt64)) := P111_1
  have V_r_111 : Arh Z h111 r_111 kr_111 .double (3 : Int32) hr_111 [] (.double (0 : UInt64)) := V_r_111
  have c0_111 := P111_2
  have c1_111 := P111_3
  have c2_111 := P111_4
  refine R.astore X111 hx (hb hby at_466) rfl (L' := #[.val (.int p0), .val (.int p1), .val (.int p2), .val (.int p3), .val (.int (1 : Int32)), .val (.int (0 : Int32)), .val (.int (3 : Int32)), .val (.int ld), .val (.ref b4), .val (.ref b10), .val (.int i12), .val (.int i13), .val (.ref b87), .val (.ref b94), .val (.int (3 : Int32)), .val (.int i98), .val (.int i100), .val (.int i102), .val (.int i104), .val (.int i106), .val (.ref b107), .val (.ref r_111), .unset, .unset]) rfl (pc' := 468) rfl ?_
  refine R.aload X111 hx (hb hby at_468) rfl rfl (pc' := 470) rfl ?_
  refine R.alen X111 hx hZ e111 V_r_111 (hb hby at_470) (pc' := 471) rfl ?_
  refine R.iload X111 hx (hb hby at_471) rfl (pc' := 473) rfl ?_
  refine R.icmpNo X111 hx (hb hby at_473) (teq (by decide : (3 : Int32) = (3 : Int32))).2 (pc' := 476) rfl ?_
  refine R.aload X111 hx (hb hby at_476) rfl rfl (pc' := 478) rfl ?_
  refine R.iconst X111 hx (hb hby at_478) (v := (0 : Int32)) (by decide) (pc' := 479) rfl ?_
  refine R.aload X111 hx (hb hby at_479) rfl rfl (pc' := 481) rfl ?_
  refine R.callS X111 hx hZ (y := mY4) hown w_25 w_26 w_8 w_27 (by decide) e111 (rm5 l Z aZ hw [] r_111 (0 : Int32) b87 kr_111 (3 : Int32) hr_111 k87 [((2 : Int32), (.int i92)), ((1 : Int32), (.int i90)), ((0 : Int32), (.int i88))] i88 h111 n0 Z111 V_r_111 V_b87 (by decide) (getH_miss (by decide) (by decide) (getH_miss (by decide) (by decide) (getH_hit (by decide) (rfl)))) (fun _ => c0_111)) (by decide) (W := 0) (Nat.le_of_eq rfl) (by decide) (by rw [hml]; rfl) (lenOf pd_4 rfl) rfl (hb hby at_481) (pc' := 484) rfl (by decide) (by decide) ?_; intro v112 T112 L112 X112 hQ112
  obtain ⟨rfl, N112q, e112⟩ := hQ112
  have N112 := Fr.app N111 N112q
  refine R.ifNo X112 hx (hb hby at_484) (feq (by decide : ¬ ((1 : Int32) = (0 : Int32)))).1 (pc' := 487) rfl ?_
  refine R.aload X112 hx (hb hby at_487) rfl rfl (pc' := 489) rfl ?_
  refine R.iconst X112 hx (hb hby at_489) (v := (1 : Int32)) (by decide) (pc' := 490) rfl ?_
  refine R.aload X112 hx (hb hby at_490) rfl rfl (pc' := 492) rfl ?_
  refine R.callS X112 hx hZ (y := mY4) hown w_25 w_26 w_8 w_27 (by decide) e112 (rm5 l Z aZ hw [] r_111 (1 : Int32) b87 kr_111 (3 : Int32) hr_111 k87 [((2 : Int32), (.int i92)), ((1 : Int32), (.int i90)), ((0 : Int32), (.int i88))] i90 h111 n0 Z111 V_r_111 V_b87 (by decide) (getH_miss (by decide) (by decide) (getH_hit (by decide) (rfl))) (fun _ => c1_111)) (by decide) (W := 0) (Nat.le_of_eq rfl) (by decide) (by rw [hml]; rfl) (lenOf pd_4 rfl) rfl (hb hby at_492) (pc' := 495) rfl (by decide) (by decide) ?_; intro v113 T113 L113 X113 hQ113
  obtain ⟨rfl, N113q, e113⟩ := hQ113
  have N113 := Fr.app N112 N113q
  refine R.ifNo X113 hx (hb hby at_495) (feq (by decide : ¬ ((1 : Int32) = (0 : Int32)))).1 (pc' := 498) rfl ?_
  refine R.aload X113 hx (hb hby at_498) rfl rfl (pc' := 500) rfl ?_
  refine R.iconst X113 hx (hb hby at_500) (v := (2 : Int32)) (by decide) (pc' := 501) rfl ?_
  refine R.aload X113 hx (hb hby at_501) rfl rfl (pc' := 503) rfl ?_
  refine R.callS X113 hx hZ (y := mY4) hown w_25 w_26 w_8 w_27 (by decide) e113 (rm5 l Z aZ hw [] r_111 (2 : Int32) b87 kr_111 (3 : Int32) hr_111 k87 [((2 : Int32), (.int i92)), ((1 : Int32), (.int i90)), ((0 : Int32), (.int i88))] i92 h111 n0 Z111 V_r_111 V_b87 (by decide) (getH_hit (by decide) (rfl)) (fun _ => c2_111)) (by decide) (W := 0) (Nat.le_of_eq rfl) (by decide) (by rw [hml]; rfl) (lenOf pd_4 rfl) rfl (hb hby at_503) (pc' := 506) rfl (by decide) (by decide) ?_; intro v114 T114 L114 X114 hQ114
  obtain ⟨rfl, N114q, e114⟩ := hQ114
  have N114 := Fr.app N113 N114q
  refine R.ifNo X114 hx (hb hby at_506) (feq (by decide : ¬ ((1 : Int32) = (0 : Int32)))).1 (pc' := 509) rfl ?_
  refine R.iconst X114 hx (hb hby at_509) (v := (1 : Int32)) (by decide) (pc' := 510) rfl ?_
  refine R.goto X114 hx (hb hby at_510) (by decide) (pc' := 514) (by decide) ?_
  refine R.istore X114 hx (hb hby at_514) (L' := #[.val (.int p0), .val (.int p1), .val (.int p2), .val (.int p3), .val (.int (1 : Int32)), .val (.int (0 : Int32)), .val (.int (3 : Int32)), .val (.int ld), .val (.ref b4), .val (.ref b10), .val (.int i12), .val (.int i13), .val (.ref b87), .val (.ref b94), .val (.int (3 : Int32)), .val (.int i98), .val (.int i100), .val (.int i102), .val (.int i104), .val (.int i106), .val (.ref b107), .val (.ref r_111), .val (.int (1 : Int32)), .unset]) rfl (pc' := 516) rfl ?_
  refine R.aload X114 hx (hb hby at_516) rfl rfl (pc' := 518) rfl ?_
  refine R.iconst X114 hx (hb hby at_518) (v := (0 : Int32)) (by decide) (pc' := 519) rfl ?_
  refine R.iload X114 hx (hb hby at_519) rfl (pc' := 521) rfl ?_
  refine R.callS X114 hx hZ (y := mY2) hown w_6 w_7 w_8 w_9 (by decide) e114 (rm2 l Z aZ hw [] b107 (0 : Int32) i98 k107 (3 : Int32) [((2 : Int32), (.double (FP.i2d i102))), ((1 : Int32), (.double (FP.i2d i100))), ((0 : Int32), (.double (FP.i2d i98)))] h111 n0 Z111 V_b107 (by decide) (fun _ => getH_miss (by decide) (by decide) (getH_miss (by decide) (by decide) (getH_hit (by decide) (rfl))))) (by decide) (W := 0) (Nat.le_of_eq rfl) (by decide) (by rw [hml]; rfl) (lenOf pd_2 rfl) rfl (hb hby at_521) (pc' := 524) rfl (by decide) (by decide) ?_; intro v115 T115 L115 X115 hQ115
  obtain ⟨rfl, N115q, e115⟩ := hQ115
  have N115 := Fr.app N114 N115q
  refine R.ifNo X115 hx (hb hby at_524) (feq (by decide : ¬ ((1 : Int32) = (0 : Int32)))).1 (pc' := 527) rfl ?_
  refine R.aload X115 hx (hb hby at_527) rfl rfl (pc' := 529) rfl ?_
  refine R.iconst X115 hx (hb hby at_529) (v := (1 : Int32)) (by decide) (pc' := 530) rfl ?_
  refine R.iload X115 hx (hb hby at_530) rfl (pc' := 532) rfl ?_
  refine R.callS X115 hx hZ (y := mY2) hown w_6 w_7 w_8 w_9 (by decide) e115 (rm2 l Z aZ hw [] b107 (1 : Int32) i100 k107 (3 : Int32) [((2 : Int32), (.double (FP.i2d i102))), ((1 : Int32), (.double (FP.i2d i100))), ((0 : Int32), (.double (FP.i2d i98)))] h111 n0 Z111 V_b107 (by decide) (fun _ => getH_miss (by decide) (by decide) (getH_hit (by decide) (rfl)))) (by decide) (W := 0) (Nat.le_of_eq rfl) (by decide) (by rw [hml]; rfl) (lenOf pd_2 rfl) rfl (hb hby at_532) (pc' := 535) rfl (by decide) (by decide) ?_; intro v116 T116 L116 X116 hQ116
  obtain ⟨rfl, N116q, e116⟩ := hQ116
  have N116 := Fr.app N115 N116q
  refine R.ifNo X116 hx (hb hby at_535) (feq (by decide : ¬ ((1 : Int32) = (0 : Int32)))).1 (pc' := 538) rfl ?_
  refine R.aload X116 hx (hb hby at_538) rfl rfl (pc' := 540) rfl ?_
  refine R.iconst X116 hx (hb hby at_540) (v := (2 : Int32)) (by decide) (pc' := 541) rfl ?_
  refine R.iload X116 hx (hb hby at_541) rfl (pc' := 543) rfl ?_
  refine R.callS X116 hx hZ (y := mY2) hown w_6 w_7 w_8 w_9 (by decide) e116 (rm2 l Z aZ hw [] b107 (2 : Int32) i102 k107 (3 : Int32) [((2 : Int32), (.double (FP.i2d i102))), ((1 : Int32), (.double (FP.i2d i100))), ((0 : Int32), (.double (FP.i2d i98)))] h111 n0 Z111 V_b107 (by decide) (fun _ => getH_hit (by decide) (rfl))) (by decide) (W := 0) (Nat.le_of_eq rfl) (by decide) (by rw [hml]; rfl) (lenOf pd_2 rfl) rfl (hb hby at_543) (pc' := 546) rfl (by decide) (by decide) ?_; intro v117 T117 L117 X117 hQ117
  obtain ⟨rfl, N117q, e117⟩ := hQ117
  have N117 := Fr.app N116 N117q
  refine R.ifNo X117 hx (hb hby at_546) (feq (by decide : ¬ ((1 : Int32) = (0 : Int32)))).1 (pc' := 549) rfl ?_
  refine R.aload X117 hx (hb hby at_549) rfl rfl (pc' := 551) rfl ?_
  refine R.iconst X117 hx (hb hby at_551) (v := (3 : Int32)) (by decide) (pc' := 552) rfl ?_
  refine R.iload X117 hx (hb hby at_552) rfl (pc' := 554) rfl ?_
  refine R.callS X117 hx hZ (y := mY2) hown w_6 w_7 w_8 w_9 (by decide) e117 (rm2 l Z aZ hw [] b107 (3 : Int32) i104 k107 (3 : Int32) [((2 : Int32), (.double (FP.i2d i102))), ((1 : Int32), (.double (FP.i2d i100))), ((0 : Int32), (.double (FP.i2d i98)))] h111 n0 Z111 V_b107 (by decide) (fun q => absurd q (by decide))) (by decide) (W := 0) (Nat.le_of_eq rfl) (by decide) (by rw [hml]; rfl) (lenOf pd_2 rfl) rfl (hb hby at_554) (pc' := 557) rfl (by decide) (by decide) ?_; intro v118 T118 L118 X118 hQ118
  obtain ⟨rfl, N118q, e118⟩ := hQ118
  have N118 := Fr.app N117 N118q
  refine R.ifNo X118 hx (hb hby at_557) (feq (by decide : ¬ ((1 : Int32) = (0 : Int32)))).1 (pc' := 560) rfl ?_
  refine R.aload X118 hx (hb hby at_560) rfl rfl (pc' := 562) rfl ?_
  refine R.iconst X118 hx (hb hby at_562) (v := (4 : Int32)) (by decide) (pc' := 563) rfl ?_
  refine R.iload X118 hx (hb hby at_563) rfl (pc' := 565) rfl ?_
  refine R.callS X118 hx hZ (y := mY2) hown w_6 w_7 w_8 w_9 (by decide) e118 (rm2 l Z aZ hw [] b107 (4 : Int32) i106 k107 (3 : Int32) [((2 : Int32), (.double (FP.i2d i102))), ((1 : Int32), (.double (FP.i2d i100))), ((0 : Int32), (.double (FP.i2d i98)))] h111 n0 Z111 V_b107 (by decide) (fun q => absurd q (by decide))) (by decide) (W := 0) (Nat.le_of_eq rfl) (by decide) (by rw [hml]; rfl) (lenOf pd_2 rfl) rfl (hb hby at_565) (pc' := 568) rfl (by decide) (by decide) ?_; intro v119 T119 L119 X119 hQ119
  obtain ⟨rfl, N119q, e119⟩ := hQ119
  have N119 := Fr.app N118 N119q
  refine R.ifNo X119 hx (hb hby at_568) (feq (by decide : ¬ ((1 : Int32) = (0 : Int32)))).1 (pc' := 571) rfl ?_
  refine R.iconst X119 hx (hb hby at_571) (v := (1 : Int32)) (by decide) (pc' := 572) rfl ?_
  refine R.goto X119 hx (hb hby at_572) (by decide) (pc' := 576) (by decide) ?_
  refine R.istore X119 hx (hb hby at_576) (L' := #[.val (.int p0), .val (.int p1), .val (.int p2), .val (.int p3), .val (.int (1 : Int32)), .val (.int (0 : Int32)), .val (.int (3 : Int32)), .val (.int ld), .val (.ref b4), .val (.ref b10), .val (.int i12), .val (.int i13), .val (.ref b87), .val (.ref b94), .val (.int (3 : Int32)), .val (.int i98), .val (.int i100), .val (.int i102), .val (.int i104), .val (.int i106), .val (.ref b107), .val (.ref r_111), .val (.int (1 : Int32)), .val (.int (1 : Int32))]) rfl (pc' := 578) rfl ?_
  refine R.iload X119 hx (hb hby at_578) rfl (pc' := 580) rfl ?_
  refine R.ifNo X119 hx (hb hby at_580) (feq (by decide : ¬ ((1 : Int32) = (0 : Int32)))).1 (pc' := 583) rfl ?_
  refine R.iload X119 hx (hb hby at_583) rfl (pc' := 585) rfl ?_
  refine R.ifNo X119 hx (hb hby at_585) (feq (by decide : ¬ ((1 : Int32) = (0 : Int32)))).1 (pc' := 588) rfl ?_
  refine R.iconst X119 hx (hb hby at_588) (v := (1 : Int32)) (by decide) (pc' := 589) rfl ?_
  refine R.goto X119 hx (hb hby at_589) (by decide) (pc' := 593) (by decide) ?_
  rw [← hG]
  exact Rn.ret X119 (BodyLoose.notSynchronized Bd) (v := some (.int (1 : Int32))) (fun h => by rw [Bd.returns] at h; cases h) (Q := Q0 Z p0 p1 p2 p3 h0 n0) e119 (fun fs hr => retN X119 hx (t := .boolean) Bd.returns (by simp) (hb hby at_593) hr) ⟨rfl, N119⟩ (by decide) (by decide)
set_option maxRecDepth 65536 in
set_option maxHeartbeats 40000000 in
theorem rm0_20 (l : Launch) (Z : State) (aZ : Array Value) (hw : ∀ d ∈ tables_1, d.before aZ Z = true) (ws : List Jvm.Cond) (p0 : Int32) (p1 : Int32) (p2 : Int32) (p3 : Int32) (h0 : Heap) (n0 : Nat) {p : Program} {e : Env} {s : State} {m : MethodId} {below : List Frame} {meth : Method} {c : Code} {s₁ : State} (Bd : BodyLoose p l x (head1 (Jvm.Cond.code x code maxLocals ret :: ws) room_1) code maxLocals ret e s m #[(.int p0), (.int p1), (.int p2), (.int p3)] below meth c s₁) (hml : c.maxLocals = 24) (hZ : Z.Warmed39 s.vm) {TL : State} {hL : Heap} {lL : List Loc} (XL : Stand p l e room_1 s m #[(.int p0), (.int p1), (.int p2), (.int p3)] below meth c TL lL 2 5) (eL : TL.heap = hL) (NL : Fr n0 lL) (KL : Keep h0 hL []) (ZL : n0 ≤ hL.size) (ld : Int32) (b123 : Addr) (b129 : Addr) (i124 : Int32) (i132 : Int32) (i133 : Int32) (k123 : ClassId) (k129 : ClassId) {G : Outcome → State → Prop} (hG : (Fn0 Z p0 p1 p2 p3 h0 n0 s) = G) (V_b123 : Arh Z hL b123 k123 .int (3 : Int32) [((1 : Int32), (.int ld)), ((2 : Int32), (.int (0 : Int32))), ((1 : Int32), (.int (0 : Int32))), ((0 : Int32), (.int i124))] [] (.int (0 : Int32))) (V_b129 : Arh Z hL b129 k129 .double (2 : Int32) [((1 : Int32), (.double (FP.i2d ld))), ((0 : Int32), (.double (FP.i2d i124)))] [] (.double (0 : UInt64))) (ne_b123_b129 : b123 ≠ b129) (g_b123 : n0 ≤ b123) (g_b129 : n0 ≤ b129) (sz_b123 : h0.size ≤ b123) (sz_b129 : h0.size ≤ b129) (nl : ld.toInt ≠ 0) (bl : ld.toInt.natAbs ≤ 128) (b_i132 : i132.toInt.natAbs ≤ 128) (b_i133 : i133.toInt.natAbs ≤ 128) (b_i124 : i124.toInt.natAbs ≤ 128) : Rn p e below (TL.setTop (mkF m 147 #[.val (.int p0), .val (.int p1), .val (.int p2), .val (.int p3), .val (.int (2 : Int32)), .val (.int (1 : Int32)), .val (.int (0 : Int32)), .val (.int ld), .val (.ref b123), .val (.ref b129), .val (.int i132), .val (.int i133), .unset, .unset, .unset, .unset, .unset, .unset, .unset, .unset, .unset, .unset, .unset, .unset] [])) G := by
  have hx := Bd.exec
  have hby := Bd.bytes
  have hown : s.vm.findClass "com/example/deseason/deseason/arima/PolynomialsQuotientPinLaw" = some m.cls := findClass_of_methodNamed Bd.named
  have hnm := (name_of_methodNamed Bd.named Bd.method).1
  have w_1 := hw _ (List.mem_of_getElem? (i := 1) rfl)
  have w_2 := hw _ (List.mem_of_getElem? (i := 2) rfl)
  have w_3 := hw _ (List.mem_of_getElem? (i := 3) rfl)
  have w_4 := hw _ (List.mem_of_getElem? (i := 4) rfl)
  have w_5 := hw _ (List.mem_of_getElem? (i := 5) rfl)
  have w_6 := hw _ (List.mem_of_getElem? (i := 6) rfl)
  have w_7 := hw _ (List.mem_of_getElem? (i := 7) rfl)
  have w_8 := hw _ (List.mem_of_getElem? (i := 8) rfl)
  have w_9 := hw _ (List.mem_of_getElem? (i := 9) rfl)
  show Rn p e below (TL.setTop (mkF m 147 #[.val (.int p0), .val (.int p1), .val (.int p2), .val (.int p3), .val (.int (2 : Int32)), .val (.int (1 : Int32)), .val (.int (0 : Int32)), .val (.int ld), .val (.ref b123), .val (.ref b129), .val (.int i132), .val (.int i133), .unset, .unset, .unset, .unset, .unset, .unset, .unset, .unset, .unset, .unset, .unset, .unset] [])) G
  refine R.iload XL hx (hb hby at_147) rfl (pc' := 149) rfl ?_
  refine R.ifNo XL hx (hb hby at_149) (teq (by decide : (0 : Int32) = (0 : Int32))).2 (pc' := 152) rfl ?_
  refine R.iloadN XL hx (hb hby at_152) rfl (pc' := 153) rfl ?_
  refine R.bipush XL hx (hb hby at_153) (v := (20 : Int32)) (by decide) (pc' := 155) rfl ?_
  refine R.ishr XL hx (hb hby at_155) (pc' := 156) rfl ?_
  refine R.iconst XL hx (hb hby at_156) (v := (3 : Int32)) (by decide) (pc' := 157) rfl ?_
  refine R.iand XL hx (hb hby at_157) rfl (pc' := 158) rfl ?_
  refine R.iload XL hx (hb hby at_158) rfl (pc' := 160) rfl ?_
  refine R.irem XL hx (hb hby at_160) (by decide : (2 : Int32) ≠ (0 : Int32)) (pc' := 161) rfl ?_
  generalize hi134 : (((p0 >>> ((20 : Int32) &&& 31)) &&& (3 : Int32)) % (2 : Int32)) = i134
  refine R.istore XL hx (hb hby at_161) (L' := #[.val (.int p0), .val (.int p1), .val (.int p2), .val (.int p3), .val (.int (2 : Int32)), .val (.int (1 : Int32)), .val (.int (0 : Int32)), .val (.int ld), .val (.ref b123), .val (.ref b129), .val (.int i132), .val (.int i133), .val (.int i134), .unset, .unset, .unset, .unset, .unset, .unset, .unset, .unset, .unset, .unset, .unset]) rfl (pc' := 163) rfl ?_
  have hm12 := own_m (z := (2 : Int32)) (by decide) hi134
  have z12 : ((2 : Int32)).toInt = 2 := by decide
  rw [z12] at hm12
  refine R.iload XL hx (hb hby at_163) rfl (pc' := 165) rfl ?_
  refine R.newP XL hx hZ (ty := .double) rfl w_1 eL (own_nneg (by omega)) (cap := 2) (show i134.toInt.toNat ≤ 2 by omega) (by decide) (ad := "[D") (by decide) (hb hby at_165) (pc' := 167) rfl (by decide) (by decide) ?_; intro T135 h135 b135 k135 g135 X135 e135 E135 EE135 AA135
  have g_b135 : n0 ≤ b135 := Nat.le_trans ZL (Nat.le_of_eq g135.symm)
  have sz_b135 : h0.size ≤ b135 := Nat.le_trans KL.1 (Nat.le_of_eq g135.symm)
  have ne_b123_b135 : b123 ≠ b135 := Nat.ne_of_lt (Nat.lt_of_lt_of_le V_b123.lt (Nat.le_of_eq g135.symm))
  have ne_b129_b135 : b129 ≠ b135 := Nat.ne_of_lt (Nat.lt_of_lt_of_le V_b129.lt (Nat.le_of_eq g135.symm))
  have K135 : Keep h0 h135 [] := KL.ext E135
  have Z135 : n0 ≤ h135.size := Nat.le_trans ZL E135.1
  have V_b123 := V_b123.ext E135
  have V_b129 := V_b129.ext E135
  have V_b135 : Arh Z h135 b135 k135 .double i134 [] [] (.double (0 : UInt64)) := AA135
  refine R.astore X135 hx (hb hby at_167) rfl (L' := #[.val (.int p0), .val (.int p1), .val (.int p2), .val (.int p3), .val (.int (2 : Int32)), .val (.int (1 : Int32)), .val (.int (0 : Int32)), .val (.int ld), .val (.ref b123), .val (.ref b129), .val (.int i132), .val (.int i133), .val (.int i134), .val (.ref b135), .unset, .unset, .unset, .unset, .unset, .unset, .unset, .unset, .unset, .unset]) rfl (pc' := 169) rfl ?_
  refine R.iload X135 hx (hb hby at_169) rfl (pc' := 171) rfl ?_
  by_cases hc171 : (0 : Int32) < i134
  · refine R.ifNo X135 hx (hb hby at_171) (tlt hc171).2.2.2 (pc' := 174) rfl ?_
    refine R.aload X135 hx (hb hby at_174) rfl rfl (pc' := 176) rfl ?_
    refine R.iconst X135 hx (hb hby at_176) (v := (0 : Int32)) (by decide) (pc' := 177) rfl ?_
    refine R.iload X135 hx (hb hby at_177) rfl (pc' := 179) rfl ?_
    refine R.i2d X135 hx (hb hby at_179) (pc' := 180) rfl ?_
    refine R.dastore X135 hx hZ e135 V_b135 (own_bd (show (0 : Int) ≤ 0 ∧ (0 : Int) < i134.toInt by have q := Int32.lt_iff_toInt_lt.mp hc171; have z0 : (0 : Int32).toInt = 0 := (by decide); omega) : ¬ (0 : Int32) < 0 ∧ (0 : Int32) < i134) (hb hby at_180) (pc' := 181) rfl ?_; intro T136 h136 X136 e136 W136 V136
    have V_b123 := V_b123.other W136 ne_b123_b135
    have V_b129 := V_b129.other W136 ne_b129_b135
    have V_b135 : Arh Z h136 b135 k135 .double i134 [((0 : Int32), (.double (FP.i2d i132)))] [] (.double (0 : UInt64)) := V136
    have N136 := Fr.snoc X136 NL g_b135
    have K136 : Keep h0 h136 [] := K135.wr W136 (Or.inr sz_b135)
    have Z136 : n0 ≤ h136.size := Nat.le_trans Z135 (Keep.of_wr W136).1
    refine R.iload X136 hx (hb hby at_181) rfl (pc' := 183) rfl ?_
    refine R.iconst X136 hx (hb hby at_183) (v := (1 : Int32)) (by decide) (pc' := 184) rfl ?_
    by_cases hc184 : (1 : Int32) < i134
    · refine R.icmpNo X136 hx (hb hby at_184) (tlt hc184).2.2.2 (pc' := 187) rfl ?_
      refine R.aload X136 hx (hb hby at_187) rfl rfl (pc' := 189) rfl ?_
      refine R.iconst X136 hx (hb hby at_189) (v := (1 : Int32)) (by decide) (pc' := 190) rfl ?_
      refine R.iload X136 hx (hb hby at_190) rfl (pc' := 192) rfl ?_
      refine R.i2d X136 hx (hb hby at_192) (pc' := 193) rfl ?_
      refine R.dastore X136 hx hZ e136 V_b135 (own_bd (show (0 : Int) ≤ 1 ∧ (1 : Int) < i134.toInt by have q := Int32.lt_iff_toInt_lt.mp hc184; have z1 : (1 : Int32).toInt = 1 := (by decide); omega) : ¬ (1 : Int32) < 0 ∧ (1 : Int32) < i134) (hb hby at_193) (pc' := 194) rfl ?_; intro T137 h137 X137 e137 W137 V137
      have V_b123 := V_b123.other W137 ne_b123_b135
      have V_b129 := V_b129.other W137 ne_b129_b135
      have V_b135 : Arh Z h137 b135 k135 .double i134 [((1 : Int32), (.double (FP.i2d i133))), ((0 : Int32), (.double (FP.i2d i132)))] [] (.double (0 : UInt64)) := V137
      have N137 := Fr.snoc X137 N136 g_b135
      have K137 : Keep h0 h137 [] := K136.wr W137 (Or.inr sz_b135)
      have Z137 : n0 ≤ h137.size := Nat.le_trans Z136 (Keep.of_wr W137).1
      refine R.aload X137 hx (hb hby at_194) rfl rfl (pc' := 196) rfl ?_
      refine R.aload X137 hx (hb hby at_196) rfl rfl (pc' := 198) rfl ?_
      refine R.callS X137 hx hZ (y := mY1) hown w_2 w_3 w_4 w_5 (by decide) e137 (rmq0 l Z aZ hw [] b135 b129 k135 k129 i134 (2 : Int32) [((1 : Int32), (.double (FP.i2d i133))), ((0 : Int32), (.double (FP.i2d i132)))] [((1 : Int32), (.double (FP.i2d ld))), ((0 : Int32), (.double (FP.i2d i124)))] h137 n0 Z137 V_b135 V_b129 (fun q => absurd (Int32.lt_iff_toInt_lt.mp q) (by have e : ((2 : Int32) - (1 : Int32)).toInt = 1 := (by decide); omega))) (by decide) (W := 0) (Nat.le_of_eq rfl) (by decide) (by rw [hml]; rfl) (lenOf pd_1 rfl) rfl (hb hby at_198) (pc' := 201) rfl (by decide) (by decide) ?_; intro v138 T138 L138 X138 hQ138
      obtain ⟨r_138, kr_138, rfl, N138q, Kc138, P138_0, P138_1⟩ := hQ138
      have N138 := Fr.app N137 N138q
      generalize e138 : T138.heap = h138 at Kc138 P138_0 P138_1
      have K138 : Keep h0 h138 [] := K137.trans Kc138 (all0)
      have Z138 : n0 ≤ h138.size := Nat.le_trans Z137 Kc138.1
      have ne_b123_r_138 : b123 ≠ r_138 := Nat.ne_of_lt (Nat.lt_of_lt_of_le V_b123.lt P138_0)
      have ne_b129_r_138 : b129 ≠ r_138 := Nat.ne_of_lt (Nat.lt_of_lt_of_le V_b129.lt P138_0)
      have ne_b135_r_138 : b135 ≠ r_138 := Nat.ne_of_lt (Nat.lt_of_lt_of_le V_b135.lt P138_0)
      have g_r_138 : n0 ≤ r_138 := Nat.le_trans Z137 P138_0
      have sz_r_138 : h0.size ≤ r_138 := Nat.le_trans K137.1 P138_0
      have V_b123 := V_b123.keep Kc138 nin0
      have V_b129 := V_b129.keep Kc138 nin0
      have V_b135 := V_b135.keep Kc138 nin0
      have fresh_138 := P138_0
      have V_r_138 : Arh Z h138 r_138 kr_138 .double (0 : Int32) [] [] (.double (0 : UInt64)) := P138_1
      have V_r_138 : Arh Z h138 r_138 kr_138 .double (0 : Int32) [] [] (.double (0 : UInt64)) := V_r_138
      refine R.astore X138 hx (hb hby at_201) rfl (L' := #[.val (.int p0), .val (.int p1), .val (.int p2), .val (.int p3), .val (.int (2 : Int32)), .val (.int (1 : Int32)), .val (.int (0 : Int32)), .val (.int ld), .val (.ref b123), .val (.ref b129), .val (.int i132), .val (.int i133), .val (.int i134), .val (.ref b135), .val (.ref r_138), .unset, .unset, .unset, .unset, .unset, .unset, .unset, .unset, .unset]) rfl (pc' := 203) rfl ?_
      refine R.aload X138 hx (hb hby at_203) rfl rfl (pc' := 205) rfl ?_
      refine R.alen X138 hx hZ e138 V_r_138 (hb hby at_205) (pc' := 206) rfl ?_
      refine R.ifNo X138 hx (hb hby at_206) (teq (by decide : (0 : Int32) = (0 : Int32))).2 (pc' := 209) rfl ?_
      refine R.aload X138 hx (hb hby at_209) rfl rfl (pc' := 211) rfl ?_
      refine R.iconst X138 hx (hb hby at_211) (v := (0 : Int32)) (by decide) (pc' := 212) rfl ?_
      refine R.iload X138 hx (hb hby at_212) rfl (pc' := 214) rfl ?_
      refine R.callS X138 hx hZ (y := mY2) hown w_6 w_7 w_8 w_9 (by decide) e138 (rm2 l Z aZ hw [] b135 (0 : Int32) i132 k135 i134 [((1 : Int32), (.double (FP.i2d i133))), ((0 : Int32), (.double (FP.i2d i132)))] h138 n0 Z138 V_b135 (by decide) (fun _ => getH_miss (by decide) (by decide) (getH_hit (by decide) (rfl)))) (by decide) (W := 0) (Nat.le_of_eq rfl) (by decide) (by rw [hml]; rfl) (lenOf pd_2 rfl) rfl (hb hby at_214) (pc' := 217) rfl (by decide) (by decide) ?_; intro v139 T139 L139 X139 hQ139
      obtain ⟨rfl, N139q, e139⟩ := hQ139
      have N139 := Fr.app N138 N139q
      refine R.ifNo X139 hx (hb hby at_217) (feq (by decide : ¬ ((1 : Int32) = (0 : Int32)))).1 (pc' := 220) rfl ?_
      refine R.aload X139 hx (hb hby at_220) rfl rfl (pc' := 222) rfl ?_
      refine R.iconst X139 hx (hb hby at_222) (v := (1 : Int32)) (by decide) (pc' := 223) rfl ?_
      refine R.iload X139 hx (hb hby at_223) rfl (pc' := 225) rfl ?_
      refine R.callS X139 hx hZ (y := mY2) hown w_6 w_7 w_8 w_9 (by decide) e139 (rm2 l Z aZ hw [] b135 (1 : Int32) i133 k135 i134 [((1 : Int32), (.double (FP.i2d i133))), ((0 : Int32), (.double (FP.i2d i132)))] h138 n0 Z138 V_b135 (by decide) (fun _ => getH_hit (by decide) (rfl))) (by decide) (W := 0) (Nat.le_of_eq rfl) (by decide) (by rw [hml]; rfl) (lenOf pd_2 rfl) rfl (hb hby at_225) (pc' := 228) rfl (by decide) (by decide) ?_; intro v140 T140 L140 X140 hQ140
      obtain ⟨rfl, N140q, e140⟩ := hQ140
      have N140 := Fr.app N139 N140q
      refine R.ifNo X140 hx (hb hby at_228) (feq (by decide : ¬ ((1 : Int32) = (0 : Int32)))).1 (pc' := 231) rfl ?_
      refine R.iconst X140 hx (hb hby at_231) (v := (1 : Int32)) (by decide) (pc' := 232) rfl ?_
      refine R.goto X140 hx (hb hby at_232) (by decide) (pc' := 236) (by decide) ?_
      rw [← hG]
      exact Rn.ret X140 (BodyLoose.notSynchronized Bd) (v := some (.int (1 : Int32))) (fun h => by rw [Bd.returns] at h; cases h) (Q := Q0 Z p0 p1 p2 p3 h0 n0) e140 (fun fs hr => retN X140 hx (t := .boolean) Bd.returns (by simp) (hb hby at_236) hr) ⟨rfl, N140⟩ (by decide) (by decide)
    · refine R.icmpYes X136 hx (hb hby at_184) (flt hc184).2.2.2 (by decide) (pc' := 194) (by decide) ?_
      refine R.aload X136 hx (hb hby at_194) rfl rfl (pc' := 196) rfl ?_
      refine R.aload X136 hx (hb hby at_196) rfl rfl (pc' := 198) rfl ?_
      refine R.callS X136 hx hZ (y := mY1) hown w_2 w_3 w_4 w_5 (by decide) e136 (rmq0 l Z aZ hw [] b135 b129 k135 k129 i134 (2 : Int32) [((0 : Int32), (.double (FP.i2d i132)))] [((1 : Int32), (.double (FP.i2d ld))), ((0 : Int32), (.double (FP.i2d i124)))] h136 n0 Z136 V_b135 V_b129 (fun q => absurd (Int32.lt_iff_toInt_lt.mp q) (by have e : ((2 : Int32) - (1 : Int32)).toInt = 1 := (by decide); omega))) (by decide) (W := 0) (Nat.le_of_eq rfl) (by decide) (by rw [hml]; rfl) (lenOf pd_1 rfl) rfl (hb hby at_198) (pc' := 201) rfl (by decide) (by decide) ?_; intro v141 T141 L141 X141 hQ141
      obtain ⟨r_141, kr_141, rfl, N141q, Kc141, P141_0, P141_1⟩ := hQ141
      have N141 := Fr.app N136 N141q
      generalize e141 : T141.heap = h141 at Kc141 P141_0 P141_1
      have K141 : Keep h0 h141 [] := K136.trans Kc141 (all0)
      have Z141 : n0 ≤ h141.size := Nat.le_trans Z136 Kc141.1
      have ne_b123_r_141 : b123 ≠ r_141 := Nat.ne_of_lt (Nat.lt_of_lt_of_le V_b123.lt P141_0)
      have ne_b129_r_141 : b129 ≠ r_141 := Nat.ne_of_lt (Nat.lt_of_lt_of_le V_b129.lt P141_0)
      have ne_b135_r_141 : b135 ≠ r_141 := Nat.ne_of_lt (Nat.lt_of_lt_of_le V_b135.lt P141_0)
      have g_r_141 : n0 ≤ r_141 := Nat.le_trans Z136 P141_0
      have sz_r_141 : h0.size ≤ r_141 := Nat.le_trans K136.1 P141_0
      have V_b123 := V_b123.keep Kc141 nin0
      have V_b129 := V_b129.keep Kc141 nin0
      have V_b135 := V_b135.keep Kc141 nin0
      have fresh_141 := P141_0
      have V_r_141 : Arh Z h141 r_141 kr_141 .double (0 : Int32) [] [] (.double (0 : UInt64)) := P141_1
      have V_r_141 : Arh Z h141 r_141 kr_141 .double (0 : Int32) [] [] (.double (0 : UInt64)) := V_r_141
      refine R.astore X141 hx (hb hby at_201) rfl (L' := #[.val (.int p0), .val (.int p1), .val (.int p2), .val (.int p3), .val (.int (2 : Int32)), .val (.int (1 : Int32)), .val (.int (0 : Int32)), .val (.int ld), .val (.ref b123), .val (.ref b129), .val (.int i132), .val (.int i133), .val (.int i134), .val (.ref b135), .val (.ref r_141), .unset, .unset, .unset, .unset, .unset, .unset, .unset, .unset, .unset]) rfl (pc' := 203) rfl ?_
      refine R.aload X141 hx (hb hby at_203) rfl rfl (pc' := 205) rfl ?_
      refine R.alen X141 hx hZ e141 V_r_141 (hb hby at_205) (pc' := 206) rfl ?_
      refine R.ifNo X141 hx (hb hby at_206) (teq (by decide : (0 : Int32) = (0 : Int32))).2 (pc' := 209) rfl ?_
      refine R.aload X141 hx (hb hby at_209) rfl rfl (pc' := 211) rfl ?_
      refine R.iconst X141 hx (hb hby at_211) (v := (0 : Int32)) (by decide) (pc' := 212) rfl ?_
      refine R.iload X141 hx (hb hby at_212) rfl (pc' := 214) rfl ?_
      refine R.callS X141 hx hZ (y := mY2) hown w_6 w_7 w_8 w_9 (by decide) e141 (rm2 l Z aZ hw [] b135 (0 : Int32) i132 k135 i134 [((0 : Int32), (.double (FP.i2d i132)))] h141 n0 Z141 V_b135 (by decide) (fun _ => getH_hit (by decide) (rfl))) (by decide) (W := 0) (Nat.le_of_eq rfl) (by decide) (by rw [hml]; rfl) (lenOf pd_2 rfl) rfl (hb hby at_214) (pc' := 217) rfl (by decide) (by decide) ?_; intro v142 T142 L142 X142 hQ142
      obtain ⟨rfl, N142q, e142⟩ := hQ142
      have N142 := Fr.app N141 N142q
      refine R.ifNo X142 hx (hb hby at_217) (feq (by decide : ¬ ((1 : Int32) = (0 : Int32)))).1 (pc' := 220) rfl ?_
      refine R.aload X142 hx (hb hby at_220) rfl rfl (pc' := 222) rfl ?_
      refine R.iconst X142 hx (hb hby at_222) (v := (1 : Int32)) (by decide) (pc' := 223) rfl ?_
      refine R.iload X142 hx (hb hby at_223) rfl (pc' := 225) rfl ?_
      refine R.callS X142 hx hZ (y := mY2) hown w_6 w_7 w_8 w_9 (by decide) e142 (rm2 l Z aZ hw [] b135 (1 : Int32) i133 k135 i134 [((0 : Int32), (.double (FP.i2d i132)))] h141 n0 Z141 V_b135 (by decide) (fun q => absurd q hc184)) (by decide) (W := 0) (Nat.le_of_eq rfl) (by decide) (by rw [hml]; rfl) (lenOf pd_2 rfl) rfl (hb hby at_225) (pc' := 228) rfl (by decide) (by decide) ?_; intro v143 T143 L143 X143 hQ143
      obtain ⟨rfl, N143q, e143⟩ := hQ143
      have N143 := Fr.app N142 N143q
      refine R.ifNo X143 hx (hb hby at_228) (feq (by decide : ¬ ((1 : Int32) = (0 : Int32)))).1 (pc' := 231) rfl ?_
      refine R.iconst X143 hx (hb hby at_231) (v := (1 : Int32)) (by decide) (pc' := 232) rfl ?_
      refine R.goto X143 hx (hb hby at_232) (by decide) (pc' := 236) (by decide) ?_
      rw [← hG]
      exact Rn.ret X143 (BodyLoose.notSynchronized Bd) (v := some (.int (1 : Int32))) (fun h => by rw [Bd.returns] at h; cases h) (Q := Q0 Z p0 p1 p2 p3 h0 n0) e143 (fun fs hr => retN X143 hx (t := .boolean) Bd.returns (by simp) (hb hby at_236) hr) ⟨rfl, N143⟩ (by decide) (by decide)
  · refine R.ifYes X135 hx (hb hby at_171) (flt hc171).2.2.2 (by decide) (pc' := 181) (by decide) ?_
    refine R.iload X135 hx (hb hby at_181) rfl (pc' := 183) rfl ?_
    refine R.iconst X135 hx (hb hby at_183) (v := (1 : Int32)) (by decide) (pc' := 184) rfl ?_
    refine R.icmpYes X135 hx (hb hby at_184) (flt (fun q => absurd (Int32.lt_iff_toInt_lt.mp q) (by have e := hc171; rw [Int32.lt_iff_toInt_lt] at e; have z0 : (0 : Int32).toInt = 0 := (by decide); have z1 : (1 : Int32).toInt = 1 := (by decide); omega) : ¬ ((1 : Int32) < i134))).2.2.2 (by decide) (pc' := 194) (by decide) ?_
    refine R.aload X135 hx (hb hby at_194) rfl rfl (pc' := 196) rfl ?_
    refine R.aload X135 hx (hb hby at_196) rfl rfl (pc' := 198) rfl ?_
    refine R.callS X135 hx hZ (y := mY1) hown w_2 w_3 w_4 w_5 (by decide) e135 (rmq0 l Z aZ hw [] b135 b129 k135 k129 i134 (2 : Int32) [] [((1 : Int32), (.double (FP.i2d ld))), ((0 : Int32), (.double (FP.i2d i124)))] h135 n0 Z135 V_b135 V_b129 (fun q => absurd (Int32.lt_iff_toInt_lt.mp q) (by have e : ((2 : Int32) - (1 : Int32)).toInt = 1 := (by decide); omega))) (by decide) (W := 0) (Nat.le_of_eq rfl) (by decide) (by rw [hml]; rfl) (lenOf pd_1 rfl) rfl (hb hby at_198) (pc' := 201) rfl (by decide) (by decide) ?_; intro v144 T144 L144 X144 hQ144
    obtain ⟨r_144, kr_144, rfl, N144q, Kc144, P144_0, P144_1⟩ := hQ144
    have N144 := Fr.app NL N144q
    generalize e144 : T144.heap = h144 at Kc144 P144_0 P144_1
    have K144 : Keep h0 h144 [] := K135.trans Kc144 (all0)
    have Z144 : n0 ≤ h144.size := Nat.le_trans Z135 Kc144.1
    have ne_b123_r_144 : b123 ≠ r_144 := Nat.ne_of_lt (Nat.lt_of_lt_of_le V_b123.lt P144_0)
    have ne_b129_r_144 : b129 ≠ r_144 := Nat.ne_of_lt (Nat.lt_of_lt_of_le V_b129.lt P144_0)
    have ne_b135_r_144 : b135 ≠ r_144 := Nat.ne_of_lt (Nat.lt_of_lt_of_le V_b135.lt P144_0)
    have g_r_144 : n0 ≤ r_144 := Nat.le_trans Z135 P144_0
    have sz_r_144 : h0.size ≤ r_144 := Nat.le_trans K135.1 P144_0
    have V_b123 := V_b123.keep Kc144 nin0
    have V_b129 := V_b129.keep Kc144 nin0
    have V_b135 := V_b135.keep Kc144 nin0
    have fresh_144 := P144_0
    have V_r_144 : Arh Z h144 r_144 kr_144 .double (0 : Int32) [] [] (.double (0 : UInt64)) := P144_1
    have V_r_144 : Arh Z h144 r_144 kr_144 .double (0 : Int32) [] [] (.double (0 : UInt64)) := V_r_144
    refine R.astore X144 hx (hb hby at_201) rfl (L' := #[.val (.int p0), .val (.int p1), .val (.int p2), .val (.int p3), .val (.int (2 : Int32)), .val (.int (1 : Int32)), .val (.int (0 : Int32)), .val (.int ld), .val (.ref b123), .val (.ref b129), .val (.int i132), .val (.int i133), .val (.int i134), .val (.ref b135), .val (.ref r_144), .unset, .unset, .unset, .unset, .unset, .unset, .unset, .unset, .unset]) rfl (pc' := 203) rfl ?_
    refine R.aload X144 hx (hb hby at_203) rfl rfl (pc' := 205) rfl ?_
    refine R.alen X144 hx hZ e144 V_r_144 (hb hby at_205) (pc' := 206) rfl ?_
    refine R.ifNo X144 hx (hb hby at_206) (teq (by decide : (0 : Int32) = (0 : Int32))).2 (pc' := 209) rfl ?_
    refine R.aload X144 hx (hb hby at_209) rfl rfl (pc' := 211) rfl ?_
    refine R.iconst X144 hx (hb hby at_211) (v := (0 : Int32)) (by decide) (pc' := 212) rfl ?_
    refine R.iload X144 hx (hb hby at_212) rfl (pc' := 214) rfl ?_
    refine R.callS X144 hx hZ (y := mY2) hown w_6 w_7 w_8 w_9 (by decide) e144 (rm2 l Z aZ hw [] b135 (0 : Int32) i132 k135 i134 [] h144 n0 Z144 V_b135 (by decide) (fun q => absurd q hc171)) (by decide) (W := 0) (Nat.le_of_eq rfl) (by decide) (by rw [hml]; rfl) (lenOf pd_2 rfl) rfl (hb hby at_214) (pc' := 217) rfl (by decide) (by decide) ?_; intro v145 T145 L145 X145 hQ145
    obtain ⟨rfl, N145q, e145⟩ := hQ145
    have N145 := Fr.app N144 N145q
    refine R.ifNo X145 hx (hb hby at_217) (feq (by decide : ¬ ((1 : Int32) = (0 : Int32)))).1 (pc' := 220) rfl ?_
    refine R.aload X145 hx (hb hby at_220) rfl rfl (pc' := 222) rfl ?_
    refine R.iconst X145 hx (hb hby at_222) (v := (1 : Int32)) (by decide) (pc' := 223) rfl ?_
    refine R.iload X145 hx (hb hby at_223) rfl (pc' := 225) rfl ?_
    refine R.callS X145 hx hZ (y := mY2) hown w_6 w_7 w_8 w_9 (by decide) e145 (rm2 l Z aZ hw [] b135 (1 : Int32) i133 k135 i134 [] h144 n0 Z144 V_b135 (by decide) (fun q => absurd (Int32.lt_iff_toInt_lt.mp q) (by have e := hc171; rw [Int32.lt_iff_toInt_lt] at e; have z0 : (0 : Int32).toInt = 0 := (by decide); have z1 : (1 : Int32).toInt = 1 := (by decide); omega))) (by decide) (W := 0) (Nat.le_of_eq rfl) (by decide) (by rw [hml]; rfl) (lenOf pd_2 rfl) rfl (hb hby at_225) (pc' := 228) rfl (by decide) (by decide) ?_; intro v146 T146 L146 X146 hQ146
    obtain ⟨rfl, N146q, e146⟩ := hQ146
    have N146 := Fr.app N145 N146q
    refine R.ifNo X146 hx (hb hby at_228) (feq (by decide : ¬ ((1 : Int32) = (0 : Int32)))).1 (pc' := 231) rfl ?_
    refine R.iconst X146 hx (hb hby at_231) (v := (1 : Int32)) (by decide) (pc' := 232) rfl ?_
    refine R.goto X146 hx (hb hby at_232) (by decide) (pc' := 236) (by decide) ?_
    rw [← hG]
    exact Rn.ret X146 (BodyLoose.notSynchronized Bd) (v := some (.int (1 : Int32))) (fun h => by rw [Bd.returns] at h; cases h) (Q := Q0 Z p0 p1 p2 p3 h0 n0) e146 (fun fs hr => retN X146 hx (t := .boolean) Bd.returns (by simp) (hb hby at_236) hr) ⟨rfl, N146⟩ (by decide) (by decide)
set_option maxRecDepth 65536 in
set_option maxHeartbeats 40000000 in
theorem rm0_21 (l : Launch) (Z : State) (aZ : Array Value) (hw : ∀ d ∈ tables_1, d.before aZ Z = true) (ws : List Jvm.Cond) (p0 : Int32) (p1 : Int32) (p2 : Int32) (p3 : Int32) (h0 : Heap) (n0 : Nat) {p : Program} {e : Env} {s : State} {m : MethodId} {below : List Frame} {meth : Method} {c : Code} {s₁ : State} (Bd : BodyLoose p l x (head1 (Jvm.Cond.code x code maxLocals ret :: ws) room_1) code maxLocals ret e s m #[(.int p0), (.int p1), (.int p2), (.int p3)] below meth c s₁) (hml : c.maxLocals = 24) (hZ : Z.Warmed39 s.vm) {TL : State} {hL : Heap} {lL : List Loc} (XL : Stand p l e room_1 s m #[(.int p0), (.int p1), (.int p2), (.int p3)] below meth c TL lL 2 5) (eL : TL.heap = hL) (NL : Fr n0 lL) (KL : Keep h0 hL []) (ZL : n0 ≤ hL.size) (ld : Int32) (b123 : Addr) (b129 : Addr) (i124 : Int32) (i132 : Int32) (i133 : Int32) (k123 : ClassId) (k129 : ClassId) {G : Outcome → State → Prop} (hG : (Fn0 Z p0 p1 p2 p3 h0 n0 s) = G) (V_b123 : Arh Z hL b123 k123 .int (3 : Int32) [((1 : Int32), (.int ld)), ((2 : Int32), (.int (0 : Int32))), ((1 : Int32), (.int (0 : Int32))), ((0 : Int32), (.int i124))] [] (.int (0 : Int32))) (V_b129 : Arh Z hL b129 k129 .double (2 : Int32) [((1 : Int32), (.double (FP.i2d ld))), ((0 : Int32), (.double (FP.i2d i124)))] [] (.double (0 : UInt64))) (ne_b123_b129 : b123 ≠ b129) (g_b123 : n0 ≤ b123) (g_b129 : n0 ≤ b129) (sz_b123 : h0.size ≤ b123) (sz_b129 : h0.size ≤ b129) (nl : ld.toInt ≠ 0) (bl : ld.toInt.natAbs ≤ 128) (b_i132 : i132.toInt.natAbs ≤ 128) (b_i133 : i133.toInt.natAbs ≤ 128) (b_i124 : i124.toInt.natAbs ≤ 128) : Rn p e below (TL.setTop (mkF m 147 #[.val (.int p0), .val (.int p1), .val (.int p2), .val (.int p3), .val (.int (2 : Int32)), .val (.int (1 : Int32)), .val (.int (1 : Int32)), .val (.int ld), .val (.ref b123), .val (.ref b129), .val (.int i132), .val (.int i133), .unset, .unset, .unset, .unset, .unset, .unset, .unset, .unset, .unset, .unset, .unset, .unset] [])) G := by
  have hx := Bd.exec
  have hby := Bd.bytes
  have hown : s.vm.findClass "com/example/deseason/deseason/arima/PolynomialsQuotientPinLaw" = some m.cls := findClass_of_methodNamed Bd.named
  have hnm := (name_of_methodNamed Bd.named Bd.method).1
  have w_0 := hw _ (List.mem_of_getElem? (i := 0) rfl)
  have w_1 := hw _ (List.mem_of_getElem? (i := 1) rfl)
  have w_2 := hw _ (List.mem_of_getElem? (i := 2) rfl)
  have w_3 := hw _ (List.mem_of_getElem? (i := 3) rfl)
  have w_4 := hw _ (List.mem_of_getElem? (i := 4) rfl)
  have w_5 := hw _ (List.mem_of_getElem? (i := 5) rfl)
  have w_6 := hw _ (List.mem_of_getElem? (i := 6) rfl)
  have w_7 := hw _ (List.mem_of_getElem? (i := 7) rfl)
  have w_8 := hw _ (List.mem_of_getElem? (i := 8) rfl)
  have w_9 := hw _ (List.mem_of_getElem? (i := 9) rfl)
  have w_10 := hw _ (List.mem_of_getElem? (i := 10) rfl)
  have w_11 := hw _ (List.mem_of_getElem? (i := 11) rfl)
  have w_12 := hw _ (List.mem_of_getElem? (i := 12) rfl)
  have w_25 := hw _ (List.mem_of_getElem? (i := 25) rfl)
  have w_26 := hw _ (List.mem_of_getElem? (i := 26) rfl)
  have w_27 := hw _ (List.mem_of_getElem? (i := 27) rfl)
  show Rn p e below (TL.setTop (mkF m 147 #[.val (.int p0), .val (.int p1), .val (.int p2), .val (.int p3), .val (.int (2 : Int32)), .val (.int (1 : Int32)), .val (.int (1 : Int32)), .val (.int ld), .val (.ref b123), .val (.ref b129), .val (.int i132), .val (.int i133), .unset, .unset, .unset, .unset, .unset, .unset, .unset, .unset, .unset, .unset, .unset, .unset] [])) G
  refine R.iload XL hx (hb hby at_147) rfl (pc' := 149) rfl ?_
  refine R.ifYes XL hx (hb hby at_149) (feq (by decide : ¬ ((1 : Int32) = (0 : Int32)))).2 (by decide) (pc' := 237) (by decide) ?_
  refine R.iconst XL hx (hb hby at_237) (v := (3 : Int32)) (by decide) (pc' := 238) rfl ?_
  refine R.newP XL hx hZ (ty := .int) rfl w_0 eL (by decide) (cap := 3) (by decide) (by decide) (ad := "[I") (by decide) (hb hby at_238) (pc' := 240) rfl (by decide) (by decide) ?_; intro T147 h147 b147 k147 g147 X147 e147 E147 EE147 AA147
  have g_b147 : n0 ≤ b147 := Nat.le_trans ZL (Nat.le_of_eq g147.symm)
  have sz_b147 : h0.size ≤ b147 := Nat.le_trans KL.1 (Nat.le_of_eq g147.symm)
  have ne_b123_b147 : b123 ≠ b147 := Nat.ne_of_lt (Nat.lt_of_lt_of_le V_b123.lt (Nat.le_of_eq g147.symm))
  have ne_b129_b147 : b129 ≠ b147 := Nat.ne_of_lt (Nat.lt_of_lt_of_le V_b129.lt (Nat.le_of_eq g147.symm))
  have K147 : Keep h0 h147 [] := KL.ext E147
  have Z147 : n0 ≤ h147.size := Nat.le_trans ZL E147.1
  have V_b123 := V_b123.ext E147
  have V_b129 := V_b129.ext E147
  have V_b147 : Arh Z h147 b147 k147 .int (3 : Int32) [] [] (.int (0 : Int32)) := AA147
  refine R.astore X147 hx (hb hby at_240) rfl (L' := #[.val (.int p0), .val (.int p1), .val (.int p2), .val (.int p3), .val (.int (2 : Int32)), .val (.int (1 : Int32)), .val (.int (1 : Int32)), .val (.int ld), .val (.ref b123), .val (.ref b129), .val (.int i132), .val (.int i133), .val (.ref b147), .unset, .unset, .unset, .unset, .unset, .unset, .unset, .unset, .unset, .unset, .unset]) rfl (pc' := 242) rfl ?_
  refine R.aload X147 hx (hb hby at_242) rfl rfl (pc' := 244) rfl ?_
  refine R.iconst X147 hx (hb hby at_244) (v := (0 : Int32)) (by decide) (pc' := 245) rfl ?_
  refine R.iloadN X147 hx (hb hby at_245) rfl (pc' := 246) rfl ?_
  refine R.i2b X147 hx (hb hby at_246) (pc' := 247) rfl ?_
  show Rn p e below (T147.setTop (mkF m 247 #[.val (.int p0), .val (.int p1), .val (.int p2), .val (.int p3), .val (.int (2 : Int32)), .val (.int (1 : Int32)), .val (.int (1 : Int32)), .val (.int ld), .val (.ref b123), .val (.ref b129), .val (.int i132), .val (.int i133), .val (.ref b147), .unset, .unset, .unset, .unset, .unset, .unset, .unset, .unset, .unset, .unset, .unset] [(.int (p2.toInt8.toInt32)), (.int (0 : Int32)), (.ref b147)])) G
  generalize hi148 : (p2.toInt8.toInt32) = i148
  have b_i148 := own_byte hi148
  refine R.iastore X147 hx hZ e147 V_b147 (⟨by decide, by decide⟩ : ¬ (0 : Int32) < 0 ∧ (0 : Int32) < (3 : Int32)) (hb hby at_247) (pc' := 248) rfl ?_; intro T149 h149 X149 e149 W149 V149
  have V_b123 := V_b123.other W149 ne_b123_b147
  have V_b129 := V_b129.other W149 ne_b129_b147
  have V_b147 : Arh Z h149 b147 k147 .int (3 : Int32) [((0 : Int32), (.int i148))] [] (.int (0 : Int32)) := V149
  have N149 := Fr.snoc X149 NL g_b147
  have K149 : Keep h0 h149 [] := K147.wr W149 (Or.inr sz_b147)
  have Z149 : n0 ≤ h149.size := Nat.le_trans Z147 (Keep.of_wr W149).1
  refine R.aload X149 hx (hb hby at_248) rfl rfl (pc' := 250) rfl ?_
  refine R.iconst X149 hx (hb hby at_250) (v := (1 : Int32)) (by decide) (pc' := 251) rfl ?_
  refine R.iload X149 hx (hb hby at_251) rfl (pc' := 253) rfl ?_
  refine R.iconst X149 hx (hb hby at_253) (v := (2 : Int32)) (by decide) (pc' := 254) rfl ?_
  refine R.icmpYes X149 hx (hb hby at_254) (tlt (by decide : (1 : Int32) < (2 : Int32))).1 (by decide) (pc' := 265) (by decide) ?_
  refine R.iconst X149 hx (hb hby at_265) (v := (0 : Int32)) (by decide) (pc' := 266) rfl ?_
  refine R.iastore X149 hx hZ e149 V_b147 (⟨by decide, by decide⟩ : ¬ (1 : Int32) < 0 ∧ (1 : Int32) < (3 : Int32)) (hb hby at_266) (pc' := 267) rfl ?_; intro T150 h150 X150 e150 W150 V150
  have V_b123 := V_b123.other W150 ne_b123_b147
  have V_b129 := V_b129.other W150 ne_b129_b147
  have V_b147 : Arh Z h150 b147 k147 .int (3 : Int32) [((1 : Int32), (.int (0 : Int32))), ((0 : Int32), (.int i148))] [] (.int (0 : Int32)) := V150
  have N150 := Fr.snoc X150 N149 g_b147
  have K150 : Keep h0 h150 [] := K149.wr W150 (Or.inr sz_b147)
  have Z150 : n0 ≤ h150.size := Nat.le_trans Z149 (Keep.of_wr W150).1
  refine R.aload X150 hx (hb hby at_267) rfl rfl (pc' := 269) rfl ?_
  refine R.iconst X150 hx (hb hby at_269) (v := (2 : Int32)) (by decide) (pc' := 270) rfl ?_
  refine R.iload X150 hx (hb hby at_270) rfl (pc' := 272) rfl ?_
  refine R.iconst X150 hx (hb hby at_272) (v := (3 : Int32)) (by decide) (pc' := 273) rfl ?_
  refine R.icmpYes X150 hx (hb hby at_273) (tlt (by decide : (1 : Int32) < (3 : Int32))).1 (by decide) (pc' := 284) (by decide) ?_
  refine R.iconst X150 hx (hb hby at_284) (v := (0 : Int32)) (by decide) (pc' := 285) rfl ?_
  refine R.iastore X150 hx hZ e150 V_b147 (⟨by decide, by decide⟩ : ¬ (2 : Int32) < 0 ∧ (2 : Int32) < (3 : Int32)) (hb hby at_285) (pc' := 286) rfl ?_; intro T151 h151 X151 e151 W151 V151
  have V_b123 := V_b123.other W151 ne_b123_b147
  have V_b129 := V_b129.other W151 ne_b129_b147
  have V_b147 : Arh Z h151 b147 k147 .int (3 : Int32) [((2 : Int32), (.int (0 : Int32))), ((1 : Int32), (.int (0 : Int32))), ((0 : Int32), (.int i148))] [] (.int (0 : Int32)) := V151
  have N151 := Fr.snoc X151 N150 g_b147
  have K151 : Keep h0 h151 [] := K150.wr W151 (Or.inr sz_b147)
  have Z151 : n0 ≤ h151.size := Nat.le_trans Z150 (Keep.of_wr W151).1
  refine R.iconst X151 hx (hb hby at_286) (v := (2 : Int32)) (by decide) (pc' := 287) rfl ?_
  refine R.newP X151 hx hZ (ty := .int) rfl w_0 e151 (by decide) (cap := 2) (by decide) (by decide) (ad := "[I") (by decide) (hb hby at_287) (pc' := 289) rfl (by decide) (by decide) ?_; intro T152 h152 b152 k152 g152 X152 e152 E152 EE152 AA152
  have g_b152 : n0 ≤ b152 := Nat.le_trans Z151 (Nat.le_of_eq g152.symm)
  have sz_b152 : h0.size ≤ b152 := Nat.le_trans K151.1 (Nat.le_of_eq g152.symm)
  have ne_b123_b152 : b123 ≠ b152 := Nat.ne_of_lt (Nat.lt_of_lt_of_le V_b123.lt (Nat.le_of_eq g152.symm))
  have ne_b129_b152 : b129 ≠ b152 := Nat.ne_of_lt (Nat.lt_of_lt_of_le V_b129.lt (Nat.le_of_eq g152.symm))
  have ne_b147_b152 : b147 ≠ b152 := Nat.ne_of_lt (Nat.lt_of_lt_of_le V_b147.lt (Nat.le_of_eq g152.symm))
  have K152 : Keep h0 h152 [] := K151.ext E152
  have Z152 : n0 ≤ h152.size := Nat.le_trans Z151 E152.1
  have V_b123 := V_b123.ext E152
  have V_b129 := V_b129.ext E152
  have V_b147 := V_b147.ext E152
  have V_b152 : Arh Z h152 b152 k152 .int (2 : Int32) [] [] (.int (0 : Int32)) := AA152
  refine R.astore X152 hx (hb hby at_289) rfl (L' := #[.val (.int p0), .val (.int p1), .val (.int p2), .val (.int p3), .val (.int (2 : Int32)), .val (.int (1 : Int32)), .val (.int (1 : Int32)), .val (.int ld), .val (.ref b123), .val (.ref b129), .val (.int i132), .val (.int i133), .val (.ref b147), .val (.ref b152), .unset, .unset, .unset, .unset, .unset, .unset, .unset, .unset, .unset, .unset]) rfl (pc' := 291) rfl ?_
  refine R.aload X152 hx (hb hby at_291) rfl rfl (pc' := 293) rfl ?_
  refine R.iconst X152 hx (hb hby at_293) (v := (0 : Int32)) (by decide) (pc' := 294) rfl ?_
  refine R.iload X152 hx (hb hby at_294) rfl (pc' := 296) rfl ?_
  refine R.ifNo X152 hx (hb hby at_296) (tlt (by decide : (0 : Int32) < (1 : Int32))).2.2.2 (pc' := 299) rfl ?_
  refine R.iload X152 hx (hb hby at_299) rfl (pc' := 301) rfl ?_
  refine R.goto X152 hx (hb hby at_301) (by decide) (pc' := 305) (by decide) ?_
  refine R.iastore X152 hx hZ e152 V_b152 (⟨by decide, by decide⟩ : ¬ (0 : Int32) < 0 ∧ (0 : Int32) < (2 : Int32)) (hb hby at_305) (pc' := 306) rfl ?_; intro T153 h153 X153 e153 W153 V153
  have V_b123 := V_b123.other W153 ne_b123_b152
  have V_b129 := V_b129.other W153 ne_b129_b152
  have V_b147 := V_b147.other W153 ne_b147_b152
  have V_b152 : Arh Z h153 b152 k152 .int (2 : Int32) [((0 : Int32), (.int i132))] [] (.int (0 : Int32)) := V153
  have N153 := Fr.snoc X153 N151 g_b152
  have K153 : Keep h0 h153 [] := K152.wr W153 (Or.inr sz_b152)
  have Z153 : n0 ≤ h153.size := Nat.le_trans Z152 (Keep.of_wr W153).1
  refine R.aload X153 hx (hb hby at_306) rfl rfl (pc' := 308) rfl ?_
  refine R.iconst X153 hx (hb hby at_308) (v := (1 : Int32)) (by decide) (pc' := 309) rfl ?_
  refine R.iload X153 hx (hb hby at_309) rfl (pc' := 311) rfl ?_
  refine R.iconst X153 hx (hb hby at_311) (v := (1 : Int32)) (by decide) (pc' := 312) rfl ?_
  refine R.icmpYes X153 hx (hb hby at_312) (flt (by decide : ¬ ((1 : Int32) < (1 : Int32)))).2.2.2 (by decide) (pc' := 320) (by decide) ?_
  refine R.iconst X153 hx (hb hby at_320) (v := (0 : Int32)) (by decide) (pc' := 321) rfl ?_
  refine R.iastore X153 hx hZ e153 V_b152 (⟨by decide, by decide⟩ : ¬ (1 : Int32) < 0 ∧ (1 : Int32) < (2 : Int32)) (hb hby at_321) (pc' := 322) rfl ?_; intro T154 h154 X154 e154 W154 V154
  have V_b123 := V_b123.other W154 ne_b123_b152
  have V_b129 := V_b129.other W154 ne_b129_b152
  have V_b147 := V_b147.other W154 ne_b147_b152
  have V_b152 : Arh Z h154 b152 k152 .int (2 : Int32) [((1 : Int32), (.int (0 : Int32))), ((0 : Int32), (.int i132))] [] (.int (0 : Int32)) := V154
  have N154 := Fr.snoc X154 N153 g_b152
  have K154 : Keep h0 h154 [] := K153.wr W154 (Or.inr sz_b152)
  have Z154 : n0 ≤ h154.size := Nat.le_trans Z153 (Keep.of_wr W154).1
  refine R.iload X154 hx (hb hby at_322) rfl (pc' := 324) rfl ?_
  refine R.iload X154 hx (hb hby at_324) rfl (pc' := 326) rfl ?_
  refine R.iadd X154 hx (hb hby at_326) (v := (2 : Int32)) (by decide) (pc' := 327) rfl ?_
  refine R.istore X154 hx (hb hby at_327) (L' := #[.val (.int p0), .val (.int p1), .val (.int p2), .val (.int p3), .val (.int (2 : Int32)), .val (.int (1 : Int32)), .val (.int (1 : Int32)), .val (.int ld), .val (.ref b123), .val (.ref b129), .val (.int i132), .val (.int i133), .val (.ref b147), .val (.ref b152), .val (.int (2 : Int32)), .unset, .unset, .unset, .unset, .unset, .unset, .unset, .unset, .unset]) rfl (pc' := 329) rfl ?_
  refine R.aload X154 hx (hb hby at_329) rfl rfl (pc' := 331) rfl ?_
  refine R.aload X154 hx (hb hby at_331) rfl rfl (pc' := 333) rfl ?_
  refine R.aload X154 hx (hb hby at_333) rfl rfl (pc' := 335) rfl ?_
  refine R.iconst X154 hx (hb hby at_335) (v := (0 : Int32)) (by decide) (pc' := 336) rfl ?_
  refine R.callS X154 hx hZ (y := mY3) hown w_10 w_11 w_8 w_12 (by decide) e154 (rmcf0 l Z aZ hw [] b147 b123 b152 k147 k123 k152 [((2 : Int32), (.int (0 : Int32))), ((1 : Int32), (.int (0 : Int32))), ((0 : Int32), (.int i148))] [((1 : Int32), (.int ld)), ((2 : Int32), (.int (0 : Int32))), ((1 : Int32), (.int (0 : Int32))), ((0 : Int32), (.int i124))] [((1 : Int32), (.int (0 : Int32))), ((0 : Int32), (.int i132))] i148 (0 : Int32) (0 : Int32) i124 ld (0 : Int32) i132 (0 : Int32) h154 n0 Z154 V_b147 V_b123 V_b152 (getH_miss (by decide) (by decide) (getH_miss (by decide) (by decide) (getH_hit (by decide) (rfl)))) (getH_miss (by decide) (by decide) (getH_hit (by decide) (rfl))) (getH_hit (by decide) (rfl)) (getH_miss (by decide) (by decide) (getH_miss (by decide) (by decide) (getH_miss (by decide) (by decide) (getH_hit (by decide) (rfl))))) (getH_hit (by decide) (rfl)) (getH_miss (by decide) (by decide) (getH_hit (by decide) (rfl))) (getH_miss (by decide) (by decide) (getH_hit (by decide) (rfl))) (getH_hit (by decide) (rfl))) (by decide) (W := 0) (Nat.le_of_eq rfl) (by decide) (by rw [hml]; rfl) (lenOf pd_3 rfl) rfl (hb hby at_336) (pc' := 339) rfl (by decide) (by decide) ?_; intro v155 T155 L155 X155 hQ155
  obtain ⟨rfl, N155q, e155⟩ := hQ155
  have N155 := Fr.app N154 N155q
  show Rn p e below (T155.setTop (mkF m 339 #[.val (.int p0), .val (.int p1), .val (.int p2), .val (.int p3), .val (.int (2 : Int32)), .val (.int (1 : Int32)), .val (.int (1 : Int32)), .val (.int ld), .val (.ref b123), .val (.ref b129), .val (.int i132), .val (.int i133), .val (.ref b147), .val (.ref b152), .val (.int (2 : Int32)), .unset, .unset, .unset, .unset, .unset, .unset, .unset, .unset, .unset] [(.int ((((i148 * i124) + ((0 : Int32) * (0 : Int32))) + ((0 : Int32) * (0 : Int32))) + i132))])) G
  generalize hi156 : ((((i148 * i124) + ((0 : Int32) * (0 : Int32))) + ((0 : Int32) * (0 : Int32))) + i132) = i156
  refine R.istore X155 hx (hb hby at_339) (L' := #[.val (.int p0), .val (.int p1), .val (.int p2), .val (.int p3), .val (.int (2 : Int32)), .val (.int (1 : Int32)), .val (.int (1 : Int32)), .val (.int ld), .val (.ref b123), .val (.ref b129), .val (.int i132), .val (.int i133), .val (.ref b147), .val (.ref b152), .val (.int (2 : Int32)), .val (.int i156), .unset, .unset, .unset, .unset, .unset, .unset, .unset, .unset]) rfl (pc' := 341) rfl ?_
  refine R.aload X155 hx (hb hby at_341) rfl rfl (pc' := 343) rfl ?_
  refine R.aload X155 hx (hb hby at_343) rfl rfl (pc' := 345) rfl ?_
  refine R.aload X155 hx (hb hby at_345) rfl rfl (pc' := 347) rfl ?_
  refine R.iconst X155 hx (hb hby at_347) (v := (1 : Int32)) (by decide) (pc' := 348) rfl ?_
  refine R.callS X155 hx hZ (y := mY3) hown w_10 w_11 w_8 w_12 (by decide) e155 (rmcf1 l Z aZ hw [] b147 b123 b152 k147 k123 k152 [((2 : Int32), (.int (0 : Int32))), ((1 : Int32), (.int (0 : Int32))), ((0 : Int32), (.int i148))] [((1 : Int32), (.int ld)), ((2 : Int32), (.int (0 : Int32))), ((1 : Int32), (.int (0 : Int32))), ((0 : Int32), (.int i124))] [((1 : Int32), (.int (0 : Int32))), ((0 : Int32), (.int i132))] i148 (0 : Int32) (0 : Int32) i124 ld (0 : Int32) i132 (0 : Int32) h154 n0 Z154 V_b147 V_b123 V_b152 (getH_miss (by decide) (by decide) (getH_miss (by decide) (by decide) (getH_hit (by decide) (rfl)))) (getH_miss (by decide) (by decide) (getH_hit (by decide) (rfl))) (getH_hit (by decide) (rfl)) (getH_miss (by decide) (by decide) (getH_miss (by decide) (by decide) (getH_miss (by decide) (by decide) (getH_hit (by decide) (rfl))))) (getH_hit (by decide) (rfl)) (getH_miss (by decide) (by decide) (getH_hit (by decide) (rfl))) (getH_miss (by decide) (by decide) (getH_hit (by decide) (rfl))) (getH_hit (by decide) (rfl))) (by decide) (W := 0) (Nat.le_of_eq rfl) (by decide) (by rw [hml]; rfl) (lenOf pd_3 rfl) rfl (hb hby at_348) (pc' := 351) rfl (by decide) (by decide) ?_; intro v157 T157 L157 X157 hQ157
  obtain ⟨rfl, N157q, e157⟩ := hQ157
  have N157 := Fr.app N155 N157q
  show Rn p e below (T157.setTop (mkF m 351 #[.val (.int p0), .val (.int p1), .val (.int p2), .val (.int p3), .val (.int (2 : Int32)), .val (.int (1 : Int32)), .val (.int (1 : Int32)), .val (.int ld), .val (.ref b123), .val (.ref b129), .val (.int i132), .val (.int i133), .val (.ref b147), .val (.ref b152), .val (.int (2 : Int32)), .val (.int i156), .unset, .unset, .unset, .unset, .unset, .unset, .unset, .unset] [(.int ((((i148 * ld) + ((0 : Int32) * i124)) + ((0 : Int32) * (0 : Int32))) + (0 : Int32)))])) G
  generalize hi158 : ((((i148 * ld) + ((0 : Int32) * i124)) + ((0 : Int32) * (0 : Int32))) + (0 : Int32)) = i158
  refine R.istore X157 hx (hb hby at_351) (L' := #[.val (.int p0), .val (.int p1), .val (.int p2), .val (.int p3), .val (.int (2 : Int32)), .val (.int (1 : Int32)), .val (.int (1 : Int32)), .val (.int ld), .val (.ref b123), .val (.ref b129), .val (.int i132), .val (.int i133), .val (.ref b147), .val (.ref b152), .val (.int (2 : Int32)), .val (.int i156), .val (.int i158), .unset, .unset, .unset, .unset, .unset, .unset, .unset]) rfl (pc' := 353) rfl ?_
  refine R.aload X157 hx (hb hby at_353) rfl rfl (pc' := 355) rfl ?_
  refine R.aload X157 hx (hb hby at_355) rfl rfl (pc' := 357) rfl ?_
  refine R.aload X157 hx (hb hby at_357) rfl rfl (pc' := 359) rfl ?_
  refine R.iconst X157 hx (hb hby at_359) (v := (2 : Int32)) (by decide) (pc' := 360) rfl ?_
  refine R.callS X157 hx hZ (y := mY3) hown w_10 w_11 w_8 w_12 (by decide) e157 (rmcf2 l Z aZ hw [] b147 b123 b152 k147 k123 k152 [((2 : Int32), (.int (0 : Int32))), ((1 : Int32), (.int (0 : Int32))), ((0 : Int32), (.int i148))] [((1 : Int32), (.int ld)), ((2 : Int32), (.int (0 : Int32))), ((1 : Int32), (.int (0 : Int32))), ((0 : Int32), (.int i124))] [((1 : Int32), (.int (0 : Int32))), ((0 : Int32), (.int i132))] i148 (0 : Int32) (0 : Int32) i124 ld (0 : Int32) i132 (0 : Int32) h154 n0 Z154 V_b147 V_b123 V_b152 (getH_miss (by decide) (by decide) (getH_miss (by decide) (by decide) (getH_hit (by decide) (rfl)))) (getH_miss (by decide) (by decide) (getH_hit (by decide) (rfl))) (getH_hit (by decide) (rfl)) (getH_miss (by decide) (by decide) (getH_miss (by decide) (by decide) (getH_miss (by decide) (by decide) (getH_hit (by decide) (rfl))))) (getH_hit (by decide) (rfl)) (getH_miss (by decide) (by decide) (getH_hit (by decide) (rfl))) (getH_miss (by decide) (by decide) (getH_hit (by decide) (rfl))) (getH_hit (by decide) (rfl))) (by decide) (W := 0) (Nat.le_of_eq rfl) (by decide) (by rw [hml]; rfl) (lenOf pd_3 rfl) rfl (hb hby at_360) (pc' := 363) rfl (by decide) (by decide) ?_; intro v159 T159 L159 X159 hQ159
  obtain ⟨rfl, N159q, e159⟩ := hQ159
  have N159 := Fr.app N157 N159q
  show Rn p e below (T159.setTop (mkF m 363 #[.val (.int p0), .val (.int p1), .val (.int p2), .val (.int p3), .val (.int (2 : Int32)), .val (.int (1 : Int32)), .val (.int (1 : Int32)), .val (.int ld), .val (.ref b123), .val (.ref b129), .val (.int i132), .val (.int i133), .val (.ref b147), .val (.ref b152), .val (.int (2 : Int32)), .val (.int i156), .val (.int i158), .unset, .unset, .unset, .unset, .unset, .unset, .unset] [(.int ((((i148 * (0 : Int32)) + ((0 : Int32) * ld)) + ((0 : Int32) * i124)) + (0 : Int32)))])) G
  generalize hi160 : ((((i148 * (0 : Int32)) + ((0 : Int32) * ld)) + ((0 : Int32) * i124)) + (0 : Int32)) = i160
  refine R.istore X159 hx (hb hby at_363) (L' := #[.val (.int p0), .val (.int p1), .val (.int p2), .val (.int p3), .val (.int (2 : Int32)), .val (.int (1 : Int32)), .val (.int (1 : Int32)), .val (.int ld), .val (.ref b123), .val (.ref b129), .val (.int i132), .val (.int i133), .val (.ref b147), .val (.ref b152), .val (.int (2 : Int32)), .val (.int i156), .val (.int i158), .val (.int i160), .unset, .unset, .unset, .unset, .unset, .unset]) rfl (pc' := 365) rfl ?_
  refine R.aload X159 hx (hb hby at_365) rfl rfl (pc' := 367) rfl ?_
  refine R.aload X159 hx (hb hby at_367) rfl rfl (pc' := 369) rfl ?_
  refine R.aload X159 hx (hb hby at_369) rfl rfl (pc' := 371) rfl ?_
  refine R.iconst X159 hx (hb hby at_371) (v := (3 : Int32)) (by decide) (pc' := 372) rfl ?_
  refine R.callS X159 hx hZ (y := mY3) hown w_10 w_11 w_8 w_12 (by decide) e159 (rmcf3 l Z aZ hw [] b147 b123 b152 k147 k123 k152 [((2 : Int32), (.int (0 : Int32))), ((1 : Int32), (.int (0 : Int32))), ((0 : Int32), (.int i148))] [((1 : Int32), (.int ld)), ((2 : Int32), (.int (0 : Int32))), ((1 : Int32), (.int (0 : Int32))), ((0 : Int32), (.int i124))] [((1 : Int32), (.int (0 : Int32))), ((0 : Int32), (.int i132))] i148 (0 : Int32) (0 : Int32) i124 ld (0 : Int32) i132 (0 : Int32) h154 n0 Z154 V_b147 V_b123 V_b152 (getH_miss (by decide) (by decide) (getH_miss (by decide) (by decide) (getH_hit (by decide) (rfl)))) (getH_miss (by decide) (by decide) (getH_hit (by decide) (rfl))) (getH_hit (by decide) (rfl)) (getH_miss (by decide) (by decide) (getH_miss (by decide) (by decide) (getH_miss (by decide) (by decide) (getH_hit (by decide) (rfl))))) (getH_hit (by decide) (rfl)) (getH_miss (by decide) (by decide) (getH_hit (by decide) (rfl))) (getH_miss (by decide) (by decide) (getH_hit (by decide) (rfl))) (getH_hit (by decide) (rfl))) (by decide) (W := 0) (Nat.le_of_eq rfl) (by decide) (by rw [hml]; rfl) (lenOf pd_3 rfl) rfl (hb hby at_372) (pc' := 375) rfl (by decide) (by decide) ?_; intro v161 T161 L161 X161 hQ161
  obtain ⟨rfl, N161q, e161⟩ := hQ161
  have N161 := Fr.app N159 N161q
  show Rn p e below (T161.setTop (mkF m 375 #[.val (.int p0), .val (.int p1), .val (.int p2), .val (.int p3), .val (.int (2 : Int32)), .val (.int (1 : Int32)), .val (.int (1 : Int32)), .val (.int ld), .val (.ref b123), .val (.ref b129), .val (.int i132), .val (.int i133), .val (.ref b147), .val (.ref b152), .val (.int (2 : Int32)), .val (.int i156), .val (.int i158), .val (.int i160), .unset, .unset, .unset, .unset, .unset, .unset] [(.int ((((i148 * (0 : Int32)) + ((0 : Int32) * (0 : Int32))) + ((0 : Int32) * ld)) + (0 : Int32)))])) G
  generalize hi162 : ((((i148 * (0 : Int32)) + ((0 : Int32) * (0 : Int32))) + ((0 : Int32) * ld)) + (0 : Int32)) = i162
  refine R.istore X161 hx (hb hby at_375) (L' := #[.val (.int p0), .val (.int p1), .val (.int p2), .val (.int p3), .val (.int (2 : Int32)), .val (.int (1 : Int32)), .val (.int (1 : Int32)), .val (.int ld), .val (.ref b123), .val (.ref b129), .val (.int i132), .val (.int i133), .val (.ref b147), .val (.ref b152), .val (.int (2 : Int32)), .val (.int i156), .val (.int i158), .val (.int i160), .val (.int i162), .unset, .unset, .unset, .unset, .unset]) rfl (pc' := 377) rfl ?_
  refine R.aload X161 hx (hb hby at_377) rfl rfl (pc' := 379) rfl ?_
  refine R.aload X161 hx (hb hby at_379) rfl rfl (pc' := 381) rfl ?_
  refine R.aload X161 hx (hb hby at_381) rfl rfl (pc' := 383) rfl ?_
  refine R.iconst X161 hx (hb hby at_383) (v := (4 : Int32)) (by decide) (pc' := 384) rfl ?_
  refine R.callS X161 hx hZ (y := mY3) hown w_10 w_11 w_8 w_12 (by decide) e161 (rmcf4 l Z aZ hw [] b147 b123 b152 k147 k123 k152 [((2 : Int32), (.int (0 : Int32))), ((1 : Int32), (.int (0 : Int32))), ((0 : Int32), (.int i148))] [((1 : Int32), (.int ld)), ((2 : Int32), (.int (0 : Int32))), ((1 : Int32), (.int (0 : Int32))), ((0 : Int32), (.int i124))] [((1 : Int32), (.int (0 : Int32))), ((0 : Int32), (.int i132))] i148 (0 : Int32) (0 : Int32) i124 ld (0 : Int32) i132 (0 : Int32) h154 n0 Z154 V_b147 V_b123 V_b152 (getH_miss (by decide) (by decide) (getH_miss (by decide) (by decide) (getH_hit (by decide) (rfl)))) (getH_miss (by decide) (by decide) (getH_hit (by decide) (rfl))) (getH_hit (by decide) (rfl)) (getH_miss (by decide) (by decide) (getH_miss (by decide) (by decide) (getH_miss (by decide) (by decide) (getH_hit (by decide) (rfl))))) (getH_hit (by decide) (rfl)) (getH_miss (by decide) (by decide) (getH_hit (by decide) (rfl))) (getH_miss (by decide) (by decide) (getH_hit (by decide) (rfl))) (getH_hit (by decide) (rfl))) (by decide) (W := 0) (Nat.le_of_eq rfl) (by decide) (by rw [hml]; rfl) (lenOf pd_3 rfl) rfl (hb hby at_384) (pc' := 387) rfl (by decide) (by decide) ?_; intro v163 T163 L163 X163 hQ163
  obtain ⟨rfl, N163q, e163⟩ := hQ163
  have N163 := Fr.app N161 N163q
  show Rn p e below (T163.setTop (mkF m 387 #[.val (.int p0), .val (.int p1), .val (.int p2), .val (.int p3), .val (.int (2 : Int32)), .val (.int (1 : Int32)), .val (.int (1 : Int32)), .val (.int ld), .val (.ref b123), .val (.ref b129), .val (.int i132), .val (.int i133), .val (.ref b147), .val (.ref b152), .val (.int (2 : Int32)), .val (.int i156), .val (.int i158), .val (.int i160), .val (.int i162), .unset, .unset, .unset, .unset, .unset] [(.int ((((i148 * (0 : Int32)) + ((0 : Int32) * (0 : Int32))) + ((0 : Int32) * (0 : Int32))) + (0 : Int32)))])) G
  generalize hi164 : ((((i148 * (0 : Int32)) + ((0 : Int32) * (0 : Int32))) + ((0 : Int32) * (0 : Int32))) + (0 : Int32)) = i164
  refine R.istore X163 hx (hb hby at_387) (L' := #[.val (.int p0), .val (.int p1), .val (.int p2), .val (.int p3), .val (.int (2 : Int32)), .val (.int (1 : Int32)), .val (.int (1 : Int32)), .val (.int ld), .val (.ref b123), .val (.ref b129), .val (.int i132), .val (.int i133), .val (.ref b147), .val (.ref b152), .val (.int (2 : Int32)), .val (.int i156), .val (.int i158), .val (.int i160), .val (.int i162), .val (.int i164), .unset, .unset, .unset, .unset]) rfl (pc' := 389) rfl ?_
  have tc0 := own_cf (b_i148 : i148.toInt.natAbs ≤ 128) (b_i124 : i124.toInt.natAbs ≤ 128) (own_z0 : (0 : Int32).toInt.natAbs ≤ 128) (own_z0 : (0 : Int32).toInt.natAbs ≤ 128) (own_z0 : (0 : Int32).toInt.natAbs ≤ 128) (own_z0 : (0 : Int32).toInt.natAbs ≤ 128) (b_i132 : i132.toInt.natAbs ≤ 128) hi156
  simp only [own_zi, Int.zero_mul, Int.mul_zero, Int.add_zero, Int.zero_add] at tc0
  have tc1 := own_cf (b_i148 : i148.toInt.natAbs ≤ 128) (bl : ld.toInt.natAbs ≤ 128) (own_z0 : (0 : Int32).toInt.natAbs ≤ 128) (b_i124 : i124.toInt.natAbs ≤ 128) (own_z0 : (0 : Int32).toInt.natAbs ≤ 128) (own_z0 : (0 : Int32).toInt.natAbs ≤ 128) (own_z0 : (0 : Int32).toInt.natAbs ≤ 128) hi158
  simp only [own_zi, Int.zero_mul, Int.mul_zero, Int.add_zero, Int.zero_add] at tc1
  have tc2 := own_cf (b_i148 : i148.toInt.natAbs ≤ 128) (own_z0 : (0 : Int32).toInt.natAbs ≤ 128) (own_z0 : (0 : Int32).toInt.natAbs ≤ 128) (bl : ld.toInt.natAbs ≤ 128) (own_z0 : (0 : Int32).toInt.natAbs ≤ 128) (b_i124 : i124.toInt.natAbs ≤ 128) (own_z0 : (0 : Int32).toInt.natAbs ≤ 128) hi160
  simp only [own_zi, Int.zero_mul, Int.mul_zero, Int.add_zero, Int.zero_add] at tc2
  have tc3 := own_cf (b_i148 : i148.toInt.natAbs ≤ 128) (own_z0 : (0 : Int32).toInt.natAbs ≤ 128) (own_z0 : (0 : Int32).toInt.natAbs ≤ 128) (own_z0 : (0 : Int32).toInt.natAbs ≤ 128) (own_z0 : (0 : Int32).toInt.natAbs ≤ 128) (bl : ld.toInt.natAbs ≤ 128) (own_z0 : (0 : Int32).toInt.natAbs ≤ 128) hi162
  simp only [own_zi, Int.zero_mul, Int.mul_zero, Int.add_zero, Int.zero_add] at tc3
  have tc4 := own_cf (b_i148 : i148.toInt.natAbs ≤ 128) (own_z0 : (0 : Int32).toInt.natAbs ≤ 128) (own_z0 : (0 : Int32).toInt.natAbs ≤ 128) (own_z0 : (0 : Int32).toInt.natAbs ≤ 128) (own_z0 : (0 : Int32).toInt.natAbs ≤ 128) (own_z0 : (0 : Int32).toInt.natAbs ≤ 128) (own_z0 : (0 : Int32).toInt.natAbs ≤ 128) hi164
  simp only [own_zi, Int.zero_mul, Int.mul_zero, Int.add_zero, Int.zero_add] at tc4
  refine R.iload X163 hx (hb hby at_389) rfl (pc' := 391) rfl ?_
  refine R.newP X163 hx hZ (ty := .double) rfl w_1 e163 (by decide) (cap := 2) (by decide) (by decide) (ad := "[D") (by decide) (hb hby at_391) (pc' := 393) rfl (by decide) (by decide) ?_; intro T165 h165 b165 k165 g165 X165 e165 E165 EE165 AA165
  have g_b165 : n0 ≤ b165 := Nat.le_trans Z154 (Nat.le_of_eq g165.symm)
  have sz_b165 : h0.size ≤ b165 := Nat.le_trans K154.1 (Nat.le_of_eq g165.symm)
  have ne_b123_b165 : b123 ≠ b165 := Nat.ne_of_lt (Nat.lt_of_lt_of_le V_b123.lt (Nat.le_of_eq g165.symm))
  have ne_b129_b165 : b129 ≠ b165 := Nat.ne_of_lt (Nat.lt_of_lt_of_le V_b129.lt (Nat.le_of_eq g165.symm))
  have ne_b147_b165 : b147 ≠ b165 := Nat.ne_of_lt (Nat.lt_of_lt_of_le V_b147.lt (Nat.le_of_eq g165.symm))
  have ne_b152_b165 : b152 ≠ b165 := Nat.ne_of_lt (Nat.lt_of_lt_of_le V_b152.lt (Nat.le_of_eq g165.symm))
  have K165 : Keep h0 h165 [] := K154.ext E165
  have Z165 : n0 ≤ h165.size := Nat.le_trans Z154 E165.1
  have V_b123 := V_b123.ext E165
  have V_b129 := V_b129.ext E165
  have V_b147 := V_b147.ext E165
  have V_b152 := V_b152.ext E165
  have E_b165 : Exa Z h165 b165 "[D" := EE165
  have V_b165 : Arh Z h165 b165 k165 .double (2 : Int32) [] [] (.double (0 : UInt64)) := AA165
  refine R.astore X165 hx (hb hby at_393) rfl (L' := #[.val (.int p0), .val (.int p1), .val (.int p2), .val (.int p3), .val (.int (2 : Int32)), .val (.int (1 : Int32)), .val (.int (1 : Int32)), .val (.int ld), .val (.ref b123), .val (.ref b129), .val (.int i132), .val (.int i133), .val (.ref b147), .val (.ref b152), .val (.int (2 : Int32)), .val (.int i156), .val (.int i158), .val (.int i160), .val (.int i162), .val (.int i164), .val (.ref b165), .unset, .unset, .unset]) rfl (pc' := 395) rfl ?_
  refine R.iload X165 hx (hb hby at_395) rfl (pc' := 397) rfl ?_
  refine R.ifNo X165 hx (hb hby at_397) (tlt (by decide : (0 : Int32) < (2 : Int32))).2.2.2 (pc' := 400) rfl ?_
  refine R.aload X165 hx (hb hby at_400) rfl rfl (pc' := 402) rfl ?_
  refine R.iconst X165 hx (hb hby at_402) (v := (0 : Int32)) (by decide) (pc' := 403) rfl ?_
  refine R.iload X165 hx (hb hby at_403) rfl (pc' := 405) rfl ?_
  refine R.i2d X165 hx (hb hby at_405) (pc' := 406) rfl ?_
  refine R.dastore X165 hx hZ e165 V_b165 (⟨by decide, by decide⟩ : ¬ (0 : Int32) < 0 ∧ (0 : Int32) < (2 : Int32)) (hb hby at_406) (pc' := 407) rfl ?_; intro T166 h166 X166 e166 W166 V166
  have V_b123 := V_b123.other W166 ne_b123_b165
  have V_b129 := V_b129.other W166 ne_b129_b165
  have V_b147 := V_b147.other W166 ne_b147_b165
  have V_b152 := V_b152.other W166 ne_b152_b165
  have E_b165 := E_b165.wr W166
  have V_b165 : Arh Z h166 b165 k165 .double (2 : Int32) [((0 : Int32), (.double (FP.i2d i156)))] [] (.double (0 : UInt64)) := V166
  have N166 := Fr.snoc X166 N163 g_b165
  have K166 : Keep h0 h166 [] := K165.wr W166 (Or.inr sz_b165)
  have Z166 : n0 ≤ h166.size := Nat.le_trans Z165 (Keep.of_wr W166).1
  refine R.iload X166 hx (hb hby at_407) rfl (pc' := 409) rfl ?_
  refine R.iconst X166 hx (hb hby at_409) (v := (1 : Int32)) (by decide) (pc' := 410) rfl ?_
  refine R.icmpNo X166 hx (hb hby at_410) (tlt (by decide : (1 : Int32) < (2 : Int32))).2.2.2 (pc' := 413) rfl ?_
  refine R.aload X166 hx (hb hby at_413) rfl rfl (pc' := 415) rfl ?_
  refine R.iconst X166 hx (hb hby at_415) (v := (1 : Int32)) (by decide) (pc' := 416) rfl ?_
  refine R.iload X166 hx (hb hby at_416) rfl (pc' := 418) rfl ?_
  refine R.i2d X166 hx (hb hby at_418) (pc' := 419) rfl ?_
  refine R.dastore X166 hx hZ e166 V_b165 (⟨by decide, by decide⟩ : ¬ (1 : Int32) < 0 ∧ (1 : Int32) < (2 : Int32)) (hb hby at_419) (pc' := 420) rfl ?_; intro T167 h167 X167 e167 W167 V167
  have V_b123 := V_b123.other W167 ne_b123_b165
  have V_b129 := V_b129.other W167 ne_b129_b165
  have V_b147 := V_b147.other W167 ne_b147_b165
  have V_b152 := V_b152.other W167 ne_b152_b165
  have E_b165 := E_b165.wr W167
  have V_b165 : Arh Z h167 b165 k165 .double (2 : Int32) [((1 : Int32), (.double (FP.i2d i158))), ((0 : Int32), (.double (FP.i2d i156)))] [] (.double (0 : UInt64)) := V167
  have N167 := Fr.snoc X167 N166 g_b165
  have K167 : Keep h0 h167 [] := K166.wr W167 (Or.inr sz_b165)
  have Z167 : n0 ≤ h167.size := Nat.le_trans Z166 (Keep.of_wr W167).1
  refine R.iload X167 hx (hb hby at_420) rfl (pc' := 422) rfl ?_
  refine R.iconst X167 hx (hb hby at_422) (v := (2 : Int32)) (by decide) (pc' := 423) rfl ?_
  refine R.icmpYes X167 hx (hb hby at_423) (flt (by decide : ¬ ((2 : Int32) < (2 : Int32)))).2.2.2 (by decide) (pc' := 433) (by decide) ?_
  refine R.iload X167 hx (hb hby at_433) rfl (pc' := 435) rfl ?_
  refine R.iconst X167 hx (hb hby at_435) (v := (3 : Int32)) (by decide) (pc' := 436) rfl ?_
  refine R.icmpYes X167 hx (hb hby at_436) (flt (by decide : ¬ ((3 : Int32) < (2 : Int32)))).2.2.2 (by decide) (pc' := 446) (by decide) ?_
  refine R.iload X167 hx (hb hby at_446) rfl (pc' := 448) rfl ?_
  refine R.iconst X167 hx (hb hby at_448) (v := (4 : Int32)) (by decide) (pc' := 449) rfl ?_
  refine R.icmpYes X167 hx (hb hby at_449) (flt (by decide : ¬ ((4 : Int32) < (2 : Int32)))).2.2.2 (by decide) (pc' := 459) (by decide) ?_
  refine R.aload X167 hx (hb hby at_459) rfl rfl (pc' := 461) rfl ?_
  refine R.aload X167 hx (hb hby at_461) rfl rfl (pc' := 463) rfl ?_
  refine R.callS X167 hx hZ (y := mY1) hown w_2 w_3 w_4 w_5 (by decide) e167 (rmqq21 l Z aZ hw [] b165 b129 k165 k129 [((1 : Int32), (.double (FP.i2d i158))), ((0 : Int32), (.double (FP.i2d i156)))] [((1 : Int32), (.double (FP.i2d ld))), ((0 : Int32), (.double (FP.i2d i124)))] (FP.i2d i156) (FP.i2d i158) (FP.i2d i124) (FP.i2d ld) i156.toInt i158.toInt i124.toInt ld.toInt i148.toInt i132.toInt h167 n0 Z167 V_b165 E_b165 V_b129 (getH_miss (by decide) (by decide) (getH_hit (by decide) (rfl))) (Dy.i2d _) (getH_hit (by decide) (rfl)) (Dy.i2d _) (getH_miss (by decide) (by decide) (getH_hit (by decide) (rfl))) (Dy.i2d _) (getH_hit (by decide) (rfl)) (Dy.i2d _) (tc0) (tc1) (nl) (b_i124) (bl) (b_i148) (b_i132)) (by decide) (W := 0) (Nat.le_of_eq rfl) (by decide) (by rw [hml]; rfl) (lenOf pd_1 rfl) rfl (hb hby at_463) (pc' := 466) rfl (by decide) (by decide) ?_; intro v168 T168 L168 X168 hQ168
  obtain ⟨r_168, kr_168, hr_168, rfl, N168q, Kc168, P168_0, P168_1, P168_2⟩ := hQ168
  have N168 := Fr.app N167 N168q
  generalize e168 : T168.heap = h168 at Kc168 P168_0 P168_1 P168_2
  have K168 : Keep h0 h168 [] := K167.trans Kc168 (all0)
  have Z168 : n0 ≤ h168.size := Nat.le_trans Z167 Kc168.1
  have ne_b123_r_168 : b123 ≠ r_168 := Nat.ne_of_lt (Nat.lt_of_lt_of_le V_b123.lt P168_0)
  have ne_b129_r_168 : b129 ≠ r_168 := Nat.ne_of_lt (Nat.lt_of_lt_of_le V_b129.lt P168_0)
  have ne_b147_r_168 : b147 ≠ r_168 := Nat.ne_of_lt (Nat.lt_of_lt_of_le V_b147.lt P168_0)
  have ne_b152_r_168 : b152 ≠ r_168 := Nat.ne_of_lt (Nat.lt_of_lt_of_le V_b152.lt P168_0)
  have ne_b165_r_168 : b165 ≠ r_168 := Nat.ne_of_lt (Nat.lt_of_lt_of_le E_b165.lt P168_0)
  have g_r_168 : n0 ≤ r_168 := Nat.le_trans Z167 P168_0
  have sz_r_168 : h0.size ≤ r_168 := Nat.le_trans K167.1 P168_0
  have V_b123 := V_b123.keep Kc168 nin0
  have V_b129 := V_b129.keep Kc168 nin0
  have V_b147 := V_b147.keep Kc168 nin0
  have V_b152 := V_b152.keep Kc168 nin0
  have E_b165 := E_b165.keep Kc168
  have V_b165 := V_b165.keep Kc168 nin0
  have fresh_168 := P168_0
  have V_r_168 : Arh Z h168 r_168 kr_168 .double (1 : Int32) hr_168 [] (.double (0 : UInt64)) := P168_1
  have V_r_168 : Arh Z h168 r_168 kr_168 .double (1 : Int32) hr_168 [] (.double (0 : UInt64)) := V_r_168
  have c0_168 := P168_2
  refine R.astore X168 hx (hb hby at_466) rfl (L' := #[.val (.int p0), .val (.int p1), .val (.int p2), .val (.int p3), .val (.int (2 : Int32)), .val (.int (1 : Int32)), .val (.int (1 : Int32)), .val (.int ld), .val (.ref b123), .val (.ref b129), .val (.int i132), .val (.int i133), .val (.ref b147), .val (.ref b152), .val (.int (2 : Int32)), .val (.int i156), .val (.int i158), .val (.int i160), .val (.int i162), .val (.int i164), .val (.ref b165), .val (.ref r_168), .unset, .unset]) rfl (pc' := 468) rfl ?_
  refine R.aload X168 hx (hb hby at_468) rfl rfl (pc' := 470) rfl ?_
  refine R.alen X168 hx hZ e168 V_r_168 (hb hby at_470) (pc' := 471) rfl ?_
  refine R.iload X168 hx (hb hby at_471) rfl (pc' := 473) rfl ?_
  refine R.icmpNo X168 hx (hb hby at_473) (teq (by decide : (1 : Int32) = (1 : Int32))).2 (pc' := 476) rfl ?_
  refine R.aload X168 hx (hb hby at_476) rfl rfl (pc' := 478) rfl ?_
  refine R.iconst X168 hx (hb hby at_478) (v := (0 : Int32)) (by decide) (pc' := 479) rfl ?_
  refine R.aload X168 hx (hb hby at_479) rfl rfl (pc' := 481) rfl ?_
  refine R.callS X168 hx hZ (y := mY4) hown w_25 w_26 w_8 w_27 (by decide) e168 (rm5 l Z aZ hw [] r_168 (0 : Int32) b147 kr_168 (1 : Int32) hr_168 k147 [((2 : Int32), (.int (0 : Int32))), ((1 : Int32), (.int (0 : Int32))), ((0 : Int32), (.int i148))] i148 h168 n0 Z168 V_r_168 V_b147 (by decide) (getH_miss (by decide) (by decide) (getH_miss (by decide) (by decide) (getH_hit (by decide) (rfl)))) (fun _ => c0_168)) (by decide) (W := 0) (Nat.le_of_eq rfl) (by decide) (by rw [hml]; rfl) (lenOf pd_4 rfl) rfl (hb hby at_481) (pc' := 484) rfl (by decide) (by decide) ?_; intro v169 T169 L169 X169 hQ169
  obtain ⟨rfl, N169q, e169⟩ := hQ169
  have N169 := Fr.app N168 N169q
  refine R.ifNo X169 hx (hb hby at_484) (feq (by decide : ¬ ((1 : Int32) = (0 : Int32)))).1 (pc' := 487) rfl ?_
  refine R.aload X169 hx (hb hby at_487) rfl rfl (pc' := 489) rfl ?_
  refine R.iconst X169 hx (hb hby at_489) (v := (1 : Int32)) (by decide) (pc' := 490) rfl ?_
  refine R.aload X169 hx (hb hby at_490) rfl rfl (pc' := 492) rfl ?_
  refine R.callS X169 hx hZ (y := mY4) hown w_25 w_26 w_8 w_27 (by decide) e169 (rm5 l Z aZ hw [] r_168 (1 : Int32) b147 kr_168 (1 : Int32) hr_168 k147 [((2 : Int32), (.int (0 : Int32))), ((1 : Int32), (.int (0 : Int32))), ((0 : Int32), (.int i148))] (0 : Int32) h168 n0 Z168 V_r_168 V_b147 (by decide) (getH_miss (by decide) (by decide) (getH_hit (by decide) (rfl))) (fun q => absurd q (by decide))) (by decide) (W := 0) (Nat.le_of_eq rfl) (by decide) (by rw [hml]; rfl) (lenOf pd_4 rfl) rfl (hb hby at_492) (pc' := 495) rfl (by decide) (by decide) ?_; intro v170 T170 L170 X170 hQ170
  obtain ⟨rfl, N170q, e170⟩ := hQ170
  have N170 := Fr.app N169 N170q
  refine R.ifNo X170 hx (hb hby at_495) (feq (by decide : ¬ ((1 : Int32) = (0 : Int32)))).1 (pc' := 498) rfl ?_
  refine R.aload X170 hx (hb hby at_498) rfl rfl (pc' := 500) rfl ?_
  refine R.iconst X170 hx (hb hby at_500) (v := (2 : Int32)) (by decide) (pc' := 501) rfl ?_
  refine R.aload X170 hx (hb hby at_501) rfl rfl (pc' := 503) rfl ?_
  refine R.callS X170 hx hZ (y := mY4) hown w_25 w_26 w_8 w_27 (by decide) e170 (rm5 l Z aZ hw [] r_168 (2 : Int32) b147 kr_168 (1 : Int32) hr_168 k147 [((2 : Int32), (.int (0 : Int32))), ((1 : Int32), (.int (0 : Int32))), ((0 : Int32), (.int i148))] (0 : Int32) h168 n0 Z168 V_r_168 V_b147 (by decide) (getH_hit (by decide) (rfl)) (fun q => absurd q (by decide))) (by decide) (W := 0) (Nat.le_of_eq rfl) (by decide) (by rw [hml]; rfl) (lenOf pd_4 rfl) rfl (hb hby at_503) (pc' := 506) rfl (by decide) (by decide) ?_; intro v171 T171 L171 X171 hQ171
  obtain ⟨rfl, N171q, e171⟩ := hQ171
  have N171 := Fr.app N170 N171q
  refine R.ifNo X171 hx (hb hby at_506) (feq (by decide : ¬ ((1 : Int32) = (0 : Int32)))).1 (pc' := 509) rfl ?_
  refine R.iconst X171 hx (hb hby at_509) (v := (1 : Int32)) (by decide) (pc' := 510) rfl ?_
  refine R.goto X171 hx (hb hby at_510) (by decide) (pc' := 514) (by decide) ?_
  refine R.istore X171 hx (hb hby at_514) (L' := #[.val (.int p0), .val (.int p1), .val (.int p2), .val (.int p3), .val (.int (2 : Int32)), .val (.int (1 : Int32)), .val (.int (1 : Int32)), .val (.int ld), .val (.ref b123), .val (.ref b129), .val (.int i132), .val (.int i133), .val (.ref b147), .val (.ref b152), .val (.int (2 : Int32)), .val (.int i156), .val (.int i158), .val (.int i160), .val (.int i162), .val (.int i164), .val (.ref b165), .val (.ref r_168), .val (.int (1 : Int32)), .unset]) rfl (pc' := 516) rfl ?_
  refine R.aload X171 hx (hb hby at_516) rfl rfl (pc' := 518) rfl ?_
  refine R.iconst X171 hx (hb hby at_518) (v := (0 : Int32)) (by decide) (pc' := 519) rfl ?_
  refine R.iload X171 hx (hb hby at_519) rfl (pc' := 521) rfl ?_
  refine R.callS X171 hx hZ (y := mY2) hown w_6 w_7 w_8 w_9 (by decide) e171 (rm2 l Z aZ hw [] b165 (0 : Int32) i156 k165 (2 : Int32) [((1 : Int32), (.double (FP.i2d i158))), ((0 : Int32), (.double (FP.i2d i156)))] h168 n0 Z168 V_b165 (by decide) (fun _ => getH_miss (by decide) (by decide) (getH_hit (by decide) (rfl)))) (by decide) (W := 0) (Nat.le_of_eq rfl) (by decide) (by rw [hml]; rfl) (lenOf pd_2 rfl) rfl (hb hby at_521) (pc' := 524) rfl (by decide) (by decide) ?_; intro v172 T172 L172 X172 hQ172
  obtain ⟨rfl, N172q, e172⟩ := hQ172
  have N172 := Fr.app N171 N172q
  refine R.ifNo X172 hx (hb hby at_524) (feq (by decide : ¬ ((1 : Int32) = (0 : Int32)))).1 (pc' := 527) rfl ?_
  refine R.aload X172 hx (hb hby at_527) rfl rfl (pc' := 529) rfl ?_
  refine R.iconst X172 hx (hb hby at_529) (v := (1 : Int32)) (by decide) (pc' := 530) rfl ?_
  refine R.iload X172 hx (hb hby at_530) rfl (pc' := 532) rfl ?_
  refine R.callS X172 hx hZ (y := mY2) hown w_6 w_7 w_8 w_9 (by decide) e172 (rm2 l Z aZ hw [] b165 (1 : Int32) i158 k165 (2 : Int32) [((1 : Int32), (.double (FP.i2d i158))), ((0 : Int32), (.double (FP.i2d i156)))] h168 n0 Z168 V_b165 (by decide) (fun _ => getH_hit (by decide) (rfl))) (by decide) (W := 0) (Nat.le_of_eq rfl) (by decide) (by rw [hml]; rfl) (lenOf pd_2 rfl) rfl (hb hby at_532) (pc' := 535) rfl (by decide) (by decide) ?_; intro v173 T173 L173 X173 hQ173
  obtain ⟨rfl, N173q, e173⟩ := hQ173
  have N173 := Fr.app N172 N173q
  refine R.ifNo X173 hx (hb hby at_535) (feq (by decide : ¬ ((1 : Int32) = (0 : Int32)))).1 (pc' := 538) rfl ?_
  refine R.aload X173 hx (hb hby at_538) rfl rfl (pc' := 540) rfl ?_
  refine R.iconst X173 hx (hb hby at_540) (v := (2 : Int32)) (by decide) (pc' := 541) rfl ?_
  refine R.iload X173 hx (hb hby at_541) rfl (pc' := 543) rfl ?_
  refine R.callS X173 hx hZ (y := mY2) hown w_6 w_7 w_8 w_9 (by decide) e173 (rm2 l Z aZ hw [] b165 (2 : Int32) i160 k165 (2 : Int32) [((1 : Int32), (.double (FP.i2d i158))), ((0 : Int32), (.double (FP.i2d i156)))] h168 n0 Z168 V_b165 (by decide) (fun q => absurd q (by decide))) (by decide) (W := 0) (Nat.le_of_eq rfl) (by decide) (by rw [hml]; rfl) (lenOf pd_2 rfl) rfl (hb hby at_543) (pc' := 546) rfl (by decide) (by decide) ?_; intro v174 T174 L174 X174 hQ174
  obtain ⟨rfl, N174q, e174⟩ := hQ174
  have N174 := Fr.app N173 N174q
  refine R.ifNo X174 hx (hb hby at_546) (feq (by decide : ¬ ((1 : Int32) = (0 : Int32)))).1 (pc' := 549) rfl ?_
  refine R.aload X174 hx (hb hby at_549) rfl rfl (pc' := 551) rfl ?_
  refine R.iconst X174 hx (hb hby at_551) (v := (3 : Int32)) (by decide) (pc' := 552) rfl ?_
  refine R.iload X174 hx (hb hby at_552) rfl (pc' := 554) rfl ?_
  refine R.callS X174 hx hZ (y := mY2) hown w_6 w_7 w_8 w_9 (by decide) e174 (rm2 l Z aZ hw [] b165 (3 : Int32) i162 k165 (2 : Int32) [((1 : Int32), (.double (FP.i2d i158))), ((0 : Int32), (.double (FP.i2d i156)))] h168 n0 Z168 V_b165 (by decide) (fun q => absurd q (by decide))) (by decide) (W := 0) (Nat.le_of_eq rfl) (by decide) (by rw [hml]; rfl) (lenOf pd_2 rfl) rfl (hb hby at_554) (pc' := 557) rfl (by decide) (by decide) ?_; intro v175 T175 L175 X175 hQ175
  obtain ⟨rfl, N175q, e175⟩ := hQ175
  have N175 := Fr.app N174 N175q
  refine R.ifNo X175 hx (hb hby at_557) (feq (by decide : ¬ ((1 : Int32) = (0 : Int32)))).1 (pc' := 560) rfl ?_
  refine R.aload X175 hx (hb hby at_560) rfl rfl (pc' := 562) rfl ?_
  refine R.iconst X175 hx (hb hby at_562) (v := (4 : Int32)) (by decide) (pc' := 563) rfl ?_
  refine R.iload X175 hx (hb hby at_563) rfl (pc' := 565) rfl ?_
  refine R.callS X175 hx hZ (y := mY2) hown w_6 w_7 w_8 w_9 (by decide) e175 (rm2 l Z aZ hw [] b165 (4 : Int32) i164 k165 (2 : Int32) [((1 : Int32), (.double (FP.i2d i158))), ((0 : Int32), (.double (FP.i2d i156)))] h168 n0 Z168 V_b165 (by decide) (fun q => absurd q (by decide))) (by decide) (W := 0) (Nat.le_of_eq rfl) (by decide) (by rw [hml]; rfl) (lenOf pd_2 rfl) rfl (hb hby at_565) (pc' := 568) rfl (by decide) (by decide) ?_; intro v176 T176 L176 X176 hQ176
  obtain ⟨rfl, N176q, e176⟩ := hQ176
  have N176 := Fr.app N175 N176q
  refine R.ifNo X176 hx (hb hby at_568) (feq (by decide : ¬ ((1 : Int32) = (0 : Int32)))).1 (pc' := 571) rfl ?_
  refine R.iconst X176 hx (hb hby at_571) (v := (1 : Int32)) (by decide) (pc' := 572) rfl ?_
  refine R.goto X176 hx (hb hby at_572) (by decide) (pc' := 576) (by decide) ?_
  refine R.istore X176 hx (hb hby at_576) (L' := #[.val (.int p0), .val (.int p1), .val (.int p2), .val (.int p3), .val (.int (2 : Int32)), .val (.int (1 : Int32)), .val (.int (1 : Int32)), .val (.int ld), .val (.ref b123), .val (.ref b129), .val (.int i132), .val (.int i133), .val (.ref b147), .val (.ref b152), .val (.int (2 : Int32)), .val (.int i156), .val (.int i158), .val (.int i160), .val (.int i162), .val (.int i164), .val (.ref b165), .val (.ref r_168), .val (.int (1 : Int32)), .val (.int (1 : Int32))]) rfl (pc' := 578) rfl ?_
  refine R.iload X176 hx (hb hby at_578) rfl (pc' := 580) rfl ?_
  refine R.ifNo X176 hx (hb hby at_580) (feq (by decide : ¬ ((1 : Int32) = (0 : Int32)))).1 (pc' := 583) rfl ?_
  refine R.iload X176 hx (hb hby at_583) rfl (pc' := 585) rfl ?_
  refine R.ifNo X176 hx (hb hby at_585) (feq (by decide : ¬ ((1 : Int32) = (0 : Int32)))).1 (pc' := 588) rfl ?_
  refine R.iconst X176 hx (hb hby at_588) (v := (1 : Int32)) (by decide) (pc' := 589) rfl ?_
  refine R.goto X176 hx (hb hby at_589) (by decide) (pc' := 593) (by decide) ?_
  rw [← hG]
  exact Rn.ret X176 (BodyLoose.notSynchronized Bd) (v := some (.int (1 : Int32))) (fun h => by rw [Bd.returns] at h; cases h) (Q := Q0 Z p0 p1 p2 p3 h0 n0) e176 (fun fs hr => retN X176 hx (t := .boolean) Bd.returns (by simp) (hb hby at_593) hr) ⟨rfl, N176⟩ (by decide) (by decide)
set_option maxRecDepth 65536 in
set_option maxHeartbeats 40000000 in
theorem rm0_22 (l : Launch) (Z : State) (aZ : Array Value) (hw : ∀ d ∈ tables_1, d.before aZ Z = true) (ws : List Jvm.Cond) (p0 : Int32) (p1 : Int32) (p2 : Int32) (p3 : Int32) (h0 : Heap) (n0 : Nat) {p : Program} {e : Env} {s : State} {m : MethodId} {below : List Frame} {meth : Method} {c : Code} {s₁ : State} (Bd : BodyLoose p l x (head1 (Jvm.Cond.code x code maxLocals ret :: ws) room_1) code maxLocals ret e s m #[(.int p0), (.int p1), (.int p2), (.int p3)] below meth c s₁) (hml : c.maxLocals = 24) (hZ : Z.Warmed39 s.vm) {TL : State} {hL : Heap} {lL : List Loc} (XL : Stand p l e room_1 s m #[(.int p0), (.int p1), (.int p2), (.int p3)] below meth c TL lL 2 5) (eL : TL.heap = hL) (NL : Fr n0 lL) (KL : Keep h0 hL []) (ZL : n0 ≤ hL.size) (ld : Int32) (b123 : Addr) (b129 : Addr) (i124 : Int32) (i132 : Int32) (i133 : Int32) (k123 : ClassId) (k129 : ClassId) {G : Outcome → State → Prop} (hG : (Fn0 Z p0 p1 p2 p3 h0 n0 s) = G) (V_b123 : Arh Z hL b123 k123 .int (3 : Int32) [((1 : Int32), (.int ld)), ((2 : Int32), (.int (0 : Int32))), ((1 : Int32), (.int (0 : Int32))), ((0 : Int32), (.int i124))] [] (.int (0 : Int32))) (V_b129 : Arh Z hL b129 k129 .double (2 : Int32) [((1 : Int32), (.double (FP.i2d ld))), ((0 : Int32), (.double (FP.i2d i124)))] [] (.double (0 : UInt64))) (ne_b123_b129 : b123 ≠ b129) (g_b123 : n0 ≤ b123) (g_b129 : n0 ≤ b129) (sz_b123 : h0.size ≤ b123) (sz_b129 : h0.size ≤ b129) (nl : ld.toInt ≠ 0) (bl : ld.toInt.natAbs ≤ 128) (b_i132 : i132.toInt.natAbs ≤ 128) (b_i133 : i133.toInt.natAbs ≤ 128) (b_i124 : i124.toInt.natAbs ≤ 128) : Rn p e below (TL.setTop (mkF m 147 #[.val (.int p0), .val (.int p1), .val (.int p2), .val (.int p3), .val (.int (2 : Int32)), .val (.int (1 : Int32)), .val (.int (2 : Int32)), .val (.int ld), .val (.ref b123), .val (.ref b129), .val (.int i132), .val (.int i133), .unset, .unset, .unset, .unset, .unset, .unset, .unset, .unset, .unset, .unset, .unset, .unset] [])) G := by
  have hx := Bd.exec
  have hby := Bd.bytes
  have hown : s.vm.findClass "com/example/deseason/deseason/arima/PolynomialsQuotientPinLaw" = some m.cls := findClass_of_methodNamed Bd.named
  have hnm := (name_of_methodNamed Bd.named Bd.method).1
  have w_0 := hw _ (List.mem_of_getElem? (i := 0) rfl)
  have w_1 := hw _ (List.mem_of_getElem? (i := 1) rfl)
  have w_2 := hw _ (List.mem_of_getElem? (i := 2) rfl)
  have w_3 := hw _ (List.mem_of_getElem? (i := 3) rfl)
  have w_4 := hw _ (List.mem_of_getElem? (i := 4) rfl)
  have w_5 := hw _ (List.mem_of_getElem? (i := 5) rfl)
  have w_6 := hw _ (List.mem_of_getElem? (i := 6) rfl)
  have w_7 := hw _ (List.mem_of_getElem? (i := 7) rfl)
  have w_8 := hw _ (List.mem_of_getElem? (i := 8) rfl)
  have w_9 := hw _ (List.mem_of_getElem? (i := 9) rfl)
  have w_10 := hw _ (List.mem_of_getElem? (i := 10) rfl)
  have w_11 := hw _ (List.mem_of_getElem? (i := 11) rfl)
  have w_12 := hw _ (List.mem_of_getElem? (i := 12) rfl)
  have w_25 := hw _ (List.mem_of_getElem? (i := 25) rfl)
  have w_26 := hw _ (List.mem_of_getElem? (i := 26) rfl)
  have w_27 := hw _ (List.mem_of_getElem? (i := 27) rfl)
  show Rn p e below (TL.setTop (mkF m 147 #[.val (.int p0), .val (.int p1), .val (.int p2), .val (.int p3), .val (.int (2 : Int32)), .val (.int (1 : Int32)), .val (.int (2 : Int32)), .val (.int ld), .val (.ref b123), .val (.ref b129), .val (.int i132), .val (.int i133), .unset, .unset, .unset, .unset, .unset, .unset, .unset, .unset, .unset, .unset, .unset, .unset] [])) G
  refine R.iload XL hx (hb hby at_147) rfl (pc' := 149) rfl ?_
  refine R.ifYes XL hx (hb hby at_149) (feq (by decide : ¬ ((2 : Int32) = (0 : Int32)))).2 (by decide) (pc' := 237) (by decide) ?_
  refine R.iconst XL hx (hb hby at_237) (v := (3 : Int32)) (by decide) (pc' := 238) rfl ?_
  refine R.newP XL hx hZ (ty := .int) rfl w_0 eL (by decide) (cap := 3) (by decide) (by decide) (ad := "[I") (by decide) (hb hby at_238) (pc' := 240) rfl (by decide) (by decide) ?_; intro T177 h177 b177 k177 g177 X177 e177 E177 EE177 AA177
  have g_b177 : n0 ≤ b177 := Nat.le_trans ZL (Nat.le_of_eq g177.symm)
  have sz_b177 : h0.size ≤ b177 := Nat.le_trans KL.1 (Nat.le_of_eq g177.symm)
  have ne_b123_b177 : b123 ≠ b177 := Nat.ne_of_lt (Nat.lt_of_lt_of_le V_b123.lt (Nat.le_of_eq g177.symm))
  have ne_b129_b177 : b129 ≠ b177 := Nat.ne_of_lt (Nat.lt_of_lt_of_le V_b129.lt (Nat.le_of_eq g177.symm))
  have K177 : Keep h0 h177 [] := KL.ext E177
  have Z177 : n0 ≤ h177.size := Nat.le_trans ZL E177.1
  have V_b123 := V_b123.ext E177
  have V_b129 := V_b129.ext E177
  have V_b177 : Arh Z h177 b177 k177 .int (3 : Int32) [] [] (.int (0 : Int32)) := AA177
  refine R.astore X177 hx (hb hby at_240) rfl (L' := #[.val (.int p0), .val (.int p1), .val (.int p2), .val (.int p3), .val (.int (2 : Int32)), .val (.int (1 : Int32)), .val (.int (2 : Int32)), .val (.int ld), .val (.ref b123), .val (.ref b129), .val (.int i132), .val (.int i133), .val (.ref b177), .unset, .unset, .unset, .unset, .unset, .unset, .unset, .unset, .unset, .unset, .unset]) rfl (pc' := 242) rfl ?_
  refine R.aload X177 hx (hb hby at_242) rfl rfl (pc' := 244) rfl ?_
  refine R.iconst X177 hx (hb hby at_244) (v := (0 : Int32)) (by decide) (pc' := 245) rfl ?_
  refine R.iloadN X177 hx (hb hby at_245) rfl (pc' := 246) rfl ?_
  refine R.i2b X177 hx (hb hby at_246) (pc' := 247) rfl ?_
  show Rn p e below (T177.setTop (mkF m 247 #[.val (.int p0), .val (.int p1), .val (.int p2), .val (.int p3), .val (.int (2 : Int32)), .val (.int (1 : Int32)), .val (.int (2 : Int32)), .val (.int ld), .val (.ref b123), .val (.ref b129), .val (.int i132), .val (.int i133), .val (.ref b177), .unset, .unset, .unset, .unset, .unset, .unset, .unset, .unset, .unset, .unset, .unset] [(.int (p2.toInt8.toInt32)), (.int (0 : Int32)), (.ref b177)])) G
  generalize hi178 : (p2.toInt8.toInt32) = i178
  have b_i178 := own_byte hi178
  refine R.iastore X177 hx hZ e177 V_b177 (⟨by decide, by decide⟩ : ¬ (0 : Int32) < 0 ∧ (0 : Int32) < (3 : Int32)) (hb hby at_247) (pc' := 248) rfl ?_; intro T179 h179 X179 e179 W179 V179
  have V_b123 := V_b123.other W179 ne_b123_b177
  have V_b129 := V_b129.other W179 ne_b129_b177
  have V_b177 : Arh Z h179 b177 k177 .int (3 : Int32) [((0 : Int32), (.int i178))] [] (.int (0 : Int32)) := V179
  have N179 := Fr.snoc X179 NL g_b177
  have K179 : Keep h0 h179 [] := K177.wr W179 (Or.inr sz_b177)
  have Z179 : n0 ≤ h179.size := Nat.le_trans Z177 (Keep.of_wr W179).1
  refine R.aload X179 hx (hb hby at_248) rfl rfl (pc' := 250) rfl ?_
  refine R.iconst X179 hx (hb hby at_250) (v := (1 : Int32)) (by decide) (pc' := 251) rfl ?_
  refine R.iload X179 hx (hb hby at_251) rfl (pc' := 253) rfl ?_
  refine R.iconst X179 hx (hb hby at_253) (v := (2 : Int32)) (by decide) (pc' := 254) rfl ?_
  refine R.icmpNo X179 hx (hb hby at_254) (flt (by decide : ¬ ((2 : Int32) < (2 : Int32)))).1 (pc' := 257) rfl ?_
  refine R.iloadN X179 hx (hb hby at_257) rfl (pc' := 258) rfl ?_
  refine R.bipush X179 hx (hb hby at_258) (v := (8 : Int32)) (by decide) (pc' := 260) rfl ?_
  refine R.ishr X179 hx (hb hby at_260) (pc' := 261) rfl ?_
  refine R.i2b X179 hx (hb hby at_261) (pc' := 262) rfl ?_
  show Rn p e below (T179.setTop (mkF m 262 #[.val (.int p0), .val (.int p1), .val (.int p2), .val (.int p3), .val (.int (2 : Int32)), .val (.int (1 : Int32)), .val (.int (2 : Int32)), .val (.int ld), .val (.ref b123), .val (.ref b129), .val (.int i132), .val (.int i133), .val (.ref b177), .unset, .unset, .unset, .unset, .unset, .unset, .unset, .unset, .unset, .unset, .unset] [(.int ((p2 >>> ((8 : Int32) &&& 31)).toInt8.toInt32)), (.int (1 : Int32)), (.ref b177)])) G
  generalize hi180 : ((p2 >>> ((8 : Int32) &&& 31)).toInt8.toInt32) = i180
  have b_i180 := own_byte hi180
  refine R.goto X179 hx (hb hby at_262) (by decide) (pc' := 266) (by decide) ?_
  refine R.iastore X179 hx hZ e179 V_b177 (⟨by decide, by decide⟩ : ¬ (1 : Int32) < 0 ∧ (1 : Int32) < (3 : Int32)) (hb hby at_266) (pc' := 267) rfl ?_; intro T181 h181 X181 e181 W181 V181
  have V_b123 := V_b123.other W181 ne_b123_b177
  have V_b129 := V_b129.other W181 ne_b129_b177
  have V_b177 : Arh Z h181 b177 k177 .int (3 : Int32) [((1 : Int32), (.int i180)), ((0 : Int32), (.int i178))] [] (.int (0 : Int32)) := V181
  have N181 := Fr.snoc X181 N179 g_b177
  have K181 : Keep h0 h181 [] := K179.wr W181 (Or.inr sz_b177)
  have Z181 : n0 ≤ h181.size := Nat.le_trans Z179 (Keep.of_wr W181).1
  refine R.aload X181 hx (hb hby at_267) rfl rfl (pc' := 269) rfl ?_
  refine R.iconst X181 hx (hb hby at_269) (v := (2 : Int32)) (by decide) (pc' := 270) rfl ?_
  refine R.iload X181 hx (hb hby at_270) rfl (pc' := 272) rfl ?_
  refine R.iconst X181 hx (hb hby at_272) (v := (3 : Int32)) (by decide) (pc' := 273) rfl ?_
  refine R.icmpYes X181 hx (hb hby at_273) (tlt (by decide : (2 : Int32) < (3 : Int32))).1 (by decide) (pc' := 284) (by decide) ?_
  refine R.iconst X181 hx (hb hby at_284) (v := (0 : Int32)) (by decide) (pc' := 285) rfl ?_
  refine R.iastore X181 hx hZ e181 V_b177 (⟨by decide, by decide⟩ : ¬ (2 : Int32) < 0 ∧ (2 : Int32) < (3 : Int32)) (hb hby at_285) (pc' := 286) rfl ?_; intro T182 h182 X182 e182 W182 V182
  have V_b123 := V_b123.other W182 ne_b123_b177
  have V_b129 := V_b129.other W182 ne_b129_b177
  have V_b177 : Arh Z h182 b177 k177 .int (3 : Int32) [((2 : Int32), (.int (0 : Int32))), ((1 : Int32), (.int i180)), ((0 : Int32), (.int i178))] [] (.int (0 : Int32)) := V182
  have N182 := Fr.snoc X182 N181 g_b177
  have K182 : Keep h0 h182 [] := K181.wr W182 (Or.inr sz_b177)
  have Z182 : n0 ≤ h182.size := Nat.le_trans Z181 (Keep.of_wr W182).1
  refine R.iconst X182 hx (hb hby at_286) (v := (2 : Int32)) (by decide) (pc' := 287) rfl ?_
  refine R.newP X182 hx hZ (ty := .int) rfl w_0 e182 (by decide) (cap := 2) (by decide) (by decide) (ad := "[I") (by decide) (hb hby at_287) (pc' := 289) rfl (by decide) (by decide) ?_; intro T183 h183 b183 k183 g183 X183 e183 E183 EE183 AA183
  have g_b183 : n0 ≤ b183 := Nat.le_trans Z182 (Nat.le_of_eq g183.symm)
  have sz_b183 : h0.size ≤ b183 := Nat.le_trans K182.1 (Nat.le_of_eq g183.symm)
  have ne_b123_b183 : b123 ≠ b183 := Nat.ne_of_lt (Nat.lt_of_lt_of_le V_b123.lt (Nat.le_of_eq g183.symm))
  have ne_b129_b183 : b129 ≠ b183 := Nat.ne_of_lt (Nat.lt_of_lt_of_le V_b129.lt (Nat.le_of_eq g183.symm))
  have ne_b177_b183 : b177 ≠ b183 := Nat.ne_of_lt (Nat.lt_of_lt_of_le V_b177.lt (Nat.le_of_eq g183.symm))
  have K183 : Keep h0 h183 [] := K182.ext E183
  have Z183 : n0 ≤ h183.size := Nat.le_trans Z182 E183.1
  have V_b123 := V_b123.ext E183
  have V_b129 := V_b129.ext E183
  have V_b177 := V_b177.ext E183
  have V_b183 : Arh Z h183 b183 k183 .int (2 : Int32) [] [] (.int (0 : Int32)) := AA183
  refine R.astore X183 hx (hb hby at_289) rfl (L' := #[.val (.int p0), .val (.int p1), .val (.int p2), .val (.int p3), .val (.int (2 : Int32)), .val (.int (1 : Int32)), .val (.int (2 : Int32)), .val (.int ld), .val (.ref b123), .val (.ref b129), .val (.int i132), .val (.int i133), .val (.ref b177), .val (.ref b183), .unset, .unset, .unset, .unset, .unset, .unset, .unset, .unset, .unset, .unset]) rfl (pc' := 291) rfl ?_
  refine R.aload X183 hx (hb hby at_291) rfl rfl (pc' := 293) rfl ?_
  refine R.iconst X183 hx (hb hby at_293) (v := (0 : Int32)) (by decide) (pc' := 294) rfl ?_
  refine R.iload X183 hx (hb hby at_294) rfl (pc' := 296) rfl ?_
  refine R.ifNo X183 hx (hb hby at_296) (tlt (by decide : (0 : Int32) < (1 : Int32))).2.2.2 (pc' := 299) rfl ?_
  refine R.iload X183 hx (hb hby at_299) rfl (pc' := 301) rfl ?_
  refine R.goto X183 hx (hb hby at_301) (by decide) (pc' := 305) (by decide) ?_
  refine R.iastore X183 hx hZ e183 V_b183 (⟨by decide, by decide⟩ : ¬ (0 : Int32) < 0 ∧ (0 : Int32) < (2 : Int32)) (hb hby at_305) (pc' := 306) rfl ?_; intro T184 h184 X184 e184 W184 V184
  have V_b123 := V_b123.other W184 ne_b123_b183
  have V_b129 := V_b129.other W184 ne_b129_b183
  have V_b177 := V_b177.other W184 ne_b177_b183
  have V_b183 : Arh Z h184 b183 k183 .int (2 : Int32) [((0 : Int32), (.int i132))] [] (.int (0 : Int32)) := V184
  have N184 := Fr.snoc X184 N182 g_b183
  have K184 : Keep h0 h184 [] := K183.wr W184 (Or.inr sz_b183)
  have Z184 : n0 ≤ h184.size := Nat.le_trans Z183 (Keep.of_wr W184).1
  refine R.aload X184 hx (hb hby at_306) rfl rfl (pc' := 308) rfl ?_
  refine R.iconst X184 hx (hb hby at_308) (v := (1 : Int32)) (by decide) (pc' := 309) rfl ?_
  refine R.iload X184 hx (hb hby at_309) rfl (pc' := 311) rfl ?_
  refine R.iconst X184 hx (hb hby at_311) (v := (1 : Int32)) (by decide) (pc' := 312) rfl ?_
  refine R.icmpYes X184 hx (hb hby at_312) (flt (by decide : ¬ ((1 : Int32) < (1 : Int32)))).2.2.2 (by decide) (pc' := 320) (by decide) ?_
  refine R.iconst X184 hx (hb hby at_320) (v := (0 : Int32)) (by decide) (pc' := 321) rfl ?_
  refine R.iastore X184 hx hZ e184 V_b183 (⟨by decide, by decide⟩ : ¬ (1 : Int32) < 0 ∧ (1 : Int32) < (2 : Int32)) (hb hby at_321) (pc' := 322) rfl ?_; intro T185 h185 X185 e185 W185 V185
  have V_b123 := V_b123.other W185 ne_b123_b183
  have V_b129 := V_b129.other W185 ne_b129_b183
  have V_b177 := V_b177.other W185 ne_b177_b183
  have V_b183 : Arh Z h185 b183 k183 .int (2 : Int32) [((1 : Int32), (.int (0 : Int32))), ((0 : Int32), (.int i132))] [] (.int (0 : Int32)) := V185
  have N185 := Fr.snoc X185 N184 g_b183
  have K185 : Keep h0 h185 [] := K184.wr W185 (Or.inr sz_b183)
  have Z185 : n0 ≤ h185.size := Nat.le_trans Z184 (Keep.of_wr W185).1
  refine R.iload X185 hx (hb hby at_322) rfl (pc' := 324) rfl ?_
  refine R.iload X185 hx (hb hby at_324) rfl (pc' := 326) rfl ?_
  refine R.iadd X185 hx (hb hby at_326) (v := (3 : Int32)) (by decide) (pc' := 327) rfl ?_
  refine R.istore X185 hx (hb hby at_327) (L' := #[.val (.int p0), .val (.int p1), .val (.int p2), .val (.int p3), .val (.int (2 : Int32)), .val (.int (1 : Int32)), .val (.int (2 : Int32)), .val (.int ld), .val (.ref b123), .val (.ref b129), .val (.int i132), .val (.int i133), .val (.ref b177), .val (.ref b183), .val (.int (3 : Int32)), .unset, .unset, .unset, .unset, .unset, .unset, .unset, .unset, .unset]) rfl (pc' := 329) rfl ?_
  refine R.aload X185 hx (hb hby at_329) rfl rfl (pc' := 331) rfl ?_
  refine R.aload X185 hx (hb hby at_331) rfl rfl (pc' := 333) rfl ?_
  refine R.aload X185 hx (hb hby at_333) rfl rfl (pc' := 335) rfl ?_
  refine R.iconst X185 hx (hb hby at_335) (v := (0 : Int32)) (by decide) (pc' := 336) rfl ?_
  refine R.callS X185 hx hZ (y := mY3) hown w_10 w_11 w_8 w_12 (by decide) e185 (rmcf0 l Z aZ hw [] b177 b123 b183 k177 k123 k183 [((2 : Int32), (.int (0 : Int32))), ((1 : Int32), (.int i180)), ((0 : Int32), (.int i178))] [((1 : Int32), (.int ld)), ((2 : Int32), (.int (0 : Int32))), ((1 : Int32), (.int (0 : Int32))), ((0 : Int32), (.int i124))] [((1 : Int32), (.int (0 : Int32))), ((0 : Int32), (.int i132))] i178 i180 (0 : Int32) i124 ld (0 : Int32) i132 (0 : Int32) h185 n0 Z185 V_b177 V_b123 V_b183 (getH_miss (by decide) (by decide) (getH_miss (by decide) (by decide) (getH_hit (by decide) (rfl)))) (getH_miss (by decide) (by decide) (getH_hit (by decide) (rfl))) (getH_hit (by decide) (rfl)) (getH_miss (by decide) (by decide) (getH_miss (by decide) (by decide) (getH_miss (by decide) (by decide) (getH_hit (by decide) (rfl))))) (getH_hit (by decide) (rfl)) (getH_miss (by decide) (by decide) (getH_hit (by decide) (rfl))) (getH_miss (by decide) (by decide) (getH_hit (by decide) (rfl))) (getH_hit (by decide) (rfl))) (by decide) (W := 0) (Nat.le_of_eq rfl) (by decide) (by rw [hml]; rfl) (lenOf pd_3 rfl) rfl (hb hby at_336) (pc' := 339) rfl (by decide) (by decide) ?_; intro v186 T186 L186 X186 hQ186
  obtain ⟨rfl, N186q, e186⟩ := hQ186
  have N186 := Fr.app N185 N186q
  show Rn p e below (T186.setTop (mkF m 339 #[.val (.int p0), .val (.int p1), .val (.int p2), .val (.int p3), .val (.int (2 : Int32)), .val (.int (1 : Int32)), .val (.int (2 : Int32)), .val (.int ld), .val (.ref b123), .val (.ref b129), .val (.int i132), .val (.int i133), .val (.ref b177), .val (.ref b183), .val (.int (3 : Int32)), .unset, .unset, .unset, .unset, .unset, .unset, .unset, .unset, .unset] [(.int ((((i178 * i124) + (i180 * (0 : Int32))) + ((0 : Int32) * (0 : Int32))) + i132))])) G
  generalize hi187 : ((((i178 * i124) + (i180 * (0 : Int32))) + ((0 : Int32) * (0 : Int32))) + i132) = i187
  refine R.istore X186 hx (hb hby at_339) (L' := #[.val (.int p0), .val (.int p1), .val (.int p2), .val (.int p3), .val (.int (2 : Int32)), .val (.int (1 : Int32)), .val (.int (2 : Int32)), .val (.int ld), .val (.ref b123), .val (.ref b129), .val (.int i132), .val (.int i133), .val (.ref b177), .val (.ref b183), .val (.int (3 : Int32)), .val (.int i187), .unset, .unset, .unset, .unset, .unset, .unset, .unset, .unset]) rfl (pc' := 341) rfl ?_
  refine R.aload X186 hx (hb hby at_341) rfl rfl (pc' := 343) rfl ?_
  refine R.aload X186 hx (hb hby at_343) rfl rfl (pc' := 345) rfl ?_
  refine R.aload X186 hx (hb hby at_345) rfl rfl (pc' := 347) rfl ?_
  refine R.iconst X186 hx (hb hby at_347) (v := (1 : Int32)) (by decide) (pc' := 348) rfl ?_
  refine R.callS X186 hx hZ (y := mY3) hown w_10 w_11 w_8 w_12 (by decide) e186 (rmcf1 l Z aZ hw [] b177 b123 b183 k177 k123 k183 [((2 : Int32), (.int (0 : Int32))), ((1 : Int32), (.int i180)), ((0 : Int32), (.int i178))] [((1 : Int32), (.int ld)), ((2 : Int32), (.int (0 : Int32))), ((1 : Int32), (.int (0 : Int32))), ((0 : Int32), (.int i124))] [((1 : Int32), (.int (0 : Int32))), ((0 : Int32), (.int i132))] i178 i180 (0 : Int32) i124 ld (0 : Int32) i132 (0 : Int32) h185 n0 Z185 V_b177 V_b123 V_b183 (getH_miss (by decide) (by decide) (getH_miss (by decide) (by decide) (getH_hit (by decide) (rfl)))) (getH_miss (by decide) (by decide) (getH_hit (by decide) (rfl))) (getH_hit (by decide) (rfl)) (getH_miss (by decide) (by decide) (getH_miss (by decide) (by decide) (getH_miss (by decide) (by decide) (getH_hit (by decide) (rfl))))) (getH_hit (by decide) (rfl)) (getH_miss (by decide) (by decide) (getH_hit (by decide) (rfl))) (getH_miss (by decide) (by decide) (getH_hit (by decide) (rfl))) (getH_hit (by decide) (rfl))) (by decide) (W := 0) (Nat.le_of_eq rfl) (by decide) (by rw [hml]; rfl) (lenOf pd_3 rfl) rfl (hb hby at_348) (pc' := 351) rfl (by decide) (by decide) ?_; intro v188 T188 L188 X188 hQ188
  obtain ⟨rfl, N188q, e188⟩ := hQ188
  have N188 := Fr.app N186 N188q
  show Rn p e below (T188.setTop (mkF m 351 #[.val (.int p0), .val (.int p1), .val (.int p2), .val (.int p3), .val (.int (2 : Int32)), .val (.int (1 : Int32)), .val (.int (2 : Int32)), .val (.int ld), .val (.ref b123), .val (.ref b129), .val (.int i132), .val (.int i133), .val (.ref b177), .val (.ref b183), .val (.int (3 : Int32)), .val (.int i187), .unset, .unset, .unset, .unset, .unset, .unset, .unset, .unset] [(.int ((((i178 * ld) + (i180 * i124)) + ((0 : Int32) * (0 : Int32))) + (0 : Int32)))])) G
  generalize hi189 : ((((i178 * ld) + (i180 * i124)) + ((0 : Int32) * (0 : Int32))) + (0 : Int32)) = i189
  refine R.istore X188 hx (hb hby at_351) (L' := #[.val (.int p0), .val (.int p1), .val (.int p2), .val (.int p3), .val (.int (2 : Int32)), .val (.int (1 : Int32)), .val (.int (2 : Int32)), .val (.int ld), .val (.ref b123), .val (.ref b129), .val (.int i132), .val (.int i133), .val (.ref b177), .val (.ref b183), .val (.int (3 : Int32)), .val (.int i187), .val (.int i189), .unset, .unset, .unset, .unset, .unset, .unset, .unset]) rfl (pc' := 353) rfl ?_
  refine R.aload X188 hx (hb hby at_353) rfl rfl (pc' := 355) rfl ?_
  refine R.aload X188 hx (hb hby at_355) rfl rfl (pc' := 357) rfl ?_
  refine R.aload X188 hx (hb hby at_357) rfl rfl (pc' := 359) rfl ?_
  refine R.iconst X188 hx (hb hby at_359) (v := (2 : Int32)) (by decide) (pc' := 360) rfl ?_
  refine R.callS X188 hx hZ (y := mY3) hown w_10 w_11 w_8 w_12 (by decide) e188 (rmcf2 l Z aZ hw [] b177 b123 b183 k177 k123 k183 [((2 : Int32), (.int (0 : Int32))), ((1 : Int32), (.int i180)), ((0 : Int32), (.int i178))] [((1 : Int32), (.int ld)), ((2 : Int32), (.int (0 : Int32))), ((1 : Int32), (.int (0 : Int32))), ((0 : Int32), (.int i124))] [((1 : Int32), (.int (0 : Int32))), ((0 : Int32), (.int i132))] i178 i180 (0 : Int32) i124 ld (0 : Int32) i132 (0 : Int32) h185 n0 Z185 V_b177 V_b123 V_b183 (getH_miss (by decide) (by decide) (getH_miss (by decide) (by decide) (getH_hit (by decide) (rfl)))) (getH_miss (by decide) (by decide) (getH_hit (by decide) (rfl))) (getH_hit (by decide) (rfl)) (getH_miss (by decide) (by decide) (getH_miss (by decide) (by decide) (getH_miss (by decide) (by decide) (getH_hit (by decide) (rfl))))) (getH_hit (by decide) (rfl)) (getH_miss (by decide) (by decide) (getH_hit (by decide) (rfl))) (getH_miss (by decide) (by decide) (getH_hit (by decide) (rfl))) (getH_hit (by decide) (rfl))) (by decide) (W := 0) (Nat.le_of_eq rfl) (by decide) (by rw [hml]; rfl) (lenOf pd_3 rfl) rfl (hb hby at_360) (pc' := 363) rfl (by decide) (by decide) ?_; intro v190 T190 L190 X190 hQ190
  obtain ⟨rfl, N190q, e190⟩ := hQ190
  have N190 := Fr.app N188 N190q
  show Rn p e below (T190.setTop (mkF m 363 #[.val (.int p0), .val (.int p1), .val (.int p2), .val (.int p3), .val (.int (2 : Int32)), .val (.int (1 : Int32)), .val (.int (2 : Int32)), .val (.int ld), .val (.ref b123), .val (.ref b129), .val (.int i132), .val (.int i133), .val (.ref b177), .val (.ref b183), .val (.int (3 : Int32)), .val (.int i187), .val (.int i189), .unset, .unset, .unset, .unset, .unset, .unset, .unset] [(.int ((((i178 * (0 : Int32)) + (i180 * ld)) + ((0 : Int32) * i124)) + (0 : Int32)))])) G
  generalize hi191 : ((((i178 * (0 : Int32)) + (i180 * ld)) + ((0 : Int32) * i124)) + (0 : Int32)) = i191
  refine R.istore X190 hx (hb hby at_363) (L' := #[.val (.int p0), .val (.int p1), .val (.int p2), .val (.int p3), .val (.int (2 : Int32)), .val (.int (1 : Int32)), .val (.int (2 : Int32)), .val (.int ld), .val (.ref b123), .val (.ref b129), .val (.int i132), .val (.int i133), .val (.ref b177), .val (.ref b183), .val (.int (3 : Int32)), .val (.int i187), .val (.int i189), .val (.int i191), .unset, .unset, .unset, .unset, .unset, .unset]) rfl (pc' := 365) rfl ?_
  refine R.aload X190 hx (hb hby at_365) rfl rfl (pc' := 367) rfl ?_
  refine R.aload X190 hx (hb hby at_367) rfl rfl (pc' := 369) rfl ?_
  refine R.aload X190 hx (hb hby at_369) rfl rfl (pc' := 371) rfl ?_
  refine R.iconst X190 hx (hb hby at_371) (v := (3 : Int32)) (by decide) (pc' := 372) rfl ?_
  refine R.callS X190 hx hZ (y := mY3) hown w_10 w_11 w_8 w_12 (by decide) e190 (rmcf3 l Z aZ hw [] b177 b123 b183 k177 k123 k183 [((2 : Int32), (.int (0 : Int32))), ((1 : Int32), (.int i180)), ((0 : Int32), (.int i178))] [((1 : Int32), (.int ld)), ((2 : Int32), (.int (0 : Int32))), ((1 : Int32), (.int (0 : Int32))), ((0 : Int32), (.int i124))] [((1 : Int32), (.int (0 : Int32))), ((0 : Int32), (.int i132))] i178 i180 (0 : Int32) i124 ld (0 : Int32) i132 (0 : Int32) h185 n0 Z185 V_b177 V_b123 V_b183 (getH_miss (by decide) (by decide) (getH_miss (by decide) (by decide) (getH_hit (by decide) (rfl)))) (getH_miss (by decide) (by decide) (getH_hit (by decide) (rfl))) (getH_hit (by decide) (rfl)) (getH_miss (by decide) (by decide) (getH_miss (by decide) (by decide) (getH_miss (by decide) (by decide) (getH_hit (by decide) (rfl))))) (getH_hit (by decide) (rfl)) (getH_miss (by decide) (by decide) (getH_hit (by decide) (rfl))) (getH_miss (by decide) (by decide) (getH_hit (by decide) (rfl))) (getH_hit (by decide) (rfl))) (by decide) (W := 0) (Nat.le_of_eq rfl) (by decide) (by rw [hml]; rfl) (lenOf pd_3 rfl) rfl (hb hby at_372) (pc' := 375) rfl (by decide) (by decide) ?_; intro v192 T192 L192 X192 hQ192
  obtain ⟨rfl, N192q, e192⟩ := hQ192
  have N192 := Fr.app N190 N192q
  show Rn p e below (T192.setTop (mkF m 375 #[.val (.int p0), .val (.int p1), .val (.int p2), .val (.int p3), .val (.int (2 : Int32)), .val (.int (1 : Int32)), .val (.int (2 : Int32)), .val (.int ld), .val (.ref b123), .val (.ref b129), .val (.int i132), .val (.int i133), .val (.ref b177), .val (.ref b183), .val (.int (3 : Int32)), .val (.int i187), .val (.int i189), .val (.int i191), .unset, .unset, .unset, .unset, .unset, .unset] [(.int ((((i178 * (0 : Int32)) + (i180 * (0 : Int32))) + ((0 : Int32) * ld)) + (0 : Int32)))])) G
  generalize hi193 : ((((i178 * (0 : Int32)) + (i180 * (0 : Int32))) + ((0 : Int32) * ld)) + (0 : Int32)) = i193
  refine R.istore X192 hx (hb hby at_375) (L' := #[.val (.int p0), .val (.int p1), .val (.int p2), .val (.int p3), .val (.int (2 : Int32)), .val (.int (1 : Int32)), .val (.int (2 : Int32)), .val (.int ld), .val (.ref b123), .val (.ref b129), .val (.int i132), .val (.int i133), .val (.ref b177), .val (.ref b183), .val (.int (3 : Int32)), .val (.int i187), .val (.int i189), .val (.int i191), .val (.int i193), .unset, .unset, .unset, .unset, .unset]) rfl (pc' := 377) rfl ?_
  refine R.aload X192 hx (hb hby at_377) rfl rfl (pc' := 379) rfl ?_
  refine R.aload X192 hx (hb hby at_379) rfl rfl (pc' := 381) rfl ?_
  refine R.aload X192 hx (hb hby at_381) rfl rfl (pc' := 383) rfl ?_
  refine R.iconst X192 hx (hb hby at_383) (v := (4 : Int32)) (by decide) (pc' := 384) rfl ?_
  refine R.callS X192 hx hZ (y := mY3) hown w_10 w_11 w_8 w_12 (by decide) e192 (rmcf4 l Z aZ hw [] b177 b123 b183 k177 k123 k183 [((2 : Int32), (.int (0 : Int32))), ((1 : Int32), (.int i180)), ((0 : Int32), (.int i178))] [((1 : Int32), (.int ld)), ((2 : Int32), (.int (0 : Int32))), ((1 : Int32), (.int (0 : Int32))), ((0 : Int32), (.int i124))] [((1 : Int32), (.int (0 : Int32))), ((0 : Int32), (.int i132))] i178 i180 (0 : Int32) i124 ld (0 : Int32) i132 (0 : Int32) h185 n0 Z185 V_b177 V_b123 V_b183 (getH_miss (by decide) (by decide) (getH_miss (by decide) (by decide) (getH_hit (by decide) (rfl)))) (getH_miss (by decide) (by decide) (getH_hit (by decide) (rfl))) (getH_hit (by decide) (rfl)) (getH_miss (by decide) (by decide) (getH_miss (by decide) (by decide) (getH_miss (by decide) (by decide) (getH_hit (by decide) (rfl))))) (getH_hit (by decide) (rfl)) (getH_miss (by decide) (by decide) (getH_hit (by decide) (rfl))) (getH_miss (by decide) (by decide) (getH_hit (by decide) (rfl))) (getH_hit (by decide) (rfl))) (by decide) (W := 0) (Nat.le_of_eq rfl) (by decide) (by rw [hml]; rfl) (lenOf pd_3 rfl) rfl (hb hby at_384) (pc' := 387) rfl (by decide) (by decide) ?_; intro v194 T194 L194 X194 hQ194
  obtain ⟨rfl, N194q, e194⟩ := hQ194
  have N194 := Fr.app N192 N194q
  show Rn p e below (T194.setTop (mkF m 387 #[.val (.int p0), .val (.int p1), .val (.int p2), .val (.int p3), .val (.int (2 : Int32)), .val (.int (1 : Int32)), .val (.int (2 : Int32)), .val (.int ld), .val (.ref b123), .val (.ref b129), .val (.int i132), .val (.int i133), .val (.ref b177), .val (.ref b183), .val (.int (3 : Int32)), .val (.int i187), .val (.int i189), .val (.int i191), .val (.int i193), .unset, .unset, .unset, .unset, .unset] [(.int ((((i178 * (0 : Int32)) + (i180 * (0 : Int32))) + ((0 : Int32) * (0 : Int32))) + (0 : Int32)))])) G
  generalize hi195 : ((((i178 * (0 : Int32)) + (i180 * (0 : Int32))) + ((0 : Int32) * (0 : Int32))) + (0 : Int32)) = i195
  refine R.istore X194 hx (hb hby at_387) (L' := #[.val (.int p0), .val (.int p1), .val (.int p2), .val (.int p3), .val (.int (2 : Int32)), .val (.int (1 : Int32)), .val (.int (2 : Int32)), .val (.int ld), .val (.ref b123), .val (.ref b129), .val (.int i132), .val (.int i133), .val (.ref b177), .val (.ref b183), .val (.int (3 : Int32)), .val (.int i187), .val (.int i189), .val (.int i191), .val (.int i193), .val (.int i195), .unset, .unset, .unset, .unset]) rfl (pc' := 389) rfl ?_
  have tc0 := own_cf (b_i178 : i178.toInt.natAbs ≤ 128) (b_i124 : i124.toInt.natAbs ≤ 128) (b_i180 : i180.toInt.natAbs ≤ 128) (own_z0 : (0 : Int32).toInt.natAbs ≤ 128) (own_z0 : (0 : Int32).toInt.natAbs ≤ 128) (own_z0 : (0 : Int32).toInt.natAbs ≤ 128) (b_i132 : i132.toInt.natAbs ≤ 128) hi187
  simp only [own_zi, Int.zero_mul, Int.mul_zero, Int.add_zero, Int.zero_add] at tc0
  have tc1 := own_cf (b_i178 : i178.toInt.natAbs ≤ 128) (bl : ld.toInt.natAbs ≤ 128) (b_i180 : i180.toInt.natAbs ≤ 128) (b_i124 : i124.toInt.natAbs ≤ 128) (own_z0 : (0 : Int32).toInt.natAbs ≤ 128) (own_z0 : (0 : Int32).toInt.natAbs ≤ 128) (own_z0 : (0 : Int32).toInt.natAbs ≤ 128) hi189
  simp only [own_zi, Int.zero_mul, Int.mul_zero, Int.add_zero, Int.zero_add] at tc1
  have tc2 := own_cf (b_i178 : i178.toInt.natAbs ≤ 128) (own_z0 : (0 : Int32).toInt.natAbs ≤ 128) (b_i180 : i180.toInt.natAbs ≤ 128) (bl : ld.toInt.natAbs ≤ 128) (own_z0 : (0 : Int32).toInt.natAbs ≤ 128) (b_i124 : i124.toInt.natAbs ≤ 128) (own_z0 : (0 : Int32).toInt.natAbs ≤ 128) hi191
  simp only [own_zi, Int.zero_mul, Int.mul_zero, Int.add_zero, Int.zero_add] at tc2
  have tc3 := own_cf (b_i178 : i178.toInt.natAbs ≤ 128) (own_z0 : (0 : Int32).toInt.natAbs ≤ 128) (b_i180 : i180.toInt.natAbs ≤ 128) (own_z0 : (0 : Int32).toInt.natAbs ≤ 128) (own_z0 : (0 : Int32).toInt.natAbs ≤ 128) (bl : ld.toInt.natAbs ≤ 128) (own_z0 : (0 : Int32).toInt.natAbs ≤ 128) hi193
  simp only [own_zi, Int.zero_mul, Int.mul_zero, Int.add_zero, Int.zero_add] at tc3
  have tc4 := own_cf (b_i178 : i178.toInt.natAbs ≤ 128) (own_z0 : (0 : Int32).toInt.natAbs ≤ 128) (b_i180 : i180.toInt.natAbs ≤ 128) (own_z0 : (0 : Int32).toInt.natAbs ≤ 128) (own_z0 : (0 : Int32).toInt.natAbs ≤ 128) (own_z0 : (0 : Int32).toInt.natAbs ≤ 128) (own_z0 : (0 : Int32).toInt.natAbs ≤ 128) hi195
  simp only [own_zi, Int.zero_mul, Int.mul_zero, Int.add_zero, Int.zero_add] at tc4
  refine R.iload X194 hx (hb hby at_389) rfl (pc' := 391) rfl ?_
  refine R.newP X194 hx hZ (ty := .double) rfl w_1 e194 (by decide) (cap := 3) (by decide) (by decide) (ad := "[D") (by decide) (hb hby at_391) (pc' := 393) rfl (by decide) (by decide) ?_; intro T196 h196 b196 k196 g196 X196 e196 E196 EE196 AA196
  have g_b196 : n0 ≤ b196 := Nat.le_trans Z185 (Nat.le_of_eq g196.symm)
  have sz_b196 : h0.size ≤ b196 := Nat.le_trans K185.1 (Nat.le_of_eq g196.symm)
  have ne_b123_b196 : b123 ≠ b196 := Nat.ne_of_lt (Nat.lt_of_lt_of_le V_b123.lt (Nat.le_of_eq g196.symm))
  have ne_b129_b196 : b129 ≠ b196 := Nat.ne_of_lt (Nat.lt_of_lt_of_le V_b129.lt (Nat.le_of_eq g196.symm))
  have ne_b177_b196 : b177 ≠ b196 := Nat.ne_of_lt (Nat.lt_of_lt_of_le V_b177.lt (Nat.le_of_eq g196.symm))
  have ne_b183_b196 : b183 ≠ b196 := Nat.ne_of_lt (Nat.lt_of_lt_of_le V_b183.lt (Nat.le_of_eq g196.symm))
  have K196 : Keep h0 h196 [] := K185.ext E196
  have Z196 : n0 ≤ h196.size := Nat.le_trans Z185 E196.1
  have V_b123 := V_b123.ext E196
  have V_b129 := V_b129.ext E196
  have V_b177 := V_b177.ext E196
  have V_b183 := V_b183.ext E196
  have E_b196 : Exa Z h196 b196 "[D" := EE196
  have V_b196 : Arh Z h196 b196 k196 .double (3 : Int32) [] [] (.double (0 : UInt64)) := AA196
  refine R.astore X196 hx (hb hby at_393) rfl (L' := #[.val (.int p0), .val (.int p1), .val (.int p2), .val (.int p3), .val (.int (2 : Int32)), .val (.int (1 : Int32)), .val (.int (2 : Int32)), .val (.int ld), .val (.ref b123), .val (.ref b129), .val (.int i132), .val (.int i133), .val (.ref b177), .val (.ref b183), .val (.int (3 : Int32)), .val (.int i187), .val (.int i189), .val (.int i191), .val (.int i193), .val (.int i195), .val (.ref b196), .unset, .unset, .unset]) rfl (pc' := 395) rfl ?_
  refine R.iload X196 hx (hb hby at_395) rfl (pc' := 397) rfl ?_
  refine R.ifNo X196 hx (hb hby at_397) (tlt (by decide : (0 : Int32) < (3 : Int32))).2.2.2 (pc' := 400) rfl ?_
  refine R.aload X196 hx (hb hby at_400) rfl rfl (pc' := 402) rfl ?_
  refine R.iconst X196 hx (hb hby at_402) (v := (0 : Int32)) (by decide) (pc' := 403) rfl ?_
  refine R.iload X196 hx (hb hby at_403) rfl (pc' := 405) rfl ?_
  refine R.i2d X196 hx (hb hby at_405) (pc' := 406) rfl ?_
  refine R.dastore X196 hx hZ e196 V_b196 (⟨by decide, by decide⟩ : ¬ (0 : Int32) < 0 ∧ (0 : Int32) < (3 : Int32)) (hb hby at_406) (pc' := 407) rfl ?_; intro T197 h197 X197 e197 W197 V197
  have V_b123 := V_b123.other W197 ne_b123_b196
  have V_b129 := V_b129.other W197 ne_b129_b196
  have V_b177 := V_b177.other W197 ne_b177_b196
  have V_b183 := V_b183.other W197 ne_b183_b196
  have E_b196 := E_b196.wr W197
  have V_b196 : Arh Z h197 b196 k196 .double (3 : Int32) [((0 : Int32), (.double (FP.i2d i187)))] [] (.double (0 : UInt64)) := V197
  have N197 := Fr.snoc X197 N194 g_b196
  have K197 : Keep h0 h197 [] := K196.wr W197 (Or.inr sz_b196)
  have Z197 : n0 ≤ h197.size := Nat.le_trans Z196 (Keep.of_wr W197).1
  refine R.iload X197 hx (hb hby at_407) rfl (pc' := 409) rfl ?_
  refine R.iconst X197 hx (hb hby at_409) (v := (1 : Int32)) (by decide) (pc' := 410) rfl ?_
  refine R.icmpNo X197 hx (hb hby at_410) (tlt (by decide : (1 : Int32) < (3 : Int32))).2.2.2 (pc' := 413) rfl ?_
  refine R.aload X197 hx (hb hby at_413) rfl rfl (pc' := 415) rfl ?_
  refine R.iconst X197 hx (hb hby at_415) (v := (1 : Int32)) (by decide) (pc' := 416) rfl ?_
  refine R.iload X197 hx (hb hby at_416) rfl (pc' := 418) rfl ?_
  refine R.i2d X197 hx (hb hby at_418) (pc' := 419) rfl ?_
  refine R.dastore X197 hx hZ e197 V_b196 (⟨by decide, by decide⟩ : ¬ (1 : Int32) < 0 ∧ (1 : Int32) < (3 : Int32)) (hb hby at_419) (pc' := 420) rfl ?_; intro T198 h198 X198 e198 W198 V198
  have V_b123 := V_b123.other W198 ne_b123_b196
  have V_b129 := V_b129.other W198 ne_b129_b196
  have V_b177 := V_b177.other W198 ne_b177_b196
  have V_b183 := V_b183.other W198 ne_b183_b196
  have E_b196 := E_b196.wr W198
  have V_b196 : Arh Z h198 b196 k196 .double (3 : Int32) [((1 : Int32), (.double (FP.i2d i189))), ((0 : Int32), (.double (FP.i2d i187)))] [] (.double (0 : UInt64)) := V198
  have N198 := Fr.snoc X198 N197 g_b196
  have K198 : Keep h0 h198 [] := K197.wr W198 (Or.inr sz_b196)
  have Z198 : n0 ≤ h198.size := Nat.le_trans Z197 (Keep.of_wr W198).1
  refine R.iload X198 hx (hb hby at_420) rfl (pc' := 422) rfl ?_
  refine R.iconst X198 hx (hb hby at_422) (v := (2 : Int32)) (by decide) (pc' := 423) rfl ?_
  refine R.icmpNo X198 hx (hb hby at_423) (tlt (by decide : (2 : Int32) < (3 : Int32))).2.2.2 (pc' := 426) rfl ?_
  refine R.aload X198 hx (hb hby at_426) rfl rfl (pc' := 428) rfl ?_
  refine R.iconst X198 hx (hb hby at_428) (v := (2 : Int32)) (by decide) (pc' := 429) rfl ?_
  refine R.iload X198 hx (hb hby at_429) rfl (pc' := 431) rfl ?_
  refine R.i2d X198 hx (hb hby at_431) (pc' := 432) rfl ?_
  refine R.dastore X198 hx hZ e198 V_b196 (⟨by decide, by decide⟩ : ¬ (2 : Int32) < 0 ∧ (2 : Int32) < (3 : Int32)) (hb hby at_432) (pc' := 433) rfl ?_; intro T199 h199 X199 e199 W199 V199
  have V_b123 := V_b123.other W199 ne_b123_b196
  have V_b129 := V_b129.other W199 ne_b129_b196
  have V_b177 := V_b177.other W199 ne_b177_b196
  have V_b183 := V_b183.other W199 ne_b183_b196
  have E_b196 := E_b196.wr W199
  have V_b196 : Arh Z h199 b196 k196 .double (3 : Int32) [((2 : Int32), (.double (FP.i2d i191))), ((1 : Int32), (.double (FP.i2d i189))), ((0 : Int32), (.double (FP.i2d i187)))] [] (.double (0 : UInt64)) := V199
  have N199 := Fr.snoc X199 N198 g_b196
  have K199 : Keep h0 h199 [] := K198.wr W199 (Or.inr sz_b196)
  have Z199 : n0 ≤ h199.size := Nat.le_trans Z198 (Keep.of_wr W199).1
  refine R.iload X199 hx (hb hby at_433) rfl (pc' := 435) rfl ?_
  refine R.iconst X199 hx (hb hby at_435) (v := (3 : Int32)) (by decide) (pc' := 436) rfl ?_
  refine R.icmpYes X199 hx (hb hby at_436) (flt (by decide : ¬ ((3 : Int32) < (3 : Int32)))).2.2.2 (by decide) (pc' := 446) (by decide) ?_
  refine R.iload X199 hx (hb hby at_446) rfl (pc' := 448) rfl ?_
  refine R.iconst X199 hx (hb hby at_448) (v := (4 : Int32)) (by decide) (pc' := 449) rfl ?_
  refine R.icmpYes X199 hx (hb hby at_449) (flt (by decide : ¬ ((4 : Int32) < (3 : Int32)))).2.2.2 (by decide) (pc' := 459) (by decide) ?_
  refine R.aload X199 hx (hb hby at_459) rfl rfl (pc' := 461) rfl ?_
  refine R.aload X199 hx (hb hby at_461) rfl rfl (pc' := 463) rfl ?_
  refine R.callS X199 hx hZ (y := mY1) hown w_2 w_3 w_4 w_5 (by decide) e199 (rmqq22 l Z aZ hw [] b196 b129 k196 k129 [((2 : Int32), (.double (FP.i2d i191))), ((1 : Int32), (.double (FP.i2d i189))), ((0 : Int32), (.double (FP.i2d i187)))] [((1 : Int32), (.double (FP.i2d ld))), ((0 : Int32), (.double (FP.i2d i124)))] (FP.i2d i187) (FP.i2d i189) (FP.i2d i191) (FP.i2d i124) (FP.i2d ld) i187.toInt i189.toInt i191.toInt i124.toInt ld.toInt i178.toInt i180.toInt i132.toInt h199 n0 Z199 V_b196 E_b196 V_b129 (getH_miss (by decide) (by decide) (getH_miss (by decide) (by decide) (getH_hit (by decide) (rfl)))) (Dy.i2d _) (getH_miss (by decide) (by decide) (getH_hit (by decide) (rfl))) (Dy.i2d _) (getH_hit (by decide) (rfl)) (Dy.i2d _) (getH_miss (by decide) (by decide) (getH_hit (by decide) (rfl))) (Dy.i2d _) (getH_hit (by decide) (rfl)) (Dy.i2d _) (tc0) (tc1) (tc2) (nl) (b_i124) (bl) (b_i178) (b_i180) (b_i132)) (by decide) (W := 0) (Nat.le_of_eq rfl) (by decide) (by rw [hml]; rfl) (lenOf pd_1 rfl) rfl (hb hby at_463) (pc' := 466) rfl (by decide) (by decide) ?_; intro v200 T200 L200 X200 hQ200
  obtain ⟨r_200, kr_200, hr_200, rfl, N200q, Kc200, P200_0, P200_1, P200_2, P200_3⟩ := hQ200
  have N200 := Fr.app N199 N200q
  generalize e200 : T200.heap = h200 at Kc200 P200_0 P200_1 P200_2 P200_3
  have K200 : Keep h0 h200 [] := K199.trans Kc200 (all0)
  have Z200 : n0 ≤ h200.size := Nat.le_trans Z199 Kc200.1
  have ne_b123_r_200 : b123 ≠ r_200 := Nat.ne_of_lt (Nat.lt_of_lt_of_le V_b123.lt P200_0)
  have ne_b129_r_200 : b129 ≠ r_200 := Nat.ne_of_lt (Nat.lt_of_lt_of_le V_b129.lt P200_0)
  have ne_b177_r_200 : b177 ≠ r_200 := Nat.ne_of_lt (Nat.lt_of_lt_of_le V_b177.lt P200_0)
  have ne_b183_r_200 : b183 ≠ r_200 := Nat.ne_of_lt (Nat.lt_of_lt_of_le V_b183.lt P200_0)
  have ne_b196_r_200 : b196 ≠ r_200 := Nat.ne_of_lt (Nat.lt_of_lt_of_le E_b196.lt P200_0)
  have g_r_200 : n0 ≤ r_200 := Nat.le_trans Z199 P200_0
  have sz_r_200 : h0.size ≤ r_200 := Nat.le_trans K199.1 P200_0
  have V_b123 := V_b123.keep Kc200 nin0
  have V_b129 := V_b129.keep Kc200 nin0
  have V_b177 := V_b177.keep Kc200 nin0
  have V_b183 := V_b183.keep Kc200 nin0
  have E_b196 := E_b196.keep Kc200
  have V_b196 := V_b196.keep Kc200 nin0
  have fresh_200 := P200_0
  have V_r_200 : Arh Z h200 r_200 kr_200 .double (2 : Int32) hr_200 [] (.double (0 : UInt64)) := P200_1
  have V_r_200 : Arh Z h200 r_200 kr_200 .double (2 : Int32) hr_200 [] (.double (0 : UInt64)) := V_r_200
  have c0_200 := P200_2
  have c1_200 := P200_3
  refine R.astore X200 hx (hb hby at_466) rfl (L' := #[.val (.int p0), .val (.int p1), .val (.int p2), .val (.int p3), .val (.int (2 : Int32)), .val (.int (1 : Int32)), .val (.int (2 : Int32)), .val (.int ld), .val (.ref b123), .val (.ref b129), .val (.int i132), .val (.int i133), .val (.ref b177), .val (.ref b183), .val (.int (3 : Int32)), .val (.int i187), .val (.int i189), .val (.int i191), .val (.int i193), .val (.int i195), .val (.ref b196), .val (.ref r_200), .unset, .unset]) rfl (pc' := 468) rfl ?_
  refine R.aload X200 hx (hb hby at_468) rfl rfl (pc' := 470) rfl ?_
  refine R.alen X200 hx hZ e200 V_r_200 (hb hby at_470) (pc' := 471) rfl ?_
  refine R.iload X200 hx (hb hby at_471) rfl (pc' := 473) rfl ?_
  refine R.icmpNo X200 hx (hb hby at_473) (teq (by decide : (2 : Int32) = (2 : Int32))).2 (pc' := 476) rfl ?_
  refine R.aload X200 hx (hb hby at_476) rfl rfl (pc' := 478) rfl ?_
  refine R.iconst X200 hx (hb hby at_478) (v := (0 : Int32)) (by decide) (pc' := 479) rfl ?_
  refine R.aload X200 hx (hb hby at_479) rfl rfl (pc' := 481) rfl ?_
  refine R.callS X200 hx hZ (y := mY4) hown w_25 w_26 w_8 w_27 (by decide) e200 (rm5 l Z aZ hw [] r_200 (0 : Int32) b177 kr_200 (2 : Int32) hr_200 k177 [((2 : Int32), (.int (0 : Int32))), ((1 : Int32), (.int i180)), ((0 : Int32), (.int i178))] i178 h200 n0 Z200 V_r_200 V_b177 (by decide) (getH_miss (by decide) (by decide) (getH_miss (by decide) (by decide) (getH_hit (by decide) (rfl)))) (fun _ => c0_200)) (by decide) (W := 0) (Nat.le_of_eq rfl) (by decide) (by rw [hml]; rfl) (lenOf pd_4 rfl) rfl (hb hby at_481) (pc' := 484) rfl (by decide) (by decide) ?_; intro v201 T201 L201 X201 hQ201
  obtain ⟨rfl, N201q, e201⟩ := hQ201
  have N201 := Fr.app N200 N201q
  refine R.ifNo X201 hx (hb hby at_484) (feq (by decide : ¬ ((1 : Int32) = (0 : Int32)))).1 (pc' := 487) rfl ?_
  refine R.aload X201 hx (hb hby at_487) rfl rfl (pc' := 489) rfl ?_
  refine R.iconst X201 hx (hb hby at_489) (v := (1 : Int32)) (by decide) (pc' := 490) rfl ?_
  refine R.aload X201 hx (hb hby at_490) rfl rfl (pc' := 492) rfl ?_
  refine R.callS X201 hx hZ (y := mY4) hown w_25 w_26 w_8 w_27 (by decide) e201 (rm5 l Z aZ hw [] r_200 (1 : Int32) b177 kr_200 (2 : Int32) hr_200 k177 [((2 : Int32), (.int (0 : Int32))), ((1 : Int32), (.int i180)), ((0 : Int32), (.int i178))] i180 h200 n0 Z200 V_r_200 V_b177 (by decide) (getH_miss (by decide) (by decide) (getH_hit (by decide) (rfl))) (fun _ => c1_200)) (by decide) (W := 0) (Nat.le_of_eq rfl) (by decide) (by rw [hml]; rfl) (lenOf pd_4 rfl) rfl (hb hby at_492) (pc' := 495) rfl (by decide) (by decide) ?_; intro v202 T202 L202 X202 hQ202
  obtain ⟨rfl, N202q, e202⟩ := hQ202
  have N202 := Fr.app N201 N202q
  refine R.ifNo X202 hx (hb hby at_495) (feq (by decide : ¬ ((1 : Int32) = (0 : Int32)))).1 (pc' := 498) rfl ?_
  refine R.aload X202 hx (hb hby at_498) rfl rfl (pc' := 500) rfl ?_
  refine R.iconst X202 hx (hb hby at_500) (v := (2 : Int32)) (by decide) (pc' := 501) rfl ?_
  refine R.aload X202 hx (hb hby at_501) rfl rfl (pc' := 503) rfl ?_
  refine R.callS X202 hx hZ (y := mY4) hown w_25 w_26 w_8 w_27 (by decide) e202 (rm5 l Z aZ hw [] r_200 (2 : Int32) b177 kr_200 (2 : Int32) hr_200 k177 [((2 : Int32), (.int (0 : Int32))), ((1 : Int32), (.int i180)), ((0 : Int32), (.int i178))] (0 : Int32) h200 n0 Z200 V_r_200 V_b177 (by decide) (getH_hit (by decide) (rfl)) (fun q => absurd q (by decide))) (by decide) (W := 0) (Nat.le_of_eq rfl) (by decide) (by rw [hml]; rfl) (lenOf pd_4 rfl) rfl (hb hby at_503) (pc' := 506) rfl (by decide) (by decide) ?_; intro v203 T203 L203 X203 hQ203
  obtain ⟨rfl, N203q, e203⟩ := hQ203
  have N203 := Fr.app N202 N203q
  refine R.ifNo X203 hx (hb hby at_506) (feq (by decide : ¬ ((1 : Int32) = (0 : Int32)))).1 (pc' := 509) rfl ?_
  refine R.iconst X203 hx (hb hby at_509) (v := (1 : Int32)) (by decide) (pc' := 510) rfl ?_
  refine R.goto X203 hx (hb hby at_510) (by decide) (pc' := 514) (by decide) ?_
  refine R.istore X203 hx (hb hby at_514) (L' := #[.val (.int p0), .val (.int p1), .val (.int p2), .val (.int p3), .val (.int (2 : Int32)), .val (.int (1 : Int32)), .val (.int (2 : Int32)), .val (.int ld), .val (.ref b123), .val (.ref b129), .val (.int i132), .val (.int i133), .val (.ref b177), .val (.ref b183), .val (.int (3 : Int32)), .val (.int i187), .val (.int i189), .val (.int i191), .val (.int i193), .val (.int i195), .val (.ref b196), .val (.ref r_200), .val (.int (1 : Int32)), .unset]) rfl (pc' := 516) rfl ?_
  refine R.aload X203 hx (hb hby at_516) rfl rfl (pc' := 518) rfl ?_
  refine R.iconst X203 hx (hb hby at_518) (v := (0 : Int32)) (by decide) (pc' := 519) rfl ?_
  refine R.iload X203 hx (hb hby at_519) rfl (pc' := 521) rfl ?_
  refine R.callS X203 hx hZ (y := mY2) hown w_6 w_7 w_8 w_9 (by decide) e203 (rm2 l Z aZ hw [] b196 (0 : Int32) i187 k196 (3 : Int32) [((2 : Int32), (.double (FP.i2d i191))), ((1 : Int32), (.double (FP.i2d i189))), ((0 : Int32), (.double (FP.i2d i187)))] h200 n0 Z200 V_b196 (by decide) (fun _ => getH_miss (by decide) (by decide) (getH_miss (by decide) (by decide) (getH_hit (by decide) (rfl))))) (by decide) (W := 0) (Nat.le_of_eq rfl) (by decide) (by rw [hml]; rfl) (lenOf pd_2 rfl) rfl (hb hby at_521) (pc' := 524) rfl (by decide) (by decide) ?_; intro v204 T204 L204 X204 hQ204
  obtain ⟨rfl, N204q, e204⟩ := hQ204
  have N204 := Fr.app N203 N204q
  refine R.ifNo X204 hx (hb hby at_524) (feq (by decide : ¬ ((1 : Int32) = (0 : Int32)))).1 (pc' := 527) rfl ?_
  refine R.aload X204 hx (hb hby at_527) rfl rfl (pc' := 529) rfl ?_
  refine R.iconst X204 hx (hb hby at_529) (v := (1 : Int32)) (by decide) (pc' := 530) rfl ?_
  refine R.iload X204 hx (hb hby at_530) rfl (pc' := 532) rfl ?_
  refine R.callS X204 hx hZ (y := mY2) hown w_6 w_7 w_8 w_9 (by decide) e204 (rm2 l Z aZ hw [] b196 (1 : Int32) i189 k196 (3 : Int32) [((2 : Int32), (.double (FP.i2d i191))), ((1 : Int32), (.double (FP.i2d i189))), ((0 : Int32), (.double (FP.i2d i187)))] h200 n0 Z200 V_b196 (by decide) (fun _ => getH_miss (by decide) (by decide) (getH_hit (by decide) (rfl)))) (by decide) (W := 0) (Nat.le_of_eq rfl) (by decide) (by rw [hml]; rfl) (lenOf pd_2 rfl) rfl (hb hby at_532) (pc' := 535) rfl (by decide) (by decide) ?_; intro v205 T205 L205 X205 hQ205
  obtain ⟨rfl, N205q, e205⟩ := hQ205
  have N205 := Fr.app N204 N205q
  refine R.ifNo X205 hx (hb hby at_535) (feq (by decide : ¬ ((1 : Int32) = (0 : Int32)))).1 (pc' := 538) rfl ?_
  refine R.aload X205 hx (hb hby at_538) rfl rfl (pc' := 540) rfl ?_
  refine R.iconst X205 hx (hb hby at_540) (v := (2 : Int32)) (by decide) (pc' := 541) rfl ?_
  refine R.iload X205 hx (hb hby at_541) rfl (pc' := 543) rfl ?_
  refine R.callS X205 hx hZ (y := mY2) hown w_6 w_7 w_8 w_9 (by decide) e205 (rm2 l Z aZ hw [] b196 (2 : Int32) i191 k196 (3 : Int32) [((2 : Int32), (.double (FP.i2d i191))), ((1 : Int32), (.double (FP.i2d i189))), ((0 : Int32), (.double (FP.i2d i187)))] h200 n0 Z200 V_b196 (by decide) (fun _ => getH_hit (by decide) (rfl))) (by decide) (W := 0) (Nat.le_of_eq rfl) (by decide) (by rw [hml]; rfl) (lenOf pd_2 rfl) rfl (hb hby at_543) (pc' := 546) rfl (by decide) (by decide) ?_; intro v206 T206 L206 X206 hQ206
  obtain ⟨rfl, N206q, e206⟩ := hQ206
  have N206 := Fr.app N205 N206q
  refine R.ifNo X206 hx (hb hby at_546) (feq (by decide : ¬ ((1 : Int32) = (0 : Int32)))).1 (pc' := 549) rfl ?_
  refine R.aload X206 hx (hb hby at_549) rfl rfl (pc' := 551) rfl ?_
  refine R.iconst X206 hx (hb hby at_551) (v := (3 : Int32)) (by decide) (pc' := 552) rfl ?_
  refine R.iload X206 hx (hb hby at_552) rfl (pc' := 554) rfl ?_
  refine R.callS X206 hx hZ (y := mY2) hown w_6 w_7 w_8 w_9 (by decide) e206 (rm2 l Z aZ hw [] b196 (3 : Int32) i193 k196 (3 : Int32) [((2 : Int32), (.double (FP.i2d i191))), ((1 : Int32), (.double (FP.i2d i189))), ((0 : Int32), (.double (FP.i2d i187)))] h200 n0 Z200 V_b196 (by decide) (fun q => absurd q (by decide))) (by decide) (W := 0) (Nat.le_of_eq rfl) (by decide) (by rw [hml]; rfl) (lenOf pd_2 rfl) rfl (hb hby at_554) (pc' := 557) rfl (by decide) (by decide) ?_; intro v207 T207 L207 X207 hQ207
  obtain ⟨rfl, N207q, e207⟩ := hQ207
  have N207 := Fr.app N206 N207q
  refine R.ifNo X207 hx (hb hby at_557) (feq (by decide : ¬ ((1 : Int32) = (0 : Int32)))).1 (pc' := 560) rfl ?_
  refine R.aload X207 hx (hb hby at_560) rfl rfl (pc' := 562) rfl ?_
  refine R.iconst X207 hx (hb hby at_562) (v := (4 : Int32)) (by decide) (pc' := 563) rfl ?_
  refine R.iload X207 hx (hb hby at_563) rfl (pc' := 565) rfl ?_
  refine R.callS X207 hx hZ (y := mY2) hown w_6 w_7 w_8 w_9 (by decide) e207 (rm2 l Z aZ hw [] b196 (4 : Int32) i195 k196 (3 : Int32) [((2 : Int32), (.double (FP.i2d i191))), ((1 : Int32), (.double (FP.i2d i189))), ((0 : Int32), (.double (FP.i2d i187)))] h200 n0 Z200 V_b196 (by decide) (fun q => absurd q (by decide))) (by decide) (W := 0) (Nat.le_of_eq rfl) (by decide) (by rw [hml]; rfl) (lenOf pd_2 rfl) rfl (hb hby at_565) (pc' := 568) rfl (by decide) (by decide) ?_; intro v208 T208 L208 X208 hQ208
  obtain ⟨rfl, N208q, e208⟩ := hQ208
  have N208 := Fr.app N207 N208q
  refine R.ifNo X208 hx (hb hby at_568) (feq (by decide : ¬ ((1 : Int32) = (0 : Int32)))).1 (pc' := 571) rfl ?_
  refine R.iconst X208 hx (hb hby at_571) (v := (1 : Int32)) (by decide) (pc' := 572) rfl ?_
  refine R.goto X208 hx (hb hby at_572) (by decide) (pc' := 576) (by decide) ?_
  refine R.istore X208 hx (hb hby at_576) (L' := #[.val (.int p0), .val (.int p1), .val (.int p2), .val (.int p3), .val (.int (2 : Int32)), .val (.int (1 : Int32)), .val (.int (2 : Int32)), .val (.int ld), .val (.ref b123), .val (.ref b129), .val (.int i132), .val (.int i133), .val (.ref b177), .val (.ref b183), .val (.int (3 : Int32)), .val (.int i187), .val (.int i189), .val (.int i191), .val (.int i193), .val (.int i195), .val (.ref b196), .val (.ref r_200), .val (.int (1 : Int32)), .val (.int (1 : Int32))]) rfl (pc' := 578) rfl ?_
  refine R.iload X208 hx (hb hby at_578) rfl (pc' := 580) rfl ?_
  refine R.ifNo X208 hx (hb hby at_580) (feq (by decide : ¬ ((1 : Int32) = (0 : Int32)))).1 (pc' := 583) rfl ?_
  refine R.iload X208 hx (hb hby at_583) rfl (pc' := 585) rfl ?_
  refine R.ifNo X208 hx (hb hby at_585) (feq (by decide : ¬ ((1 : Int32) = (0 : Int32)))).1 (pc' := 588) rfl ?_
  refine R.iconst X208 hx (hb hby at_588) (v := (1 : Int32)) (by decide) (pc' := 589) rfl ?_
  refine R.goto X208 hx (hb hby at_589) (by decide) (pc' := 593) (by decide) ?_
  rw [← hG]
  exact Rn.ret X208 (BodyLoose.notSynchronized Bd) (v := some (.int (1 : Int32))) (fun h => by rw [Bd.returns] at h; cases h) (Q := Q0 Z p0 p1 p2 p3 h0 n0) e208 (fun fs hr => retN X208 hx (t := .boolean) Bd.returns (by simp) (hb hby at_593) hr) ⟨rfl, N208⟩ (by decide) (by decide)
set_option maxRecDepth 65536 in
set_option maxHeartbeats 40000000 in
theorem rm0_23 (l : Launch) (Z : State) (aZ : Array Value) (hw : ∀ d ∈ tables_1, d.before aZ Z = true) (ws : List Jvm.Cond) (p0 : Int32) (p1 : Int32) (p2 : Int32) (p3 : Int32) (h0 : Heap) (n0 : Nat) {p : Program} {e : Env} {s : State} {m : MethodId} {below : List Frame} {meth : Method} {c : Code} {s₁ : State} (Bd : BodyLoose p l x (head1 (Jvm.Cond.code x code maxLocals ret :: ws) room_1) code maxLocals ret e s m #[(.int p0), (.int p1), (.int p2), (.int p3)] below meth c s₁) (hml : c.maxLocals = 24) (hZ : Z.Warmed39 s.vm) {TL : State} {hL : Heap} {lL : List Loc} (XL : Stand p l e room_1 s m #[(.int p0), (.int p1), (.int p2), (.int p3)] below meth c TL lL 2 5) (eL : TL.heap = hL) (NL : Fr n0 lL) (KL : Keep h0 hL []) (ZL : n0 ≤ hL.size) (ld : Int32) (b123 : Addr) (b129 : Addr) (i124 : Int32) (i132 : Int32) (i133 : Int32) (k123 : ClassId) (k129 : ClassId) {G : Outcome → State → Prop} (hG : (Fn0 Z p0 p1 p2 p3 h0 n0 s) = G) (V_b123 : Arh Z hL b123 k123 .int (3 : Int32) [((1 : Int32), (.int ld)), ((2 : Int32), (.int (0 : Int32))), ((1 : Int32), (.int (0 : Int32))), ((0 : Int32), (.int i124))] [] (.int (0 : Int32))) (V_b129 : Arh Z hL b129 k129 .double (2 : Int32) [((1 : Int32), (.double (FP.i2d ld))), ((0 : Int32), (.double (FP.i2d i124)))] [] (.double (0 : UInt64))) (ne_b123_b129 : b123 ≠ b129) (g_b123 : n0 ≤ b123) (g_b129 : n0 ≤ b129) (sz_b123 : h0.size ≤ b123) (sz_b129 : h0.size ≤ b129) (nl : ld.toInt ≠ 0) (bl : ld.toInt.natAbs ≤ 128) (b_i132 : i132.toInt.natAbs ≤ 128) (b_i133 : i133.toInt.natAbs ≤ 128) (b_i124 : i124.toInt.natAbs ≤ 128) : Rn p e below (TL.setTop (mkF m 147 #[.val (.int p0), .val (.int p1), .val (.int p2), .val (.int p3), .val (.int (2 : Int32)), .val (.int (1 : Int32)), .val (.int (3 : Int32)), .val (.int ld), .val (.ref b123), .val (.ref b129), .val (.int i132), .val (.int i133), .unset, .unset, .unset, .unset, .unset, .unset, .unset, .unset, .unset, .unset, .unset, .unset] [])) G := by
  have hx := Bd.exec
  have hby := Bd.bytes
  have hown : s.vm.findClass "com/example/deseason/deseason/arima/PolynomialsQuotientPinLaw" = some m.cls := findClass_of_methodNamed Bd.named
  have hnm := (name_of_methodNamed Bd.named Bd.method).1
  have w_0 := hw _ (List.mem_of_getElem? (i := 0) rfl)
  have w_1 := hw _ (List.mem_of_getElem? (i := 1) rfl)
  have w_2 := hw _ (List.mem_of_getElem? (i := 2) rfl)
  have w_3 := hw _ (List.mem_of_getElem? (i := 3) rfl)
  have w_4 := hw _ (List.mem_of_getElem? (i := 4) rfl)
  have w_5 := hw _ (List.mem_of_getElem? (i := 5) rfl)
  have w_6 := hw _ (List.mem_of_getElem? (i := 6) rfl)
  have w_7 := hw _ (List.mem_of_getElem? (i := 7) rfl)
  have w_8 := hw _ (List.mem_of_getElem? (i := 8) rfl)
  have w_9 := hw _ (List.mem_of_getElem? (i := 9) rfl)
  have w_10 := hw _ (List.mem_of_getElem? (i := 10) rfl)
  have w_11 := hw _ (List.mem_of_getElem? (i := 11) rfl)
  have w_12 := hw _ (List.mem_of_getElem? (i := 12) rfl)
  have w_25 := hw _ (List.mem_of_getElem? (i := 25) rfl)
  have w_26 := hw _ (List.mem_of_getElem? (i := 26) rfl)
  have w_27 := hw _ (List.mem_of_getElem? (i := 27) rfl)
  show Rn p e below (TL.setTop (mkF m 147 #[.val (.int p0), .val (.int p1), .val (.int p2), .val (.int p3), .val (.int (2 : Int32)), .val (.int (1 : Int32)), .val (.int (3 : Int32)), .val (.int ld), .val (.ref b123), .val (.ref b129), .val (.int i132), .val (.int i133), .unset, .unset, .unset, .unset, .unset, .unset, .unset, .unset, .unset, .unset, .unset, .unset] [])) G
  refine R.iload XL hx (hb hby at_147) rfl (pc' := 149) rfl ?_
  refine R.ifYes XL hx (hb hby at_149) (feq (by decide : ¬ ((3 : Int32) = (0 : Int32)))).2 (by decide) (pc' := 237) (by decide) ?_
  refine R.iconst XL hx (hb hby at_237) (v := (3 : Int32)) (by decide) (pc' := 238) rfl ?_
  refine R.newP XL hx hZ (ty := .int) rfl w_0 eL (by decide) (cap := 3) (by decide) (by decide) (ad := "[I") (by decide) (hb hby at_238) (pc' := 240) rfl (by decide) (by decide) ?_; intro T209 h209 b209 k209 g209 X209 e209 E209 EE209 AA209
  have g_b209 : n0 ≤ b209 := Nat.le_trans ZL (Nat.le_of_eq g209.symm)
  have sz_b209 : h0.size ≤ b209 := Nat.le_trans KL.1 (Nat.le_of_eq g209.symm)
  have ne_b123_b209 : b123 ≠ b209 := Nat.ne_of_lt (Nat.lt_of_lt_of_le V_b123.lt (Nat.le_of_eq g209.symm))
  have ne_b129_b209 : b129 ≠ b209 := Nat.ne_of_lt (Nat.lt_of_lt_of_le V_b129.lt (Nat.le_of_eq g209.symm))
  have K209 : Keep h0 h209 [] := KL.ext E209
  have Z209 : n0 ≤ h209.size := Nat.le_trans ZL E209.1
  have V_b123 := V_b123.ext E209
  have V_b129 := V_b129.ext E209
  have V_b209 : Arh Z h209 b209 k209 .int (3 : Int32) [] [] (.int (0 : Int32)) := AA209
  refine R.astore X209 hx (hb hby at_240) rfl (L' := #[.val (.int p0), .val (.int p1), .val (.int p2), .val (.int p3), .val (.int (2 : Int32)), .val (.int (1 : Int32)), .val (.int (3 : Int32)), .val (.int ld), .val (.ref b123), .val (.ref b129), .val (.int i132), .val (.int i133), .val (.ref b209), .unset, .unset, .unset, .unset, .unset, .unset, .unset, .unset, .unset, .unset, .unset]) rfl (pc' := 242) rfl ?_
  refine R.aload X209 hx (hb hby at_242) rfl rfl (pc' := 244) rfl ?_
  refine R.iconst X209 hx (hb hby at_244) (v := (0 : Int32)) (by decide) (pc' := 245) rfl ?_
  refine R.iloadN X209 hx (hb hby at_245) rfl (pc' := 246) rfl ?_
  refine R.i2b X209 hx (hb hby at_246) (pc' := 247) rfl ?_
  show Rn p e below (T209.setTop (mkF m 247 #[.val (.int p0), .val (.int p1), .val (.int p2), .val (.int p3), .val (.int (2 : Int32)), .val (.int (1 : Int32)), .val (.int (3 : Int32)), .val (.int ld), .val (.ref b123), .val (.ref b129), .val (.int i132), .val (.int i133), .val (.ref b209), .unset, .unset, .unset, .unset, .unset, .unset, .unset, .unset, .unset, .unset, .unset] [(.int (p2.toInt8.toInt32)), (.int (0 : Int32)), (.ref b209)])) G
  generalize hi210 : (p2.toInt8.toInt32) = i210
  have b_i210 := own_byte hi210
  refine R.iastore X209 hx hZ e209 V_b209 (⟨by decide, by decide⟩ : ¬ (0 : Int32) < 0 ∧ (0 : Int32) < (3 : Int32)) (hb hby at_247) (pc' := 248) rfl ?_; intro T211 h211 X211 e211 W211 V211
  have V_b123 := V_b123.other W211 ne_b123_b209
  have V_b129 := V_b129.other W211 ne_b129_b209
  have V_b209 : Arh Z h211 b209 k209 .int (3 : Int32) [((0 : Int32), (.int i210))] [] (.int (0 : Int32)) := V211
  have N211 := Fr.snoc X211 NL g_b209
  have K211 : Keep h0 h211 [] := K209.wr W211 (Or.inr sz_b209)
  have Z211 : n0 ≤ h211.size := Nat.le_trans Z209 (Keep.of_wr W211).1
  refine R.aload X211 hx (hb hby at_248) rfl rfl (pc' := 250) rfl ?_
  refine R.iconst X211 hx (hb hby at_250) (v := (1 : Int32)) (by decide) (pc' := 251) rfl ?_
  refine R.iload X211 hx (hb hby at_251) rfl (pc' := 253) rfl ?_
  refine R.iconst X211 hx (hb hby at_253) (v := (2 : Int32)) (by decide) (pc' := 254) rfl ?_
  refine R.icmpNo X211 hx (hb hby at_254) (flt (by decide : ¬ ((3 : Int32) < (2 : Int32)))).1 (pc' := 257) rfl ?_
  refine R.iloadN X211 hx (hb hby at_257) rfl (pc' := 258) rfl ?_
  refine R.bipush X211 hx (hb hby at_258) (v := (8 : Int32)) (by decide) (pc' := 260) rfl ?_
  refine R.ishr X211 hx (hb hby at_260) (pc' := 261) rfl ?_
  refine R.i2b X211 hx (hb hby at_261) (pc' := 262) rfl ?_
  show Rn p e below (T211.setTop (mkF m 262 #[.val (.int p0), .val (.int p1), .val (.int p2), .val (.int p3), .val (.int (2 : Int32)), .val (.int (1 : Int32)), .val (.int (3 : Int32)), .val (.int ld), .val (.ref b123), .val (.ref b129), .val (.int i132), .val (.int i133), .val (.ref b209), .unset, .unset, .unset, .unset, .unset, .unset, .unset, .unset, .unset, .unset, .unset] [(.int ((p2 >>> ((8 : Int32) &&& 31)).toInt8.toInt32)), (.int (1 : Int32)), (.ref b209)])) G
  generalize hi212 : ((p2 >>> ((8 : Int32) &&& 31)).toInt8.toInt32) = i212
  have b_i212 := own_byte hi212
  refine R.goto X211 hx (hb hby at_262) (by decide) (pc' := 266) (by decide) ?_
  refine R.iastore X211 hx hZ e211 V_b209 (⟨by decide, by decide⟩ : ¬ (1 : Int32) < 0 ∧ (1 : Int32) < (3 : Int32)) (hb hby at_266) (pc' := 267) rfl ?_; intro T213 h213 X213 e213 W213 V213
  have V_b123 := V_b123.other W213 ne_b123_b209
  have V_b129 := V_b129.other W213 ne_b129_b209
  have V_b209 : Arh Z h213 b209 k209 .int (3 : Int32) [((1 : Int32), (.int i212)), ((0 : Int32), (.int i210))] [] (.int (0 : Int32)) := V213
  have N213 := Fr.snoc X213 N211 g_b209
  have K213 : Keep h0 h213 [] := K211.wr W213 (Or.inr sz_b209)
  have Z213 : n0 ≤ h213.size := Nat.le_trans Z211 (Keep.of_wr W213).1
  refine R.aload X213 hx (hb hby at_267) rfl rfl (pc' := 269) rfl ?_
  refine R.iconst X213 hx (hb hby at_269) (v := (2 : Int32)) (by decide) (pc' := 270) rfl ?_
  refine R.iload X213 hx (hb hby at_270) rfl (pc' := 272) rfl ?_
  refine R.iconst X213 hx (hb hby at_272) (v := (3 : Int32)) (by decide) (pc' := 273) rfl ?_
  refine R.icmpNo X213 hx (hb hby at_273) (flt (by decide : ¬ ((3 : Int32) < (3 : Int32)))).1 (pc' := 276) rfl ?_
  refine R.iloadN X213 hx (hb hby at_276) rfl (pc' := 277) rfl ?_
  refine R.bipush X213 hx (hb hby at_277) (v := (16 : Int32)) (by decide) (pc' := 279) rfl ?_
  refine R.ishr X213 hx (hb hby at_279) (pc' := 280) rfl ?_
  refine R.i2b X213 hx (hb hby at_280) (pc' := 281) rfl ?_
  show Rn p e below (T213.setTop (mkF m 281 #[.val (.int p0), .val (.int p1), .val (.int p2), .val (.int p3), .val (.int (2 : Int32)), .val (.int (1 : Int32)), .val (.int (3 : Int32)), .val (.int ld), .val (.ref b123), .val (.ref b129), .val (.int i132), .val (.int i133), .val (.ref b209), .unset, .unset, .unset, .unset, .unset, .unset, .unset, .unset, .unset, .unset, .unset] [(.int ((p2 >>> ((16 : Int32) &&& 31)).toInt8.toInt32)), (.int (2 : Int32)), (.ref b209)])) G
  generalize hi214 : ((p2 >>> ((16 : Int32) &&& 31)).toInt8.toInt32) = i214
  have b_i214 := own_byte hi214
  refine R.goto X213 hx (hb hby at_281) (by decide) (pc' := 285) (by decide) ?_
  refine R.iastore X213 hx hZ e213 V_b209 (⟨by decide, by decide⟩ : ¬ (2 : Int32) < 0 ∧ (2 : Int32) < (3 : Int32)) (hb hby at_285) (pc' := 286) rfl ?_; intro T215 h215 X215 e215 W215 V215
  have V_b123 := V_b123.other W215 ne_b123_b209
  have V_b129 := V_b129.other W215 ne_b129_b209
  have V_b209 : Arh Z h215 b209 k209 .int (3 : Int32) [((2 : Int32), (.int i214)), ((1 : Int32), (.int i212)), ((0 : Int32), (.int i210))] [] (.int (0 : Int32)) := V215
  have N215 := Fr.snoc X215 N213 g_b209
  have K215 : Keep h0 h215 [] := K213.wr W215 (Or.inr sz_b209)
  have Z215 : n0 ≤ h215.size := Nat.le_trans Z213 (Keep.of_wr W215).1
  refine R.iconst X215 hx (hb hby at_286) (v := (2 : Int32)) (by decide) (pc' := 287) rfl ?_
  refine R.newP X215 hx hZ (ty := .int) rfl w_0 e215 (by decide) (cap := 2) (by decide) (by decide) (ad := "[I") (by decide) (hb hby at_287) (pc' := 289) rfl (by decide) (by decide) ?_; intro T216 h216 b216 k216 g216 X216 e216 E216 EE216 AA216
  have g_b216 : n0 ≤ b216 := Nat.le_trans Z215 (Nat.le_of_eq g216.symm)
  have sz_b216 : h0.size ≤ b216 := Nat.le_trans K215.1 (Nat.le_of_eq g216.symm)
  have ne_b123_b216 : b123 ≠ b216 := Nat.ne_of_lt (Nat.lt_of_lt_of_le V_b123.lt (Nat.le_of_eq g216.symm))
  have ne_b129_b216 : b129 ≠ b216 := Nat.ne_of_lt (Nat.lt_of_lt_of_le V_b129.lt (Nat.le_of_eq g216.symm))
  have ne_b209_b216 : b209 ≠ b216 := Nat.ne_of_lt (Nat.lt_of_lt_of_le V_b209.lt (Nat.le_of_eq g216.symm))
  have K216 : Keep h0 h216 [] := K215.ext E216
  have Z216 : n0 ≤ h216.size := Nat.le_trans Z215 E216.1
  have V_b123 := V_b123.ext E216
  have V_b129 := V_b129.ext E216
  have V_b209 := V_b209.ext E216
  have V_b216 : Arh Z h216 b216 k216 .int (2 : Int32) [] [] (.int (0 : Int32)) := AA216
  refine R.astore X216 hx (hb hby at_289) rfl (L' := #[.val (.int p0), .val (.int p1), .val (.int p2), .val (.int p3), .val (.int (2 : Int32)), .val (.int (1 : Int32)), .val (.int (3 : Int32)), .val (.int ld), .val (.ref b123), .val (.ref b129), .val (.int i132), .val (.int i133), .val (.ref b209), .val (.ref b216), .unset, .unset, .unset, .unset, .unset, .unset, .unset, .unset, .unset, .unset]) rfl (pc' := 291) rfl ?_
  refine R.aload X216 hx (hb hby at_291) rfl rfl (pc' := 293) rfl ?_
  refine R.iconst X216 hx (hb hby at_293) (v := (0 : Int32)) (by decide) (pc' := 294) rfl ?_
  refine R.iload X216 hx (hb hby at_294) rfl (pc' := 296) rfl ?_
  refine R.ifNo X216 hx (hb hby at_296) (tlt (by decide : (0 : Int32) < (1 : Int32))).2.2.2 (pc' := 299) rfl ?_
  refine R.iload X216 hx (hb hby at_299) rfl (pc' := 301) rfl ?_
  refine R.goto X216 hx (hb hby at_301) (by decide) (pc' := 305) (by decide) ?_
  refine R.iastore X216 hx hZ e216 V_b216 (⟨by decide, by decide⟩ : ¬ (0 : Int32) < 0 ∧ (0 : Int32) < (2 : Int32)) (hb hby at_305) (pc' := 306) rfl ?_; intro T217 h217 X217 e217 W217 V217
  have V_b123 := V_b123.other W217 ne_b123_b216
  have V_b129 := V_b129.other W217 ne_b129_b216
  have V_b209 := V_b209.other W217 ne_b209_b216
  have V_b216 : Arh Z h217 b216 k216 .int (2 : Int32) [((0 : Int32), (.int i132))] [] (.int (0 : Int32)) := V217
  have N217 := Fr.snoc X217 N215 g_b216
  have K217 : Keep h0 h217 [] := K216.wr W217 (Or.inr sz_b216)
  have Z217 : n0 ≤ h217.size := Nat.le_trans Z216 (Keep.of_wr W217).1
  refine R.aload X217 hx (hb hby at_306) rfl rfl (pc' := 308) rfl ?_
  refine R.iconst X217 hx (hb hby at_308) (v := (1 : Int32)) (by decide) (pc' := 309) rfl ?_
  refine R.iload X217 hx (hb hby at_309) rfl (pc' := 311) rfl ?_
  refine R.iconst X217 hx (hb hby at_311) (v := (1 : Int32)) (by decide) (pc' := 312) rfl ?_
  refine R.icmpYes X217 hx (hb hby at_312) (flt (by decide : ¬ ((1 : Int32) < (1 : Int32)))).2.2.2 (by decide) (pc' := 320) (by decide) ?_
  refine R.iconst X217 hx (hb hby at_320) (v := (0 : Int32)) (by decide) (pc' := 321) rfl ?_
  refine R.iastore X217 hx hZ e217 V_b216 (⟨by decide, by decide⟩ : ¬ (1 : Int32) < 0 ∧ (1 : Int32) < (2 : Int32)) (hb hby at_321) (pc' := 322) rfl ?_; intro T218 h218 X218 e218 W218 V218
  have V_b123 := V_b123.other W218 ne_b123_b216
  have V_b129 := V_b129.other W218 ne_b129_b216
  have V_b209 := V_b209.other W218 ne_b209_b216
  have V_b216 : Arh Z h218 b216 k216 .int (2 : Int32) [((1 : Int32), (.int (0 : Int32))), ((0 : Int32), (.int i132))] [] (.int (0 : Int32)) := V218
  have N218 := Fr.snoc X218 N217 g_b216
  have K218 : Keep h0 h218 [] := K217.wr W218 (Or.inr sz_b216)
  have Z218 : n0 ≤ h218.size := Nat.le_trans Z217 (Keep.of_wr W218).1
  refine R.iload X218 hx (hb hby at_322) rfl (pc' := 324) rfl ?_
  refine R.iload X218 hx (hb hby at_324) rfl (pc' := 326) rfl ?_
  refine R.iadd X218 hx (hb hby at_326) (v := (4 : Int32)) (by decide) (pc' := 327) rfl ?_
  refine R.istore X218 hx (hb hby at_327) (L' := #[.val (.int p0), .val (.int p1), .val (.int p2), .val (.int p3), .val (.int (2 : Int32)), .val (.int (1 : Int32)), .val (.int (3 : Int32)), .val (.int ld), .val (.ref b123), .val (.ref b129), .val (.int i132), .val (.int i133), .val (.ref b209), .val (.ref b216), .val (.int (4 : Int32)), .unset, .unset, .unset, .unset, .unset, .unset, .unset, .unset, .unset]) rfl (pc' := 329) rfl ?_
  refine R.aload X218 hx (hb hby at_329) rfl rfl (pc' := 331) rfl ?_
  refine R.aload X218 hx (hb hby at_331) rfl rfl (pc' := 333) rfl ?_
  refine R.aload X218 hx (hb hby at_333) rfl rfl (pc' := 335) rfl ?_
  refine R.iconst X218 hx (hb hby at_335) (v := (0 : Int32)) (by decide) (pc' := 336) rfl ?_
  refine R.callS X218 hx hZ (y := mY3) hown w_10 w_11 w_8 w_12 (by decide) e218 (rmcf0 l Z aZ hw [] b209 b123 b216 k209 k123 k216 [((2 : Int32), (.int i214)), ((1 : Int32), (.int i212)), ((0 : Int32), (.int i210))] [((1 : Int32), (.int ld)), ((2 : Int32), (.int (0 : Int32))), ((1 : Int32), (.int (0 : Int32))), ((0 : Int32), (.int i124))] [((1 : Int32), (.int (0 : Int32))), ((0 : Int32), (.int i132))] i210 i212 i214 i124 ld (0 : Int32) i132 (0 : Int32) h218 n0 Z218 V_b209 V_b123 V_b216 (getH_miss (by decide) (by decide) (getH_miss (by decide) (by decide) (getH_hit (by decide) (rfl)))) (getH_miss (by decide) (by decide) (getH_hit (by decide) (rfl))) (getH_hit (by decide) (rfl)) (getH_miss (by decide) (by decide) (getH_miss (by decide) (by decide) (getH_miss (by decide) (by decide) (getH_hit (by decide) (rfl))))) (getH_hit (by decide) (rfl)) (getH_miss (by decide) (by decide) (getH_hit (by decide) (rfl))) (getH_miss (by decide) (by decide) (getH_hit (by decide) (rfl))) (getH_hit (by decide) (rfl))) (by decide) (W := 0) (Nat.le_of_eq rfl) (by decide) (by rw [hml]; rfl) (lenOf pd_3 rfl) rfl (hb hby at_336) (pc' := 339) rfl (by decide) (by decide) ?_; intro v219 T219 L219 X219 hQ219
  obtain ⟨rfl, N219q, e219⟩ := hQ219
  have N219 := Fr.app N218 N219q
  show Rn p e below (T219.setTop (mkF m 339 #[.val (.int p0), .val (.int p1), .val (.int p2), .val (.int p3), .val (.int (2 : Int32)), .val (.int (1 : Int32)), .val (.int (3 : Int32)), .val (.int ld), .val (.ref b123), .val (.ref b129), .val (.int i132), .val (.int i133), .val (.ref b209), .val (.ref b216), .val (.int (4 : Int32)), .unset, .unset, .unset, .unset, .unset, .unset, .unset, .unset, .unset] [(.int ((((i210 * i124) + (i212 * (0 : Int32))) + (i214 * (0 : Int32))) + i132))])) G
  generalize hi220 : ((((i210 * i124) + (i212 * (0 : Int32))) + (i214 * (0 : Int32))) + i132) = i220
  refine R.istore X219 hx (hb hby at_339) (L' := #[.val (.int p0), .val (.int p1), .val (.int p2), .val (.int p3), .val (.int (2 : Int32)), .val (.int (1 : Int32)), .val (.int (3 : Int32)), .val (.int ld), .val (.ref b123), .val (.ref b129), .val (.int i132), .val (.int i133), .val (.ref b209), .val (.ref b216), .val (.int (4 : Int32)), .val (.int i220), .unset, .unset, .unset, .unset, .unset, .unset, .unset, .unset]) rfl (pc' := 341) rfl ?_
  refine R.aload X219 hx (hb hby at_341) rfl rfl (pc' := 343) rfl ?_
  refine R.aload X219 hx (hb hby at_343) rfl rfl (pc' := 345) rfl ?_
  refine R.aload X219 hx (hb hby at_345) rfl rfl (pc' := 347) rfl ?_
  refine R.iconst X219 hx (hb hby at_347) (v := (1 : Int32)) (by decide) (pc' := 348) rfl ?_
  refine R.callS X219 hx hZ (y := mY3) hown w_10 w_11 w_8 w_12 (by decide) e219 (rmcf1 l Z aZ hw [] b209 b123 b216 k209 k123 k216 [((2 : Int32), (.int i214)), ((1 : Int32), (.int i212)), ((0 : Int32), (.int i210))] [((1 : Int32), (.int ld)), ((2 : Int32), (.int (0 : Int32))), ((1 : Int32), (.int (0 : Int32))), ((0 : Int32), (.int i124))] [((1 : Int32), (.int (0 : Int32))), ((0 : Int32), (.int i132))] i210 i212 i214 i124 ld (0 : Int32) i132 (0 : Int32) h218 n0 Z218 V_b209 V_b123 V_b216 (getH_miss (by decide) (by decide) (getH_miss (by decide) (by decide) (getH_hit (by decide) (rfl)))) (getH_miss (by decide) (by decide) (getH_hit (by decide) (rfl))) (getH_hit (by decide) (rfl)) (getH_miss (by decide) (by decide) (getH_miss (by decide) (by decide) (getH_miss (by decide) (by decide) (getH_hit (by decide) (rfl))))) (getH_hit (by decide) (rfl)) (getH_miss (by decide) (by decide) (getH_hit (by decide) (rfl))) (getH_miss (by decide) (by decide) (getH_hit (by decide) (rfl))) (getH_hit (by decide) (rfl))) (by decide) (W := 0) (Nat.le_of_eq rfl) (by decide) (by rw [hml]; rfl) (lenOf pd_3 rfl) rfl (hb hby at_348) (pc' := 351) rfl (by decide) (by decide) ?_; intro v221 T221 L221 X221 hQ221
  obtain ⟨rfl, N221q, e221⟩ := hQ221
  have N221 := Fr.app N219 N221q
  show Rn p e below (T221.setTop (mkF m 351 #[.val (.int p0), .val (.int p1), .val (.int p2), .val (.int p3), .val (.int (2 : Int32)), .val (.int (1 : Int32)), .val (.int (3 : Int32)), .val (.int ld), .val (.ref b123), .val (.ref b129), .val (.int i132), .val (.int i133), .val (.ref b209), .val (.ref b216), .val (.int (4 : Int32)), .val (.int i220), .unset, .unset, .unset, .unset, .unset, .unset, .unset, .unset] [(.int ((((i210 * ld) + (i212 * i124)) + (i214 * (0 : Int32))) + (0 : Int32)))])) G
  generalize hi222 : ((((i210 * ld) + (i212 * i124)) + (i214 * (0 : Int32))) + (0 : Int32)) = i222
  refine R.istore X221 hx (hb hby at_351) (L' := #[.val (.int p0), .val (.int p1), .val (.int p2), .val (.int p3), .val (.int (2 : Int32)), .val (.int (1 : Int32)), .val (.int (3 : Int32)), .val (.int ld), .val (.ref b123), .val (.ref b129), .val (.int i132), .val (.int i133), .val (.ref b209), .val (.ref b216), .val (.int (4 : Int32)), .val (.int i220), .val (.int i222), .unset, .unset, .unset, .unset, .unset, .unset, .unset]) rfl (pc' := 353) rfl ?_
  refine R.aload X221 hx (hb hby at_353) rfl rfl (pc' := 355) rfl ?_
  refine R.aload X221 hx (hb hby at_355) rfl rfl (pc' := 357) rfl ?_
  refine R.aload X221 hx (hb hby at_357) rfl rfl (pc' := 359) rfl ?_
  refine R.iconst X221 hx (hb hby at_359) (v := (2 : Int32)) (by decide) (pc' := 360) rfl ?_
  refine R.callS X221 hx hZ (y := mY3) hown w_10 w_11 w_8 w_12 (by decide) e221 (rmcf2 l Z aZ hw [] b209 b123 b216 k209 k123 k216 [((2 : Int32), (.int i214)), ((1 : Int32), (.int i212)), ((0 : Int32), (.int i210))] [((1 : Int32), (.int ld)), ((2 : Int32), (.int (0 : Int32))), ((1 : Int32), (.int (0 : Int32))), ((0 : Int32), (.int i124))] [((1 : Int32), (.int (0 : Int32))), ((0 : Int32), (.int i132))] i210 i212 i214 i124 ld (0 : Int32) i132 (0 : Int32) h218 n0 Z218 V_b209 V_b123 V_b216 (getH_miss (by decide) (by decide) (getH_miss (by decide) (by decide) (getH_hit (by decide) (rfl)))) (getH_miss (by decide) (by decide) (getH_hit (by decide) (rfl))) (getH_hit (by decide) (rfl)) (getH_miss (by decide) (by decide) (getH_miss (by decide) (by decide) (getH_miss (by decide) (by decide) (getH_hit (by decide) (rfl))))) (getH_hit (by decide) (rfl)) (getH_miss (by decide) (by decide) (getH_hit (by decide) (rfl))) (getH_miss (by decide) (by decide) (getH_hit (by decide) (rfl))) (getH_hit (by decide) (rfl))) (by decide) (W := 0) (Nat.le_of_eq rfl) (by decide) (by rw [hml]; rfl) (lenOf pd_3 rfl) rfl (hb hby at_360) (pc' := 363) rfl (by decide) (by decide) ?_; intro v223 T223 L223 X223 hQ223
  obtain ⟨rfl, N223q, e223⟩ := hQ223
  have N223 := Fr.app N221 N223q
  show Rn p e below (T223.setTop (mkF m 363 #[.val (.int p0), .val (.int p1), .val (.int p2), .val (.int p3), .val (.int (2 : Int32)), .val (.int (1 : Int32)), .val (.int (3 : Int32)), .val (.int ld), .val (.ref b123), .val (.ref b129), .val (.int i132), .val (.int i133), .val (.ref b209), .val (.ref b216), .val (.int (4 : Int32)), .val (.int i220), .val (.int i222), .unset, .unset, .unset, .unset, .unset, .unset, .unset] [(.int ((((i210 * (0 : Int32)) + (i212 * ld)) + (i214 * i124)) + (0 : Int32)))])) G
  generalize hi224 : ((((i210 * (0 : Int32)) + (i212 * ld)) + (i214 * i124)) + (0 : Int32)) = i224
  refine R.istore X223 hx (hb hby at_363) (L' := #[.val (.int p0), .val (.int p1), .val (.int p2), .val (.int p3), .val (.int (2 : Int32)), .val (.int (1 : Int32)), .val (.int (3 : Int32)), .val (.int ld), .val (.ref b123), .val (.ref b129), .val (.int i132), .val (.int i133), .val (.ref b209), .val (.ref b216), .val (.int (4 : Int32)), .val (.int i220), .val (.int i222), .val (.int i224), .unset, .unset, .unset, .unset, .unset, .unset]) rfl (pc' := 365) rfl ?_
  refine R.aload X223 hx (hb hby at_365) rfl rfl (pc' := 367) rfl ?_
  refine R.aload X223 hx (hb hby at_367) rfl rfl (pc' := 369) rfl ?_
  refine R.aload X223 hx (hb hby at_369) rfl rfl (pc' := 371) rfl ?_
  refine R.iconst X223 hx (hb hby at_371) (v := (3 : Int32)) (by decide) (pc' := 372) rfl ?_
  refine R.callS X223 hx hZ (y := mY3) hown w_10 w_11 w_8 w_12 (by decide) e223 (rmcf3 l Z aZ hw [] b209 b123 b216 k209 k123 k216 [((2 : Int32), (.int i214)), ((1 : Int32), (.int i212)), ((0 : Int32), (.int i210))] [((1 : Int32), (.int ld)), ((2 : Int32), (.int (0 : Int32))), ((1 : Int32), (.int (0 : Int32))), ((0 : Int32), (.int i124))] [((1 : Int32), (.int (0 : Int32))), ((0 : Int32), (.int i132))] i210 i212 i214 i124 ld (0 : Int32) i132 (0 : Int32) h218 n0 Z218 V_b209 V_b123 V_b216 (getH_miss (by decide) (by decide) (getH_miss (by decide) (by decide) (getH_hit (by decide) (rfl)))) (getH_miss (by decide) (by decide) (getH_hit (by decide) (rfl))) (getH_hit (by decide) (rfl)) (getH_miss (by decide) (by decide) (getH_miss (by decide) (by decide) (getH_miss (by decide) (by decide) (getH_hit (by decide) (rfl))))) (getH_hit (by decide) (rfl)) (getH_miss (by decide) (by decide) (getH_hit (by decide) (rfl))) (getH_miss (by decide) (by decide) (getH_hit (by decide) (rfl))) (getH_hit (by decide) (rfl))) (by decide) (W := 0) (Nat.le_of_eq rfl) (by decide) (by rw [hml]; rfl) (lenOf pd_3 rfl) rfl (hb hby at_372) (pc' := 375) rfl (by decide) (by decide) ?_; intro v225 T225 L225 X225 hQ225
  obtain ⟨rfl, N225q, e225⟩ := hQ225
  have N225 := Fr.app N223 N225q
  show Rn p e below (T225.setTop (mkF m 375 #[.val (.int p0), .val (.int p1), .val (.int p2), .val (.int p3), .val (.int (2 : Int32)), .val (.int (1 : Int32)), .val (.int (3 : Int32)), .val (.int ld), .val (.ref b123), .val (.ref b129), .val (.int i132), .val (.int i133), .val (.ref b209), .val (.ref b216), .val (.int (4 : Int32)), .val (.int i220), .val (.int i222), .val (.int i224), .unset, .unset, .unset, .unset, .unset, .unset] [(.int ((((i210 * (0 : Int32)) + (i212 * (0 : Int32))) + (i214 * ld)) + (0 : Int32)))])) G
  generalize hi226 : ((((i210 * (0 : Int32)) + (i212 * (0 : Int32))) + (i214 * ld)) + (0 : Int32)) = i226
  refine R.istore X225 hx (hb hby at_375) (L' := #[.val (.int p0), .val (.int p1), .val (.int p2), .val (.int p3), .val (.int (2 : Int32)), .val (.int (1 : Int32)), .val (.int (3 : Int32)), .val (.int ld), .val (.ref b123), .val (.ref b129), .val (.int i132), .val (.int i133), .val (.ref b209), .val (.ref b216), .val (.int (4 : Int32)), .val (.int i220), .val (.int i222), .val (.int i224), .val (.int i226), .unset, .unset, .unset, .unset, .unset]) rfl (pc' := 377) rfl ?_
  refine R.aload X225 hx (hb hby at_377) rfl rfl (pc' := 379) rfl ?_
  refine R.aload X225 hx (hb hby at_379) rfl rfl (pc' := 381) rfl ?_
  refine R.aload X225 hx (hb hby at_381) rfl rfl (pc' := 383) rfl ?_
  refine R.iconst X225 hx (hb hby at_383) (v := (4 : Int32)) (by decide) (pc' := 384) rfl ?_
  refine R.callS X225 hx hZ (y := mY3) hown w_10 w_11 w_8 w_12 (by decide) e225 (rmcf4 l Z aZ hw [] b209 b123 b216 k209 k123 k216 [((2 : Int32), (.int i214)), ((1 : Int32), (.int i212)), ((0 : Int32), (.int i210))] [((1 : Int32), (.int ld)), ((2 : Int32), (.int (0 : Int32))), ((1 : Int32), (.int (0 : Int32))), ((0 : Int32), (.int i124))] [((1 : Int32), (.int (0 : Int32))), ((0 : Int32), (.int i132))] i210 i212 i214 i124 ld (0 : Int32) i132 (0 : Int32) h218 n0 Z218 V_b209 V_b123 V_b216 (getH_miss (by decide) (by decide) (getH_miss (by decide) (by decide) (getH_hit (by decide) (rfl)))) (getH_miss (by decide) (by decide) (getH_hit (by decide) (rfl))) (getH_hit (by decide) (rfl)) (getH_miss (by decide) (by decide) (getH_miss (by decide) (by decide) (getH_miss (by decide) (by decide) (getH_hit (by decide) (rfl))))) (getH_hit (by decide) (rfl)) (getH_miss (by decide) (by decide) (getH_hit (by decide) (rfl))) (getH_miss (by decide) (by decide) (getH_hit (by decide) (rfl))) (getH_hit (by decide) (rfl))) (by decide) (W := 0) (Nat.le_of_eq rfl) (by decide) (by rw [hml]; rfl) (lenOf pd_3 rfl) rfl (hb hby at_384) (pc' := 387) rfl (by decide) (by decide) ?_; intro v227 T227 L227 X227 hQ227
  obtain ⟨rfl, N227q, e227⟩ := hQ227
  have N227 := Fr.app N225 N227q
  show Rn p e below (T227.setTop (mkF m 387 #[.val (.int p0), .val (.int p1), .val (.int p2), .val (.int p3), .val (.int (2 : Int32)), .val (.int (1 : Int32)), .val (.int (3 : Int32)), .val (.int ld), .val (.ref b123), .val (.ref b129), .val (.int i132), .val (.int i133), .val (.ref b209), .val (.ref b216), .val (.int (4 : Int32)), .val (.int i220), .val (.int i222), .val (.int i224), .val (.int i226), .unset, .unset, .unset, .unset, .unset] [(.int ((((i210 * (0 : Int32)) + (i212 * (0 : Int32))) + (i214 * (0 : Int32))) + (0 : Int32)))])) G
  generalize hi228 : ((((i210 * (0 : Int32)) + (i212 * (0 : Int32))) + (i214 * (0 : Int32))) + (0 : Int32)) = i228
  refine R.istore X227 hx (hb hby at_387) (L' := #[.val (.int p0), .val (.int p1), .val (.int p2), .val (.int p3), .val (.int (2 : Int32)), .val (.int (1 : Int32)), .val (.int (3 : Int32)), .val (.int ld), .val (.ref b123), .val (.ref b129), .val (.int i132), .val (.int i133), .val (.ref b209), .val (.ref b216), .val (.int (4 : Int32)), .val (.int i220), .val (.int i222), .val (.int i224), .val (.int i226), .val (.int i228), .unset, .unset, .unset, .unset]) rfl (pc' := 389) rfl ?_
  have tc0 := own_cf (b_i210 : i210.toInt.natAbs ≤ 128) (b_i124 : i124.toInt.natAbs ≤ 128) (b_i212 : i212.toInt.natAbs ≤ 128) (own_z0 : (0 : Int32).toInt.natAbs ≤ 128) (b_i214 : i214.toInt.natAbs ≤ 128) (own_z0 : (0 : Int32).toInt.natAbs ≤ 128) (b_i132 : i132.toInt.natAbs ≤ 128) hi220
  simp only [own_zi, Int.zero_mul, Int.mul_zero, Int.add_zero, Int.zero_add] at tc0
  have tc1 := own_cf (b_i210 : i210.toInt.natAbs ≤ 128) (bl : ld.toInt.natAbs ≤ 128) (b_i212 : i212.toInt.natAbs ≤ 128) (b_i124 : i124.toInt.natAbs ≤ 128) (b_i214 : i214.toInt.natAbs ≤ 128) (own_z0 : (0 : Int32).toInt.natAbs ≤ 128) (own_z0 : (0 : Int32).toInt.natAbs ≤ 128) hi222
  simp only [own_zi, Int.zero_mul, Int.mul_zero, Int.add_zero, Int.zero_add] at tc1
  have tc2 := own_cf (b_i210 : i210.toInt.natAbs ≤ 128) (own_z0 : (0 : Int32).toInt.natAbs ≤ 128) (b_i212 : i212.toInt.natAbs ≤ 128) (bl : ld.toInt.natAbs ≤ 128) (b_i214 : i214.toInt.natAbs ≤ 128) (b_i124 : i124.toInt.natAbs ≤ 128) (own_z0 : (0 : Int32).toInt.natAbs ≤ 128) hi224
  simp only [own_zi, Int.zero_mul, Int.mul_zero, Int.add_zero, Int.zero_add] at tc2
  have tc3 := own_cf (b_i210 : i210.toInt.natAbs ≤ 128) (own_z0 : (0 : Int32).toInt.natAbs ≤ 128) (b_i212 : i212.toInt.natAbs ≤ 128) (own_z0 : (0 : Int32).toInt.natAbs ≤ 128) (b_i214 : i214.toInt.natAbs ≤ 128) (bl : ld.toInt.natAbs ≤ 128) (own_z0 : (0 : Int32).toInt.natAbs ≤ 128) hi226
  simp only [own_zi, Int.zero_mul, Int.mul_zero, Int.add_zero, Int.zero_add] at tc3
  have tc4 := own_cf (b_i210 : i210.toInt.natAbs ≤ 128) (own_z0 : (0 : Int32).toInt.natAbs ≤ 128) (b_i212 : i212.toInt.natAbs ≤ 128) (own_z0 : (0 : Int32).toInt.natAbs ≤ 128) (b_i214 : i214.toInt.natAbs ≤ 128) (own_z0 : (0 : Int32).toInt.natAbs ≤ 128) (own_z0 : (0 : Int32).toInt.natAbs ≤ 128) hi228
  simp only [own_zi, Int.zero_mul, Int.mul_zero, Int.add_zero, Int.zero_add] at tc4
  refine R.iload X227 hx (hb hby at_389) rfl (pc' := 391) rfl ?_
  refine R.newP X227 hx hZ (ty := .double) rfl w_1 e227 (by decide) (cap := 4) (by decide) (by decide) (ad := "[D") (by decide) (hb hby at_391) (pc' := 393) rfl (by decide) (by decide) ?_; intro T229 h229 b229 k229 g229 X229 e229 E229 EE229 AA229
  have g_b229 : n0 ≤ b229 := Nat.le_trans Z218 (Nat.le_of_eq g229.symm)
  have sz_b229 : h0.size ≤ b229 := Nat.le_trans K218.1 (Nat.le_of_eq g229.symm)
  have ne_b123_b229 : b123 ≠ b229 := Nat.ne_of_lt (Nat.lt_of_lt_of_le V_b123.lt (Nat.le_of_eq g229.symm))
  have ne_b129_b229 : b129 ≠ b229 := Nat.ne_of_lt (Nat.lt_of_lt_of_le V_b129.lt (Nat.le_of_eq g229.symm))
  have ne_b209_b229 : b209 ≠ b229 := Nat.ne_of_lt (Nat.lt_of_lt_of_le V_b209.lt (Nat.le_of_eq g229.symm))
  have ne_b216_b229 : b216 ≠ b229 := Nat.ne_of_lt (Nat.lt_of_lt_of_le V_b216.lt (Nat.le_of_eq g229.symm))
  have K229 : Keep h0 h229 [] := K218.ext E229
  have Z229 : n0 ≤ h229.size := Nat.le_trans Z218 E229.1
  have V_b123 := V_b123.ext E229
  have V_b129 := V_b129.ext E229
  have V_b209 := V_b209.ext E229
  have V_b216 := V_b216.ext E229
  have E_b229 : Exa Z h229 b229 "[D" := EE229
  have V_b229 : Arh Z h229 b229 k229 .double (4 : Int32) [] [] (.double (0 : UInt64)) := AA229
  refine R.astore X229 hx (hb hby at_393) rfl (L' := #[.val (.int p0), .val (.int p1), .val (.int p2), .val (.int p3), .val (.int (2 : Int32)), .val (.int (1 : Int32)), .val (.int (3 : Int32)), .val (.int ld), .val (.ref b123), .val (.ref b129), .val (.int i132), .val (.int i133), .val (.ref b209), .val (.ref b216), .val (.int (4 : Int32)), .val (.int i220), .val (.int i222), .val (.int i224), .val (.int i226), .val (.int i228), .val (.ref b229), .unset, .unset, .unset]) rfl (pc' := 395) rfl ?_
  refine R.iload X229 hx (hb hby at_395) rfl (pc' := 397) rfl ?_
  refine R.ifNo X229 hx (hb hby at_397) (tlt (by decide : (0 : Int32) < (4 : Int32))).2.2.2 (pc' := 400) rfl ?_
  refine R.aload X229 hx (hb hby at_400) rfl rfl (pc' := 402) rfl ?_
  refine R.iconst X229 hx (hb hby at_402) (v := (0 : Int32)) (by decide) (pc' := 403) rfl ?_
  refine R.iload X229 hx (hb hby at_403) rfl (pc' := 405) rfl ?_
  refine R.i2d X229 hx (hb hby at_405) (pc' := 406) rfl ?_
  refine R.dastore X229 hx hZ e229 V_b229 (⟨by decide, by decide⟩ : ¬ (0 : Int32) < 0 ∧ (0 : Int32) < (4 : Int32)) (hb hby at_406) (pc' := 407) rfl ?_; intro T230 h230 X230 e230 W230 V230
  have V_b123 := V_b123.other W230 ne_b123_b229
  have V_b129 := V_b129.other W230 ne_b129_b229
  have V_b209 := V_b209.other W230 ne_b209_b229
  have V_b216 := V_b216.other W230 ne_b216_b229
  have E_b229 := E_b229.wr W230
  have V_b229 : Arh Z h230 b229 k229 .double (4 : Int32) [((0 : Int32), (.double (FP.i2d i220)))] [] (.double (0 : UInt64)) := V230
  have N230 := Fr.snoc X230 N227 g_b229
  have K230 : Keep h0 h230 [] := K229.wr W230 (Or.inr sz_b229)
  have Z230 : n0 ≤ h230.size := Nat.le_trans Z229 (Keep.of_wr W230).1
  refine R.iload X230 hx (hb hby at_407) rfl (pc' := 409) rfl ?_
  refine R.iconst X230 hx (hb hby at_409) (v := (1 : Int32)) (by decide) (pc' := 410) rfl ?_
  refine R.icmpNo X230 hx (hb hby at_410) (tlt (by decide : (1 : Int32) < (4 : Int32))).2.2.2 (pc' := 413) rfl ?_
  refine R.aload X230 hx (hb hby at_413) rfl rfl (pc' := 415) rfl ?_
  refine R.iconst X230 hx (hb hby at_415) (v := (1 : Int32)) (by decide) (pc' := 416) rfl ?_
  refine R.iload X230 hx (hb hby at_416) rfl (pc' := 418) rfl ?_
  refine R.i2d X230 hx (hb hby at_418) (pc' := 419) rfl ?_
  refine R.dastore X230 hx hZ e230 V_b229 (⟨by decide, by decide⟩ : ¬ (1 : Int32) < 0 ∧ (1 : Int32) < (4 : Int32)) (hb hby at_419) (pc' := 420) rfl ?_; intro T231 h231 X231 e231 W231 V231
  have V_b123 := V_b123.other W231 ne_b123_b229
  have V_b129 := V_b129.other W231 ne_b129_b229
  have V_b209 := V_b209.other W231 ne_b209_b229
  have V_b216 := V_b216.other W231 ne_b216_b229
  have E_b229 := E_b229.wr W231
  have V_b229 : Arh Z h231 b229 k229 .double (4 : Int32) [((1 : Int32), (.double (FP.i2d i222))), ((0 : Int32), (.double (FP.i2d i220)))] [] (.double (0 : UInt64)) := V231
  have N231 := Fr.snoc X231 N230 g_b229
  have K231 : Keep h0 h231 [] := K230.wr W231 (Or.inr sz_b229)
  have Z231 : n0 ≤ h231.size := Nat.le_trans Z230 (Keep.of_wr W231).1
  refine R.iload X231 hx (hb hby at_420) rfl (pc' := 422) rfl ?_
  refine R.iconst X231 hx (hb hby at_422) (v := (2 : Int32)) (by decide) (pc' := 423) rfl ?_
  refine R.icmpNo X231 hx (hb hby at_423) (tlt (by decide : (2 : Int32) < (4 : Int32))).2.2.2 (pc' := 426) rfl ?_
  refine R.aload X231 hx (hb hby at_426) rfl rfl (pc' := 428) rfl ?_
  refine R.iconst X231 hx (hb hby at_428) (v := (2 : Int32)) (by decide) (pc' := 429) rfl ?_
  refine R.iload X231 hx (hb hby at_429) rfl (pc' := 431) rfl ?_
  refine R.i2d X231 hx (hb hby at_431) (pc' := 432) rfl ?_
  refine R.dastore X231 hx hZ e231 V_b229 (⟨by decide, by decide⟩ : ¬ (2 : Int32) < 0 ∧ (2 : Int32) < (4 : Int32)) (hb hby at_432) (pc' := 433) rfl ?_; intro T232 h232 X232 e232 W232 V232
  have V_b123 := V_b123.other W232 ne_b123_b229
  have V_b129 := V_b129.other W232 ne_b129_b229
  have V_b209 := V_b209.other W232 ne_b209_b229
  have V_b216 := V_b216.other W232 ne_b216_b229
  have E_b229 := E_b229.wr W232
  have V_b229 : Arh Z h232 b229 k229 .double (4 : Int32) [((2 : Int32), (.double (FP.i2d i224))), ((1 : Int32), (.double (FP.i2d i222))), ((0 : Int32), (.double (FP.i2d i220)))] [] (.double (0 : UInt64)) := V232
  have N232 := Fr.snoc X232 N231 g_b229
  have K232 : Keep h0 h232 [] := K231.wr W232 (Or.inr sz_b229)
  have Z232 : n0 ≤ h232.size := Nat.le_trans Z231 (Keep.of_wr W232).1
  refine R.iload X232 hx (hb hby at_433) rfl (pc' := 435) rfl ?_
  refine R.iconst X232 hx (hb hby at_435) (v := (3 : Int32)) (by decide) (pc' := 436) rfl ?_
  refine R.icmpNo X232 hx (hb hby at_436) (tlt (by decide : (3 : Int32) < (4 : Int32))).2.2.2 (pc' := 439) rfl ?_
  refine R.aload X232 hx (hb hby at_439) rfl rfl (pc' := 441) rfl ?_
  refine R.iconst X232 hx (hb hby at_441) (v := (3 : Int32)) (by decide) (pc' := 442) rfl ?_
  refine R.iload X232 hx (hb hby at_442) rfl (pc' := 444) rfl ?_
  refine R.i2d X232 hx (hb hby at_444) (pc' := 445) rfl ?_
  refine R.dastore X232 hx hZ e232 V_b229 (⟨by decide, by decide⟩ : ¬ (3 : Int32) < 0 ∧ (3 : Int32) < (4 : Int32)) (hb hby at_445) (pc' := 446) rfl ?_; intro T233 h233 X233 e233 W233 V233
  have V_b123 := V_b123.other W233 ne_b123_b229
  have V_b129 := V_b129.other W233 ne_b129_b229
  have V_b209 := V_b209.other W233 ne_b209_b229
  have V_b216 := V_b216.other W233 ne_b216_b229
  have E_b229 := E_b229.wr W233
  have V_b229 : Arh Z h233 b229 k229 .double (4 : Int32) [((3 : Int32), (.double (FP.i2d i226))), ((2 : Int32), (.double (FP.i2d i224))), ((1 : Int32), (.double (FP.i2d i222))), ((0 : Int32), (.double (FP.i2d i220)))] [] (.double (0 : UInt64)) := V233
  have N233 := Fr.snoc X233 N232 g_b229
  have K233 : Keep h0 h233 [] := K232.wr W233 (Or.inr sz_b229)
  have Z233 : n0 ≤ h233.size := Nat.le_trans Z232 (Keep.of_wr W233).1
  refine R.iload X233 hx (hb hby at_446) rfl (pc' := 448) rfl ?_
  refine R.iconst X233 hx (hb hby at_448) (v := (4 : Int32)) (by decide) (pc' := 449) rfl ?_
  refine R.icmpYes X233 hx (hb hby at_449) (flt (by decide : ¬ ((4 : Int32) < (4 : Int32)))).2.2.2 (by decide) (pc' := 459) (by decide) ?_
  refine R.aload X233 hx (hb hby at_459) rfl rfl (pc' := 461) rfl ?_
  refine R.aload X233 hx (hb hby at_461) rfl rfl (pc' := 463) rfl ?_
  refine R.callS X233 hx hZ (y := mY1) hown w_2 w_3 w_4 w_5 (by decide) e233 (rmqq23 l Z aZ hw [] b229 b129 k229 k129 [((3 : Int32), (.double (FP.i2d i226))), ((2 : Int32), (.double (FP.i2d i224))), ((1 : Int32), (.double (FP.i2d i222))), ((0 : Int32), (.double (FP.i2d i220)))] [((1 : Int32), (.double (FP.i2d ld))), ((0 : Int32), (.double (FP.i2d i124)))] (FP.i2d i220) (FP.i2d i222) (FP.i2d i224) (FP.i2d i226) (FP.i2d i124) (FP.i2d ld) i220.toInt i222.toInt i224.toInt i226.toInt i124.toInt ld.toInt i210.toInt i212.toInt i214.toInt i132.toInt h233 n0 Z233 V_b229 E_b229 V_b129 (getH_miss (by decide) (by decide) (getH_miss (by decide) (by decide) (getH_miss (by decide) (by decide) (getH_hit (by decide) (rfl))))) (Dy.i2d _) (getH_miss (by decide) (by decide) (getH_miss (by decide) (by decide) (getH_hit (by decide) (rfl)))) (Dy.i2d _) (getH_miss (by decide) (by decide) (getH_hit (by decide) (rfl))) (Dy.i2d _) (getH_hit (by decide) (rfl)) (Dy.i2d _) (getH_miss (by decide) (by decide) (getH_hit (by decide) (rfl))) (Dy.i2d _) (getH_hit (by decide) (rfl)) (Dy.i2d _) (tc0) (tc1) (tc2) (tc3) (nl) (b_i124) (bl) (b_i210) (b_i212) (b_i214) (b_i132)) (by decide) (W := 0) (Nat.le_of_eq rfl) (by decide) (by rw [hml]; rfl) (lenOf pd_1 rfl) rfl (hb hby at_463) (pc' := 466) rfl (by decide) (by decide) ?_; intro v234 T234 L234 X234 hQ234
  obtain ⟨r_234, kr_234, hr_234, rfl, N234q, Kc234, P234_0, P234_1, P234_2, P234_3, P234_4⟩ := hQ234
  have N234 := Fr.app N233 N234q
  generalize e234 : T234.heap = h234 at Kc234 P234_0 P234_1 P234_2 P234_3 P234_4
  have K234 : Keep h0 h234 [] := K233.trans Kc234 (all0)
  have Z234 : n0 ≤ h234.size := Nat.le_trans Z233 Kc234.1
  have ne_b123_r_234 : b123 ≠ r_234 := Nat.ne_of_lt (Nat.lt_of_lt_of_le V_b123.lt P234_0)
  have ne_b129_r_234 : b129 ≠ r_234 := Nat.ne_of_lt (Nat.lt_of_lt_of_le V_b129.lt P234_0)
  have ne_b209_r_234 : b209 ≠ r_234 := Nat.ne_of_lt (Nat.lt_of_lt_of_le V_b209.lt P234_0)
  have ne_b216_r_234 : b216 ≠ r_234 := Nat.ne_of_lt (Nat.lt_of_lt_of_le V_b216.lt P234_0)
  have ne_b229_r_234 : b229 ≠ r_234 := Nat.ne_of_lt (Nat.lt_of_lt_of_le E_b229.lt P234_0)
  have g_r_234 : n0 ≤ r_234 := Nat.le_trans Z233 P234_0
  have sz_r_234 : h0.size ≤ r_234 := Nat.le_trans K233.1 P234_0
  have V_b123 := V_b123.keep Kc234 nin0
  have V_b129 := V_b129.keep Kc234 nin0
  have V_b209 := V_b209.keep Kc234 nin0
  have V_b216 := V_b216.keep Kc234 nin0
  have E_b229 := E_b229.keep Kc234
  have V_b229 := V_b229.keep Kc234 nin0
  have fresh_234 := P234_0
  have V_r_234 : Arh Z h234 r_234 kr_234 .double (3 : Int32) hr_234 [] (.double (0 : UInt64)) := P234_1
  have V_r_234 : Arh Z h234 r_234 kr_234 .double (3 : Int32) hr_234 [] (.double (0 : UInt64)) := V_r_234
  have c0_234 := P234_2
  have c1_234 := P234_3
  have c2_234 := P234_4
  refine R.astore X234 hx (hb hby at_466) rfl (L' := #[.val (.int p0), .val (.int p1), .val (.int p2), .val (.int p3), .val (.int (2 : Int32)), .val (.int (1 : Int32)), .val (.int (3 : Int32)), .val (.int ld), .val (.ref b123), .val (.ref b129), .val (.int i132), .val (.int i133), .val (.ref b209), .val (.ref b216), .val (.int (4 : Int32)), .val (.int i220), .val (.int i222), .val (.int i224), .val (.int i226), .val (.int i228), .val (.ref b229), .val (.ref r_234), .unset, .unset]) rfl (pc' := 468) rfl ?_
  refine R.aload X234 hx (hb hby at_468) rfl rfl (pc' := 470) rfl ?_
  refine R.alen X234 hx hZ e234 V_r_234 (hb hby at_470) (pc' := 471) rfl ?_
  refine R.iload X234 hx (hb hby at_471) rfl (pc' := 473) rfl ?_
  refine R.icmpNo X234 hx (hb hby at_473) (teq (by decide : (3 : Int32) = (3 : Int32))).2 (pc' := 476) rfl ?_
  refine R.aload X234 hx (hb hby at_476) rfl rfl (pc' := 478) rfl ?_
  refine R.iconst X234 hx (hb hby at_478) (v := (0 : Int32)) (by decide) (pc' := 479) rfl ?_
  refine R.aload X234 hx (hb hby at_479) rfl rfl (pc' := 481) rfl ?_
  refine R.callS X234 hx hZ (y := mY4) hown w_25 w_26 w_8 w_27 (by decide) e234 (rm5 l Z aZ hw [] r_234 (0 : Int32) b209 kr_234 (3 : Int32) hr_234 k209 [((2 : Int32), (.int i214)), ((1 : Int32), (.int i212)), ((0 : Int32), (.int i210))] i210 h234 n0 Z234 V_r_234 V_b209 (by decide) (getH_miss (by decide) (by decide) (getH_miss (by decide) (by decide) (getH_hit (by decide) (rfl)))) (fun _ => c0_234)) (by decide) (W := 0) (Nat.le_of_eq rfl) (by decide) (by rw [hml]; rfl) (lenOf pd_4 rfl) rfl (hb hby at_481) (pc' := 484) rfl (by decide) (by decide) ?_; intro v235 T235 L235 X235 hQ235
  obtain ⟨rfl, N235q, e235⟩ := hQ235
  have N235 := Fr.app N234 N235q
  refine R.ifNo X235 hx (hb hby at_484) (feq (by decide : ¬ ((1 : Int32) = (0 : Int32)))).1 (pc' := 487) rfl ?_
  refine R.aload X235 hx (hb hby at_487) rfl rfl (pc' := 489) rfl ?_
  refine R.iconst X235 hx (hb hby at_489) (v := (1 : Int32)) (by decide) (pc' := 490) rfl ?_
  refine R.aload X235 hx (hb hby at_490) rfl rfl (pc' := 492) rfl ?_
  refine R.callS X235 hx hZ (y := mY4) hown w_25 w_26 w_8 w_27 (by decide) e235 (rm5 l Z aZ hw [] r_234 (1 : Int32) b209 kr_234 (3 : Int32) hr_234 k209 [((2 : Int32), (.int i214)), ((1 : Int32), (.int i212)), ((0 : Int32), (.int i210))] i212 h234 n0 Z234 V_r_234 V_b209 (by decide) (getH_miss (by decide) (by decide) (getH_hit (by decide) (rfl))) (fun _ => c1_234)) (by decide) (W := 0) (Nat.le_of_eq rfl) (by decide) (by rw [hml]; rfl) (lenOf pd_4 rfl) rfl (hb hby at_492) (pc' := 495) rfl (by decide) (by decide) ?_; intro v236 T236 L236 X236 hQ236
  obtain ⟨rfl, N236q, e236⟩ := hQ236
  have N236 := Fr.app N235 N236q
  refine R.ifNo X236 hx (hb hby at_495) (feq (by decide : ¬ ((1 : Int32) = (0 : Int32)))).1 (pc' := 498) rfl ?_
  refine R.aload X236 hx (hb hby at_498) rfl rfl (pc' := 500) rfl ?_
  refine R.iconst X236 hx (hb hby at_500) (v := (2 : Int32)) (by decide) (pc' := 501) rfl ?_
  refine R.aload X236 hx (hb hby at_501) rfl rfl (pc' := 503) rfl ?_
  refine R.callS X236 hx hZ (y := mY4) hown w_25 w_26 w_8 w_27 (by decide) e236 (rm5 l Z aZ hw [] r_234 (2 : Int32) b209 kr_234 (3 : Int32) hr_234 k209 [((2 : Int32), (.int i214)), ((1 : Int32), (.int i212)), ((0 : Int32), (.int i210))] i214 h234 n0 Z234 V_r_234 V_b209 (by decide) (getH_hit (by decide) (rfl)) (fun _ => c2_234)) (by decide) (W := 0) (Nat.le_of_eq rfl) (by decide) (by rw [hml]; rfl) (lenOf pd_4 rfl) rfl (hb hby at_503) (pc' := 506) rfl (by decide) (by decide) ?_; intro v237 T237 L237 X237 hQ237
  obtain ⟨rfl, N237q, e237⟩ := hQ237
  have N237 := Fr.app N236 N237q
  refine R.ifNo X237 hx (hb hby at_506) (feq (by decide : ¬ ((1 : Int32) = (0 : Int32)))).1 (pc' := 509) rfl ?_
  refine R.iconst X237 hx (hb hby at_509) (v := (1 : Int32)) (by decide) (pc' := 510) rfl ?_
  refine R.goto X237 hx (hb hby at_510) (by decide) (pc' := 514) (by decide) ?_
  refine R.istore X237 hx (hb hby at_514) (L' := #[.val (.int p0), .val (.int p1), .val (.int p2), .val (.int p3), .val (.int (2 : Int32)), .val (.int (1 : Int32)), .val (.int (3 : Int32)), .val (.int ld), .val (.ref b123), .val (.ref b129), .val (.int i132), .val (.int i133), .val (.ref b209), .val (.ref b216), .val (.int (4 : Int32)), .val (.int i220), .val (.int i222), .val (.int i224), .val (.int i226), .val (.int i228), .val (.ref b229), .val (.ref r_234), .val (.int (1 : Int32)), .unset]) rfl (pc' := 516) rfl ?_
  refine R.aload X237 hx (hb hby at_516) rfl rfl (pc' := 518) rfl ?_
  refine R.iconst X237 hx (hb hby at_518) (v := (0 : Int32)) (by decide) (pc' := 519) rfl ?_
  refine R.iload X237 hx (hb hby at_519) rfl (pc' := 521) rfl ?_
  refine R.callS X237 hx hZ (y := mY2) hown w_6 w_7 w_8 w_9 (by decide) e237 (rm2 l Z aZ hw [] b229 (0 : Int32) i220 k229 (4 : Int32) [((3 : Int32), (.double (FP.i2d i226))), ((2 : Int32), (.double (FP.i2d i224))), ((1 : Int32), (.double (FP.i2d i222))), ((0 : Int32), (.double (FP.i2d i220)))] h234 n0 Z234 V_b229 (by decide) (fun _ => getH_miss (by decide) (by decide) (getH_miss (by decide) (by decide) (getH_miss (by decide) (by decide) (getH_hit (by decide) (rfl)))))) (by decide) (W := 0) (Nat.le_of_eq rfl) (by decide) (by rw [hml]; rfl) (lenOf pd_2 rfl) rfl (hb hby at_521) (pc' := 524) rfl (by decide) (by decide) ?_; intro v238 T238 L238 X238 hQ238
  obtain ⟨rfl, N238q, e238⟩ := hQ238
  have N238 := Fr.app N237 N238q
  refine R.ifNo X238 hx (hb hby at_524) (feq (by decide : ¬ ((1 : Int32) = (0 : Int32)))).1 (pc' := 527) rfl ?_
  refine R.aload X238 hx (hb hby at_527) rfl rfl (pc' := 529) rfl ?_
  refine R.iconst X238 hx (hb hby at_529) (v := (1 : Int32)) (by decide) (pc' := 530) rfl ?_
  refine R.iload X238 hx (hb hby at_530) rfl (pc' := 532) rfl ?_
  refine R.callS X238 hx hZ (y := mY2) hown w_6 w_7 w_8 w_9 (by decide) e238 (rm2 l Z aZ hw [] b229 (1 : Int32) i222 k229 (4 : Int32) [((3 : Int32), (.double (FP.i2d i226))), ((2 : Int32), (.double (FP.i2d i224))), ((1 : Int32), (.double (FP.i2d i222))), ((0 : Int32), (.double (FP.i2d i220)))] h234 n0 Z234 V_b229 (by decide) (fun _ => getH_miss (by decide) (by decide) (getH_miss (by decide) (by decide) (getH_hit (by decide) (rfl))))) (by decide) (W := 0) (Nat.le_of_eq rfl) (by decide) (by rw [hml]; rfl) (lenOf pd_2 rfl) rfl (hb hby at_532) (pc' := 535) rfl (by decide) (by decide) ?_; intro v239 T239 L239 X239 hQ239
  obtain ⟨rfl, N239q, e239⟩ := hQ239
  have N239 := Fr.app N238 N239q
  refine R.ifNo X239 hx (hb hby at_535) (feq (by decide : ¬ ((1 : Int32) = (0 : Int32)))).1 (pc' := 538) rfl ?_
  refine R.aload X239 hx (hb hby at_538) rfl rfl (pc' := 540) rfl ?_
  refine R.iconst X239 hx (hb hby at_540) (v := (2 : Int32)) (by decide) (pc' := 541) rfl ?_
  refine R.iload X239 hx (hb hby at_541) rfl (pc' := 543) rfl ?_
  refine R.callS X239 hx hZ (y := mY2) hown w_6 w_7 w_8 w_9 (by decide) e239 (rm2 l Z aZ hw [] b229 (2 : Int32) i224 k229 (4 : Int32) [((3 : Int32), (.double (FP.i2d i226))), ((2 : Int32), (.double (FP.i2d i224))), ((1 : Int32), (.double (FP.i2d i222))), ((0 : Int32), (.double (FP.i2d i220)))] h234 n0 Z234 V_b229 (by decide) (fun _ => getH_miss (by decide) (by decide) (getH_hit (by decide) (rfl)))) (by decide) (W := 0) (Nat.le_of_eq rfl) (by decide) (by rw [hml]; rfl) (lenOf pd_2 rfl) rfl (hb hby at_543) (pc' := 546) rfl (by decide) (by decide) ?_; intro v240 T240 L240 X240 hQ240
  obtain ⟨rfl, N240q, e240⟩ := hQ240
  have N240 := Fr.app N239 N240q
  refine R.ifNo X240 hx (hb hby at_546) (feq (by decide : ¬ ((1 : Int32) = (0 : Int32)))).1 (pc' := 549) rfl ?_
  refine R.aload X240 hx (hb hby at_549) rfl rfl (pc' := 551) rfl ?_
  refine R.iconst X240 hx (hb hby at_551) (v := (3 : Int32)) (by decide) (pc' := 552) rfl ?_
  refine R.iload X240 hx (hb hby at_552) rfl (pc' := 554) rfl ?_
  refine R.callS X240 hx hZ (y := mY2) hown w_6 w_7 w_8 w_9 (by decide) e240 (rm2 l Z aZ hw [] b229 (3 : Int32) i226 k229 (4 : Int32) [((3 : Int32), (.double (FP.i2d i226))), ((2 : Int32), (.double (FP.i2d i224))), ((1 : Int32), (.double (FP.i2d i222))), ((0 : Int32), (.double (FP.i2d i220)))] h234 n0 Z234 V_b229 (by decide) (fun _ => getH_hit (by decide) (rfl))) (by decide) (W := 0) (Nat.le_of_eq rfl) (by decide) (by rw [hml]; rfl) (lenOf pd_2 rfl) rfl (hb hby at_554) (pc' := 557) rfl (by decide) (by decide) ?_; intro v241 T241 L241 X241 hQ241
  obtain ⟨rfl, N241q, e241⟩ := hQ241
  have N241 := Fr.app N240 N241q
  refine R.ifNo X241 hx (hb hby at_557) (feq (by decide : ¬ ((1 : Int32) = (0 : Int32)))).1 (pc' := 560) rfl ?_
  refine R.aload X241 hx (hb hby at_560) rfl rfl (pc' := 562) rfl ?_
  refine R.iconst X241 hx (hb hby at_562) (v := (4 : Int32)) (by decide) (pc' := 563) rfl ?_
  refine R.iload X241 hx (hb hby at_563) rfl (pc' := 565) rfl ?_
  refine R.callS X241 hx hZ (y := mY2) hown w_6 w_7 w_8 w_9 (by decide) e241 (rm2 l Z aZ hw [] b229 (4 : Int32) i228 k229 (4 : Int32) [((3 : Int32), (.double (FP.i2d i226))), ((2 : Int32), (.double (FP.i2d i224))), ((1 : Int32), (.double (FP.i2d i222))), ((0 : Int32), (.double (FP.i2d i220)))] h234 n0 Z234 V_b229 (by decide) (fun q => absurd q (by decide))) (by decide) (W := 0) (Nat.le_of_eq rfl) (by decide) (by rw [hml]; rfl) (lenOf pd_2 rfl) rfl (hb hby at_565) (pc' := 568) rfl (by decide) (by decide) ?_; intro v242 T242 L242 X242 hQ242
  obtain ⟨rfl, N242q, e242⟩ := hQ242
  have N242 := Fr.app N241 N242q
  refine R.ifNo X242 hx (hb hby at_568) (feq (by decide : ¬ ((1 : Int32) = (0 : Int32)))).1 (pc' := 571) rfl ?_
  refine R.iconst X242 hx (hb hby at_571) (v := (1 : Int32)) (by decide) (pc' := 572) rfl ?_
  refine R.goto X242 hx (hb hby at_572) (by decide) (pc' := 576) (by decide) ?_
  refine R.istore X242 hx (hb hby at_576) (L' := #[.val (.int p0), .val (.int p1), .val (.int p2), .val (.int p3), .val (.int (2 : Int32)), .val (.int (1 : Int32)), .val (.int (3 : Int32)), .val (.int ld), .val (.ref b123), .val (.ref b129), .val (.int i132), .val (.int i133), .val (.ref b209), .val (.ref b216), .val (.int (4 : Int32)), .val (.int i220), .val (.int i222), .val (.int i224), .val (.int i226), .val (.int i228), .val (.ref b229), .val (.ref r_234), .val (.int (1 : Int32)), .val (.int (1 : Int32))]) rfl (pc' := 578) rfl ?_
  refine R.iload X242 hx (hb hby at_578) rfl (pc' := 580) rfl ?_
  refine R.ifNo X242 hx (hb hby at_580) (feq (by decide : ¬ ((1 : Int32) = (0 : Int32)))).1 (pc' := 583) rfl ?_
  refine R.iload X242 hx (hb hby at_583) rfl (pc' := 585) rfl ?_
  refine R.ifNo X242 hx (hb hby at_585) (feq (by decide : ¬ ((1 : Int32) = (0 : Int32)))).1 (pc' := 588) rfl ?_
  refine R.iconst X242 hx (hb hby at_588) (v := (1 : Int32)) (by decide) (pc' := 589) rfl ?_
  refine R.goto X242 hx (hb hby at_589) (by decide) (pc' := 593) (by decide) ?_
  rw [← hG]
  exact Rn.ret X242 (BodyLoose.notSynchronized Bd) (v := some (.int (1 : Int32))) (fun h => by rw [Bd.returns] at h; cases h) (Q := Q0 Z p0 p1 p2 p3 h0 n0) e242 (fun fs hr => retN X242 hx (t := .boolean) Bd.returns (by simp) (hb hby at_593) hr) ⟨rfl, N242⟩ (by decide) (by decide)
set_option maxRecDepth 65536 in
set_option maxHeartbeats 40000000 in
theorem rm0_30 (l : Launch) (Z : State) (aZ : Array Value) (hw : ∀ d ∈ tables_1, d.before aZ Z = true) (ws : List Jvm.Cond) (p0 : Int32) (p1 : Int32) (p2 : Int32) (p3 : Int32) (h0 : Heap) (n0 : Nat) {p : Program} {e : Env} {s : State} {m : MethodId} {below : List Frame} {meth : Method} {c : Code} {s₁ : State} (Bd : BodyLoose p l x (head1 (Jvm.Cond.code x code maxLocals ret :: ws) room_1) code maxLocals ret e s m #[(.int p0), (.int p1), (.int p2), (.int p3)] below meth c s₁) (hml : c.maxLocals = 24) (hZ : Z.Warmed39 s.vm) {TL : State} {hL : Heap} {lL : List Loc} (XL : Stand p l e room_1 s m #[(.int p0), (.int p1), (.int p2), (.int p3)] below meth c TL lL 2 6) (eL : TL.heap = hL) (NL : Fr n0 lL) (KL : Keep h0 hL []) (ZL : n0 ≤ hL.size) (ld : Int32) (b246 : Addr) (b253 : Addr) (i247 : Int32) (i249 : Int32) (i257 : Int32) (i258 : Int32) (k246 : ClassId) (k253 : ClassId) {G : Outcome → State → Prop} (hG : (Fn0 Z p0 p1 p2 p3 h0 n0 s) = G) (V_b246 : Arh Z hL b246 k246 .int (3 : Int32) [((2 : Int32), (.int ld)), ((2 : Int32), (.int (0 : Int32))), ((1 : Int32), (.int i249)), ((0 : Int32), (.int i247))] [] (.int (0 : Int32))) (V_b253 : Arh Z hL b253 k253 .double (3 : Int32) [((2 : Int32), (.double (FP.i2d ld))), ((1 : Int32), (.double (FP.i2d i249))), ((0 : Int32), (.double (FP.i2d i247)))] [] (.double (0 : UInt64))) (ne_b246_b253 : b246 ≠ b253) (g_b246 : n0 ≤ b246) (g_b253 : n0 ≤ b253) (sz_b246 : h0.size ≤ b246) (sz_b253 : h0.size ≤ b253) (nl : ld.toInt ≠ 0) (bl : ld.toInt.natAbs ≤ 128) (b_i257 : i257.toInt.natAbs ≤ 128) (b_i258 : i258.toInt.natAbs ≤ 128) (b_i249 : i249.toInt.natAbs ≤ 128) (b_i247 : i247.toInt.natAbs ≤ 128) : Rn p e below (TL.setTop (mkF m 147 #[.val (.int p0), .val (.int p1), .val (.int p2), .val (.int p3), .val (.int (3 : Int32)), .val (.int (2 : Int32)), .val (.int (0 : Int32)), .val (.int ld), .val (.ref b246), .val (.ref b253), .val (.int i257), .val (.int i258), .unset, .unset, .unset, .unset, .unset, .unset, .unset, .unset, .unset, .unset, .unset, .unset] [])) G := by
  have hx := Bd.exec
  have hby := Bd.bytes
  have hown : s.vm.findClass "com/example/deseason/deseason/arima/PolynomialsQuotientPinLaw" = some m.cls := findClass_of_methodNamed Bd.named
  have hnm := (name_of_methodNamed Bd.named Bd.method).1
  have w_1 := hw _ (List.mem_of_getElem? (i := 1) rfl)
  have w_2 := hw _ (List.mem_of_getElem? (i := 2) rfl)
  have w_3 := hw _ (List.mem_of_getElem? (i := 3) rfl)
  have w_4 := hw _ (List.mem_of_getElem? (i := 4) rfl)
  have w_5 := hw _ (List.mem_of_getElem? (i := 5) rfl)
  have w_6 := hw _ (List.mem_of_getElem? (i := 6) rfl)
  have w_7 := hw _ (List.mem_of_getElem? (i := 7) rfl)
  have w_8 := hw _ (List.mem_of_getElem? (i := 8) rfl)
  have w_9 := hw _ (List.mem_of_getElem? (i := 9) rfl)
  show Rn p e below (TL.setTop (mkF m 147 #[.val (.int p0), .val (.int p1), .val (.int p2), .val (.int p3), .val (.int (3 : Int32)), .val (.int (2 : Int32)), .val (.int (0 : Int32)), .val (.int ld), .val (.ref b246), .val (.ref b253), .val (.int i257), .val (.int i258), .unset, .unset, .unset, .unset, .unset, .unset, .unset, .unset, .unset, .unset, .unset, .unset] [])) G
  refine R.iload XL hx (hb hby at_147) rfl (pc' := 149) rfl ?_
  refine R.ifNo XL hx (hb hby at_149) (teq (by decide : (0 : Int32) = (0 : Int32))).2 (pc' := 152) rfl ?_
  refine R.iloadN XL hx (hb hby at_152) rfl (pc' := 153) rfl ?_
  refine R.bipush XL hx (hb hby at_153) (v := (20 : Int32)) (by decide) (pc' := 155) rfl ?_
  refine R.ishr XL hx (hb hby at_155) (pc' := 156) rfl ?_
  refine R.iconst XL hx (hb hby at_156) (v := (3 : Int32)) (by decide) (pc' := 157) rfl ?_
  refine R.iand XL hx (hb hby at_157) rfl (pc' := 158) rfl ?_
  refine R.iload XL hx (hb hby at_158) rfl (pc' := 160) rfl ?_
  refine R.irem XL hx (hb hby at_160) (by decide : (3 : Int32) ≠ (0 : Int32)) (pc' := 161) rfl ?_
  generalize hi259 : (((p0 >>> ((20 : Int32) &&& 31)) &&& (3 : Int32)) % (3 : Int32)) = i259
  refine R.istore XL hx (hb hby at_161) (L' := #[.val (.int p0), .val (.int p1), .val (.int p2), .val (.int p3), .val (.int (3 : Int32)), .val (.int (2 : Int32)), .val (.int (0 : Int32)), .val (.int ld), .val (.ref b246), .val (.ref b253), .val (.int i257), .val (.int i258), .val (.int i259), .unset, .unset, .unset, .unset, .unset, .unset, .unset, .unset, .unset, .unset, .unset]) rfl (pc' := 163) rfl ?_
  have hm12 := own_m (z := (3 : Int32)) (by decide) hi259
  have z12 : ((3 : Int32)).toInt = 3 := by decide
  rw [z12] at hm12
  refine R.iload XL hx (hb hby at_163) rfl (pc' := 165) rfl ?_
  refine R.newP XL hx hZ (ty := .double) rfl w_1 eL (own_nneg (by omega)) (cap := 2) (show i259.toInt.toNat ≤ 2 by omega) (by decide) (ad := "[D") (by decide) (hb hby at_165) (pc' := 167) rfl (by decide) (by decide) ?_; intro T260 h260 b260 k260 g260 X260 e260 E260 EE260 AA260
  have g_b260 : n0 ≤ b260 := Nat.le_trans ZL (Nat.le_of_eq g260.symm)
  have sz_b260 : h0.size ≤ b260 := Nat.le_trans KL.1 (Nat.le_of_eq g260.symm)
  have ne_b246_b260 : b246 ≠ b260 := Nat.ne_of_lt (Nat.lt_of_lt_of_le V_b246.lt (Nat.le_of_eq g260.symm))
  have ne_b253_b260 : b253 ≠ b260 := Nat.ne_of_lt (Nat.lt_of_lt_of_le V_b253.lt (Nat.le_of_eq g260.symm))
  have K260 : Keep h0 h260 [] := KL.ext E260
  have Z260 : n0 ≤ h260.size := Nat.le_trans ZL E260.1
  have V_b246 := V_b246.ext E260
  have V_b253 := V_b253.ext E260
  have V_b260 : Arh Z h260 b260 k260 .double i259 [] [] (.double (0 : UInt64)) := AA260
  refine R.astore X260 hx (hb hby at_167) rfl (L' := #[.val (.int p0), .val (.int p1), .val (.int p2), .val (.int p3), .val (.int (3 : Int32)), .val (.int (2 : Int32)), .val (.int (0 : Int32)), .val (.int ld), .val (.ref b246), .val (.ref b253), .val (.int i257), .val (.int i258), .val (.int i259), .val (.ref b260), .unset, .unset, .unset, .unset, .unset, .unset, .unset, .unset, .unset, .unset]) rfl (pc' := 169) rfl ?_
  refine R.iload X260 hx (hb hby at_169) rfl (pc' := 171) rfl ?_
  by_cases hc171 : (0 : Int32) < i259
  · refine R.ifNo X260 hx (hb hby at_171) (tlt hc171).2.2.2 (pc' := 174) rfl ?_
    refine R.aload X260 hx (hb hby at_174) rfl rfl (pc' := 176) rfl ?_
    refine R.iconst X260 hx (hb hby at_176) (v := (0 : Int32)) (by decide) (pc' := 177) rfl ?_
    refine R.iload X260 hx (hb hby at_177) rfl (pc' := 179) rfl ?_
    refine R.i2d X260 hx (hb hby at_179) (pc' := 180) rfl ?_
    refine R.dastore X260 hx hZ e260 V_b260 (own_bd (show (0 : Int) ≤ 0 ∧ (0 : Int) < i259.toInt by have q := Int32.lt_iff_toInt_lt.mp hc171; have z0 : (0 : Int32).toInt = 0 := (by decide); omega) : ¬ (0 : Int32) < 0 ∧ (0 : Int32) < i259) (hb hby at_180) (pc' := 181) rfl ?_; intro T261 h261 X261 e261 W261 V261
    have V_b246 := V_b246.other W261 ne_b246_b260
    have V_b253 := V_b253.other W261 ne_b253_b260
    have V_b260 : Arh Z h261 b260 k260 .double i259 [((0 : Int32), (.double (FP.i2d i257)))] [] (.double (0 : UInt64)) := V261
    have N261 := Fr.snoc X261 NL g_b260
    have K261 : Keep h0 h261 [] := K260.wr W261 (Or.inr sz_b260)
    have Z261 : n0 ≤ h261.size := Nat.le_trans Z260 (Keep.of_wr W261).1
    refine R.iload X261 hx (hb hby at_181) rfl (pc' := 183) rfl ?_
    refine R.iconst X261 hx (hb hby at_183) (v := (1 : Int32)) (by decide) (pc' := 184) rfl ?_
    by_cases hc184 : (1 : Int32) < i259
    · refine R.icmpNo X261 hx (hb hby at_184) (tlt hc184).2.2.2 (pc' := 187) rfl ?_
      refine R.aload X261 hx (hb hby at_187) rfl rfl (pc' := 189) rfl ?_
      refine R.iconst X261 hx (hb hby at_189) (v := (1 : Int32)) (by decide) (pc' := 190) rfl ?_
      refine R.iload X261 hx (hb hby at_190) rfl (pc' := 192) rfl ?_
      refine R.i2d X261 hx (hb hby at_192) (pc' := 193) rfl ?_
      refine R.dastore X261 hx hZ e261 V_b260 (own_bd (show (0 : Int) ≤ 1 ∧ (1 : Int) < i259.toInt by have q := Int32.lt_iff_toInt_lt.mp hc184; have z1 : (1 : Int32).toInt = 1 := (by decide); omega) : ¬ (1 : Int32) < 0 ∧ (1 : Int32) < i259) (hb hby at_193) (pc' := 194) rfl ?_; intro T262 h262 X262 e262 W262 V262
      have V_b246 := V_b246.other W262 ne_b246_b260
      have V_b253 := V_b253.other W262 ne_b253_b260
      have V_b260 : Arh Z h262 b260 k260 .double i259 [((1 : Int32), (.double (FP.i2d i258))), ((0 : Int32), (.double (FP.i2d i257)))] [] (.double (0 : UInt64)) := V262
      have N262 := Fr.snoc X262 N261 g_b260
      have K262 : Keep h0 h262 [] := K261.wr W262 (Or.inr sz_b260)
      have Z262 : n0 ≤ h262.size := Nat.le_trans Z261 (Keep.of_wr W262).1
      refine R.aload X262 hx (hb hby at_194) rfl rfl (pc' := 196) rfl ?_
      refine R.aload X262 hx (hb hby at_196) rfl rfl (pc' := 198) rfl ?_
      refine R.callS X262 hx hZ (y := mY1) hown w_2 w_3 w_4 w_5 (by decide) e262 (rmq0 l Z aZ hw [] b260 b253 k260 k253 i259 (3 : Int32) [((1 : Int32), (.double (FP.i2d i258))), ((0 : Int32), (.double (FP.i2d i257)))] [((2 : Int32), (.double (FP.i2d ld))), ((1 : Int32), (.double (FP.i2d i249))), ((0 : Int32), (.double (FP.i2d i247)))] h262 n0 Z262 V_b260 V_b253 (fun q => absurd (Int32.lt_iff_toInt_lt.mp q) (by have e : ((3 : Int32) - (1 : Int32)).toInt = 2 := (by decide); omega))) (by decide) (W := 0) (Nat.le_of_eq rfl) (by decide) (by rw [hml]; rfl) (lenOf pd_1 rfl) rfl (hb hby at_198) (pc' := 201) rfl (by decide) (by decide) ?_; intro v263 T263 L263 X263 hQ263
      obtain ⟨r_263, kr_263, rfl, N263q, Kc263, P263_0, P263_1⟩ := hQ263
      have N263 := Fr.app N262 N263q
      generalize e263 : T263.heap = h263 at Kc263 P263_0 P263_1
      have K263 : Keep h0 h263 [] := K262.trans Kc263 (all0)
      have Z263 : n0 ≤ h263.size := Nat.le_trans Z262 Kc263.1
      have ne_b246_r_263 : b246 ≠ r_263 := Nat.ne_of_lt (Nat.lt_of_lt_of_le V_b246.lt P263_0)
      have ne_b253_r_263 : b253 ≠ r_263 := Nat.ne_of_lt (Nat.lt_of_lt_of_le V_b253.lt P263_0)
      have ne_b260_r_263 : b260 ≠ r_263 := Nat.ne_of_lt (Nat.lt_of_lt_of_le V_b260.lt P263_0)
      have g_r_263 : n0 ≤ r_263 := Nat.le_trans Z262 P263_0
      have sz_r_263 : h0.size ≤ r_263 := Nat.le_trans K262.1 P263_0
      have V_b246 := V_b246.keep Kc263 nin0
      have V_b253 := V_b253.keep Kc263 nin0
      have V_b260 := V_b260.keep Kc263 nin0
      have fresh_263 := P263_0
      have V_r_263 : Arh Z h263 r_263 kr_263 .double (0 : Int32) [] [] (.double (0 : UInt64)) := P263_1
      have V_r_263 : Arh Z h263 r_263 kr_263 .double (0 : Int32) [] [] (.double (0 : UInt64)) := V_r_263
      refine R.astore X263 hx (hb hby at_201) rfl (L' := #[.val (.int p0), .val (.int p1), .val (.int p2), .val (.int p3), .val (.int (3 : Int32)), .val (.int (2 : Int32)), .val (.int (0 : Int32)), .val (.int ld), .val (.ref b246), .val (.ref b253), .val (.int i257), .val (.int i258), .val (.int i259), .val (.ref b260), .val (.ref r_263), .unset, .unset, .unset, .unset, .unset, .unset, .unset, .unset, .unset]) rfl (pc' := 203) rfl ?_
      refine R.aload X263 hx (hb hby at_203) rfl rfl (pc' := 205) rfl ?_
      refine R.alen X263 hx hZ e263 V_r_263 (hb hby at_205) (pc' := 206) rfl ?_
      refine R.ifNo X263 hx (hb hby at_206) (teq (by decide : (0 : Int32) = (0 : Int32))).2 (pc' := 209) rfl ?_
      refine R.aload X263 hx (hb hby at_209) rfl rfl (pc' := 211) rfl ?_
      refine R.iconst X263 hx (hb hby at_211) (v := (0 : Int32)) (by decide) (pc' := 212) rfl ?_
      refine R.iload X263 hx (hb hby at_212) rfl (pc' := 214) rfl ?_
      refine R.callS X263 hx hZ (y := mY2) hown w_6 w_7 w_8 w_9 (by decide) e263 (rm2 l Z aZ hw [] b260 (0 : Int32) i257 k260 i259 [((1 : Int32), (.double (FP.i2d i258))), ((0 : Int32), (.double (FP.i2d i257)))] h263 n0 Z263 V_b260 (by decide) (fun _ => getH_miss (by decide) (by decide) (getH_hit (by decide) (rfl)))) (by decide) (W := 0) (Nat.le_of_eq rfl) (by decide) (by rw [hml]; rfl) (lenOf pd_2 rfl) rfl (hb hby at_214) (pc' := 217) rfl (by decide) (by decide) ?_; intro v264 T264 L264 X264 hQ264
      obtain ⟨rfl, N264q, e264⟩ := hQ264
      have N264 := Fr.app N263 N264q
      refine R.ifNo X264 hx (hb hby at_217) (feq (by decide : ¬ ((1 : Int32) = (0 : Int32)))).1 (pc' := 220) rfl ?_
      refine R.aload X264 hx (hb hby at_220) rfl rfl (pc' := 222) rfl ?_
      refine R.iconst X264 hx (hb hby at_222) (v := (1 : Int32)) (by decide) (pc' := 223) rfl ?_
      refine R.iload X264 hx (hb hby at_223) rfl (pc' := 225) rfl ?_
      refine R.callS X264 hx hZ (y := mY2) hown w_6 w_7 w_8 w_9 (by decide) e264 (rm2 l Z aZ hw [] b260 (1 : Int32) i258 k260 i259 [((1 : Int32), (.double (FP.i2d i258))), ((0 : Int32), (.double (FP.i2d i257)))] h263 n0 Z263 V_b260 (by decide) (fun _ => getH_hit (by decide) (rfl))) (by decide) (W := 0) (Nat.le_of_eq rfl) (by decide) (by rw [hml]; rfl) (lenOf pd_2 rfl) rfl (hb hby at_225) (pc' := 228) rfl (by decide) (by decide) ?_; intro v265 T265 L265 X265 hQ265
      obtain ⟨rfl, N265q, e265⟩ := hQ265
      have N265 := Fr.app N264 N265q
      refine R.ifNo X265 hx (hb hby at_228) (feq (by decide : ¬ ((1 : Int32) = (0 : Int32)))).1 (pc' := 231) rfl ?_
      refine R.iconst X265 hx (hb hby at_231) (v := (1 : Int32)) (by decide) (pc' := 232) rfl ?_
      refine R.goto X265 hx (hb hby at_232) (by decide) (pc' := 236) (by decide) ?_
      rw [← hG]
      exact Rn.ret X265 (BodyLoose.notSynchronized Bd) (v := some (.int (1 : Int32))) (fun h => by rw [Bd.returns] at h; cases h) (Q := Q0 Z p0 p1 p2 p3 h0 n0) e265 (fun fs hr => retN X265 hx (t := .boolean) Bd.returns (by simp) (hb hby at_236) hr) ⟨rfl, N265⟩ (by decide) (by decide)
    · refine R.icmpYes X261 hx (hb hby at_184) (flt hc184).2.2.2 (by decide) (pc' := 194) (by decide) ?_
      refine R.aload X261 hx (hb hby at_194) rfl rfl (pc' := 196) rfl ?_
      refine R.aload X261 hx (hb hby at_196) rfl rfl (pc' := 198) rfl ?_
      refine R.callS X261 hx hZ (y := mY1) hown w_2 w_3 w_4 w_5 (by decide) e261 (rmq0 l Z aZ hw [] b260 b253 k260 k253 i259 (3 : Int32) [((0 : Int32), (.double (FP.i2d i257)))] [((2 : Int32), (.double (FP.i2d ld))), ((1 : Int32), (.double (FP.i2d i249))), ((0 : Int32), (.double (FP.i2d i247)))] h261 n0 Z261 V_b260 V_b253 (fun q => absurd (Int32.lt_iff_toInt_lt.mp q) (by have e : ((3 : Int32) - (1 : Int32)).toInt = 2 := (by decide); omega))) (by decide) (W := 0) (Nat.le_of_eq rfl) (by decide) (by rw [hml]; rfl) (lenOf pd_1 rfl) rfl (hb hby at_198) (pc' := 201) rfl (by decide) (by decide) ?_; intro v266 T266 L266 X266 hQ266
      obtain ⟨r_266, kr_266, rfl, N266q, Kc266, P266_0, P266_1⟩ := hQ266
      have N266 := Fr.app N261 N266q
      generalize e266 : T266.heap = h266 at Kc266 P266_0 P266_1
      have K266 : Keep h0 h266 [] := K261.trans Kc266 (all0)
      have Z266 : n0 ≤ h266.size := Nat.le_trans Z261 Kc266.1
      have ne_b246_r_266 : b246 ≠ r_266 := Nat.ne_of_lt (Nat.lt_of_lt_of_le V_b246.lt P266_0)
      have ne_b253_r_266 : b253 ≠ r_266 := Nat.ne_of_lt (Nat.lt_of_lt_of_le V_b253.lt P266_0)
      have ne_b260_r_266 : b260 ≠ r_266 := Nat.ne_of_lt (Nat.lt_of_lt_of_le V_b260.lt P266_0)
      have g_r_266 : n0 ≤ r_266 := Nat.le_trans Z261 P266_0
      have sz_r_266 : h0.size ≤ r_266 := Nat.le_trans K261.1 P266_0
      have V_b246 := V_b246.keep Kc266 nin0
      have V_b253 := V_b253.keep Kc266 nin0
      have V_b260 := V_b260.keep Kc266 nin0
      have fresh_266 := P266_0
      have V_r_266 : Arh Z h266 r_266 kr_266 .double (0 : Int32) [] [] (.double (0 : UInt64)) := P266_1
      have V_r_266 : Arh Z h266 r_266 kr_266 .double (0 : Int32) [] [] (.double (0 : UInt64)) := V_r_266
      refine R.astore X266 hx (hb hby at_201) rfl (L' := #[.val (.int p0), .val (.int p1), .val (.int p2), .val (.int p3), .val (.int (3 : Int32)), .val (.int (2 : Int32)), .val (.int (0 : Int32)), .val (.int ld), .val (.ref b246), .val (.ref b253), .val (.int i257), .val (.int i258), .val (.int i259), .val (.ref b260), .val (.ref r_266), .unset, .unset, .unset, .unset, .unset, .unset, .unset, .unset, .unset]) rfl (pc' := 203) rfl ?_
      refine R.aload X266 hx (hb hby at_203) rfl rfl (pc' := 205) rfl ?_
      refine R.alen X266 hx hZ e266 V_r_266 (hb hby at_205) (pc' := 206) rfl ?_
      refine R.ifNo X266 hx (hb hby at_206) (teq (by decide : (0 : Int32) = (0 : Int32))).2 (pc' := 209) rfl ?_
      refine R.aload X266 hx (hb hby at_209) rfl rfl (pc' := 211) rfl ?_
      refine R.iconst X266 hx (hb hby at_211) (v := (0 : Int32)) (by decide) (pc' := 212) rfl ?_
      refine R.iload X266 hx (hb hby at_212) rfl (pc' := 214) rfl ?_
      refine R.callS X266 hx hZ (y := mY2) hown w_6 w_7 w_8 w_9 (by decide) e266 (rm2 l Z aZ hw [] b260 (0 : Int32) i257 k260 i259 [((0 : Int32), (.double (FP.i2d i257)))] h266 n0 Z266 V_b260 (by decide) (fun _ => getH_hit (by decide) (rfl))) (by decide) (W := 0) (Nat.le_of_eq rfl) (by decide) (by rw [hml]; rfl) (lenOf pd_2 rfl) rfl (hb hby at_214) (pc' := 217) rfl (by decide) (by decide) ?_; intro v267 T267 L267 X267 hQ267
      obtain ⟨rfl, N267q, e267⟩ := hQ267
      have N267 := Fr.app N266 N267q
      refine R.ifNo X267 hx (hb hby at_217) (feq (by decide : ¬ ((1 : Int32) = (0 : Int32)))).1 (pc' := 220) rfl ?_
      refine R.aload X267 hx (hb hby at_220) rfl rfl (pc' := 222) rfl ?_
      refine R.iconst X267 hx (hb hby at_222) (v := (1 : Int32)) (by decide) (pc' := 223) rfl ?_
      refine R.iload X267 hx (hb hby at_223) rfl (pc' := 225) rfl ?_
      refine R.callS X267 hx hZ (y := mY2) hown w_6 w_7 w_8 w_9 (by decide) e267 (rm2 l Z aZ hw [] b260 (1 : Int32) i258 k260 i259 [((0 : Int32), (.double (FP.i2d i257)))] h266 n0 Z266 V_b260 (by decide) (fun q => absurd q hc184)) (by decide) (W := 0) (Nat.le_of_eq rfl) (by decide) (by rw [hml]; rfl) (lenOf pd_2 rfl) rfl (hb hby at_225) (pc' := 228) rfl (by decide) (by decide) ?_; intro v268 T268 L268 X268 hQ268
      obtain ⟨rfl, N268q, e268⟩ := hQ268
      have N268 := Fr.app N267 N268q
      refine R.ifNo X268 hx (hb hby at_228) (feq (by decide : ¬ ((1 : Int32) = (0 : Int32)))).1 (pc' := 231) rfl ?_
      refine R.iconst X268 hx (hb hby at_231) (v := (1 : Int32)) (by decide) (pc' := 232) rfl ?_
      refine R.goto X268 hx (hb hby at_232) (by decide) (pc' := 236) (by decide) ?_
      rw [← hG]
      exact Rn.ret X268 (BodyLoose.notSynchronized Bd) (v := some (.int (1 : Int32))) (fun h => by rw [Bd.returns] at h; cases h) (Q := Q0 Z p0 p1 p2 p3 h0 n0) e268 (fun fs hr => retN X268 hx (t := .boolean) Bd.returns (by simp) (hb hby at_236) hr) ⟨rfl, N268⟩ (by decide) (by decide)
  · refine R.ifYes X260 hx (hb hby at_171) (flt hc171).2.2.2 (by decide) (pc' := 181) (by decide) ?_
    refine R.iload X260 hx (hb hby at_181) rfl (pc' := 183) rfl ?_
    refine R.iconst X260 hx (hb hby at_183) (v := (1 : Int32)) (by decide) (pc' := 184) rfl ?_
    refine R.icmpYes X260 hx (hb hby at_184) (flt (fun q => absurd (Int32.lt_iff_toInt_lt.mp q) (by have e := hc171; rw [Int32.lt_iff_toInt_lt] at e; have z0 : (0 : Int32).toInt = 0 := (by decide); have z1 : (1 : Int32).toInt = 1 := (by decide); omega) : ¬ ((1 : Int32) < i259))).2.2.2 (by decide) (pc' := 194) (by decide) ?_
    refine R.aload X260 hx (hb hby at_194) rfl rfl (pc' := 196) rfl ?_
    refine R.aload X260 hx (hb hby at_196) rfl rfl (pc' := 198) rfl ?_
    refine R.callS X260 hx hZ (y := mY1) hown w_2 w_3 w_4 w_5 (by decide) e260 (rmq0 l Z aZ hw [] b260 b253 k260 k253 i259 (3 : Int32) [] [((2 : Int32), (.double (FP.i2d ld))), ((1 : Int32), (.double (FP.i2d i249))), ((0 : Int32), (.double (FP.i2d i247)))] h260 n0 Z260 V_b260 V_b253 (fun q => absurd (Int32.lt_iff_toInt_lt.mp q) (by have e : ((3 : Int32) - (1 : Int32)).toInt = 2 := (by decide); omega))) (by decide) (W := 0) (Nat.le_of_eq rfl) (by decide) (by rw [hml]; rfl) (lenOf pd_1 rfl) rfl (hb hby at_198) (pc' := 201) rfl (by decide) (by decide) ?_; intro v269 T269 L269 X269 hQ269
    obtain ⟨r_269, kr_269, rfl, N269q, Kc269, P269_0, P269_1⟩ := hQ269
    have N269 := Fr.app NL N269q
    generalize e269 : T269.heap = h269 at Kc269 P269_0 P269_1
    have K269 : Keep h0 h269 [] := K260.trans Kc269 (all0)
    have Z269 : n0 ≤ h269.size := Nat.le_trans Z260 Kc269.1
    have ne_b246_r_269 : b246 ≠ r_269 := Nat.ne_of_lt (Nat.lt_of_lt_of_le V_b246.lt P269_0)
    have ne_b253_r_269 : b253 ≠ r_269 := Nat.ne_of_lt (Nat.lt_of_lt_of_le V_b253.lt P269_0)
    have ne_b260_r_269 : b260 ≠ r_269 := Nat.ne_of_lt (Nat.lt_of_lt_of_le V_b260.lt P269_0)
    have g_r_269 : n0 ≤ r_269 := Nat.le_trans Z260 P269_0
    have sz_r_269 : h0.size ≤ r_269 := Nat.le_trans K260.1 P269_0
    have V_b246 := V_b246.keep Kc269 nin0
    have V_b253 := V_b253.keep Kc269 nin0
    have V_b260 := V_b260.keep Kc269 nin0
    have fresh_269 := P269_0
    have V_r_269 : Arh Z h269 r_269 kr_269 .double (0 : Int32) [] [] (.double (0 : UInt64)) := P269_1
    have V_r_269 : Arh Z h269 r_269 kr_269 .double (0 : Int32) [] [] (.double (0 : UInt64)) := V_r_269
    refine R.astore X269 hx (hb hby at_201) rfl (L' := #[.val (.int p0), .val (.int p1), .val (.int p2), .val (.int p3), .val (.int (3 : Int32)), .val (.int (2 : Int32)), .val (.int (0 : Int32)), .val (.int ld), .val (.ref b246), .val (.ref b253), .val (.int i257), .val (.int i258), .val (.int i259), .val (.ref b260), .val (.ref r_269), .unset, .unset, .unset, .unset, .unset, .unset, .unset, .unset, .unset]) rfl (pc' := 203) rfl ?_
    refine R.aload X269 hx (hb hby at_203) rfl rfl (pc' := 205) rfl ?_
    refine R.alen X269 hx hZ e269 V_r_269 (hb hby at_205) (pc' := 206) rfl ?_
    refine R.ifNo X269 hx (hb hby at_206) (teq (by decide : (0 : Int32) = (0 : Int32))).2 (pc' := 209) rfl ?_
    refine R.aload X269 hx (hb hby at_209) rfl rfl (pc' := 211) rfl ?_
    refine R.iconst X269 hx (hb hby at_211) (v := (0 : Int32)) (by decide) (pc' := 212) rfl ?_
    refine R.iload X269 hx (hb hby at_212) rfl (pc' := 214) rfl ?_
    refine R.callS X269 hx hZ (y := mY2) hown w_6 w_7 w_8 w_9 (by decide) e269 (rm2 l Z aZ hw [] b260 (0 : Int32) i257 k260 i259 [] h269 n0 Z269 V_b260 (by decide) (fun q => absurd q hc171)) (by decide) (W := 0) (Nat.le_of_eq rfl) (by decide) (by rw [hml]; rfl) (lenOf pd_2 rfl) rfl (hb hby at_214) (pc' := 217) rfl (by decide) (by decide) ?_; intro v270 T270 L270 X270 hQ270
    obtain ⟨rfl, N270q, e270⟩ := hQ270
    have N270 := Fr.app N269 N270q
    refine R.ifNo X270 hx (hb hby at_217) (feq (by decide : ¬ ((1 : Int32) = (0 : Int32)))).1 (pc' := 220) rfl ?_
    refine R.aload X270 hx (hb hby at_220) rfl rfl (pc' := 222) rfl ?_
    refine R.iconst X270 hx (hb hby at_222) (v := (1 : Int32)) (by decide) (pc' := 223) rfl ?_
    refine R.iload X270 hx (hb hby at_223) rfl (pc' := 225) rfl ?_
    refine R.callS X270 hx hZ (y := mY2) hown w_6 w_7 w_8 w_9 (by decide) e270 (rm2 l Z aZ hw [] b260 (1 : Int32) i258 k260 i259 [] h269 n0 Z269 V_b260 (by decide) (fun q => absurd (Int32.lt_iff_toInt_lt.mp q) (by have e := hc171; rw [Int32.lt_iff_toInt_lt] at e; have z0 : (0 : Int32).toInt = 0 := (by decide); have z1 : (1 : Int32).toInt = 1 := (by decide); omega))) (by decide) (W := 0) (Nat.le_of_eq rfl) (by decide) (by rw [hml]; rfl) (lenOf pd_2 rfl) rfl (hb hby at_225) (pc' := 228) rfl (by decide) (by decide) ?_; intro v271 T271 L271 X271 hQ271
    obtain ⟨rfl, N271q, e271⟩ := hQ271
    have N271 := Fr.app N270 N271q
    refine R.ifNo X271 hx (hb hby at_228) (feq (by decide : ¬ ((1 : Int32) = (0 : Int32)))).1 (pc' := 231) rfl ?_
    refine R.iconst X271 hx (hb hby at_231) (v := (1 : Int32)) (by decide) (pc' := 232) rfl ?_
    refine R.goto X271 hx (hb hby at_232) (by decide) (pc' := 236) (by decide) ?_
    rw [← hG]
    exact Rn.ret X271 (BodyLoose.notSynchronized Bd) (v := some (.int (1 : Int32))) (fun h => by rw [Bd.returns] at h; cases h) (Q := Q0 Z p0 p1 p2 p3 h0 n0) e271 (fun fs hr => retN X271 hx (t := .boolean) Bd.returns (by simp) (hb hby at_236) hr) ⟨rfl, N271⟩ (by decide) (by decide)
set_option maxRecDepth 65536 in
set_option maxHeartbeats 40000000 in
theorem rm0_31 (l : Launch) (Z : State) (aZ : Array Value) (hw : ∀ d ∈ tables_1, d.before aZ Z = true) (ws : List Jvm.Cond) (p0 : Int32) (p1 : Int32) (p2 : Int32) (p3 : Int32) (h0 : Heap) (n0 : Nat) {p : Program} {e : Env} {s : State} {m : MethodId} {below : List Frame} {meth : Method} {c : Code} {s₁ : State} (Bd : BodyLoose p l x (head1 (Jvm.Cond.code x code maxLocals ret :: ws) room_1) code maxLocals ret e s m #[(.int p0), (.int p1), (.int p2), (.int p3)] below meth c s₁) (hml : c.maxLocals = 24) (hZ : Z.Warmed39 s.vm) {TL : State} {hL : Heap} {lL : List Loc} (XL : Stand p l e room_1 s m #[(.int p0), (.int p1), (.int p2), (.int p3)] below meth c TL lL 2 6) (eL : TL.heap = hL) (NL : Fr n0 lL) (KL : Keep h0 hL []) (ZL : n0 ≤ hL.size) (ld : Int32) (b246 : Addr) (b253 : Addr) (i247 : Int32) (i249 : Int32) (i257 : Int32) (i258 : Int32) (k246 : ClassId) (k253 : ClassId) {G : Outcome → State → Prop} (hG : (Fn0 Z p0 p1 p2 p3 h0 n0 s) = G) (V_b246 : Arh Z hL b246 k246 .int (3 : Int32) [((2 : Int32), (.int ld)), ((2 : Int32), (.int (0 : Int32))), ((1 : Int32), (.int i249)), ((0 : Int32), (.int i247))] [] (.int (0 : Int32))) (V_b253 : Arh Z hL b253 k253 .double (3 : Int32) [((2 : Int32), (.double (FP.i2d ld))), ((1 : Int32), (.double (FP.i2d i249))), ((0 : Int32), (.double (FP.i2d i247)))] [] (.double (0 : UInt64))) (ne_b246_b253 : b246 ≠ b253) (g_b246 : n0 ≤ b246) (g_b253 : n0 ≤ b253) (sz_b246 : h0.size ≤ b246) (sz_b253 : h0.size ≤ b253) (nl : ld.toInt ≠ 0) (bl : ld.toInt.natAbs ≤ 128) (b_i257 : i257.toInt.natAbs ≤ 128) (b_i258 : i258.toInt.natAbs ≤ 128) (b_i249 : i249.toInt.natAbs ≤ 128) (b_i247 : i247.toInt.natAbs ≤ 128) : Rn p e below (TL.setTop (mkF m 147 #[.val (.int p0), .val (.int p1), .val (.int p2), .val (.int p3), .val (.int (3 : Int32)), .val (.int (2 : Int32)), .val (.int (1 : Int32)), .val (.int ld), .val (.ref b246), .val (.ref b253), .val (.int i257), .val (.int i258), .unset, .unset, .unset, .unset, .unset, .unset, .unset, .unset, .unset, .unset, .unset, .unset] [])) G := by
  have hx := Bd.exec
  have hby := Bd.bytes
  have hown : s.vm.findClass "com/example/deseason/deseason/arima/PolynomialsQuotientPinLaw" = some m.cls := findClass_of_methodNamed Bd.named
  have hnm := (name_of_methodNamed Bd.named Bd.method).1
  have w_0 := hw _ (List.mem_of_getElem? (i := 0) rfl)
  have w_1 := hw _ (List.mem_of_getElem? (i := 1) rfl)
  have w_2 := hw _ (List.mem_of_getElem? (i := 2) rfl)
  have w_3 := hw _ (List.mem_of_getElem? (i := 3) rfl)
  have w_4 := hw _ (List.mem_of_getElem? (i := 4) rfl)
  have w_5 := hw _ (List.mem_of_getElem? (i := 5) rfl)
  have w_6 := hw _ (List.mem_of_getElem? (i := 6) rfl)
  have w_7 := hw _ (List.mem_of_getElem? (i := 7) rfl)
  have w_8 := hw _ (List.mem_of_getElem? (i := 8) rfl)
  have w_9 := hw _ (List.mem_of_getElem? (i := 9) rfl)
  have w_10 := hw _ (List.mem_of_getElem? (i := 10) rfl)
  have w_11 := hw _ (List.mem_of_getElem? (i := 11) rfl)
  have w_12 := hw _ (List.mem_of_getElem? (i := 12) rfl)
  have w_25 := hw _ (List.mem_of_getElem? (i := 25) rfl)
  have w_26 := hw _ (List.mem_of_getElem? (i := 26) rfl)
  have w_27 := hw _ (List.mem_of_getElem? (i := 27) rfl)
  show Rn p e below (TL.setTop (mkF m 147 #[.val (.int p0), .val (.int p1), .val (.int p2), .val (.int p3), .val (.int (3 : Int32)), .val (.int (2 : Int32)), .val (.int (1 : Int32)), .val (.int ld), .val (.ref b246), .val (.ref b253), .val (.int i257), .val (.int i258), .unset, .unset, .unset, .unset, .unset, .unset, .unset, .unset, .unset, .unset, .unset, .unset] [])) G
  refine R.iload XL hx (hb hby at_147) rfl (pc' := 149) rfl ?_
  refine R.ifYes XL hx (hb hby at_149) (feq (by decide : ¬ ((1 : Int32) = (0 : Int32)))).2 (by decide) (pc' := 237) (by decide) ?_
  refine R.iconst XL hx (hb hby at_237) (v := (3 : Int32)) (by decide) (pc' := 238) rfl ?_
  refine R.newP XL hx hZ (ty := .int) rfl w_0 eL (by decide) (cap := 3) (by decide) (by decide) (ad := "[I") (by decide) (hb hby at_238) (pc' := 240) rfl (by decide) (by decide) ?_; intro T272 h272 b272 k272 g272 X272 e272 E272 EE272 AA272
  have g_b272 : n0 ≤ b272 := Nat.le_trans ZL (Nat.le_of_eq g272.symm)
  have sz_b272 : h0.size ≤ b272 := Nat.le_trans KL.1 (Nat.le_of_eq g272.symm)
  have ne_b246_b272 : b246 ≠ b272 := Nat.ne_of_lt (Nat.lt_of_lt_of_le V_b246.lt (Nat.le_of_eq g272.symm))
  have ne_b253_b272 : b253 ≠ b272 := Nat.ne_of_lt (Nat.lt_of_lt_of_le V_b253.lt (Nat.le_of_eq g272.symm))
  have K272 : Keep h0 h272 [] := KL.ext E272
  have Z272 : n0 ≤ h272.size := Nat.le_trans ZL E272.1
  have V_b246 := V_b246.ext E272
  have V_b253 := V_b253.ext E272
  have V_b272 : Arh Z h272 b272 k272 .int (3 : Int32) [] [] (.int (0 : Int32)) := AA272
  refine R.astore X272 hx (hb hby at_240) rfl (L' := #[.val (.int p0), .val (.int p1), .val (.int p2), .val (.int p3), .val (.int (3 : Int32)), .val (.int (2 : Int32)), .val (.int (1 : Int32)), .val (.int ld), .val (.ref b246), .val (.ref b253), .val (.int i257), .val (.int i258), .val (.ref b272), .unset, .unset, .unset, .unset, .unset, .unset, .unset, .unset, .unset, .unset, .unset]) rfl (pc' := 242) rfl ?_
  refine R.aload X272 hx (hb hby at_242) rfl rfl (pc' := 244) rfl ?_
  refine R.iconst X272 hx (hb hby at_244) (v := (0 : Int32)) (by decide) (pc' := 245) rfl ?_
  refine R.iloadN X272 hx (hb hby at_245) rfl (pc' := 246) rfl ?_
  refine R.i2b X272 hx (hb hby at_246) (pc' := 247) rfl ?_
  show Rn p e below (T272.setTop (mkF m 247 #[.val (.int p0), .val (.int p1), .val (.int p2), .val (.int p3), .val (.int (3 : Int32)), .val (.int (2 : Int32)), .val (.int (1 : Int32)), .val (.int ld), .val (.ref b246), .val (.ref b253), .val (.int i257), .val (.int i258), .val (.ref b272), .unset, .unset, .unset, .unset, .unset, .unset, .unset, .unset, .unset, .unset, .unset] [(.int (p2.toInt8.toInt32)), (.int (0 : Int32)), (.ref b272)])) G
  generalize hi273 : (p2.toInt8.toInt32) = i273
  have b_i273 := own_byte hi273
  refine R.iastore X272 hx hZ e272 V_b272 (⟨by decide, by decide⟩ : ¬ (0 : Int32) < 0 ∧ (0 : Int32) < (3 : Int32)) (hb hby at_247) (pc' := 248) rfl ?_; intro T274 h274 X274 e274 W274 V274
  have V_b246 := V_b246.other W274 ne_b246_b272
  have V_b253 := V_b253.other W274 ne_b253_b272
  have V_b272 : Arh Z h274 b272 k272 .int (3 : Int32) [((0 : Int32), (.int i273))] [] (.int (0 : Int32)) := V274
  have N274 := Fr.snoc X274 NL g_b272
  have K274 : Keep h0 h274 [] := K272.wr W274 (Or.inr sz_b272)
  have Z274 : n0 ≤ h274.size := Nat.le_trans Z272 (Keep.of_wr W274).1
  refine R.aload X274 hx (hb hby at_248) rfl rfl (pc' := 250) rfl ?_
  refine R.iconst X274 hx (hb hby at_250) (v := (1 : Int32)) (by decide) (pc' := 251) rfl ?_
  refine R.iload X274 hx (hb hby at_251) rfl (pc' := 253) rfl ?_
  refine R.iconst X274 hx (hb hby at_253) (v := (2 : Int32)) (by decide) (pc' := 254) rfl ?_
  refine R.icmpYes X274 hx (hb hby at_254) (tlt (by decide : (1 : Int32) < (2 : Int32))).1 (by decide) (pc' := 265) (by decide) ?_
  refine R.iconst X274 hx (hb hby at_265) (v := (0 : Int32)) (by decide) (pc' := 266) rfl ?_
  refine R.iastore X274 hx hZ e274 V_b272 (⟨by decide, by decide⟩ : ¬ (1 : Int32) < 0 ∧ (1 : Int32) < (3 : Int32)) (hb hby at_266) (pc' := 267) rfl ?_; intro T275 h275 X275 e275 W275 V275
  have V_b246 := V_b246.other W275 ne_b246_b272
  have V_b253 := V_b253.other W275 ne_b253_b272
  have V_b272 : Arh Z h275 b272 k272 .int (3 : Int32) [((1 : Int32), (.int (0 : Int32))), ((0 : Int32), (.int i273))] [] (.int (0 : Int32)) := V275
  have N275 := Fr.snoc X275 N274 g_b272
  have K275 : Keep h0 h275 [] := K274.wr W275 (Or.inr sz_b272)
  have Z275 : n0 ≤ h275.size := Nat.le_trans Z274 (Keep.of_wr W275).1
  refine R.aload X275 hx (hb hby at_267) rfl rfl (pc' := 269) rfl ?_
  refine R.iconst X275 hx (hb hby at_269) (v := (2 : Int32)) (by decide) (pc' := 270) rfl ?_
  refine R.iload X275 hx (hb hby at_270) rfl (pc' := 272) rfl ?_
  refine R.iconst X275 hx (hb hby at_272) (v := (3 : Int32)) (by decide) (pc' := 273) rfl ?_
  refine R.icmpYes X275 hx (hb hby at_273) (tlt (by decide : (1 : Int32) < (3 : Int32))).1 (by decide) (pc' := 284) (by decide) ?_
  refine R.iconst X275 hx (hb hby at_284) (v := (0 : Int32)) (by decide) (pc' := 285) rfl ?_
  refine R.iastore X275 hx hZ e275 V_b272 (⟨by decide, by decide⟩ : ¬ (2 : Int32) < 0 ∧ (2 : Int32) < (3 : Int32)) (hb hby at_285) (pc' := 286) rfl ?_; intro T276 h276 X276 e276 W276 V276
  have V_b246 := V_b246.other W276 ne_b246_b272
  have V_b253 := V_b253.other W276 ne_b253_b272
  have V_b272 : Arh Z h276 b272 k272 .int (3 : Int32) [((2 : Int32), (.int (0 : Int32))), ((1 : Int32), (.int (0 : Int32))), ((0 : Int32), (.int i273))] [] (.int (0 : Int32)) := V276
  have N276 := Fr.snoc X276 N275 g_b272
  have K276 : Keep h0 h276 [] := K275.wr W276 (Or.inr sz_b272)
  have Z276 : n0 ≤ h276.size := Nat.le_trans Z275 (Keep.of_wr W276).1
  refine R.iconst X276 hx (hb hby at_286) (v := (2 : Int32)) (by decide) (pc' := 287) rfl ?_
  refine R.newP X276 hx hZ (ty := .int) rfl w_0 e276 (by decide) (cap := 2) (by decide) (by decide) (ad := "[I") (by decide) (hb hby at_287) (pc' := 289) rfl (by decide) (by decide) ?_; intro T277 h277 b277 k277 g277 X277 e277 E277 EE277 AA277
  have g_b277 : n0 ≤ b277 := Nat.le_trans Z276 (Nat.le_of_eq g277.symm)
  have sz_b277 : h0.size ≤ b277 := Nat.le_trans K276.1 (Nat.le_of_eq g277.symm)
  have ne_b246_b277 : b246 ≠ b277 := Nat.ne_of_lt (Nat.lt_of_lt_of_le V_b246.lt (Nat.le_of_eq g277.symm))
  have ne_b253_b277 : b253 ≠ b277 := Nat.ne_of_lt (Nat.lt_of_lt_of_le V_b253.lt (Nat.le_of_eq g277.symm))
  have ne_b272_b277 : b272 ≠ b277 := Nat.ne_of_lt (Nat.lt_of_lt_of_le V_b272.lt (Nat.le_of_eq g277.symm))
  have K277 : Keep h0 h277 [] := K276.ext E277
  have Z277 : n0 ≤ h277.size := Nat.le_trans Z276 E277.1
  have V_b246 := V_b246.ext E277
  have V_b253 := V_b253.ext E277
  have V_b272 := V_b272.ext E277
  have V_b277 : Arh Z h277 b277 k277 .int (2 : Int32) [] [] (.int (0 : Int32)) := AA277
  refine R.astore X277 hx (hb hby at_289) rfl (L' := #[.val (.int p0), .val (.int p1), .val (.int p2), .val (.int p3), .val (.int (3 : Int32)), .val (.int (2 : Int32)), .val (.int (1 : Int32)), .val (.int ld), .val (.ref b246), .val (.ref b253), .val (.int i257), .val (.int i258), .val (.ref b272), .val (.ref b277), .unset, .unset, .unset, .unset, .unset, .unset, .unset, .unset, .unset, .unset]) rfl (pc' := 291) rfl ?_
  refine R.aload X277 hx (hb hby at_291) rfl rfl (pc' := 293) rfl ?_
  refine R.iconst X277 hx (hb hby at_293) (v := (0 : Int32)) (by decide) (pc' := 294) rfl ?_
  refine R.iload X277 hx (hb hby at_294) rfl (pc' := 296) rfl ?_
  refine R.ifNo X277 hx (hb hby at_296) (tlt (by decide : (0 : Int32) < (2 : Int32))).2.2.2 (pc' := 299) rfl ?_
  refine R.iload X277 hx (hb hby at_299) rfl (pc' := 301) rfl ?_
  refine R.goto X277 hx (hb hby at_301) (by decide) (pc' := 305) (by decide) ?_
  refine R.iastore X277 hx hZ e277 V_b277 (⟨by decide, by decide⟩ : ¬ (0 : Int32) < 0 ∧ (0 : Int32) < (2 : Int32)) (hb hby at_305) (pc' := 306) rfl ?_; intro T278 h278 X278 e278 W278 V278
  have V_b246 := V_b246.other W278 ne_b246_b277
  have V_b253 := V_b253.other W278 ne_b253_b277
  have V_b272 := V_b272.other W278 ne_b272_b277
  have V_b277 : Arh Z h278 b277 k277 .int (2 : Int32) [((0 : Int32), (.int i257))] [] (.int (0 : Int32)) := V278
  have N278 := Fr.snoc X278 N276 g_b277
  have K278 : Keep h0 h278 [] := K277.wr W278 (Or.inr sz_b277)
  have Z278 : n0 ≤ h278.size := Nat.le_trans Z277 (Keep.of_wr W278).1
  refine R.aload X278 hx (hb hby at_306) rfl rfl (pc' := 308) rfl ?_
  refine R.iconst X278 hx (hb hby at_308) (v := (1 : Int32)) (by decide) (pc' := 309) rfl ?_
  refine R.iload X278 hx (hb hby at_309) rfl (pc' := 311) rfl ?_
  refine R.iconst X278 hx (hb hby at_311) (v := (1 : Int32)) (by decide) (pc' := 312) rfl ?_
  refine R.icmpNo X278 hx (hb hby at_312) (tlt (by decide : (1 : Int32) < (2 : Int32))).2.2.2 (pc' := 315) rfl ?_
  refine R.iload X278 hx (hb hby at_315) rfl (pc' := 317) rfl ?_
  refine R.goto X278 hx (hb hby at_317) (by decide) (pc' := 321) (by decide) ?_
  refine R.iastore X278 hx hZ e278 V_b277 (⟨by decide, by decide⟩ : ¬ (1 : Int32) < 0 ∧ (1 : Int32) < (2 : Int32)) (hb hby at_321) (pc' := 322) rfl ?_; intro T279 h279 X279 e279 W279 V279
  have V_b246 := V_b246.other W279 ne_b246_b277
  have V_b253 := V_b253.other W279 ne_b253_b277
  have V_b272 := V_b272.other W279 ne_b272_b277
  have V_b277 : Arh Z h279 b277 k277 .int (2 : Int32) [((1 : Int32), (.int i258)), ((0 : Int32), (.int i257))] [] (.int (0 : Int32)) := V279
  have N279 := Fr.snoc X279 N278 g_b277
  have K279 : Keep h0 h279 [] := K278.wr W279 (Or.inr sz_b277)
  have Z279 : n0 ≤ h279.size := Nat.le_trans Z278 (Keep.of_wr W279).1
  refine R.iload X279 hx (hb hby at_322) rfl (pc' := 324) rfl ?_
  refine R.iload X279 hx (hb hby at_324) rfl (pc' := 326) rfl ?_
  refine R.iadd X279 hx (hb hby at_326) (v := (3 : Int32)) (by decide) (pc' := 327) rfl ?_
  refine R.istore X279 hx (hb hby at_327) (L' := #[.val (.int p0), .val (.int p1), .val (.int p2), .val (.int p3), .val (.int (3 : Int32)), .val (.int (2 : Int32)), .val (.int (1 : Int32)), .val (.int ld), .val (.ref b246), .val (.ref b253), .val (.int i257), .val (.int i258), .val (.ref b272), .val (.ref b277), .val (.int (3 : Int32)), .unset, .unset, .unset, .unset, .unset, .unset, .unset, .unset, .unset]) rfl (pc' := 329) rfl ?_
  refine R.aload X279 hx (hb hby at_329) rfl rfl (pc' := 331) rfl ?_
  refine R.aload X279 hx (hb hby at_331) rfl rfl (pc' := 333) rfl ?_
  refine R.aload X279 hx (hb hby at_333) rfl rfl (pc' := 335) rfl ?_
  refine R.iconst X279 hx (hb hby at_335) (v := (0 : Int32)) (by decide) (pc' := 336) rfl ?_
  refine R.callS X279 hx hZ (y := mY3) hown w_10 w_11 w_8 w_12 (by decide) e279 (rmcf0 l Z aZ hw [] b272 b246 b277 k272 k246 k277 [((2 : Int32), (.int (0 : Int32))), ((1 : Int32), (.int (0 : Int32))), ((0 : Int32), (.int i273))] [((2 : Int32), (.int ld)), ((2 : Int32), (.int (0 : Int32))), ((1 : Int32), (.int i249)), ((0 : Int32), (.int i247))] [((1 : Int32), (.int i258)), ((0 : Int32), (.int i257))] i273 (0 : Int32) (0 : Int32) i247 i249 ld i257 i258 h279 n0 Z279 V_b272 V_b246 V_b277 (getH_miss (by decide) (by decide) (getH_miss (by decide) (by decide) (getH_hit (by decide) (rfl)))) (getH_miss (by decide) (by decide) (getH_hit (by decide) (rfl))) (getH_hit (by decide) (rfl)) (getH_miss (by decide) (by decide) (getH_miss (by decide) (by decide) (getH_miss (by decide) (by decide) (getH_hit (by decide) (rfl))))) (getH_miss (by decide) (by decide) (getH_miss (by decide) (by decide) (getH_hit (by decide) (rfl)))) (getH_hit (by decide) (rfl)) (getH_miss (by decide) (by decide) (getH_hit (by decide) (rfl))) (getH_hit (by decide) (rfl))) (by decide) (W := 0) (Nat.le_of_eq rfl) (by decide) (by rw [hml]; rfl) (lenOf pd_3 rfl) rfl (hb hby at_336) (pc' := 339) rfl (by decide) (by decide) ?_; intro v280 T280 L280 X280 hQ280
  obtain ⟨rfl, N280q, e280⟩ := hQ280
  have N280 := Fr.app N279 N280q
  show Rn p e below (T280.setTop (mkF m 339 #[.val (.int p0), .val (.int p1), .val (.int p2), .val (.int p3), .val (.int (3 : Int32)), .val (.int (2 : Int32)), .val (.int (1 : Int32)), .val (.int ld), .val (.ref b246), .val (.ref b253), .val (.int i257), .val (.int i258), .val (.ref b272), .val (.ref b277), .val (.int (3 : Int32)), .unset, .unset, .unset, .unset, .unset, .unset, .unset, .unset, .unset] [(.int ((((i273 * i247) + ((0 : Int32) * (0 : Int32))) + ((0 : Int32) * (0 : Int32))) + i257))])) G
  generalize hi281 : ((((i273 * i247) + ((0 : Int32) * (0 : Int32))) + ((0 : Int32) * (0 : Int32))) + i257) = i281
  refine R.istore X280 hx (hb hby at_339) (L' := #[.val (.int p0), .val (.int p1), .val (.int p2), .val (.int p3), .val (.int (3 : Int32)), .val (.int (2 : Int32)), .val (.int (1 : Int32)), .val (.int ld), .val (.ref b246), .val (.ref b253), .val (.int i257), .val (.int i258), .val (.ref b272), .val (.ref b277), .val (.int (3 : Int32)), .val (.int i281), .unset, .unset, .unset, .unset, .unset, .unset, .unset, .unset]) rfl (pc' := 341) rfl ?_
  refine R.aload X280 hx (hb hby at_341) rfl rfl (pc' := 343) rfl ?_
  refine R.aload X280 hx (hb hby at_343) rfl rfl (pc' := 345) rfl ?_
  refine R.aload X280 hx (hb hby at_345) rfl rfl (pc' := 347) rfl ?_
  refine R.iconst X280 hx (hb hby at_347) (v := (1 : Int32)) (by decide) (pc' := 348) rfl ?_
  refine R.callS X280 hx hZ (y := mY3) hown w_10 w_11 w_8 w_12 (by decide) e280 (rmcf1 l Z aZ hw [] b272 b246 b277 k272 k246 k277 [((2 : Int32), (.int (0 : Int32))), ((1 : Int32), (.int (0 : Int32))), ((0 : Int32), (.int i273))] [((2 : Int32), (.int ld)), ((2 : Int32), (.int (0 : Int32))), ((1 : Int32), (.int i249)), ((0 : Int32), (.int i247))] [((1 : Int32), (.int i258)), ((0 : Int32), (.int i257))] i273 (0 : Int32) (0 : Int32) i247 i249 ld i257 i258 h279 n0 Z279 V_b272 V_b246 V_b277 (getH_miss (by decide) (by decide) (getH_miss (by decide) (by decide) (getH_hit (by decide) (rfl)))) (getH_miss (by decide) (by decide) (getH_hit (by decide) (rfl))) (getH_hit (by decide) (rfl)) (getH_miss (by decide) (by decide) (getH_miss (by decide) (by decide) (getH_miss (by decide) (by decide) (getH_hit (by decide) (rfl))))) (getH_miss (by decide) (by decide) (getH_miss (by decide) (by decide) (getH_hit (by decide) (rfl)))) (getH_hit (by decide) (rfl)) (getH_miss (by decide) (by decide) (getH_hit (by decide) (rfl))) (getH_hit (by decide) (rfl))) (by decide) (W := 0) (Nat.le_of_eq rfl) (by decide) (by rw [hml]; rfl) (lenOf pd_3 rfl) rfl (hb hby at_348) (pc' := 351) rfl (by decide) (by decide) ?_; intro v282 T282 L282 X282 hQ282
  obtain ⟨rfl, N282q, e282⟩ := hQ282
  have N282 := Fr.app N280 N282q
  show Rn p e below (T282.setTop (mkF m 351 #[.val (.int p0), .val (.int p1), .val (.int p2), .val (.int p3), .val (.int (3 : Int32)), .val (.int (2 : Int32)), .val (.int (1 : Int32)), .val (.int ld), .val (.ref b246), .val (.ref b253), .val (.int i257), .val (.int i258), .val (.ref b272), .val (.ref b277), .val (.int (3 : Int32)), .val (.int i281), .unset, .unset, .unset, .unset, .unset, .unset, .unset, .unset] [(.int ((((i273 * i249) + ((0 : Int32) * i247)) + ((0 : Int32) * (0 : Int32))) + i258))])) G
  generalize hi283 : ((((i273 * i249) + ((0 : Int32) * i247)) + ((0 : Int32) * (0 : Int32))) + i258) = i283
  refine R.istore X282 hx (hb hby at_351) (L' := #[.val (.int p0), .val (.int p1), .val (.int p2), .val (.int p3), .val (.int (3 : Int32)), .val (.int (2 : Int32)), .val (.int (1 : Int32)), .val (.int ld), .val (.ref b246), .val (.ref b253), .val (.int i257), .val (.int i258), .val (.ref b272), .val (.ref b277), .val (.int (3 : Int32)), .val (.int i281), .val (.int i283), .unset, .unset, .unset, .unset, .unset, .unset, .unset]) rfl (pc' := 353) rfl ?_
  refine R.aload X282 hx (hb hby at_353) rfl rfl (pc' := 355) rfl ?_
  refine R.aload X282 hx (hb hby at_355) rfl rfl (pc' := 357) rfl ?_
  refine R.aload X282 hx (hb hby at_357) rfl rfl (pc' := 359) rfl ?_
  refine R.iconst X282 hx (hb hby at_359) (v := (2 : Int32)) (by decide) (pc' := 360) rfl ?_
  refine R.callS X282 hx hZ (y := mY3) hown w_10 w_11 w_8 w_12 (by decide) e282 (rmcf2 l Z aZ hw [] b272 b246 b277 k272 k246 k277 [((2 : Int32), (.int (0 : Int32))), ((1 : Int32), (.int (0 : Int32))), ((0 : Int32), (.int i273))] [((2 : Int32), (.int ld)), ((2 : Int32), (.int (0 : Int32))), ((1 : Int32), (.int i249)), ((0 : Int32), (.int i247))] [((1 : Int32), (.int i258)), ((0 : Int32), (.int i257))] i273 (0 : Int32) (0 : Int32) i247 i249 ld i257 i258 h279 n0 Z279 V_b272 V_b246 V_b277 (getH_miss (by decide) (by decide) (getH_miss (by decide) (by decide) (getH_hit (by decide) (rfl)))) (getH_miss (by decide) (by decide) (getH_hit (by decide) (rfl))) (getH_hit (by decide) (rfl)) (getH_miss (by decide) (by decide) (getH_miss (by decide) (by decide) (getH_miss (by decide) (by decide) (getH_hit (by decide) (rfl))))) (getH_miss (by decide) (by decide) (getH_miss (by decide) (by decide) (getH_hit (by decide) (rfl)))) (getH_hit (by decide) (rfl)) (getH_miss (by decide) (by decide) (getH_hit (by decide) (rfl))) (getH_hit (by decide) (rfl))) (by decide) (W := 0) (Nat.le_of_eq rfl) (by decide) (by rw [hml]; rfl) (lenOf pd_3 rfl) rfl (hb hby at_360) (pc' := 363) rfl (by decide) (by decide) ?_; intro v284 T284 L284 X284 hQ284
  obtain ⟨rfl, N284q, e284⟩ := hQ284
  have N284 := Fr.app N282 N284q
  show Rn p e below (T284.setTop (mkF m 363 #[.val (.int p0), .val (.int p1), .val (.int p2), .val (.int p3), .val (.int (3 : Int32)), .val (.int (2 : Int32)), .val (.int (1 : Int32)), .val (.int ld), .val (.ref b246), .val (.ref b253), .val (.int i257), .val (.int i258), .val (.ref b272), .val (.ref b277), .val (.int (3 : Int32)), .val (.int i281), .val (.int i283), .unset, .unset, .unset, .unset, .unset, .unset, .unset] [(.int ((((i273 * ld) + ((0 : Int32) * i249)) + ((0 : Int32) * i247)) + (0 : Int32)))])) G
  generalize hi285 : ((((i273 * ld) + ((0 : Int32) * i249)) + ((0 : Int32) * i247)) + (0 : Int32)) = i285
  refine R.istore X284 hx (hb hby at_363) (L' := #[.val (.int p0), .val (.int p1), .val (.int p2), .val (.int p3), .val (.int (3 : Int32)), .val (.int (2 : Int32)), .val (.int (1 : Int32)), .val (.int ld), .val (.ref b246), .val (.ref b253), .val (.int i257), .val (.int i258), .val (.ref b272), .val (.ref b277), .val (.int (3 : Int32)), .val (.int i281), .val (.int i283), .val (.int i285), .unset, .unset, .unset, .unset, .unset, .unset]) rfl (pc' := 365) rfl ?_
  refine R.aload X284 hx (hb hby at_365) rfl rfl (pc' := 367) rfl ?_
  refine R.aload X284 hx (hb hby at_367) rfl rfl (pc' := 369) rfl ?_
  refine R.aload X284 hx (hb hby at_369) rfl rfl (pc' := 371) rfl ?_
  refine R.iconst X284 hx (hb hby at_371) (v := (3 : Int32)) (by decide) (pc' := 372) rfl ?_
  refine R.callS X284 hx hZ (y := mY3) hown w_10 w_11 w_8 w_12 (by decide) e284 (rmcf3 l Z aZ hw [] b272 b246 b277 k272 k246 k277 [((2 : Int32), (.int (0 : Int32))), ((1 : Int32), (.int (0 : Int32))), ((0 : Int32), (.int i273))] [((2 : Int32), (.int ld)), ((2 : Int32), (.int (0 : Int32))), ((1 : Int32), (.int i249)), ((0 : Int32), (.int i247))] [((1 : Int32), (.int i258)), ((0 : Int32), (.int i257))] i273 (0 : Int32) (0 : Int32) i247 i249 ld i257 i258 h279 n0 Z279 V_b272 V_b246 V_b277 (getH_miss (by decide) (by decide) (getH_miss (by decide) (by decide) (getH_hit (by decide) (rfl)))) (getH_miss (by decide) (by decide) (getH_hit (by decide) (rfl))) (getH_hit (by decide) (rfl)) (getH_miss (by decide) (by decide) (getH_miss (by decide) (by decide) (getH_miss (by decide) (by decide) (getH_hit (by decide) (rfl))))) (getH_miss (by decide) (by decide) (getH_miss (by decide) (by decide) (getH_hit (by decide) (rfl)))) (getH_hit (by decide) (rfl)) (getH_miss (by decide) (by decide) (getH_hit (by decide) (rfl))) (getH_hit (by decide) (rfl))) (by decide) (W := 0) (Nat.le_of_eq rfl) (by decide) (by rw [hml]; rfl) (lenOf pd_3 rfl) rfl (hb hby at_372) (pc' := 375) rfl (by decide) (by decide) ?_; intro v286 T286 L286 X286 hQ286
  obtain ⟨rfl, N286q, e286⟩ := hQ286
  have N286 := Fr.app N284 N286q
  show Rn p e below (T286.setTop (mkF m 375 #[.val (.int p0), .val (.int p1), .val (.int p2), .val (.int p3), .val (.int (3 : Int32)), .val (.int (2 : Int32)), .val (.int (1 : Int32)), .val (.int ld), .val (.ref b246), .val (.ref b253), .val (.int i257), .val (.int i258), .val (.ref b272), .val (.ref b277), .val (.int (3 : Int32)), .val (.int i281), .val (.int i283), .val (.int i285), .unset, .unset, .unset, .unset, .unset, .unset] [(.int ((((i273 * (0 : Int32)) + ((0 : Int32) * ld)) + ((0 : Int32) * i249)) + (0 : Int32)))])) G
  generalize hi287 : ((((i273 * (0 : Int32)) + ((0 : Int32) * ld)) + ((0 : Int32) * i249)) + (0 : Int32)) = i287
  refine R.istore X286 hx (hb hby at_375) (L' := #[.val (.int p0), .val (.int p1), .val (.int p2), .val (.int p3), .val (.int (3 : Int32)), .val (.int (2 : Int32)), .val (.int (1 : Int32)), .val (.int ld), .val (.ref b246), .val (.ref b253), .val (.int i257), .val (.int i258), .val (.ref b272), .val (.ref b277), .val (.int (3 : Int32)), .val (.int i281), .val (.int i283), .val (.int i285), .val (.int i287), .unset, .unset, .unset, .unset, .unset]) rfl (pc' := 377) rfl ?_
  refine R.aload X286 hx (hb hby at_377) rfl rfl (pc' := 379) rfl ?_
  refine R.aload X286 hx (hb hby at_379) rfl rfl (pc' := 381) rfl ?_
  refine R.aload X286 hx (hb hby at_381) rfl rfl (pc' := 383) rfl ?_
  refine R.iconst X286 hx (hb hby at_383) (v := (4 : Int32)) (by decide) (pc' := 384) rfl ?_
  refine R.callS X286 hx hZ (y := mY3) hown w_10 w_11 w_8 w_12 (by decide) e286 (rmcf4 l Z aZ hw [] b272 b246 b277 k272 k246 k277 [((2 : Int32), (.int (0 : Int32))), ((1 : Int32), (.int (0 : Int32))), ((0 : Int32), (.int i273))] [((2 : Int32), (.int ld)), ((2 : Int32), (.int (0 : Int32))), ((1 : Int32), (.int i249)), ((0 : Int32), (.int i247))] [((1 : Int32), (.int i258)), ((0 : Int32), (.int i257))] i273 (0 : Int32) (0 : Int32) i247 i249 ld i257 i258 h279 n0 Z279 V_b272 V_b246 V_b277 (getH_miss (by decide) (by decide) (getH_miss (by decide) (by decide) (getH_hit (by decide) (rfl)))) (getH_miss (by decide) (by decide) (getH_hit (by decide) (rfl))) (getH_hit (by decide) (rfl)) (getH_miss (by decide) (by decide) (getH_miss (by decide) (by decide) (getH_miss (by decide) (by decide) (getH_hit (by decide) (rfl))))) (getH_miss (by decide) (by decide) (getH_miss (by decide) (by decide) (getH_hit (by decide) (rfl)))) (getH_hit (by decide) (rfl)) (getH_miss (by decide) (by decide) (getH_hit (by decide) (rfl))) (getH_hit (by decide) (rfl))) (by decide) (W := 0) (Nat.le_of_eq rfl) (by decide) (by rw [hml]; rfl) (lenOf pd_3 rfl) rfl (hb hby at_384) (pc' := 387) rfl (by decide) (by decide) ?_; intro v288 T288 L288 X288 hQ288
  obtain ⟨rfl, N288q, e288⟩ := hQ288
  have N288 := Fr.app N286 N288q
  show Rn p e below (T288.setTop (mkF m 387 #[.val (.int p0), .val (.int p1), .val (.int p2), .val (.int p3), .val (.int (3 : Int32)), .val (.int (2 : Int32)), .val (.int (1 : Int32)), .val (.int ld), .val (.ref b246), .val (.ref b253), .val (.int i257), .val (.int i258), .val (.ref b272), .val (.ref b277), .val (.int (3 : Int32)), .val (.int i281), .val (.int i283), .val (.int i285), .val (.int i287), .unset, .unset, .unset, .unset, .unset] [(.int ((((i273 * (0 : Int32)) + ((0 : Int32) * (0 : Int32))) + ((0 : Int32) * ld)) + (0 : Int32)))])) G
  generalize hi289 : ((((i273 * (0 : Int32)) + ((0 : Int32) * (0 : Int32))) + ((0 : Int32) * ld)) + (0 : Int32)) = i289
  refine R.istore X288 hx (hb hby at_387) (L' := #[.val (.int p0), .val (.int p1), .val (.int p2), .val (.int p3), .val (.int (3 : Int32)), .val (.int (2 : Int32)), .val (.int (1 : Int32)), .val (.int ld), .val (.ref b246), .val (.ref b253), .val (.int i257), .val (.int i258), .val (.ref b272), .val (.ref b277), .val (.int (3 : Int32)), .val (.int i281), .val (.int i283), .val (.int i285), .val (.int i287), .val (.int i289), .unset, .unset, .unset, .unset]) rfl (pc' := 389) rfl ?_
  have tc0 := own_cf (b_i273 : i273.toInt.natAbs ≤ 128) (b_i247 : i247.toInt.natAbs ≤ 128) (own_z0 : (0 : Int32).toInt.natAbs ≤ 128) (own_z0 : (0 : Int32).toInt.natAbs ≤ 128) (own_z0 : (0 : Int32).toInt.natAbs ≤ 128) (own_z0 : (0 : Int32).toInt.natAbs ≤ 128) (b_i257 : i257.toInt.natAbs ≤ 128) hi281
  simp only [own_zi, Int.zero_mul, Int.mul_zero, Int.add_zero, Int.zero_add] at tc0
  have tc1 := own_cf (b_i273 : i273.toInt.natAbs ≤ 128) (b_i249 : i249.toInt.natAbs ≤ 128) (own_z0 : (0 : Int32).toInt.natAbs ≤ 128) (b_i247 : i247.toInt.natAbs ≤ 128) (own_z0 : (0 : Int32).toInt.natAbs ≤ 128) (own_z0 : (0 : Int32).toInt.natAbs ≤ 128) (b_i258 : i258.toInt.natAbs ≤ 128) hi283
  simp only [own_zi, Int.zero_mul, Int.mul_zero, Int.add_zero, Int.zero_add] at tc1
  have tc2 := own_cf (b_i273 : i273.toInt.natAbs ≤ 128) (bl : ld.toInt.natAbs ≤ 128) (own_z0 : (0 : Int32).toInt.natAbs ≤ 128) (b_i249 : i249.toInt.natAbs ≤ 128) (own_z0 : (0 : Int32).toInt.natAbs ≤ 128) (b_i247 : i247.toInt.natAbs ≤ 128) (own_z0 : (0 : Int32).toInt.natAbs ≤ 128) hi285
  simp only [own_zi, Int.zero_mul, Int.mul_zero, Int.add_zero, Int.zero_add] at tc2
  have tc3 := own_cf (b_i273 : i273.toInt.natAbs ≤ 128) (own_z0 : (0 : Int32).toInt.natAbs ≤ 128) (own_z0 : (0 : Int32).toInt.natAbs ≤ 128) (bl : ld.toInt.natAbs ≤ 128) (own_z0 : (0 : Int32).toInt.natAbs ≤ 128) (b_i249 : i249.toInt.natAbs ≤ 128) (own_z0 : (0 : Int32).toInt.natAbs ≤ 128) hi287
  simp only [own_zi, Int.zero_mul, Int.mul_zero, Int.add_zero, Int.zero_add] at tc3
  have tc4 := own_cf (b_i273 : i273.toInt.natAbs ≤ 128) (own_z0 : (0 : Int32).toInt.natAbs ≤ 128) (own_z0 : (0 : Int32).toInt.natAbs ≤ 128) (own_z0 : (0 : Int32).toInt.natAbs ≤ 128) (own_z0 : (0 : Int32).toInt.natAbs ≤ 128) (bl : ld.toInt.natAbs ≤ 128) (own_z0 : (0 : Int32).toInt.natAbs ≤ 128) hi289
  simp only [own_zi, Int.zero_mul, Int.mul_zero, Int.add_zero, Int.zero_add] at tc4
  refine R.iload X288 hx (hb hby at_389) rfl (pc' := 391) rfl ?_
  refine R.newP X288 hx hZ (ty := .double) rfl w_1 e288 (by decide) (cap := 3) (by decide) (by decide) (ad := "[D") (by decide) (hb hby at_391) (pc' := 393) rfl (by decide) (by decide) ?_; intro T290 h290 b290 k290 g290 X290 e290 E290 EE290 AA290
  have g_b290 : n0 ≤ b290 := Nat.le_trans Z279 (Nat.le_of_eq g290.symm)
  have sz_b290 : h0.size ≤ b290 := Nat.le_trans K279.1 (Nat.le_of_eq g290.symm)
  have ne_b246_b290 : b246 ≠ b290 := Nat.ne_of_lt (Nat.lt_of_lt_of_le V_b246.lt (Nat.le_of_eq g290.symm))
  have ne_b253_b290 : b253 ≠ b290 := Nat.ne_of_lt (Nat.lt_of_lt_of_le V_b253.lt (Nat.le_of_eq g290.symm))
  have ne_b272_b290 : b272 ≠ b290 := Nat.ne_of_lt (Nat.lt_of_lt_of_le V_b272.lt (Nat.le_of_eq g290.symm))
  have ne_b277_b290 : b277 ≠ b290 := Nat.ne_of_lt (Nat.lt_of_lt_of_le V_b277.lt (Nat.le_of_eq g290.symm))
  have K290 : Keep h0 h290 [] := K279.ext E290
  have Z290 : n0 ≤ h290.size := Nat.le_trans Z279 E290.1
  have V_b246 := V_b246.ext E290
  have V_b253 := V_b253.ext E290
  have V_b272 := V_b272.ext E290
  have V_b277 := V_b277.ext E290
  have E_b290 : Exa Z h290 b290 "[D" := EE290
  have V_b290 : Arh Z h290 b290 k290 .double (3 : Int32) [] [] (.double (0 : UInt64)) := AA290
  refine R.astore X290 hx (hb hby at_393) rfl (L' := #[.val (.int p0), .val (.int p1), .val (.int p2), .val (.int p3), .val (.int (3 : Int32)), .val (.int (2 : Int32)), .val (.int (1 : Int32)), .val (.int ld), .val (.ref b246), .val (.ref b253), .val (.int i257), .val (.int i258), .val (.ref b272), .val (.ref b277), .val (.int (3 : Int32)), .val (.int i281), .val (.int i283), .val (.int i285), .val (.int i287), .val (.int i289), .val (.ref b290), .unset, .unset, .unset]) rfl (pc' := 395) rfl ?_
  refine R.iload X290 hx (hb hby at_395) rfl (pc' := 397) rfl ?_
  refine R.ifNo X290 hx (hb hby at_397) (tlt (by decide : (0 : Int32) < (3 : Int32))).2.2.2 (pc' := 400) rfl ?_
  refine R.aload X290 hx (hb hby at_400) rfl rfl (pc' := 402) rfl ?_
  refine R.iconst X290 hx (hb hby at_402) (v := (0 : Int32)) (by decide) (pc' := 403) rfl ?_
  refine R.iload X290 hx (hb hby at_403) rfl (pc' := 405) rfl ?_
  refine R.i2d X290 hx (hb hby at_405) (pc' := 406) rfl ?_
  refine R.dastore X290 hx hZ e290 V_b290 (⟨by decide, by decide⟩ : ¬ (0 : Int32) < 0 ∧ (0 : Int32) < (3 : Int32)) (hb hby at_406) (pc' := 407) rfl ?_; intro T291 h291 X291 e291 W291 V291
  have V_b246 := V_b246.other W291 ne_b246_b290
  have V_b253 := V_b253.other W291 ne_b253_b290
  have V_b272 := V_b272.other W291 ne_b272_b290
  have V_b277 := V_b277.other W291 ne_b277_b290
  have E_b290 := E_b290.wr W291
  have V_b290 : Arh Z h291 b290 k290 .double (3 : Int32) [((0 : Int32), (.double (FP.i2d i281)))] [] (.double (0 : UInt64)) := V291
  have N291 := Fr.snoc X291 N288 g_b290
  have K291 : Keep h0 h291 [] := K290.wr W291 (Or.inr sz_b290)
  have Z291 : n0 ≤ h291.size := Nat.le_trans Z290 (Keep.of_wr W291).1
  refine R.iload X291 hx (hb hby at_407) rfl (pc' := 409) rfl ?_
  refine R.iconst X291 hx (hb hby at_409) (v := (1 : Int32)) (by decide) (pc' := 410) rfl ?_
  refine R.icmpNo X291 hx (hb hby at_410) (tlt (by decide : (1 : Int32) < (3 : Int32))).2.2.2 (pc' := 413) rfl ?_
  refine R.aload X291 hx (hb hby at_413) rfl rfl (pc' := 415) rfl ?_
  refine R.iconst X291 hx (hb hby at_415) (v := (1 : Int32)) (by decide) (pc' := 416) rfl ?_
  refine R.iload X291 hx (hb hby at_416) rfl (pc' := 418) rfl ?_
  refine R.i2d X291 hx (hb hby at_418) (pc' := 419) rfl ?_
  refine R.dastore X291 hx hZ e291 V_b290 (⟨by decide, by decide⟩ : ¬ (1 : Int32) < 0 ∧ (1 : Int32) < (3 : Int32)) (hb hby at_419) (pc' := 420) rfl ?_; intro T292 h292 X292 e292 W292 V292
  have V_b246 := V_b246.other W292 ne_b246_b290
  have V_b253 := V_b253.other W292 ne_b253_b290
  have V_b272 := V_b272.other W292 ne_b272_b290
  have V_b277 := V_b277.other W292 ne_b277_b290
  have E_b290 := E_b290.wr W292
  have V_b290 : Arh Z h292 b290 k290 .double (3 : Int32) [((1 : Int32), (.double (FP.i2d i283))), ((0 : Int32), (.double (FP.i2d i281)))] [] (.double (0 : UInt64)) := V292
  have N292 := Fr.snoc X292 N291 g_b290
  have K292 : Keep h0 h292 [] := K291.wr W292 (Or.inr sz_b290)
  have Z292 : n0 ≤ h292.size := Nat.le_trans Z291 (Keep.of_wr W292).1
  refine R.iload X292 hx (hb hby at_420) rfl (pc' := 422) rfl ?_
  refine R.iconst X292 hx (hb hby at_422) (v := (2 : Int32)) (by decide) (pc' := 423) rfl ?_
  refine R.icmpNo X292 hx (hb hby at_423) (tlt (by decide : (2 : Int32) < (3 : Int32))).2.2.2 (pc' := 426) rfl ?_
  refine R.aload X292 hx (hb hby at_426) rfl rfl (pc' := 428) rfl ?_
  refine R.iconst X292 hx (hb hby at_428) (v := (2 : Int32)) (by decide) (pc' := 429) rfl ?_
  refine R.iload X292 hx (hb hby at_429) rfl (pc' := 431) rfl ?_
  refine R.i2d X292 hx (hb hby at_431) (pc' := 432) rfl ?_
  refine R.dastore X292 hx hZ e292 V_b290 (⟨by decide, by decide⟩ : ¬ (2 : Int32) < 0 ∧ (2 : Int32) < (3 : Int32)) (hb hby at_432) (pc' := 433) rfl ?_; intro T293 h293 X293 e293 W293 V293
  have V_b246 := V_b246.other W293 ne_b246_b290
  have V_b253 := V_b253.other W293 ne_b253_b290
  have V_b272 := V_b272.other W293 ne_b272_b290
  have V_b277 := V_b277.other W293 ne_b277_b290
  have E_b290 := E_b290.wr W293
  have V_b290 : Arh Z h293 b290 k290 .double (3 : Int32) [((2 : Int32), (.double (FP.i2d i285))), ((1 : Int32), (.double (FP.i2d i283))), ((0 : Int32), (.double (FP.i2d i281)))] [] (.double (0 : UInt64)) := V293
  have N293 := Fr.snoc X293 N292 g_b290
  have K293 : Keep h0 h293 [] := K292.wr W293 (Or.inr sz_b290)
  have Z293 : n0 ≤ h293.size := Nat.le_trans Z292 (Keep.of_wr W293).1
  refine R.iload X293 hx (hb hby at_433) rfl (pc' := 435) rfl ?_
  refine R.iconst X293 hx (hb hby at_435) (v := (3 : Int32)) (by decide) (pc' := 436) rfl ?_
  refine R.icmpYes X293 hx (hb hby at_436) (flt (by decide : ¬ ((3 : Int32) < (3 : Int32)))).2.2.2 (by decide) (pc' := 446) (by decide) ?_
  refine R.iload X293 hx (hb hby at_446) rfl (pc' := 448) rfl ?_
  refine R.iconst X293 hx (hb hby at_448) (v := (4 : Int32)) (by decide) (pc' := 449) rfl ?_
  refine R.icmpYes X293 hx (hb hby at_449) (flt (by decide : ¬ ((4 : Int32) < (3 : Int32)))).2.2.2 (by decide) (pc' := 459) (by decide) ?_
  refine R.aload X293 hx (hb hby at_459) rfl rfl (pc' := 461) rfl ?_
  refine R.aload X293 hx (hb hby at_461) rfl rfl (pc' := 463) rfl ?_
  refine R.callS X293 hx hZ (y := mY1) hown w_2 w_3 w_4 w_5 (by decide) e293 (rmqq31 l Z aZ hw [] b290 b253 k290 k253 [((2 : Int32), (.double (FP.i2d i285))), ((1 : Int32), (.double (FP.i2d i283))), ((0 : Int32), (.double (FP.i2d i281)))] [((2 : Int32), (.double (FP.i2d ld))), ((1 : Int32), (.double (FP.i2d i249))), ((0 : Int32), (.double (FP.i2d i247)))] (FP.i2d i281) (FP.i2d i283) (FP.i2d i285) (FP.i2d i247) (FP.i2d i249) (FP.i2d ld) i281.toInt i283.toInt i285.toInt i247.toInt i249.toInt ld.toInt i273.toInt i257.toInt i258.toInt h293 n0 Z293 V_b290 E_b290 V_b253 (getH_miss (by decide) (by decide) (getH_miss (by decide) (by decide) (getH_hit (by decide) (rfl)))) (Dy.i2d _) (getH_miss (by decide) (by decide) (getH_hit (by decide) (rfl))) (Dy.i2d _) (getH_hit (by decide) (rfl)) (Dy.i2d _) (getH_miss (by decide) (by decide) (getH_miss (by decide) (by decide) (getH_hit (by decide) (rfl)))) (Dy.i2d _) (getH_miss (by decide) (by decide) (getH_hit (by decide) (rfl))) (Dy.i2d _) (getH_hit (by decide) (rfl)) (Dy.i2d _) (tc0) (tc1) (tc2) (nl) (b_i247) (b_i249) (bl) (b_i273) (b_i257) (b_i258)) (by decide) (W := 0) (Nat.le_of_eq rfl) (by decide) (by rw [hml]; rfl) (lenOf pd_1 rfl) rfl (hb hby at_463) (pc' := 466) rfl (by decide) (by decide) ?_; intro v294 T294 L294 X294 hQ294
  obtain ⟨r_294, kr_294, hr_294, rfl, N294q, Kc294, P294_0, P294_1, P294_2⟩ := hQ294
  have N294 := Fr.app N293 N294q
  generalize e294 : T294.heap = h294 at Kc294 P294_0 P294_1 P294_2
  have K294 : Keep h0 h294 [] := K293.trans Kc294 (all0)
  have Z294 : n0 ≤ h294.size := Nat.le_trans Z293 Kc294.1
  have ne_b246_r_294 : b246 ≠ r_294 := Nat.ne_of_lt (Nat.lt_of_lt_of_le V_b246.lt P294_0)
  have ne_b253_r_294 : b253 ≠ r_294 := Nat.ne_of_lt (Nat.lt_of_lt_of_le V_b253.lt P294_0)
  have ne_b272_r_294 : b272 ≠ r_294 := Nat.ne_of_lt (Nat.lt_of_lt_of_le V_b272.lt P294_0)
  have ne_b277_r_294 : b277 ≠ r_294 := Nat.ne_of_lt (Nat.lt_of_lt_of_le V_b277.lt P294_0)
  have ne_b290_r_294 : b290 ≠ r_294 := Nat.ne_of_lt (Nat.lt_of_lt_of_le E_b290.lt P294_0)
  have g_r_294 : n0 ≤ r_294 := Nat.le_trans Z293 P294_0
  have sz_r_294 : h0.size ≤ r_294 := Nat.le_trans K293.1 P294_0
  have V_b246 := V_b246.keep Kc294 nin0
  have V_b253 := V_b253.keep Kc294 nin0
  have V_b272 := V_b272.keep Kc294 nin0
  have V_b277 := V_b277.keep Kc294 nin0
  have E_b290 := E_b290.keep Kc294
  have V_b290 := V_b290.keep Kc294 nin0
  have fresh_294 := P294_0
  have V_r_294 : Arh Z h294 r_294 kr_294 .double (1 : Int32) hr_294 [] (.double (0 : UInt64)) := P294_1
  have V_r_294 : Arh Z h294 r_294 kr_294 .double (1 : Int32) hr_294 [] (.double (0 : UInt64)) := V_r_294
  have c0_294 := P294_2
  refine R.astore X294 hx (hb hby at_466) rfl (L' := #[.val (.int p0), .val (.int p1), .val (.int p2), .val (.int p3), .val (.int (3 : Int32)), .val (.int (2 : Int32)), .val (.int (1 : Int32)), .val (.int ld), .val (.ref b246), .val (.ref b253), .val (.int i257), .val (.int i258), .val (.ref b272), .val (.ref b277), .val (.int (3 : Int32)), .val (.int i281), .val (.int i283), .val (.int i285), .val (.int i287), .val (.int i289), .val (.ref b290), .val (.ref r_294), .unset, .unset]) rfl (pc' := 468) rfl ?_
  refine R.aload X294 hx (hb hby at_468) rfl rfl (pc' := 470) rfl ?_
  refine R.alen X294 hx hZ e294 V_r_294 (hb hby at_470) (pc' := 471) rfl ?_
  refine R.iload X294 hx (hb hby at_471) rfl (pc' := 473) rfl ?_
  refine R.icmpNo X294 hx (hb hby at_473) (teq (by decide : (1 : Int32) = (1 : Int32))).2 (pc' := 476) rfl ?_
  refine R.aload X294 hx (hb hby at_476) rfl rfl (pc' := 478) rfl ?_
  refine R.iconst X294 hx (hb hby at_478) (v := (0 : Int32)) (by decide) (pc' := 479) rfl ?_
  refine R.aload X294 hx (hb hby at_479) rfl rfl (pc' := 481) rfl ?_
  refine R.callS X294 hx hZ (y := mY4) hown w_25 w_26 w_8 w_27 (by decide) e294 (rm5 l Z aZ hw [] r_294 (0 : Int32) b272 kr_294 (1 : Int32) hr_294 k272 [((2 : Int32), (.int (0 : Int32))), ((1 : Int32), (.int (0 : Int32))), ((0 : Int32), (.int i273))] i273 h294 n0 Z294 V_r_294 V_b272 (by decide) (getH_miss (by decide) (by decide) (getH_miss (by decide) (by decide) (getH_hit (by decide) (rfl)))) (fun _ => c0_294)) (by decide) (W := 0) (Nat.le_of_eq rfl) (by decide) (by rw [hml]; rfl) (lenOf pd_4 rfl) rfl (hb hby at_481) (pc' := 484) rfl (by decide) (by decide) ?_; intro v295 T295 L295 X295 hQ295
  obtain ⟨rfl, N295q, e295⟩ := hQ295
  have N295 := Fr.app N294 N295q
  refine R.ifNo X295 hx (hb hby at_484) (feq (by decide : ¬ ((1 : Int32) = (0 : Int32)))).1 (pc' := 487) rfl ?_
  refine R.aload X295 hx (hb hby at_487) rfl rfl (pc' := 489) rfl ?_
  refine R.iconst X295 hx (hb hby at_489) (v := (1 : Int32)) (by decide) (pc' := 490) rfl ?_
  refine R.aload X295 hx (hb hby at_490) rfl rfl (pc' := 492) rfl ?_
  refine R.callS X295 hx hZ (y := mY4) hown w_25 w_26 w_8 w_27 (by decide) e295 (rm5 l Z aZ hw [] r_294 (1 : Int32) b272 kr_294 (1 : Int32) hr_294 k272 [((2 : Int32), (.int (0 : Int32))), ((1 : Int32), (.int (0 : Int32))), ((0 : Int32), (.int i273))] (0 : Int32) h294 n0 Z294 V_r_294 V_b272 (by decide) (getH_miss (by decide) (by decide) (getH_hit (by decide) (rfl))) (fun q => absurd q (by decide))) (by decide) (W := 0) (Nat.le_of_eq rfl) (by decide) (by rw [hml]; rfl) (lenOf pd_4 rfl) rfl (hb hby at_492) (pc' := 495) rfl (by decide) (by decide) ?_; intro v296 T296 L296 X296 hQ296
  obtain ⟨rfl, N296q, e296⟩ := hQ296
  have N296 := Fr.app N295 N296q
  refine R.ifNo X296 hx (hb hby at_495) (feq (by decide : ¬ ((1 : Int32) = (0 : Int32)))).1 (pc' := 498) rfl ?_
  refine R.aload X296 hx (hb hby at_498) rfl rfl (pc' := 500) rfl ?_
  refine R.iconst X296 hx (hb hby at_500) (v := (2 : Int32)) (by decide) (pc' := 501) rfl ?_
  refine R.aload X296 hx (hb hby at_501) rfl rfl (pc' := 503) rfl ?_
  refine R.callS X296 hx hZ (y := mY4) hown w_25 w_26 w_8 w_27 (by decide) e296 (rm5 l Z aZ hw [] r_294 (2 : Int32) b272 kr_294 (1 : Int32) hr_294 k272 [((2 : Int32), (.int (0 : Int32))), ((1 : Int32), (.int (0 : Int32))), ((0 : Int32), (.int i273))] (0 : Int32) h294 n0 Z294 V_r_294 V_b272 (by decide) (getH_hit (by decide) (rfl)) (fun q => absurd q (by decide))) (by decide) (W := 0) (Nat.le_of_eq rfl) (by decide) (by rw [hml]; rfl) (lenOf pd_4 rfl) rfl (hb hby at_503) (pc' := 506) rfl (by decide) (by decide) ?_; intro v297 T297 L297 X297 hQ297
  obtain ⟨rfl, N297q, e297⟩ := hQ297
  have N297 := Fr.app N296 N297q
  refine R.ifNo X297 hx (hb hby at_506) (feq (by decide : ¬ ((1 : Int32) = (0 : Int32)))).1 (pc' := 509) rfl ?_
  refine R.iconst X297 hx (hb hby at_509) (v := (1 : Int32)) (by decide) (pc' := 510) rfl ?_
  refine R.goto X297 hx (hb hby at_510) (by decide) (pc' := 514) (by decide) ?_
  refine R.istore X297 hx (hb hby at_514) (L' := #[.val (.int p0), .val (.int p1), .val (.int p2), .val (.int p3), .val (.int (3 : Int32)), .val (.int (2 : Int32)), .val (.int (1 : Int32)), .val (.int ld), .val (.ref b246), .val (.ref b253), .val (.int i257), .val (.int i258), .val (.ref b272), .val (.ref b277), .val (.int (3 : Int32)), .val (.int i281), .val (.int i283), .val (.int i285), .val (.int i287), .val (.int i289), .val (.ref b290), .val (.ref r_294), .val (.int (1 : Int32)), .unset]) rfl (pc' := 516) rfl ?_
  refine R.aload X297 hx (hb hby at_516) rfl rfl (pc' := 518) rfl ?_
  refine R.iconst X297 hx (hb hby at_518) (v := (0 : Int32)) (by decide) (pc' := 519) rfl ?_
  refine R.iload X297 hx (hb hby at_519) rfl (pc' := 521) rfl ?_
  refine R.callS X297 hx hZ (y := mY2) hown w_6 w_7 w_8 w_9 (by decide) e297 (rm2 l Z aZ hw [] b290 (0 : Int32) i281 k290 (3 : Int32) [((2 : Int32), (.double (FP.i2d i285))), ((1 : Int32), (.double (FP.i2d i283))), ((0 : Int32), (.double (FP.i2d i281)))] h294 n0 Z294 V_b290 (by decide) (fun _ => getH_miss (by decide) (by decide) (getH_miss (by decide) (by decide) (getH_hit (by decide) (rfl))))) (by decide) (W := 0) (Nat.le_of_eq rfl) (by decide) (by rw [hml]; rfl) (lenOf pd_2 rfl) rfl (hb hby at_521) (pc' := 524) rfl (by decide) (by decide) ?_; intro v298 T298 L298 X298 hQ298
  obtain ⟨rfl, N298q, e298⟩ := hQ298
  have N298 := Fr.app N297 N298q
  refine R.ifNo X298 hx (hb hby at_524) (feq (by decide : ¬ ((1 : Int32) = (0 : Int32)))).1 (pc' := 527) rfl ?_
  refine R.aload X298 hx (hb hby at_527) rfl rfl (pc' := 529) rfl ?_
  refine R.iconst X298 hx (hb hby at_529) (v := (1 : Int32)) (by decide) (pc' := 530) rfl ?_
  refine R.iload X298 hx (hb hby at_530) rfl (pc' := 532) rfl ?_
  refine R.callS X298 hx hZ (y := mY2) hown w_6 w_7 w_8 w_9 (by decide) e298 (rm2 l Z aZ hw [] b290 (1 : Int32) i283 k290 (3 : Int32) [((2 : Int32), (.double (FP.i2d i285))), ((1 : Int32), (.double (FP.i2d i283))), ((0 : Int32), (.double (FP.i2d i281)))] h294 n0 Z294 V_b290 (by decide) (fun _ => getH_miss (by decide) (by decide) (getH_hit (by decide) (rfl)))) (by decide) (W := 0) (Nat.le_of_eq rfl) (by decide) (by rw [hml]; rfl) (lenOf pd_2 rfl) rfl (hb hby at_532) (pc' := 535) rfl (by decide) (by decide) ?_; intro v299 T299 L299 X299 hQ299
  obtain ⟨rfl, N299q, e299⟩ := hQ299
  have N299 := Fr.app N298 N299q
  refine R.ifNo X299 hx (hb hby at_535) (feq (by decide : ¬ ((1 : Int32) = (0 : Int32)))).1 (pc' := 538) rfl ?_
  refine R.aload X299 hx (hb hby at_538) rfl rfl (pc' := 540) rfl ?_
  refine R.iconst X299 hx (hb hby at_540) (v := (2 : Int32)) (by decide) (pc' := 541) rfl ?_
  refine R.iload X299 hx (hb hby at_541) rfl (pc' := 543) rfl ?_
  refine R.callS X299 hx hZ (y := mY2) hown w_6 w_7 w_8 w_9 (by decide) e299 (rm2 l Z aZ hw [] b290 (2 : Int32) i285 k290 (3 : Int32) [((2 : Int32), (.double (FP.i2d i285))), ((1 : Int32), (.double (FP.i2d i283))), ((0 : Int32), (.double (FP.i2d i281)))] h294 n0 Z294 V_b290 (by decide) (fun _ => getH_hit (by decide) (rfl))) (by decide) (W := 0) (Nat.le_of_eq rfl) (by decide) (by rw [hml]; rfl) (lenOf pd_2 rfl) rfl (hb hby at_543) (pc' := 546) rfl (by decide) (by decide) ?_; intro v300 T300 L300 X300 hQ300
  obtain ⟨rfl, N300q, e300⟩ := hQ300
  have N300 := Fr.app N299 N300q
  refine R.ifNo X300 hx (hb hby at_546) (feq (by decide : ¬ ((1 : Int32) = (0 : Int32)))).1 (pc' := 549) rfl ?_
  refine R.aload X300 hx (hb hby at_549) rfl rfl (pc' := 551) rfl ?_
  refine R.iconst X300 hx (hb hby at_551) (v := (3 : Int32)) (by decide) (pc' := 552) rfl ?_
  refine R.iload X300 hx (hb hby at_552) rfl (pc' := 554) rfl ?_
  refine R.callS X300 hx hZ (y := mY2) hown w_6 w_7 w_8 w_9 (by decide) e300 (rm2 l Z aZ hw [] b290 (3 : Int32) i287 k290 (3 : Int32) [((2 : Int32), (.double (FP.i2d i285))), ((1 : Int32), (.double (FP.i2d i283))), ((0 : Int32), (.double (FP.i2d i281)))] h294 n0 Z294 V_b290 (by decide) (fun q => absurd q (by decide))) (by decide) (W := 0) (Nat.le_of_eq rfl) (by decide) (by rw [hml]; rfl) (lenOf pd_2 rfl) rfl (hb hby at_554) (pc' := 557) rfl (by decide) (by decide) ?_; intro v301 T301 L301 X301 hQ301
  obtain ⟨rfl, N301q, e301⟩ := hQ301
  have N301 := Fr.app N300 N301q
  refine R.ifNo X301 hx (hb hby at_557) (feq (by decide : ¬ ((1 : Int32) = (0 : Int32)))).1 (pc' := 560) rfl ?_
  refine R.aload X301 hx (hb hby at_560) rfl rfl (pc' := 562) rfl ?_
  refine R.iconst X301 hx (hb hby at_562) (v := (4 : Int32)) (by decide) (pc' := 563) rfl ?_
  refine R.iload X301 hx (hb hby at_563) rfl (pc' := 565) rfl ?_
  refine R.callS X301 hx hZ (y := mY2) hown w_6 w_7 w_8 w_9 (by decide) e301 (rm2 l Z aZ hw [] b290 (4 : Int32) i289 k290 (3 : Int32) [((2 : Int32), (.double (FP.i2d i285))), ((1 : Int32), (.double (FP.i2d i283))), ((0 : Int32), (.double (FP.i2d i281)))] h294 n0 Z294 V_b290 (by decide) (fun q => absurd q (by decide))) (by decide) (W := 0) (Nat.le_of_eq rfl) (by decide) (by rw [hml]; rfl) (lenOf pd_2 rfl) rfl (hb hby at_565) (pc' := 568) rfl (by decide) (by decide) ?_; intro v302 T302 L302 X302 hQ302
  obtain ⟨rfl, N302q, e302⟩ := hQ302
  have N302 := Fr.app N301 N302q
  refine R.ifNo X302 hx (hb hby at_568) (feq (by decide : ¬ ((1 : Int32) = (0 : Int32)))).1 (pc' := 571) rfl ?_
  refine R.iconst X302 hx (hb hby at_571) (v := (1 : Int32)) (by decide) (pc' := 572) rfl ?_
  refine R.goto X302 hx (hb hby at_572) (by decide) (pc' := 576) (by decide) ?_
  refine R.istore X302 hx (hb hby at_576) (L' := #[.val (.int p0), .val (.int p1), .val (.int p2), .val (.int p3), .val (.int (3 : Int32)), .val (.int (2 : Int32)), .val (.int (1 : Int32)), .val (.int ld), .val (.ref b246), .val (.ref b253), .val (.int i257), .val (.int i258), .val (.ref b272), .val (.ref b277), .val (.int (3 : Int32)), .val (.int i281), .val (.int i283), .val (.int i285), .val (.int i287), .val (.int i289), .val (.ref b290), .val (.ref r_294), .val (.int (1 : Int32)), .val (.int (1 : Int32))]) rfl (pc' := 578) rfl ?_
  refine R.iload X302 hx (hb hby at_578) rfl (pc' := 580) rfl ?_
  refine R.ifNo X302 hx (hb hby at_580) (feq (by decide : ¬ ((1 : Int32) = (0 : Int32)))).1 (pc' := 583) rfl ?_
  refine R.iload X302 hx (hb hby at_583) rfl (pc' := 585) rfl ?_
  refine R.ifNo X302 hx (hb hby at_585) (feq (by decide : ¬ ((1 : Int32) = (0 : Int32)))).1 (pc' := 588) rfl ?_
  refine R.iconst X302 hx (hb hby at_588) (v := (1 : Int32)) (by decide) (pc' := 589) rfl ?_
  refine R.goto X302 hx (hb hby at_589) (by decide) (pc' := 593) (by decide) ?_
  rw [← hG]
  exact Rn.ret X302 (BodyLoose.notSynchronized Bd) (v := some (.int (1 : Int32))) (fun h => by rw [Bd.returns] at h; cases h) (Q := Q0 Z p0 p1 p2 p3 h0 n0) e302 (fun fs hr => retN X302 hx (t := .boolean) Bd.returns (by simp) (hb hby at_593) hr) ⟨rfl, N302⟩ (by decide) (by decide)
set_option maxRecDepth 65536 in
set_option maxHeartbeats 40000000 in
theorem rm0_32 (l : Launch) (Z : State) (aZ : Array Value) (hw : ∀ d ∈ tables_1, d.before aZ Z = true) (ws : List Jvm.Cond) (p0 : Int32) (p1 : Int32) (p2 : Int32) (p3 : Int32) (h0 : Heap) (n0 : Nat) {p : Program} {e : Env} {s : State} {m : MethodId} {below : List Frame} {meth : Method} {c : Code} {s₁ : State} (Bd : BodyLoose p l x (head1 (Jvm.Cond.code x code maxLocals ret :: ws) room_1) code maxLocals ret e s m #[(.int p0), (.int p1), (.int p2), (.int p3)] below meth c s₁) (hml : c.maxLocals = 24) (hZ : Z.Warmed39 s.vm) {TL : State} {hL : Heap} {lL : List Loc} (XL : Stand p l e room_1 s m #[(.int p0), (.int p1), (.int p2), (.int p3)] below meth c TL lL 2 6) (eL : TL.heap = hL) (NL : Fr n0 lL) (KL : Keep h0 hL []) (ZL : n0 ≤ hL.size) (ld : Int32) (b246 : Addr) (b253 : Addr) (i247 : Int32) (i249 : Int32) (i257 : Int32) (i258 : Int32) (k246 : ClassId) (k253 : ClassId) {G : Outcome → State → Prop} (hG : (Fn0 Z p0 p1 p2 p3 h0 n0 s) = G) (V_b246 : Arh Z hL b246 k246 .int (3 : Int32) [((2 : Int32), (.int ld)), ((2 : Int32), (.int (0 : Int32))), ((1 : Int32), (.int i249)), ((0 : Int32), (.int i247))] [] (.int (0 : Int32))) (V_b253 : Arh Z hL b253 k253 .double (3 : Int32) [((2 : Int32), (.double (FP.i2d ld))), ((1 : Int32), (.double (FP.i2d i249))), ((0 : Int32), (.double (FP.i2d i247)))] [] (.double (0 : UInt64))) (ne_b246_b253 : b246 ≠ b253) (g_b246 : n0 ≤ b246) (g_b253 : n0 ≤ b253) (sz_b246 : h0.size ≤ b246) (sz_b253 : h0.size ≤ b253) (nl : ld.toInt ≠ 0) (bl : ld.toInt.natAbs ≤ 128) (b_i257 : i257.toInt.natAbs ≤ 128) (b_i258 : i258.toInt.natAbs ≤ 128) (b_i249 : i249.toInt.natAbs ≤ 128) (b_i247 : i247.toInt.natAbs ≤ 128) : Rn p e below (TL.setTop (mkF m 147 #[.val (.int p0), .val (.int p1), .val (.int p2), .val (.int p3), .val (.int (3 : Int32)), .val (.int (2 : Int32)), .val (.int (2 : Int32)), .val (.int ld), .val (.ref b246), .val (.ref b253), .val (.int i257), .val (.int i258), .unset, .unset, .unset, .unset, .unset, .unset, .unset, .unset, .unset, .unset, .unset, .unset] [])) G := by
  have hx := Bd.exec
  have hby := Bd.bytes
  have hown : s.vm.findClass "com/example/deseason/deseason/arima/PolynomialsQuotientPinLaw" = some m.cls := findClass_of_methodNamed Bd.named
  have hnm := (name_of_methodNamed Bd.named Bd.method).1
  have w_0 := hw _ (List.mem_of_getElem? (i := 0) rfl)
  have w_1 := hw _ (List.mem_of_getElem? (i := 1) rfl)
  have w_2 := hw _ (List.mem_of_getElem? (i := 2) rfl)
  have w_3 := hw _ (List.mem_of_getElem? (i := 3) rfl)
  have w_4 := hw _ (List.mem_of_getElem? (i := 4) rfl)
  have w_5 := hw _ (List.mem_of_getElem? (i := 5) rfl)
  have w_6 := hw _ (List.mem_of_getElem? (i := 6) rfl)
  have w_7 := hw _ (List.mem_of_getElem? (i := 7) rfl)
  have w_8 := hw _ (List.mem_of_getElem? (i := 8) rfl)
  have w_9 := hw _ (List.mem_of_getElem? (i := 9) rfl)
  have w_10 := hw _ (List.mem_of_getElem? (i := 10) rfl)
  have w_11 := hw _ (List.mem_of_getElem? (i := 11) rfl)
  have w_12 := hw _ (List.mem_of_getElem? (i := 12) rfl)
  have w_25 := hw _ (List.mem_of_getElem? (i := 25) rfl)
  have w_26 := hw _ (List.mem_of_getElem? (i := 26) rfl)
  have w_27 := hw _ (List.mem_of_getElem? (i := 27) rfl)
  show Rn p e below (TL.setTop (mkF m 147 #[.val (.int p0), .val (.int p1), .val (.int p2), .val (.int p3), .val (.int (3 : Int32)), .val (.int (2 : Int32)), .val (.int (2 : Int32)), .val (.int ld), .val (.ref b246), .val (.ref b253), .val (.int i257), .val (.int i258), .unset, .unset, .unset, .unset, .unset, .unset, .unset, .unset, .unset, .unset, .unset, .unset] [])) G
  refine R.iload XL hx (hb hby at_147) rfl (pc' := 149) rfl ?_
  refine R.ifYes XL hx (hb hby at_149) (feq (by decide : ¬ ((2 : Int32) = (0 : Int32)))).2 (by decide) (pc' := 237) (by decide) ?_
  refine R.iconst XL hx (hb hby at_237) (v := (3 : Int32)) (by decide) (pc' := 238) rfl ?_
  refine R.newP XL hx hZ (ty := .int) rfl w_0 eL (by decide) (cap := 3) (by decide) (by decide) (ad := "[I") (by decide) (hb hby at_238) (pc' := 240) rfl (by decide) (by decide) ?_; intro T303 h303 b303 k303 g303 X303 e303 E303 EE303 AA303
  have g_b303 : n0 ≤ b303 := Nat.le_trans ZL (Nat.le_of_eq g303.symm)
  have sz_b303 : h0.size ≤ b303 := Nat.le_trans KL.1 (Nat.le_of_eq g303.symm)
  have ne_b246_b303 : b246 ≠ b303 := Nat.ne_of_lt (Nat.lt_of_lt_of_le V_b246.lt (Nat.le_of_eq g303.symm))
  have ne_b253_b303 : b253 ≠ b303 := Nat.ne_of_lt (Nat.lt_of_lt_of_le V_b253.lt (Nat.le_of_eq g303.symm))
  have K303 : Keep h0 h303 [] := KL.ext E303
  have Z303 : n0 ≤ h303.size := Nat.le_trans ZL E303.1
  have V_b246 := V_b246.ext E303
  have V_b253 := V_b253.ext E303
  have V_b303 : Arh Z h303 b303 k303 .int (3 : Int32) [] [] (.int (0 : Int32)) := AA303
  refine R.astore X303 hx (hb hby at_240) rfl (L' := #[.val (.int p0), .val (.int p1), .val (.int p2), .val (.int p3), .val (.int (3 : Int32)), .val (.int (2 : Int32)), .val (.int (2 : Int32)), .val (.int ld), .val (.ref b246), .val (.ref b253), .val (.int i257), .val (.int i258), .val (.ref b303), .unset, .unset, .unset, .unset, .unset, .unset, .unset, .unset, .unset, .unset, .unset]) rfl (pc' := 242) rfl ?_
  refine R.aload X303 hx (hb hby at_242) rfl rfl (pc' := 244) rfl ?_
  refine R.iconst X303 hx (hb hby at_244) (v := (0 : Int32)) (by decide) (pc' := 245) rfl ?_
  refine R.iloadN X303 hx (hb hby at_245) rfl (pc' := 246) rfl ?_
  refine R.i2b X303 hx (hb hby at_246) (pc' := 247) rfl ?_
  show Rn p e below (T303.setTop (mkF m 247 #[.val (.int p0), .val (.int p1), .val (.int p2), .val (.int p3), .val (.int (3 : Int32)), .val (.int (2 : Int32)), .val (.int (2 : Int32)), .val (.int ld), .val (.ref b246), .val (.ref b253), .val (.int i257), .val (.int i258), .val (.ref b303), .unset, .unset, .unset, .unset, .unset, .unset, .unset, .unset, .unset, .unset, .unset] [(.int (p2.toInt8.toInt32)), (.int (0 : Int32)), (.ref b303)])) G
  generalize hi304 : (p2.toInt8.toInt32) = i304
  have b_i304 := own_byte hi304
  refine R.iastore X303 hx hZ e303 V_b303 (⟨by decide, by decide⟩ : ¬ (0 : Int32) < 0 ∧ (0 : Int32) < (3 : Int32)) (hb hby at_247) (pc' := 248) rfl ?_; intro T305 h305 X305 e305 W305 V305
  have V_b246 := V_b246.other W305 ne_b246_b303
  have V_b253 := V_b253.other W305 ne_b253_b303
  have V_b303 : Arh Z h305 b303 k303 .int (3 : Int32) [((0 : Int32), (.int i304))] [] (.int (0 : Int32)) := V305
  have N305 := Fr.snoc X305 NL g_b303
  have K305 : Keep h0 h305 [] := K303.wr W305 (Or.inr sz_b303)
  have Z305 : n0 ≤ h305.size := Nat.le_trans Z303 (Keep.of_wr W305).1
  refine R.aload X305 hx (hb hby at_248) rfl rfl (pc' := 250) rfl ?_
  refine R.iconst X305 hx (hb hby at_250) (v := (1 : Int32)) (by decide) (pc' := 251) rfl ?_
  refine R.iload X305 hx (hb hby at_251) rfl (pc' := 253) rfl ?_
  refine R.iconst X305 hx (hb hby at_253) (v := (2 : Int32)) (by decide) (pc' := 254) rfl ?_
  refine R.icmpNo X305 hx (hb hby at_254) (flt (by decide : ¬ ((2 : Int32) < (2 : Int32)))).1 (pc' := 257) rfl ?_
  refine R.iloadN X305 hx (hb hby at_257) rfl (pc' := 258) rfl ?_
  refine R.bipush X305 hx (hb hby at_258) (v := (8 : Int32)) (by decide) (pc' := 260) rfl ?_
  refine R.ishr X305 hx (hb hby at_260) (pc' := 261) rfl ?_
  refine R.i2b X305 hx (hb hby at_261) (pc' := 262) rfl ?_
  show Rn p e below (T305.setTop (mkF m 262 #[.val (.int p0), .val (.int p1), .val (.int p2), .val (.int p3), .val (.int (3 : Int32)), .val (.int (2 : Int32)), .val (.int (2 : Int32)), .val (.int ld), .val (.ref b246), .val (.ref b253), .val (.int i257), .val (.int i258), .val (.ref b303), .unset, .unset, .unset, .unset, .unset, .unset, .unset, .unset, .unset, .unset, .unset] [(.int ((p2 >>> ((8 : Int32) &&& 31)).toInt8.toInt32)), (.int (1 : Int32)), (.ref b303)])) G
  generalize hi306 : ((p2 >>> ((8 : Int32) &&& 31)).toInt8.toInt32) = i306
  have b_i306 := own_byte hi306
  refine R.goto X305 hx (hb hby at_262) (by decide) (pc' := 266) (by decide) ?_
  refine R.iastore X305 hx hZ e305 V_b303 (⟨by decide, by decide⟩ : ¬ (1 : Int32) < 0 ∧ (1 : Int32) < (3 : Int32)) (hb hby at_266) (pc' := 267) rfl ?_; intro T307 h307 X307 e307 W307 V307
  have V_b246 := V_b246.other W307 ne_b246_b303
  have V_b253 := V_b253.other W307 ne_b253_b303
  have V_b303 : Arh Z h307 b303 k303 .int (3 : Int32) [((1 : Int32), (.int i306)), ((0 : Int32), (.int i304))] [] (.int (0 : Int32)) := V307
  have N307 := Fr.snoc X307 N305 g_b303
  have K307 : Keep h0 h307 [] := K305.wr W307 (Or.inr sz_b303)
  have Z307 : n0 ≤ h307.size := Nat.le_trans Z305 (Keep.of_wr W307).1
  refine R.aload X307 hx (hb hby at_267) rfl rfl (pc' := 269) rfl ?_
  refine R.iconst X307 hx (hb hby at_269) (v := (2 : Int32)) (by decide) (pc' := 270) rfl ?_
  refine R.iload X307 hx (hb hby at_270) rfl (pc' := 272) rfl ?_
  refine R.iconst X307 hx (hb hby at_272) (v := (3 : Int32)) (by decide) (pc' := 273) rfl ?_
  refine R.icmpYes X307 hx (hb hby at_273) (tlt (by decide : (2 : Int32) < (3 : Int32))).1 (by decide) (pc' := 284) (by decide) ?_
  refine R.iconst X307 hx (hb hby at_284) (v := (0 : Int32)) (by decide) (pc' := 285) rfl ?_
  refine R.iastore X307 hx hZ e307 V_b303 (⟨by decide, by decide⟩ : ¬ (2 : Int32) < 0 ∧ (2 : Int32) < (3 : Int32)) (hb hby at_285) (pc' := 286) rfl ?_; intro T308 h308 X308 e308 W308 V308
  have V_b246 := V_b246.other W308 ne_b246_b303
  have V_b253 := V_b253.other W308 ne_b253_b303
  have V_b303 : Arh Z h308 b303 k303 .int (3 : Int32) [((2 : Int32), (.int (0 : Int32))), ((1 : Int32), (.int i306)), ((0 : Int32), (.int i304))] [] (.int (0 : Int32)) := V308
  have N308 := Fr.snoc X308 N307 g_b303
  have K308 : Keep h0 h308 [] := K307.wr W308 (Or.inr sz_b303)
  have Z308 : n0 ≤ h308.size := Nat.le_trans Z307 (Keep.of_wr W308).1
  refine R.iconst X308 hx (hb hby at_286) (v := (2 : Int32)) (by decide) (pc' := 287) rfl ?_
  refine R.newP X308 hx hZ (ty := .int) rfl w_0 e308 (by decide) (cap := 2) (by decide) (by decide) (ad := "[I") (by decide) (hb hby at_287) (pc' := 289) rfl (by decide) (by decide) ?_; intro T309 h309 b309 k309 g309 X309 e309 E309 EE309 AA309
  have g_b309 : n0 ≤ b309 := Nat.le_trans Z308 (Nat.le_of_eq g309.symm)
  have sz_b309 : h0.size ≤ b309 := Nat.le_trans K308.1 (Nat.le_of_eq g309.symm)
  have ne_b246_b309 : b246 ≠ b309 := Nat.ne_of_lt (Nat.lt_of_lt_of_le V_b246.lt (Nat.le_of_eq g309.symm))
  have ne_b253_b309 : b253 ≠ b309 := Nat.ne_of_lt (Nat.lt_of_lt_of_le V_b253.lt (Nat.le_of_eq g309.symm))
  have ne_b303_b309 : b303 ≠ b309 := Nat.ne_of_lt (Nat.lt_of_lt_of_le V_b303.lt (Nat.le_of_eq g309.symm))
  have K309 : Keep h0 h309 [] := K308.ext E309
  have Z309 : n0 ≤ h309.size := Nat.le_trans Z308 E309.1
  have V_b246 := V_b246.ext E309
  have V_b253 := V_b253.ext E309
  have V_b303 := V_b303.ext E309
  have V_b309 : Arh Z h309 b309 k309 .int (2 : Int32) [] [] (.int (0 : Int32)) := AA309
  refine R.astore X309 hx (hb hby at_289) rfl (L' := #[.val (.int p0), .val (.int p1), .val (.int p2), .val (.int p3), .val (.int (3 : Int32)), .val (.int (2 : Int32)), .val (.int (2 : Int32)), .val (.int ld), .val (.ref b246), .val (.ref b253), .val (.int i257), .val (.int i258), .val (.ref b303), .val (.ref b309), .unset, .unset, .unset, .unset, .unset, .unset, .unset, .unset, .unset, .unset]) rfl (pc' := 291) rfl ?_
  refine R.aload X309 hx (hb hby at_291) rfl rfl (pc' := 293) rfl ?_
  refine R.iconst X309 hx (hb hby at_293) (v := (0 : Int32)) (by decide) (pc' := 294) rfl ?_
  refine R.iload X309 hx (hb hby at_294) rfl (pc' := 296) rfl ?_
  refine R.ifNo X309 hx (hb hby at_296) (tlt (by decide : (0 : Int32) < (2 : Int32))).2.2.2 (pc' := 299) rfl ?_
  refine R.iload X309 hx (hb hby at_299) rfl (pc' := 301) rfl ?_
  refine R.goto X309 hx (hb hby at_301) (by decide) (pc' := 305) (by decide) ?_
  refine R.iastore X309 hx hZ e309 V_b309 (⟨by decide, by decide⟩ : ¬ (0 : Int32) < 0 ∧ (0 : Int32) < (2 : Int32)) (hb hby at_305) (pc' := 306) rfl ?_; intro T310 h310 X310 e310 W310 V310
  have V_b246 := V_b246.other W310 ne_b246_b309
  have V_b253 := V_b253.other W310 ne_b253_b309
  have V_b303 := V_b303.other W310 ne_b303_b309
  have V_b309 : Arh Z h310 b309 k309 .int (2 : Int32) [((0 : Int32), (.int i257))] [] (.int (0 : Int32)) := V310
  have N310 := Fr.snoc X310 N308 g_b309
  have K310 : Keep h0 h310 [] := K309.wr W310 (Or.inr sz_b309)
  have Z310 : n0 ≤ h310.size := Nat.le_trans Z309 (Keep.of_wr W310).1
  refine R.aload X310 hx (hb hby at_306) rfl rfl (pc' := 308) rfl ?_
  refine R.iconst X310 hx (hb hby at_308) (v := (1 : Int32)) (by decide) (pc' := 309) rfl ?_
  refine R.iload X310 hx (hb hby at_309) rfl (pc' := 311) rfl ?_
  refine R.iconst X310 hx (hb hby at_311) (v := (1 : Int32)) (by decide) (pc' := 312) rfl ?_
  refine R.icmpNo X310 hx (hb hby at_312) (tlt (by decide : (1 : Int32) < (2 : Int32))).2.2.2 (pc' := 315) rfl ?_
  refine R.iload X310 hx (hb hby at_315) rfl (pc' := 317) rfl ?_
  refine R.goto X310 hx (hb hby at_317) (by decide) (pc' := 321) (by decide) ?_
  refine R.iastore X310 hx hZ e310 V_b309 (⟨by decide, by decide⟩ : ¬ (1 : Int32) < 0 ∧ (1 : Int32) < (2 : Int32)) (hb hby at_321) (pc' := 322) rfl ?_; intro T311 h311 X311 e311 W311 V311
  have V_b246 := V_b246.other W311 ne_b246_b309
  have V_b253 := V_b253.other W311 ne_b253_b309
  have V_b303 := V_b303.other W311 ne_b303_b309
  have V_b309 : Arh Z h311 b309 k309 .int (2 : Int32) [((1 : Int32), (.int i258)), ((0 : Int32), (.int i257))] [] (.int (0 : Int32)) := V311
  have N311 := Fr.snoc X311 N310 g_b309
  have K311 : Keep h0 h311 [] := K310.wr W311 (Or.inr sz_b309)
  have Z311 : n0 ≤ h311.size := Nat.le_trans Z310 (Keep.of_wr W311).1
  refine R.iload X311 hx (hb hby at_322) rfl (pc' := 324) rfl ?_
  refine R.iload X311 hx (hb hby at_324) rfl (pc' := 326) rfl ?_
  refine R.iadd X311 hx (hb hby at_326) (v := (4 : Int32)) (by decide) (pc' := 327) rfl ?_
  refine R.istore X311 hx (hb hby at_327) (L' := #[.val (.int p0), .val (.int p1), .val (.int p2), .val (.int p3), .val (.int (3 : Int32)), .val (.int (2 : Int32)), .val (.int (2 : Int32)), .val (.int ld), .val (.ref b246), .val (.ref b253), .val (.int i257), .val (.int i258), .val (.ref b303), .val (.ref b309), .val (.int (4 : Int32)), .unset, .unset, .unset, .unset, .unset, .unset, .unset, .unset, .unset]) rfl (pc' := 329) rfl ?_
  refine R.aload X311 hx (hb hby at_329) rfl rfl (pc' := 331) rfl ?_
  refine R.aload X311 hx (hb hby at_331) rfl rfl (pc' := 333) rfl ?_
  refine R.aload X311 hx (hb hby at_333) rfl rfl (pc' := 335) rfl ?_
  refine R.iconst X311 hx (hb hby at_335) (v := (0 : Int32)) (by decide) (pc' := 336) rfl ?_
  refine R.callS X311 hx hZ (y := mY3) hown w_10 w_11 w_8 w_12 (by decide) e311 (rmcf0 l Z aZ hw [] b303 b246 b309 k303 k246 k309 [((2 : Int32), (.int (0 : Int32))), ((1 : Int32), (.int i306)), ((0 : Int32), (.int i304))] [((2 : Int32), (.int ld)), ((2 : Int32), (.int (0 : Int32))), ((1 : Int32), (.int i249)), ((0 : Int32), (.int i247))] [((1 : Int32), (.int i258)), ((0 : Int32), (.int i257))] i304 i306 (0 : Int32) i247 i249 ld i257 i258 h311 n0 Z311 V_b303 V_b246 V_b309 (getH_miss (by decide) (by decide) (getH_miss (by decide) (by decide) (getH_hit (by decide) (rfl)))) (getH_miss (by decide) (by decide) (getH_hit (by decide) (rfl))) (getH_hit (by decide) (rfl)) (getH_miss (by decide) (by decide) (getH_miss (by decide) (by decide) (getH_miss (by decide) (by decide) (getH_hit (by decide) (rfl))))) (getH_miss (by decide) (by decide) (getH_miss (by decide) (by decide) (getH_hit (by decide) (rfl)))) (getH_hit (by decide) (rfl)) (getH_miss (by decide) (by decide) (getH_hit (by decide) (rfl))) (getH_hit (by decide) (rfl))) (by decide) (W := 0) (Nat.le_of_eq rfl) (by decide) (by rw [hml]; rfl) (lenOf pd_3 rfl) rfl (hb hby at_336) (pc' := 339) rfl (by decide) (by decide) ?_; intro v312 T312 L312 X312 hQ312
  obtain ⟨rfl, N312q, e312⟩ := hQ312
  have N312 := Fr.app N311 N312q
  show Rn p e below (T312.setTop (mkF m 339 #[.val (.int p0), .val (.int p1), .val (.int p2), .val (.int p3), .val (.int (3 : Int32)), .val (.int (2 : Int32)), .val (.int (2 : Int32)), .val (.int ld), .val (.ref b246), .val (.ref b253), .val (.int i257), .val (.int i258), .val (.ref b303), .val (.ref b309), .val (.int (4 : Int32)), .unset, .unset, .unset, .unset, .unset, .unset, .unset, .unset, .unset] [(.int ((((i304 * i247) + (i306 * (0 : Int32))) + ((0 : Int32) * (0 : Int32))) + i257))])) G
  generalize hi313 : ((((i304 * i247) + (i306 * (0 : Int32))) + ((0 : Int32) * (0 : Int32))) + i257) = i313
  refine R.istore X312 hx (hb hby at_339) (L' := #[.val (.int p0), .val (.int p1), .val (.int p2), .val (.int p3), .val (.int (3 : Int32)), .val (.int (2 : Int32)), .val (.int (2 : Int32)), .val (.int ld), .val (.ref b246), .val (.ref b253), .val (.int i257), .val (.int i258), .val (.ref b303), .val (.ref b309), .val (.int (4 : Int32)), .val (.int i313), .unset, .unset, .unset, .unset, .unset, .unset, .unset, .unset]) rfl (pc' := 341) rfl ?_
  refine R.aload X312 hx (hb hby at_341) rfl rfl (pc' := 343) rfl ?_
  refine R.aload X312 hx (hb hby at_343) rfl rfl (pc' := 345) rfl ?_
  refine R.aload X312 hx (hb hby at_345) rfl rfl (pc' := 347) rfl ?_
  refine R.iconst X312 hx (hb hby at_347) (v := (1 : Int32)) (by decide) (pc' := 348) rfl ?_
  refine R.callS X312 hx hZ (y := mY3) hown w_10 w_11 w_8 w_12 (by decide) e312 (rmcf1 l Z aZ hw [] b303 b246 b309 k303 k246 k309 [((2 : Int32), (.int (0 : Int32))), ((1 : Int32), (.int i306)), ((0 : Int32), (.int i304))] [((2 : Int32), (.int ld)), ((2 : Int32), (.int (0 : Int32))), ((1 : Int32), (.int i249)), ((0 : Int32), (.int i247))] [((1 : Int32), (.int i258)), ((0 : Int32), (.int i257))] i304 i306 (0 : Int32) i247 i249 ld i257 i258 h311 n0 Z311 V_b303 V_b246 V_b309 (getH_miss (by decide) (by decide) (getH_miss (by decide) (by decide) (getH_hit (by decide) (rfl)))) (getH_miss (by decide) (by decide) (getH_hit (by decide) (rfl))) (getH_hit (by decide) (rfl)) (getH_miss (by decide) (by decide) (getH_miss (by decide) (by decide) (getH_miss (by decide) (by decide) (getH_hit (by decide) (rfl))))) (getH_miss (by decide) (by decide) (getH_miss (by decide) (by decide) (getH_hit (by decide) (rfl)))) (getH_hit (by decide) (rfl)) (getH_miss (by decide) (by decide) (getH_hit (by decide) (rfl))) (getH_hit (by decide) (rfl))) (by decide) (W := 0) (Nat.le_of_eq rfl) (by decide) (by rw [hml]; rfl) (lenOf pd_3 rfl) rfl (hb hby at_348) (pc' := 351) rfl (by decide) (by decide) ?_; intro v314 T314 L314 X314 hQ314
  obtain ⟨rfl, N314q, e314⟩ := hQ314
  have N314 := Fr.app N312 N314q
  show Rn p e below (T314.setTop (mkF m 351 #[.val (.int p0), .val (.int p1), .val (.int p2), .val (.int p3), .val (.int (3 : Int32)), .val (.int (2 : Int32)), .val (.int (2 : Int32)), .val (.int ld), .val (.ref b246), .val (.ref b253), .val (.int i257), .val (.int i258), .val (.ref b303), .val (.ref b309), .val (.int (4 : Int32)), .val (.int i313), .unset, .unset, .unset, .unset, .unset, .unset, .unset, .unset] [(.int ((((i304 * i249) + (i306 * i247)) + ((0 : Int32) * (0 : Int32))) + i258))])) G
  generalize hi315 : ((((i304 * i249) + (i306 * i247)) + ((0 : Int32) * (0 : Int32))) + i258) = i315
  refine R.istore X314 hx (hb hby at_351) (L' := #[.val (.int p0), .val (.int p1), .val (.int p2), .val (.int p3), .val (.int (3 : Int32)), .val (.int (2 : Int32)), .val (.int (2 : Int32)), .val (.int ld), .val (.ref b246), .val (.ref b253), .val (.int i257), .val (.int i258), .val (.ref b303), .val (.ref b309), .val (.int (4 : Int32)), .val (.int i313), .val (.int i315), .unset, .unset, .unset, .unset, .unset, .unset, .unset]) rfl (pc' := 353) rfl ?_
  refine R.aload X314 hx (hb hby at_353) rfl rfl (pc' := 355) rfl ?_
  refine R.aload X314 hx (hb hby at_355) rfl rfl (pc' := 357) rfl ?_
  refine R.aload X314 hx (hb hby at_357) rfl rfl (pc' := 359) rfl ?_
  refine R.iconst X314 hx (hb hby at_359) (v := (2 : Int32)) (by decide) (pc' := 360) rfl ?_
  refine R.callS X314 hx hZ (y := mY3) hown w_10 w_11 w_8 w_12 (by decide) e314 (rmcf2 l Z aZ hw [] b303 b246 b309 k303 k246 k309 [((2 : Int32), (.int (0 : Int32))), ((1 : Int32), (.int i306)), ((0 : Int32), (.int i304))] [((2 : Int32), (.int ld)), ((2 : Int32), (.int (0 : Int32))), ((1 : Int32), (.int i249)), ((0 : Int32), (.int i247))] [((1 : Int32), (.int i258)), ((0 : Int32), (.int i257))] i304 i306 (0 : Int32) i247 i249 ld i257 i258 h311 n0 Z311 V_b303 V_b246 V_b309 (getH_miss (by decide) (by decide) (getH_miss (by decide) (by decide) (getH_hit (by decide) (rfl)))) (getH_miss (by decide) (by decide) (getH_hit (by decide) (rfl))) (getH_hit (by decide) (rfl)) (getH_miss (by decide) (by decide) (getH_miss (by decide) (by decide) (getH_miss (by decide) (by decide) (getH_hit (by decide) (rfl))))) (getH_miss (by decide) (by decide) (getH_miss (by decide) (by decide) (getH_hit (by decide) (rfl)))) (getH_hit (by decide) (rfl)) (getH_miss (by decide) (by decide) (getH_hit (by decide) (rfl))) (getH_hit (by decide) (rfl))) (by decide) (W := 0) (Nat.le_of_eq rfl) (by decide) (by rw [hml]; rfl) (lenOf pd_3 rfl) rfl (hb hby at_360) (pc' := 363) rfl (by decide) (by decide) ?_; intro v316 T316 L316 X316 hQ316
  obtain ⟨rfl, N316q, e316⟩ := hQ316
  have N316 := Fr.app N314 N316q
  show Rn p e below (T316.setTop (mkF m 363 #[.val (.int p0), .val (.int p1), .val (.int p2), .val (.int p3), .val (.int (3 : Int32)), .val (.int (2 : Int32)), .val (.int (2 : Int32)), .val (.int ld), .val (.ref b246), .val (.ref b253), .val (.int i257), .val (.int i258), .val (.ref b303), .val (.ref b309), .val (.int (4 : Int32)), .val (.int i313), .val (.int i315), .unset, .unset, .unset, .unset, .unset, .unset, .unset] [(.int ((((i304 * ld) + (i306 * i249)) + ((0 : Int32) * i247)) + (0 : Int32)))])) G
  generalize hi317 : ((((i304 * ld) + (i306 * i249)) + ((0 : Int32) * i247)) + (0 : Int32)) = i317
  refine R.istore X316 hx (hb hby at_363) (L' := #[.val (.int p0), .val (.int p1), .val (.int p2), .val (.int p3), .val (.int (3 : Int32)), .val (.int (2 : Int32)), .val (.int (2 : Int32)), .val (.int ld), .val (.ref b246), .val (.ref b253), .val (.int i257), .val (.int i258), .val (.ref b303), .val (.ref b309), .val (.int (4 : Int32)), .val (.int i313), .val (.int i315), .val (.int i317), .unset, .unset, .unset, .unset, .unset, .unset]) rfl (pc' := 365) rfl ?_
  refine R.aload X316 hx (hb hby at_365) rfl rfl (pc' := 367) rfl ?_
  refine R.aload X316 hx (hb hby at_367) rfl rfl (pc' := 369) rfl ?_
  refine R.aload X316 hx (hb hby at_369) rfl rfl (pc' := 371) rfl ?_
  refine R.iconst X316 hx (hb hby at_371) (v := (3 : Int32)) (by decide) (pc' := 372) rfl ?_
  refine R.callS X316 hx hZ (y := mY3) hown w_10 w_11 w_8 w_12 (by decide) e316 (rmcf3 l Z aZ hw [] b303 b246 b309 k303 k246 k309 [((2 : Int32), (.int (0 : Int32))), ((1 : Int32), (.int i306)), ((0 : Int32), (.int i304))] [((2 : Int32), (.int ld)), ((2 : Int32), (.int (0 : Int32))), ((1 : Int32), (.int i249)), ((0 : Int32), (.int i247))] [((1 : Int32), (.int i258)), ((0 : Int32), (.int i257))] i304 i306 (0 : Int32) i247 i249 ld i257 i258 h311 n0 Z311 V_b303 V_b246 V_b309 (getH_miss (by decide) (by decide) (getH_miss (by decide) (by decide) (getH_hit (by decide) (rfl)))) (getH_miss (by decide) (by decide) (getH_hit (by decide) (rfl))) (getH_hit (by decide) (rfl)) (getH_miss (by decide) (by decide) (getH_miss (by decide) (by decide) (getH_miss (by decide) (by decide) (getH_hit (by decide) (rfl))))) (getH_miss (by decide) (by decide) (getH_miss (by decide) (by decide) (getH_hit (by decide) (rfl)))) (getH_hit (by decide) (rfl)) (getH_miss (by decide) (by decide) (getH_hit (by decide) (rfl))) (getH_hit (by decide) (rfl))) (by decide) (W := 0) (Nat.le_of_eq rfl) (by decide) (by rw [hml]; rfl) (lenOf pd_3 rfl) rfl (hb hby at_372) (pc' := 375) rfl (by decide) (by decide) ?_; intro v318 T318 L318 X318 hQ318
  obtain ⟨rfl, N318q, e318⟩ := hQ318
  have N318 := Fr.app N316 N318q
  show Rn p e below (T318.setTop (mkF m 375 #[.val (.int p0), .val (.int p1), .val (.int p2), .val (.int p3), .val (.int (3 : Int32)), .val (.int (2 : Int32)), .val (.int (2 : Int32)), .val (.int ld), .val (.ref b246), .val (.ref b253), .val (.int i257), .val (.int i258), .val (.ref b303), .val (.ref b309), .val (.int (4 : Int32)), .val (.int i313), .val (.int i315), .val (.int i317), .unset, .unset, .unset, .unset, .unset, .unset] [(.int ((((i304 * (0 : Int32)) + (i306 * ld)) + ((0 : Int32) * i249)) + (0 : Int32)))])) G
  generalize hi319 : ((((i304 * (0 : Int32)) + (i306 * ld)) + ((0 : Int32) * i249)) + (0 : Int32)) = i319
  refine R.istore X318 hx (hb hby at_375) (L' := #[.val (.int p0), .val (.int p1), .val (.int p2), .val (.int p3), .val (.int (3 : Int32)), .val (.int (2 : Int32)), .val (.int (2 : Int32)), .val (.int ld), .val (.ref b246), .val (.ref b253), .val (.int i257), .val (.int i258), .val (.ref b303), .val (.ref b309), .val (.int (4 : Int32)), .val (.int i313), .val (.int i315), .val (.int i317), .val (.int i319), .unset, .unset, .unset, .unset, .unset]) rfl (pc' := 377) rfl ?_
  refine R.aload X318 hx (hb hby at_377) rfl rfl (pc' := 379) rfl ?_
  refine R.aload X318 hx (hb hby at_379) rfl rfl (pc' := 381) rfl ?_
  refine R.aload X318 hx (hb hby at_381) rfl rfl (pc' := 383) rfl ?_
  refine R.iconst X318 hx (hb hby at_383) (v := (4 : Int32)) (by decide) (pc' := 384) rfl ?_
  refine R.callS X318 hx hZ (y := mY3) hown w_10 w_11 w_8 w_12 (by decide) e318 (rmcf4 l Z aZ hw [] b303 b246 b309 k303 k246 k309 [((2 : Int32), (.int (0 : Int32))), ((1 : Int32), (.int i306)), ((0 : Int32), (.int i304))] [((2 : Int32), (.int ld)), ((2 : Int32), (.int (0 : Int32))), ((1 : Int32), (.int i249)), ((0 : Int32), (.int i247))] [((1 : Int32), (.int i258)), ((0 : Int32), (.int i257))] i304 i306 (0 : Int32) i247 i249 ld i257 i258 h311 n0 Z311 V_b303 V_b246 V_b309 (getH_miss (by decide) (by decide) (getH_miss (by decide) (by decide) (getH_hit (by decide) (rfl)))) (getH_miss (by decide) (by decide) (getH_hit (by decide) (rfl))) (getH_hit (by decide) (rfl)) (getH_miss (by decide) (by decide) (getH_miss (by decide) (by decide) (getH_miss (by decide) (by decide) (getH_hit (by decide) (rfl))))) (getH_miss (by decide) (by decide) (getH_miss (by decide) (by decide) (getH_hit (by decide) (rfl)))) (getH_hit (by decide) (rfl)) (getH_miss (by decide) (by decide) (getH_hit (by decide) (rfl))) (getH_hit (by decide) (rfl))) (by decide) (W := 0) (Nat.le_of_eq rfl) (by decide) (by rw [hml]; rfl) (lenOf pd_3 rfl) rfl (hb hby at_384) (pc' := 387) rfl (by decide) (by decide) ?_; intro v320 T320 L320 X320 hQ320
  obtain ⟨rfl, N320q, e320⟩ := hQ320
  have N320 := Fr.app N318 N320q
  show Rn p e below (T320.setTop (mkF m 387 #[.val (.int p0), .val (.int p1), .val (.int p2), .val (.int p3), .val (.int (3 : Int32)), .val (.int (2 : Int32)), .val (.int (2 : Int32)), .val (.int ld), .val (.ref b246), .val (.ref b253), .val (.int i257), .val (.int i258), .val (.ref b303), .val (.ref b309), .val (.int (4 : Int32)), .val (.int i313), .val (.int i315), .val (.int i317), .val (.int i319), .unset, .unset, .unset, .unset, .unset] [(.int ((((i304 * (0 : Int32)) + (i306 * (0 : Int32))) + ((0 : Int32) * ld)) + (0 : Int32)))])) G
  generalize hi321 : ((((i304 * (0 : Int32)) + (i306 * (0 : Int32))) + ((0 : Int32) * ld)) + (0 : Int32)) = i321
  refine R.istore X320 hx (hb hby at_387) (L' := #[.val (.int p0), .val (.int p1), .val (.int p2), .val (.int p3), .val (.int (3 : Int32)), .val (.int (2 : Int32)), .val (.int (2 : Int32)), .val (.int ld), .val (.ref b246), .val (.ref b253), .val (.int i257), .val (.int i258), .val (.ref b303), .val (.ref b309), .val (.int (4 : Int32)), .val (.int i313), .val (.int i315), .val (.int i317), .val (.int i319), .val (.int i321), .unset, .unset, .unset, .unset]) rfl (pc' := 389) rfl ?_
  have tc0 := own_cf (b_i304 : i304.toInt.natAbs ≤ 128) (b_i247 : i247.toInt.natAbs ≤ 128) (b_i306 : i306.toInt.natAbs ≤ 128) (own_z0 : (0 : Int32).toInt.natAbs ≤ 128) (own_z0 : (0 : Int32).toInt.natAbs ≤ 128) (own_z0 : (0 : Int32).toInt.natAbs ≤ 128) (b_i257 : i257.toInt.natAbs ≤ 128) hi313
  simp only [own_zi, Int.zero_mul, Int.mul_zero, Int.add_zero, Int.zero_add] at tc0
  have tc1 := own_cf (b_i304 : i304.toInt.natAbs ≤ 128) (b_i249 : i249.toInt.natAbs ≤ 128) (b_i306 : i306.toInt.natAbs ≤ 128) (b_i247 : i247.toInt.natAbs ≤ 128) (own_z0 : (0 : Int32).toInt.natAbs ≤ 128) (own_z0 : (0 : Int32).toInt.natAbs ≤ 128) (b_i258 : i258.toInt.natAbs ≤ 128) hi315
  simp only [own_zi, Int.zero_mul, Int.mul_zero, Int.add_zero, Int.zero_add] at tc1
  have tc2 := own_cf (b_i304 : i304.toInt.natAbs ≤ 128) (bl : ld.toInt.natAbs ≤ 128) (b_i306 : i306.toInt.natAbs ≤ 128) (b_i249 : i249.toInt.natAbs ≤ 128) (own_z0 : (0 : Int32).toInt.natAbs ≤ 128) (b_i247 : i247.toInt.natAbs ≤ 128) (own_z0 : (0 : Int32).toInt.natAbs ≤ 128) hi317
  simp only [own_zi, Int.zero_mul, Int.mul_zero, Int.add_zero, Int.zero_add] at tc2
  have tc3 := own_cf (b_i304 : i304.toInt.natAbs ≤ 128) (own_z0 : (0 : Int32).toInt.natAbs ≤ 128) (b_i306 : i306.toInt.natAbs ≤ 128) (bl : ld.toInt.natAbs ≤ 128) (own_z0 : (0 : Int32).toInt.natAbs ≤ 128) (b_i249 : i249.toInt.natAbs ≤ 128) (own_z0 : (0 : Int32).toInt.natAbs ≤ 128) hi319
  simp only [own_zi, Int.zero_mul, Int.mul_zero, Int.add_zero, Int.zero_add] at tc3
  have tc4 := own_cf (b_i304 : i304.toInt.natAbs ≤ 128) (own_z0 : (0 : Int32).toInt.natAbs ≤ 128) (b_i306 : i306.toInt.natAbs ≤ 128) (own_z0 : (0 : Int32).toInt.natAbs ≤ 128) (own_z0 : (0 : Int32).toInt.natAbs ≤ 128) (bl : ld.toInt.natAbs ≤ 128) (own_z0 : (0 : Int32).toInt.natAbs ≤ 128) hi321
  simp only [own_zi, Int.zero_mul, Int.mul_zero, Int.add_zero, Int.zero_add] at tc4
  refine R.iload X320 hx (hb hby at_389) rfl (pc' := 391) rfl ?_
  refine R.newP X320 hx hZ (ty := .double) rfl w_1 e320 (by decide) (cap := 4) (by decide) (by decide) (ad := "[D") (by decide) (hb hby at_391) (pc' := 393) rfl (by decide) (by decide) ?_; intro T322 h322 b322 k322 g322 X322 e322 E322 EE322 AA322
  have g_b322 : n0 ≤ b322 := Nat.le_trans Z311 (Nat.le_of_eq g322.symm)
  have sz_b322 : h0.size ≤ b322 := Nat.le_trans K311.1 (Nat.le_of_eq g322.symm)
  have ne_b246_b322 : b246 ≠ b322 := Nat.ne_of_lt (Nat.lt_of_lt_of_le V_b246.lt (Nat.le_of_eq g322.symm))
  have ne_b253_b322 : b253 ≠ b322 := Nat.ne_of_lt (Nat.lt_of_lt_of_le V_b253.lt (Nat.le_of_eq g322.symm))
  have ne_b303_b322 : b303 ≠ b322 := Nat.ne_of_lt (Nat.lt_of_lt_of_le V_b303.lt (Nat.le_of_eq g322.symm))
  have ne_b309_b322 : b309 ≠ b322 := Nat.ne_of_lt (Nat.lt_of_lt_of_le V_b309.lt (Nat.le_of_eq g322.symm))
  have K322 : Keep h0 h322 [] := K311.ext E322
  have Z322 : n0 ≤ h322.size := Nat.le_trans Z311 E322.1
  have V_b246 := V_b246.ext E322
  have V_b253 := V_b253.ext E322
  have V_b303 := V_b303.ext E322
  have V_b309 := V_b309.ext E322
  have E_b322 : Exa Z h322 b322 "[D" := EE322
  have V_b322 : Arh Z h322 b322 k322 .double (4 : Int32) [] [] (.double (0 : UInt64)) := AA322
  refine R.astore X322 hx (hb hby at_393) rfl (L' := #[.val (.int p0), .val (.int p1), .val (.int p2), .val (.int p3), .val (.int (3 : Int32)), .val (.int (2 : Int32)), .val (.int (2 : Int32)), .val (.int ld), .val (.ref b246), .val (.ref b253), .val (.int i257), .val (.int i258), .val (.ref b303), .val (.ref b309), .val (.int (4 : Int32)), .val (.int i313), .val (.int i315), .val (.int i317), .val (.int i319), .val (.int i321), .val (.ref b322), .unset, .unset, .unset]) rfl (pc' := 395) rfl ?_
  refine R.iload X322 hx (hb hby at_395) rfl (pc' := 397) rfl ?_
  refine R.ifNo X322 hx (hb hby at_397) (tlt (by decide : (0 : Int32) < (4 : Int32))).2.2.2 (pc' := 400) rfl ?_
  refine R.aload X322 hx (hb hby at_400) rfl rfl (pc' := 402) rfl ?_
  refine R.iconst X322 hx (hb hby at_402) (v := (0 : Int32)) (by decide) (pc' := 403) rfl ?_
  refine R.iload X322 hx (hb hby at_403) rfl (pc' := 405) rfl ?_
  refine R.i2d X322 hx (hb hby at_405) (pc' := 406) rfl ?_
  refine R.dastore X322 hx hZ e322 V_b322 (⟨by decide, by decide⟩ : ¬ (0 : Int32) < 0 ∧ (0 : Int32) < (4 : Int32)) (hb hby at_406) (pc' := 407) rfl ?_; intro T323 h323 X323 e323 W323 V323
  have V_b246 := V_b246.other W323 ne_b246_b322
  have V_b253 := V_b253.other W323 ne_b253_b322
  have V_b303 := V_b303.other W323 ne_b303_b322
  have V_b309 := V_b309.other W323 ne_b309_b322
  have E_b322 := E_b322.wr W323
  have V_b322 : Arh Z h323 b322 k322 .double (4 : Int32) [((0 : Int32), (.double (FP.i2d i313)))] [] (.double (0 : UInt64)) := V323
  have N323 := Fr.snoc X323 N320 g_b322
  have K323 : Keep h0 h323 [] := K322.wr W323 (Or.inr sz_b322)
  have Z323 : n0 ≤ h323.size := Nat.le_trans Z322 (Keep.of_wr W323).1
  refine R.iload X323 hx (hb hby at_407) rfl (pc' := 409) rfl ?_
  refine R.iconst X323 hx (hb hby at_409) (v := (1 : Int32)) (by decide) (pc' := 410) rfl ?_
  refine R.icmpNo X323 hx (hb hby at_410) (tlt (by decide : (1 : Int32) < (4 : Int32))).2.2.2 (pc' := 413) rfl ?_
  refine R.aload X323 hx (hb hby at_413) rfl rfl (pc' := 415) rfl ?_
  refine R.iconst X323 hx (hb hby at_415) (v := (1 : Int32)) (by decide) (pc' := 416) rfl ?_
  refine R.iload X323 hx (hb hby at_416) rfl (pc' := 418) rfl ?_
  refine R.i2d X323 hx (hb hby at_418) (pc' := 419) rfl ?_
  refine R.dastore X323 hx hZ e323 V_b322 (⟨by decide, by decide⟩ : ¬ (1 : Int32) < 0 ∧ (1 : Int32) < (4 : Int32)) (hb hby at_419) (pc' := 420) rfl ?_; intro T324 h324 X324 e324 W324 V324
  have V_b246 := V_b246.other W324 ne_b246_b322
  have V_b253 := V_b253.other W324 ne_b253_b322
  have V_b303 := V_b303.other W324 ne_b303_b322
  have V_b309 := V_b309.other W324 ne_b309_b322
  have E_b322 := E_b322.wr W324
  have V_b322 : Arh Z h324 b322 k322 .double (4 : Int32) [((1 : Int32), (.double (FP.i2d i315))), ((0 : Int32), (.double (FP.i2d i313)))] [] (.double (0 : UInt64)) := V324
  have N324 := Fr.snoc X324 N323 g_b322
  have K324 : Keep h0 h324 [] := K323.wr W324 (Or.inr sz_b322)
  have Z324 : n0 ≤ h324.size := Nat.le_trans Z323 (Keep.of_wr W324).1
  refine R.iload X324 hx (hb hby at_420) rfl (pc' := 422) rfl ?_
  refine R.iconst X324 hx (hb hby at_422) (v := (2 : Int32)) (by decide) (pc' := 423) rfl ?_
  refine R.icmpNo X324 hx (hb hby at_423) (tlt (by decide : (2 : Int32) < (4 : Int32))).2.2.2 (pc' := 426) rfl ?_
  refine R.aload X324 hx (hb hby at_426) rfl rfl (pc' := 428) rfl ?_
  refine R.iconst X324 hx (hb hby at_428) (v := (2 : Int32)) (by decide) (pc' := 429) rfl ?_
  refine R.iload X324 hx (hb hby at_429) rfl (pc' := 431) rfl ?_
  refine R.i2d X324 hx (hb hby at_431) (pc' := 432) rfl ?_
  refine R.dastore X324 hx hZ e324 V_b322 (⟨by decide, by decide⟩ : ¬ (2 : Int32) < 0 ∧ (2 : Int32) < (4 : Int32)) (hb hby at_432) (pc' := 433) rfl ?_; intro T325 h325 X325 e325 W325 V325
  have V_b246 := V_b246.other W325 ne_b246_b322
  have V_b253 := V_b253.other W325 ne_b253_b322
  have V_b303 := V_b303.other W325 ne_b303_b322
  have V_b309 := V_b309.other W325 ne_b309_b322
  have E_b322 := E_b322.wr W325
  have V_b322 : Arh Z h325 b322 k322 .double (4 : Int32) [((2 : Int32), (.double (FP.i2d i317))), ((1 : Int32), (.double (FP.i2d i315))), ((0 : Int32), (.double (FP.i2d i313)))] [] (.double (0 : UInt64)) := V325
  have N325 := Fr.snoc X325 N324 g_b322
  have K325 : Keep h0 h325 [] := K324.wr W325 (Or.inr sz_b322)
  have Z325 : n0 ≤ h325.size := Nat.le_trans Z324 (Keep.of_wr W325).1
  refine R.iload X325 hx (hb hby at_433) rfl (pc' := 435) rfl ?_
  refine R.iconst X325 hx (hb hby at_435) (v := (3 : Int32)) (by decide) (pc' := 436) rfl ?_
  refine R.icmpNo X325 hx (hb hby at_436) (tlt (by decide : (3 : Int32) < (4 : Int32))).2.2.2 (pc' := 439) rfl ?_
  refine R.aload X325 hx (hb hby at_439) rfl rfl (pc' := 441) rfl ?_
  refine R.iconst X325 hx (hb hby at_441) (v := (3 : Int32)) (by decide) (pc' := 442) rfl ?_
  refine R.iload X325 hx (hb hby at_442) rfl (pc' := 444) rfl ?_
  refine R.i2d X325 hx (hb hby at_444) (pc' := 445) rfl ?_
  refine R.dastore X325 hx hZ e325 V_b322 (⟨by decide, by decide⟩ : ¬ (3 : Int32) < 0 ∧ (3 : Int32) < (4 : Int32)) (hb hby at_445) (pc' := 446) rfl ?_; intro T326 h326 X326 e326 W326 V326
  have V_b246 := V_b246.other W326 ne_b246_b322
  have V_b253 := V_b253.other W326 ne_b253_b322
  have V_b303 := V_b303.other W326 ne_b303_b322
  have V_b309 := V_b309.other W326 ne_b309_b322
  have E_b322 := E_b322.wr W326
  have V_b322 : Arh Z h326 b322 k322 .double (4 : Int32) [((3 : Int32), (.double (FP.i2d i319))), ((2 : Int32), (.double (FP.i2d i317))), ((1 : Int32), (.double (FP.i2d i315))), ((0 : Int32), (.double (FP.i2d i313)))] [] (.double (0 : UInt64)) := V326
  have N326 := Fr.snoc X326 N325 g_b322
  have K326 : Keep h0 h326 [] := K325.wr W326 (Or.inr sz_b322)
  have Z326 : n0 ≤ h326.size := Nat.le_trans Z325 (Keep.of_wr W326).1
  refine R.iload X326 hx (hb hby at_446) rfl (pc' := 448) rfl ?_
  refine R.iconst X326 hx (hb hby at_448) (v := (4 : Int32)) (by decide) (pc' := 449) rfl ?_
  refine R.icmpYes X326 hx (hb hby at_449) (flt (by decide : ¬ ((4 : Int32) < (4 : Int32)))).2.2.2 (by decide) (pc' := 459) (by decide) ?_
  refine R.aload X326 hx (hb hby at_459) rfl rfl (pc' := 461) rfl ?_
  refine R.aload X326 hx (hb hby at_461) rfl rfl (pc' := 463) rfl ?_
  refine R.callS X326 hx hZ (y := mY1) hown w_2 w_3 w_4 w_5 (by decide) e326 (rmqq32 l Z aZ hw [] b322 b253 k322 k253 [((3 : Int32), (.double (FP.i2d i319))), ((2 : Int32), (.double (FP.i2d i317))), ((1 : Int32), (.double (FP.i2d i315))), ((0 : Int32), (.double (FP.i2d i313)))] [((2 : Int32), (.double (FP.i2d ld))), ((1 : Int32), (.double (FP.i2d i249))), ((0 : Int32), (.double (FP.i2d i247)))] (FP.i2d i313) (FP.i2d i315) (FP.i2d i317) (FP.i2d i319) (FP.i2d i247) (FP.i2d i249) (FP.i2d ld) i313.toInt i315.toInt i317.toInt i319.toInt i247.toInt i249.toInt ld.toInt i304.toInt i306.toInt i257.toInt i258.toInt h326 n0 Z326 V_b322 E_b322 V_b253 (getH_miss (by decide) (by decide) (getH_miss (by decide) (by decide) (getH_miss (by decide) (by decide) (getH_hit (by decide) (rfl))))) (Dy.i2d _) (getH_miss (by decide) (by decide) (getH_miss (by decide) (by decide) (getH_hit (by decide) (rfl)))) (Dy.i2d _) (getH_miss (by decide) (by decide) (getH_hit (by decide) (rfl))) (Dy.i2d _) (getH_hit (by decide) (rfl)) (Dy.i2d _) (getH_miss (by decide) (by decide) (getH_miss (by decide) (by decide) (getH_hit (by decide) (rfl)))) (Dy.i2d _) (getH_miss (by decide) (by decide) (getH_hit (by decide) (rfl))) (Dy.i2d _) (getH_hit (by decide) (rfl)) (Dy.i2d _) (tc0) (tc1) (tc2) (tc3) (nl) (b_i247) (b_i249) (bl) (b_i304) (b_i306) (b_i257) (b_i258)) (by decide) (W := 0) (Nat.le_of_eq rfl) (by decide) (by rw [hml]; rfl) (lenOf pd_1 rfl) rfl (hb hby at_463) (pc' := 466) rfl (by decide) (by decide) ?_; intro v327 T327 L327 X327 hQ327
  obtain ⟨r_327, kr_327, hr_327, rfl, N327q, Kc327, P327_0, P327_1, P327_2, P327_3⟩ := hQ327
  have N327 := Fr.app N326 N327q
  generalize e327 : T327.heap = h327 at Kc327 P327_0 P327_1 P327_2 P327_3
  have K327 : Keep h0 h327 [] := K326.trans Kc327 (all0)
  have Z327 : n0 ≤ h327.size := Nat.le_trans Z326 Kc327.1
  have ne_b246_r_327 : b246 ≠ r_327 := Nat.ne_of_lt (Nat.lt_of_lt_of_le V_b246.lt P327_0)
  have ne_b253_r_327 : b253 ≠ r_327 := Nat.ne_of_lt (Nat.lt_of_lt_of_le V_b253.lt P327_0)
  have ne_b303_r_327 : b303 ≠ r_327 := Nat.ne_of_lt (Nat.lt_of_lt_of_le V_b303.lt P327_0)
  have ne_b309_r_327 : b309 ≠ r_327 := Nat.ne_of_lt (Nat.lt_of_lt_of_le V_b309.lt P327_0)
  have ne_b322_r_327 : b322 ≠ r_327 := Nat.ne_of_lt (Nat.lt_of_lt_of_le E_b322.lt P327_0)
  have g_r_327 : n0 ≤ r_327 := Nat.le_trans Z326 P327_0
  have sz_r_327 : h0.size ≤ r_327 := Nat.le_trans K326.1 P327_0
  have V_b246 := V_b246.keep Kc327 nin0
  have V_b253 := V_b253.keep Kc327 nin0
  have V_b303 := V_b303.keep Kc327 nin0
  have V_b309 := V_b309.keep Kc327 nin0
  have E_b322 := E_b322.keep Kc327
  have V_b322 := V_b322.keep Kc327 nin0
  have fresh_327 := P327_0
  have V_r_327 : Arh Z h327 r_327 kr_327 .double (2 : Int32) hr_327 [] (.double (0 : UInt64)) := P327_1
  have V_r_327 : Arh Z h327 r_327 kr_327 .double (2 : Int32) hr_327 [] (.double (0 : UInt64)) := V_r_327
  have c0_327 := P327_2
  have c1_327 := P327_3
  refine R.astore X327 hx (hb hby at_466) rfl (L' := #[.val (.int p0), .val (.int p1), .val (.int p2), .val (.int p3), .val (.int (3 : Int32)), .val (.int (2 : Int32)), .val (.int (2 : Int32)), .val (.int ld), .val (.ref b246), .val (.ref b253), .val (.int i257), .val (.int i258), .val (.ref b303), .val (.ref b309), .val (.int (4 : Int32)), .val (.int i313), .val (.int i315), .val (.int i317), .val (.int i319), .val (.int i321), .val (.ref b322), .val (.ref r_327), .unset, .unset]) rfl (pc' := 468) rfl ?_
  refine R.aload X327 hx (hb hby at_468) rfl rfl (pc' := 470) rfl ?_
  refine R.alen X327 hx hZ e327 V_r_327 (hb hby at_470) (pc' := 471) rfl ?_
  refine R.iload X327 hx (hb hby at_471) rfl (pc' := 473) rfl ?_
  refine R.icmpNo X327 hx (hb hby at_473) (teq (by decide : (2 : Int32) = (2 : Int32))).2 (pc' := 476) rfl ?_
  refine R.aload X327 hx (hb hby at_476) rfl rfl (pc' := 478) rfl ?_
  refine R.iconst X327 hx (hb hby at_478) (v := (0 : Int32)) (by decide) (pc' := 479) rfl ?_
  refine R.aload X327 hx (hb hby at_479) rfl rfl (pc' := 481) rfl ?_
  refine R.callS X327 hx hZ (y := mY4) hown w_25 w_26 w_8 w_27 (by decide) e327 (rm5 l Z aZ hw [] r_327 (0 : Int32) b303 kr_327 (2 : Int32) hr_327 k303 [((2 : Int32), (.int (0 : Int32))), ((1 : Int32), (.int i306)), ((0 : Int32), (.int i304))] i304 h327 n0 Z327 V_r_327 V_b303 (by decide) (getH_miss (by decide) (by decide) (getH_miss (by decide) (by decide) (getH_hit (by decide) (rfl)))) (fun _ => c0_327)) (by decide) (W := 0) (Nat.le_of_eq rfl) (by decide) (by rw [hml]; rfl) (lenOf pd_4 rfl) rfl (hb hby at_481) (pc' := 484) rfl (by decide) (by decide) ?_; intro v328 T328 L328 X328 hQ328
  obtain ⟨rfl, N328q, e328⟩ := hQ328
  have N328 := Fr.app N327 N328q
  refine R.ifNo X328 hx (hb hby at_484) (feq (by decide : ¬ ((1 : Int32) = (0 : Int32)))).1 (pc' := 487) rfl ?_
  refine R.aload X328 hx (hb hby at_487) rfl rfl (pc' := 489) rfl ?_
  refine R.iconst X328 hx (hb hby at_489) (v := (1 : Int32)) (by decide) (pc' := 490) rfl ?_
  refine R.aload X328 hx (hb hby at_490) rfl rfl (pc' := 492) rfl ?_
  refine R.callS X328 hx hZ (y := mY4) hown w_25 w_26 w_8 w_27 (by decide) e328 (rm5 l Z aZ hw [] r_327 (1 : Int32) b303 kr_327 (2 : Int32) hr_327 k303 [((2 : Int32), (.int (0 : Int32))), ((1 : Int32), (.int i306)), ((0 : Int32), (.int i304))] i306 h327 n0 Z327 V_r_327 V_b303 (by decide) (getH_miss (by decide) (by decide) (getH_hit (by decide) (rfl))) (fun _ => c1_327)) (by decide) (W := 0) (Nat.le_of_eq rfl) (by decide) (by rw [hml]; rfl) (lenOf pd_4 rfl) rfl (hb hby at_492) (pc' := 495) rfl (by decide) (by decide) ?_; intro v329 T329 L329 X329 hQ329
  obtain ⟨rfl, N329q, e329⟩ := hQ329
  have N329 := Fr.app N328 N329q
  refine R.ifNo X329 hx (hb hby at_495) (feq (by decide : ¬ ((1 : Int32) = (0 : Int32)))).1 (pc' := 498) rfl ?_
  refine R.aload X329 hx (hb hby at_498) rfl rfl (pc' := 500) rfl ?_
  refine R.iconst X329 hx (hb hby at_500) (v := (2 : Int32)) (by decide) (pc' := 501) rfl ?_
  refine R.aload X329 hx (hb hby at_501) rfl rfl (pc' := 503) rfl ?_
  refine R.callS X329 hx hZ (y := mY4) hown w_25 w_26 w_8 w_27 (by decide) e329 (rm5 l Z aZ hw [] r_327 (2 : Int32) b303 kr_327 (2 : Int32) hr_327 k303 [((2 : Int32), (.int (0 : Int32))), ((1 : Int32), (.int i306)), ((0 : Int32), (.int i304))] (0 : Int32) h327 n0 Z327 V_r_327 V_b303 (by decide) (getH_hit (by decide) (rfl)) (fun q => absurd q (by decide))) (by decide) (W := 0) (Nat.le_of_eq rfl) (by decide) (by rw [hml]; rfl) (lenOf pd_4 rfl) rfl (hb hby at_503) (pc' := 506) rfl (by decide) (by decide) ?_; intro v330 T330 L330 X330 hQ330
  obtain ⟨rfl, N330q, e330⟩ := hQ330
  have N330 := Fr.app N329 N330q
  refine R.ifNo X330 hx (hb hby at_506) (feq (by decide : ¬ ((1 : Int32) = (0 : Int32)))).1 (pc' := 509) rfl ?_
  refine R.iconst X330 hx (hb hby at_509) (v := (1 : Int32)) (by decide) (pc' := 510) rfl ?_
  refine R.goto X330 hx (hb hby at_510) (by decide) (pc' := 514) (by decide) ?_
  refine R.istore X330 hx (hb hby at_514) (L' := #[.val (.int p0), .val (.int p1), .val (.int p2), .val (.int p3), .val (.int (3 : Int32)), .val (.int (2 : Int32)), .val (.int (2 : Int32)), .val (.int ld), .val (.ref b246), .val (.ref b253), .val (.int i257), .val (.int i258), .val (.ref b303), .val (.ref b309), .val (.int (4 : Int32)), .val (.int i313), .val (.int i315), .val (.int i317), .val (.int i319), .val (.int i321), .val (.ref b322), .val (.ref r_327), .val (.int (1 : Int32)), .unset]) rfl (pc' := 516) rfl ?_
  refine R.aload X330 hx (hb hby at_516) rfl rfl (pc' := 518) rfl ?_
  refine R.iconst X330 hx (hb hby at_518) (v := (0 : Int32)) (by decide) (pc' := 519) rfl ?_
  refine R.iload X330 hx (hb hby at_519) rfl (pc' := 521) rfl ?_
  refine R.callS X330 hx hZ (y := mY2) hown w_6 w_7 w_8 w_9 (by decide) e330 (rm2 l Z aZ hw [] b322 (0 : Int32) i313 k322 (4 : Int32) [((3 : Int32), (.double (FP.i2d i319))), ((2 : Int32), (.double (FP.i2d i317))), ((1 : Int32), (.double (FP.i2d i315))), ((0 : Int32), (.double (FP.i2d i313)))] h327 n0 Z327 V_b322 (by decide) (fun _ => getH_miss (by decide) (by decide) (getH_miss (by decide) (by decide) (getH_miss (by decide) (by decide) (getH_hit (by decide) (rfl)))))) (by decide) (W := 0) (Nat.le_of_eq rfl) (by decide) (by rw [hml]; rfl) (lenOf pd_2 rfl) rfl (hb hby at_521) (pc' := 524) rfl (by decide) (by decide) ?_; intro v331 T331 L331 X331 hQ331
  obtain ⟨rfl, N331q, e331⟩ := hQ331
  have N331 := Fr.app N330 N331q
  refine R.ifNo X331 hx (hb hby at_524) (feq (by decide : ¬ ((1 : Int32) = (0 : Int32)))).1 (pc' := 527) rfl ?_
  refine R.aload X331 hx (hb hby at_527) rfl rfl (pc' := 529) rfl ?_
  refine R.iconst X331 hx (hb hby at_529) (v := (1 : Int32)) (by decide) (pc' := 530) rfl ?_
  refine R.iload X331 hx (hb hby at_530) rfl (pc' := 532) rfl ?_
  refine R.callS X331 hx hZ (y := mY2) hown w_6 w_7 w_8 w_9 (by decide) e331 (rm2 l Z aZ hw [] b322 (1 : Int32) i315 k322 (4 : Int32) [((3 : Int32), (.double (FP.i2d i319))), ((2 : Int32), (.double (FP.i2d i317))), ((1 : Int32), (.double (FP.i2d i315))), ((0 : Int32), (.double (FP.i2d i313)))] h327 n0 Z327 V_b322 (by decide) (fun _ => getH_miss (by decide) (by decide) (getH_miss (by decide) (by decide) (getH_hit (by decide) (rfl))))) (by decide) (W := 0) (Nat.le_of_eq rfl) (by decide) (by rw [hml]; rfl) (lenOf pd_2 rfl) rfl (hb hby at_532) (pc' := 535) rfl (by decide) (by decide) ?_; intro v332 T332 L332 X332 hQ332
  obtain ⟨rfl, N332q, e332⟩ := hQ332
  have N332 := Fr.app N331 N332q
  refine R.ifNo X332 hx (hb hby at_535) (feq (by decide : ¬ ((1 : Int32) = (0 : Int32)))).1 (pc' := 538) rfl ?_
  refine R.aload X332 hx (hb hby at_538) rfl rfl (pc' := 540) rfl ?_
  refine R.iconst X332 hx (hb hby at_540) (v := (2 : Int32)) (by decide) (pc' := 541) rfl ?_
  refine R.iload X332 hx (hb hby at_541) rfl (pc' := 543) rfl ?_
  refine R.callS X332 hx hZ (y := mY2) hown w_6 w_7 w_8 w_9 (by decide) e332 (rm2 l Z aZ hw [] b322 (2 : Int32) i317 k322 (4 : Int32) [((3 : Int32), (.double (FP.i2d i319))), ((2 : Int32), (.double (FP.i2d i317))), ((1 : Int32), (.double (FP.i2d i315))), ((0 : Int32), (.double (FP.i2d i313)))] h327 n0 Z327 V_b322 (by decide) (fun _ => getH_miss (by decide) (by decide) (getH_hit (by decide) (rfl)))) (by decide) (W := 0) (Nat.le_of_eq rfl) (by decide) (by rw [hml]; rfl) (lenOf pd_2 rfl) rfl (hb hby at_543) (pc' := 546) rfl (by decide) (by decide) ?_; intro v333 T333 L333 X333 hQ333
  obtain ⟨rfl, N333q, e333⟩ := hQ333
  have N333 := Fr.app N332 N333q
  refine R.ifNo X333 hx (hb hby at_546) (feq (by decide : ¬ ((1 : Int32) = (0 : Int32)))).1 (pc' := 549) rfl ?_
  refine R.aload X333 hx (hb hby at_549) rfl rfl (pc' := 551) rfl ?_
  refine R.iconst X333 hx (hb hby at_551) (v := (3 : Int32)) (by decide) (pc' := 552) rfl ?_
  refine R.iload X333 hx (hb hby at_552) rfl (pc' := 554) rfl ?_
  refine R.callS X333 hx hZ (y := mY2) hown w_6 w_7 w_8 w_9 (by decide) e333 (rm2 l Z aZ hw [] b322 (3 : Int32) i319 k322 (4 : Int32) [((3 : Int32), (.double (FP.i2d i319))), ((2 : Int32), (.double (FP.i2d i317))), ((1 : Int32), (.double (FP.i2d i315))), ((0 : Int32), (.double (FP.i2d i313)))] h327 n0 Z327 V_b322 (by decide) (fun _ => getH_hit (by decide) (rfl))) (by decide) (W := 0) (Nat.le_of_eq rfl) (by decide) (by rw [hml]; rfl) (lenOf pd_2 rfl) rfl (hb hby at_554) (pc' := 557) rfl (by decide) (by decide) ?_; intro v334 T334 L334 X334 hQ334
  obtain ⟨rfl, N334q, e334⟩ := hQ334
  have N334 := Fr.app N333 N334q
  refine R.ifNo X334 hx (hb hby at_557) (feq (by decide : ¬ ((1 : Int32) = (0 : Int32)))).1 (pc' := 560) rfl ?_
  refine R.aload X334 hx (hb hby at_560) rfl rfl (pc' := 562) rfl ?_
  refine R.iconst X334 hx (hb hby at_562) (v := (4 : Int32)) (by decide) (pc' := 563) rfl ?_
  refine R.iload X334 hx (hb hby at_563) rfl (pc' := 565) rfl ?_
  refine R.callS X334 hx hZ (y := mY2) hown w_6 w_7 w_8 w_9 (by decide) e334 (rm2 l Z aZ hw [] b322 (4 : Int32) i321 k322 (4 : Int32) [((3 : Int32), (.double (FP.i2d i319))), ((2 : Int32), (.double (FP.i2d i317))), ((1 : Int32), (.double (FP.i2d i315))), ((0 : Int32), (.double (FP.i2d i313)))] h327 n0 Z327 V_b322 (by decide) (fun q => absurd q (by decide))) (by decide) (W := 0) (Nat.le_of_eq rfl) (by decide) (by rw [hml]; rfl) (lenOf pd_2 rfl) rfl (hb hby at_565) (pc' := 568) rfl (by decide) (by decide) ?_; intro v335 T335 L335 X335 hQ335
  obtain ⟨rfl, N335q, e335⟩ := hQ335
  have N335 := Fr.app N334 N335q
  refine R.ifNo X335 hx (hb hby at_568) (feq (by decide : ¬ ((1 : Int32) = (0 : Int32)))).1 (pc' := 571) rfl ?_
  refine R.iconst X335 hx (hb hby at_571) (v := (1 : Int32)) (by decide) (pc' := 572) rfl ?_
  refine R.goto X335 hx (hb hby at_572) (by decide) (pc' := 576) (by decide) ?_
  refine R.istore X335 hx (hb hby at_576) (L' := #[.val (.int p0), .val (.int p1), .val (.int p2), .val (.int p3), .val (.int (3 : Int32)), .val (.int (2 : Int32)), .val (.int (2 : Int32)), .val (.int ld), .val (.ref b246), .val (.ref b253), .val (.int i257), .val (.int i258), .val (.ref b303), .val (.ref b309), .val (.int (4 : Int32)), .val (.int i313), .val (.int i315), .val (.int i317), .val (.int i319), .val (.int i321), .val (.ref b322), .val (.ref r_327), .val (.int (1 : Int32)), .val (.int (1 : Int32))]) rfl (pc' := 578) rfl ?_
  refine R.iload X335 hx (hb hby at_578) rfl (pc' := 580) rfl ?_
  refine R.ifNo X335 hx (hb hby at_580) (feq (by decide : ¬ ((1 : Int32) = (0 : Int32)))).1 (pc' := 583) rfl ?_
  refine R.iload X335 hx (hb hby at_583) rfl (pc' := 585) rfl ?_
  refine R.ifNo X335 hx (hb hby at_585) (feq (by decide : ¬ ((1 : Int32) = (0 : Int32)))).1 (pc' := 588) rfl ?_
  refine R.iconst X335 hx (hb hby at_588) (v := (1 : Int32)) (by decide) (pc' := 589) rfl ?_
  refine R.goto X335 hx (hb hby at_589) (by decide) (pc' := 593) (by decide) ?_
  rw [← hG]
  exact Rn.ret X335 (BodyLoose.notSynchronized Bd) (v := some (.int (1 : Int32))) (fun h => by rw [Bd.returns] at h; cases h) (Q := Q0 Z p0 p1 p2 p3 h0 n0) e335 (fun fs hr => retN X335 hx (t := .boolean) Bd.returns (by simp) (hb hby at_593) hr) ⟨rfl, N335⟩ (by decide) (by decide)
set_option maxRecDepth 65536 in
set_option maxHeartbeats 40000000 in
theorem rm0_33 (l : Launch) (Z : State) (aZ : Array Value) (hw : ∀ d ∈ tables_1, d.before aZ Z = true) (ws : List Jvm.Cond) (p0 : Int32) (p1 : Int32) (p2 : Int32) (p3 : Int32) (h0 : Heap) (n0 : Nat) {p : Program} {e : Env} {s : State} {m : MethodId} {below : List Frame} {meth : Method} {c : Code} {s₁ : State} (Bd : BodyLoose p l x (head1 (Jvm.Cond.code x code maxLocals ret :: ws) room_1) code maxLocals ret e s m #[(.int p0), (.int p1), (.int p2), (.int p3)] below meth c s₁) (hml : c.maxLocals = 24) (hZ : Z.Warmed39 s.vm) {TL : State} {hL : Heap} {lL : List Loc} (XL : Stand p l e room_1 s m #[(.int p0), (.int p1), (.int p2), (.int p3)] below meth c TL lL 2 6) (eL : TL.heap = hL) (NL : Fr n0 lL) (KL : Keep h0 hL []) (ZL : n0 ≤ hL.size) (ld : Int32) (b246 : Addr) (b253 : Addr) (i247 : Int32) (i249 : Int32) (i257 : Int32) (i258 : Int32) (k246 : ClassId) (k253 : ClassId) {G : Outcome → State → Prop} (hG : (Fn0 Z p0 p1 p2 p3 h0 n0 s) = G) (V_b246 : Arh Z hL b246 k246 .int (3 : Int32) [((2 : Int32), (.int ld)), ((2 : Int32), (.int (0 : Int32))), ((1 : Int32), (.int i249)), ((0 : Int32), (.int i247))] [] (.int (0 : Int32))) (V_b253 : Arh Z hL b253 k253 .double (3 : Int32) [((2 : Int32), (.double (FP.i2d ld))), ((1 : Int32), (.double (FP.i2d i249))), ((0 : Int32), (.double (FP.i2d i247)))] [] (.double (0 : UInt64))) (ne_b246_b253 : b246 ≠ b253) (g_b246 : n0 ≤ b246) (g_b253 : n0 ≤ b253) (sz_b246 : h0.size ≤ b246) (sz_b253 : h0.size ≤ b253) (nl : ld.toInt ≠ 0) (bl : ld.toInt.natAbs ≤ 128) (b_i257 : i257.toInt.natAbs ≤ 128) (b_i258 : i258.toInt.natAbs ≤ 128) (b_i249 : i249.toInt.natAbs ≤ 128) (b_i247 : i247.toInt.natAbs ≤ 128) : Rn p e below (TL.setTop (mkF m 147 #[.val (.int p0), .val (.int p1), .val (.int p2), .val (.int p3), .val (.int (3 : Int32)), .val (.int (2 : Int32)), .val (.int (3 : Int32)), .val (.int ld), .val (.ref b246), .val (.ref b253), .val (.int i257), .val (.int i258), .unset, .unset, .unset, .unset, .unset, .unset, .unset, .unset, .unset, .unset, .unset, .unset] [])) G := by
  have hx := Bd.exec
  have hby := Bd.bytes
  have hown : s.vm.findClass "com/example/deseason/deseason/arima/PolynomialsQuotientPinLaw" = some m.cls := findClass_of_methodNamed Bd.named
  have hnm := (name_of_methodNamed Bd.named Bd.method).1
  have w_0 := hw _ (List.mem_of_getElem? (i := 0) rfl)
  have w_1 := hw _ (List.mem_of_getElem? (i := 1) rfl)
  have w_2 := hw _ (List.mem_of_getElem? (i := 2) rfl)
  have w_3 := hw _ (List.mem_of_getElem? (i := 3) rfl)
  have w_4 := hw _ (List.mem_of_getElem? (i := 4) rfl)
  have w_5 := hw _ (List.mem_of_getElem? (i := 5) rfl)
  have w_6 := hw _ (List.mem_of_getElem? (i := 6) rfl)
  have w_7 := hw _ (List.mem_of_getElem? (i := 7) rfl)
  have w_8 := hw _ (List.mem_of_getElem? (i := 8) rfl)
  have w_9 := hw _ (List.mem_of_getElem? (i := 9) rfl)
  have w_10 := hw _ (List.mem_of_getElem? (i := 10) rfl)
  have w_11 := hw _ (List.mem_of_getElem? (i := 11) rfl)
  have w_12 := hw _ (List.mem_of_getElem? (i := 12) rfl)
  have w_25 := hw _ (List.mem_of_getElem? (i := 25) rfl)
  have w_26 := hw _ (List.mem_of_getElem? (i := 26) rfl)
  have w_27 := hw _ (List.mem_of_getElem? (i := 27) rfl)
  show Rn p e below (TL.setTop (mkF m 147 #[.val (.int p0), .val (.int p1), .val (.int p2), .val (.int p3), .val (.int (3 : Int32)), .val (.int (2 : Int32)), .val (.int (3 : Int32)), .val (.int ld), .val (.ref b246), .val (.ref b253), .val (.int i257), .val (.int i258), .unset, .unset, .unset, .unset, .unset, .unset, .unset, .unset, .unset, .unset, .unset, .unset] [])) G
  refine R.iload XL hx (hb hby at_147) rfl (pc' := 149) rfl ?_
  refine R.ifYes XL hx (hb hby at_149) (feq (by decide : ¬ ((3 : Int32) = (0 : Int32)))).2 (by decide) (pc' := 237) (by decide) ?_
  refine R.iconst XL hx (hb hby at_237) (v := (3 : Int32)) (by decide) (pc' := 238) rfl ?_
  refine R.newP XL hx hZ (ty := .int) rfl w_0 eL (by decide) (cap := 3) (by decide) (by decide) (ad := "[I") (by decide) (hb hby at_238) (pc' := 240) rfl (by decide) (by decide) ?_; intro T336 h336 b336 k336 g336 X336 e336 E336 EE336 AA336
  have g_b336 : n0 ≤ b336 := Nat.le_trans ZL (Nat.le_of_eq g336.symm)
  have sz_b336 : h0.size ≤ b336 := Nat.le_trans KL.1 (Nat.le_of_eq g336.symm)
  have ne_b246_b336 : b246 ≠ b336 := Nat.ne_of_lt (Nat.lt_of_lt_of_le V_b246.lt (Nat.le_of_eq g336.symm))
  have ne_b253_b336 : b253 ≠ b336 := Nat.ne_of_lt (Nat.lt_of_lt_of_le V_b253.lt (Nat.le_of_eq g336.symm))
  have K336 : Keep h0 h336 [] := KL.ext E336
  have Z336 : n0 ≤ h336.size := Nat.le_trans ZL E336.1
  have V_b246 := V_b246.ext E336
  have V_b253 := V_b253.ext E336
  have V_b336 : Arh Z h336 b336 k336 .int (3 : Int32) [] [] (.int (0 : Int32)) := AA336
  refine R.astore X336 hx (hb hby at_240) rfl (L' := #[.val (.int p0), .val (.int p1), .val (.int p2), .val (.int p3), .val (.int (3 : Int32)), .val (.int (2 : Int32)), .val (.int (3 : Int32)), .val (.int ld), .val (.ref b246), .val (.ref b253), .val (.int i257), .val (.int i258), .val (.ref b336), .unset, .unset, .unset, .unset, .unset, .unset, .unset, .unset, .unset, .unset, .unset]) rfl (pc' := 242) rfl ?_
  refine R.aload X336 hx (hb hby at_242) rfl rfl (pc' := 244) rfl ?_
  refine R.iconst X336 hx (hb hby at_244) (v := (0 : Int32)) (by decide) (pc' := 245) rfl ?_
  refine R.iloadN X336 hx (hb hby at_245) rfl (pc' := 246) rfl ?_
  refine R.i2b X336 hx (hb hby at_246) (pc' := 247) rfl ?_
  show Rn p e below (T336.setTop (mkF m 247 #[.val (.int p0), .val (.int p1), .val (.int p2), .val (.int p3), .val (.int (3 : Int32)), .val (.int (2 : Int32)), .val (.int (3 : Int32)), .val (.int ld), .val (.ref b246), .val (.ref b253), .val (.int i257), .val (.int i258), .val (.ref b336), .unset, .unset, .unset, .unset, .unset, .unset, .unset, .unset, .unset, .unset, .unset] [(.int (p2.toInt8.toInt32)), (.int (0 : Int32)), (.ref b336)])) G
  generalize hi337 : (p2.toInt8.toInt32) = i337
  have b_i337 := own_byte hi337
  refine R.iastore X336 hx hZ e336 V_b336 (⟨by decide, by decide⟩ : ¬ (0 : Int32) < 0 ∧ (0 : Int32) < (3 : Int32)) (hb hby at_247) (pc' := 248) rfl ?_; intro T338 h338 X338 e338 W338 V338
  have V_b246 := V_b246.other W338 ne_b246_b336
  have V_b253 := V_b253.other W338 ne_b253_b336
  have V_b336 : Arh Z h338 b336 k336 .int (3 : Int32) [((0 : Int32), (.int i337))] [] (.int (0 : Int32)) := V338
  have N338 := Fr.snoc X338 NL g_b336
  have K338 : Keep h0 h338 [] := K336.wr W338 (Or.inr sz_b336)
  have Z338 : n0 ≤ h338.size := Nat.le_trans Z336 (Keep.of_wr W338).1
  refine R.aload X338 hx (hb hby at_248) rfl rfl (pc' := 250) rfl ?_
  refine R.iconst X338 hx (hb hby at_250) (v := (1 : Int32)) (by decide) (pc' := 251) rfl ?_
  refine R.iload X338 hx (hb hby at_251) rfl (pc' := 253) rfl ?_
  refine R.iconst X338 hx (hb hby at_253) (v := (2 : Int32)) (by decide) (pc' := 254) rfl ?_
  refine R.icmpNo X338 hx (hb hby at_254) (flt (by decide : ¬ ((3 : Int32) < (2 : Int32)))).1 (pc' := 257) rfl ?_
  refine R.iloadN X338 hx (hb hby at_257) rfl (pc' := 258) rfl ?_
  refine R.bipush X338 hx (hb hby at_258) (v := (8 : Int32)) (by decide) (pc' := 260) rfl ?_
  refine R.ishr X338 hx (hb hby at_260) (pc' := 261) rfl ?_
  refine R.i2b X338 hx (hb hby at_261) (pc' := 262) rfl ?_
  show Rn p e below (T338.setTop (mkF m 262 #[.val (.int p0), .val (.int p1), .val (.int p2), .val (.int p3), .val (.int (3 : Int32)), .val (.int (2 : Int32)), .val (.int (3 : Int32)), .val (.int ld), .val (.ref b246), .val (.ref b253), .val (.int i257), .val (.int i258), .val (.ref b336), .unset, .unset, .unset, .unset, .unset, .unset, .unset, .unset, .unset, .unset, .unset] [(.int ((p2 >>> ((8 : Int32) &&& 31)).toInt8.toInt32)), (.int (1 : Int32)), (.ref b336)])) G
  generalize hi339 : ((p2 >>> ((8 : Int32) &&& 31)).toInt8.toInt32) = i339
  have b_i339 := own_byte hi339
  refine R.goto X338 hx (hb hby at_262) (by decide) (pc' := 266) (by decide) ?_
  refine R.iastore X338 hx hZ e338 V_b336 (⟨by decide, by decide⟩ : ¬ (1 : Int32) < 0 ∧ (1 : Int32) < (3 : Int32)) (hb hby at_266) (pc' := 267) rfl ?_; intro T340 h340 X340 e340 W340 V340
  have V_b246 := V_b246.other W340 ne_b246_b336
  have V_b253 := V_b253.other W340 ne_b253_b336
  have V_b336 : Arh Z h340 b336 k336 .int (3 : Int32) [((1 : Int32), (.int i339)), ((0 : Int32), (.int i337))] [] (.int (0 : Int32)) := V340
  have N340 := Fr.snoc X340 N338 g_b336
  have K340 : Keep h0 h340 [] := K338.wr W340 (Or.inr sz_b336)
  have Z340 : n0 ≤ h340.size := Nat.le_trans Z338 (Keep.of_wr W340).1
  refine R.aload X340 hx (hb hby at_267) rfl rfl (pc' := 269) rfl ?_
  refine R.iconst X340 hx (hb hby at_269) (v := (2 : Int32)) (by decide) (pc' := 270) rfl ?_
  refine R.iload X340 hx (hb hby at_270) rfl (pc' := 272) rfl ?_
  refine R.iconst X340 hx (hb hby at_272) (v := (3 : Int32)) (by decide) (pc' := 273) rfl ?_
  refine R.icmpNo X340 hx (hb hby at_273) (flt (by decide : ¬ ((3 : Int32) < (3 : Int32)))).1 (pc' := 276) rfl ?_
  refine R.iloadN X340 hx (hb hby at_276) rfl (pc' := 277) rfl ?_
  refine R.bipush X340 hx (hb hby at_277) (v := (16 : Int32)) (by decide) (pc' := 279) rfl ?_
  refine R.ishr X340 hx (hb hby at_279) (pc' := 280) rfl ?_
  refine R.i2b X340 hx (hb hby at_280) (pc' := 281) rfl ?_
  show Rn p e below (T340.setTop (mkF m 281 #[.val (.int p0), .val (.int p1), .val (.int p2), .val (.int p3), .val (.int (3 : Int32)), .val (.int (2 : Int32)), .val (.int (3 : Int32)), .val (.int ld), .val (.ref b246), .val (.ref b253), .val (.int i257), .val (.int i258), .val (.ref b336), .unset, .unset, .unset, .unset, .unset, .unset, .unset, .unset, .unset, .unset, .unset] [(.int ((p2 >>> ((16 : Int32) &&& 31)).toInt8.toInt32)), (.int (2 : Int32)), (.ref b336)])) G
  generalize hi341 : ((p2 >>> ((16 : Int32) &&& 31)).toInt8.toInt32) = i341
  have b_i341 := own_byte hi341
  refine R.goto X340 hx (hb hby at_281) (by decide) (pc' := 285) (by decide) ?_
  refine R.iastore X340 hx hZ e340 V_b336 (⟨by decide, by decide⟩ : ¬ (2 : Int32) < 0 ∧ (2 : Int32) < (3 : Int32)) (hb hby at_285) (pc' := 286) rfl ?_; intro T342 h342 X342 e342 W342 V342
  have V_b246 := V_b246.other W342 ne_b246_b336
  have V_b253 := V_b253.other W342 ne_b253_b336
  have V_b336 : Arh Z h342 b336 k336 .int (3 : Int32) [((2 : Int32), (.int i341)), ((1 : Int32), (.int i339)), ((0 : Int32), (.int i337))] [] (.int (0 : Int32)) := V342
  have N342 := Fr.snoc X342 N340 g_b336
  have K342 : Keep h0 h342 [] := K340.wr W342 (Or.inr sz_b336)
  have Z342 : n0 ≤ h342.size := Nat.le_trans Z340 (Keep.of_wr W342).1
  refine R.iconst X342 hx (hb hby at_286) (v := (2 : Int32)) (by decide) (pc' := 287) rfl ?_
  refine R.newP X342 hx hZ (ty := .int) rfl w_0 e342 (by decide) (cap := 2) (by decide) (by decide) (ad := "[I") (by decide) (hb hby at_287) (pc' := 289) rfl (by decide) (by decide) ?_; intro T343 h343 b343 k343 g343 X343 e343 E343 EE343 AA343
  have g_b343 : n0 ≤ b343 := Nat.le_trans Z342 (Nat.le_of_eq g343.symm)
  have sz_b343 : h0.size ≤ b343 := Nat.le_trans K342.1 (Nat.le_of_eq g343.symm)
  have ne_b246_b343 : b246 ≠ b343 := Nat.ne_of_lt (Nat.lt_of_lt_of_le V_b246.lt (Nat.le_of_eq g343.symm))
  have ne_b253_b343 : b253 ≠ b343 := Nat.ne_of_lt (Nat.lt_of_lt_of_le V_b253.lt (Nat.le_of_eq g343.symm))
  have ne_b336_b343 : b336 ≠ b343 := Nat.ne_of_lt (Nat.lt_of_lt_of_le V_b336.lt (Nat.le_of_eq g343.symm))
  have K343 : Keep h0 h343 [] := K342.ext E343
  have Z343 : n0 ≤ h343.size := Nat.le_trans Z342 E343.1
  have V_b246 := V_b246.ext E343
  have V_b253 := V_b253.ext E343
  have V_b336 := V_b336.ext E343
  have V_b343 : Arh Z h343 b343 k343 .int (2 : Int32) [] [] (.int (0 : Int32)) := AA343
  refine R.astore X343 hx (hb hby at_289) rfl (L' := #[.val (.int p0), .val (.int p1), .val (.int p2), .val (.int p3), .val (.int (3 : Int32)), .val (.int (2 : Int32)), .val (.int (3 : Int32)), .val (.int ld), .val (.ref b246), .val (.ref b253), .val (.int i257), .val (.int i258), .val (.ref b336), .val (.ref b343), .unset, .unset, .unset, .unset, .unset, .unset, .unset, .unset, .unset, .unset]) rfl (pc' := 291) rfl ?_
  refine R.aload X343 hx (hb hby at_291) rfl rfl (pc' := 293) rfl ?_
  refine R.iconst X343 hx (hb hby at_293) (v := (0 : Int32)) (by decide) (pc' := 294) rfl ?_
  refine R.iload X343 hx (hb hby at_294) rfl (pc' := 296) rfl ?_
  refine R.ifNo X343 hx (hb hby at_296) (tlt (by decide : (0 : Int32) < (2 : Int32))).2.2.2 (pc' := 299) rfl ?_
  refine R.iload X343 hx (hb hby at_299) rfl (pc' := 301) rfl ?_
  refine R.goto X343 hx (hb hby at_301) (by decide) (pc' := 305) (by decide) ?_
  refine R.iastore X343 hx hZ e343 V_b343 (⟨by decide, by decide⟩ : ¬ (0 : Int32) < 0 ∧ (0 : Int32) < (2 : Int32)) (hb hby at_305) (pc' := 306) rfl ?_; intro T344 h344 X344 e344 W344 V344
  have V_b246 := V_b246.other W344 ne_b246_b343
  have V_b253 := V_b253.other W344 ne_b253_b343
  have V_b336 := V_b336.other W344 ne_b336_b343
  have V_b343 : Arh Z h344 b343 k343 .int (2 : Int32) [((0 : Int32), (.int i257))] [] (.int (0 : Int32)) := V344
  have N344 := Fr.snoc X344 N342 g_b343
  have K344 : Keep h0 h344 [] := K343.wr W344 (Or.inr sz_b343)
  have Z344 : n0 ≤ h344.size := Nat.le_trans Z343 (Keep.of_wr W344).1
  refine R.aload X344 hx (hb hby at_306) rfl rfl (pc' := 308) rfl ?_
  refine R.iconst X344 hx (hb hby at_308) (v := (1 : Int32)) (by decide) (pc' := 309) rfl ?_
  refine R.iload X344 hx (hb hby at_309) rfl (pc' := 311) rfl ?_
  refine R.iconst X344 hx (hb hby at_311) (v := (1 : Int32)) (by decide) (pc' := 312) rfl ?_
  refine R.icmpNo X344 hx (hb hby at_312) (tlt (by decide : (1 : Int32) < (2 : Int32))).2.2.2 (pc' := 315) rfl ?_
  refine R.iload X344 hx (hb hby at_315) rfl (pc' := 317) rfl ?_
  refine R.goto X344 hx (hb hby at_317) (by decide) (pc' := 321) (by decide) ?_
  refine R.iastore X344 hx hZ e344 V_b343 (⟨by decide, by decide⟩ : ¬ (1 : Int32) < 0 ∧ (1 : Int32) < (2 : Int32)) (hb hby at_321) (pc' := 322) rfl ?_; intro T345 h345 X345 e345 W345 V345
  have V_b246 := V_b246.other W345 ne_b246_b343
  have V_b253 := V_b253.other W345 ne_b253_b343
  have V_b336 := V_b336.other W345 ne_b336_b343
  have V_b343 : Arh Z h345 b343 k343 .int (2 : Int32) [((1 : Int32), (.int i258)), ((0 : Int32), (.int i257))] [] (.int (0 : Int32)) := V345
  have N345 := Fr.snoc X345 N344 g_b343
  have K345 : Keep h0 h345 [] := K344.wr W345 (Or.inr sz_b343)
  have Z345 : n0 ≤ h345.size := Nat.le_trans Z344 (Keep.of_wr W345).1
  refine R.iload X345 hx (hb hby at_322) rfl (pc' := 324) rfl ?_
  refine R.iload X345 hx (hb hby at_324) rfl (pc' := 326) rfl ?_
  refine R.iadd X345 hx (hb hby at_326) (v := (5 : Int32)) (by decide) (pc' := 327) rfl ?_
  refine R.istore X345 hx (hb hby at_327) (L' := #[.val (.int p0), .val (.int p1), .val (.int p2), .val (.int p3), .val (.int (3 : Int32)), .val (.int (2 : Int32)), .val (.int (3 : Int32)), .val (.int ld), .val (.ref b246), .val (.ref b253), .val (.int i257), .val (.int i258), .val (.ref b336), .val (.ref b343), .val (.int (5 : Int32)), .unset, .unset, .unset, .unset, .unset, .unset, .unset, .unset, .unset]) rfl (pc' := 329) rfl ?_
  refine R.aload X345 hx (hb hby at_329) rfl rfl (pc' := 331) rfl ?_
  refine R.aload X345 hx (hb hby at_331) rfl rfl (pc' := 333) rfl ?_
  refine R.aload X345 hx (hb hby at_333) rfl rfl (pc' := 335) rfl ?_
  refine R.iconst X345 hx (hb hby at_335) (v := (0 : Int32)) (by decide) (pc' := 336) rfl ?_
  refine R.callS X345 hx hZ (y := mY3) hown w_10 w_11 w_8 w_12 (by decide) e345 (rmcf0 l Z aZ hw [] b336 b246 b343 k336 k246 k343 [((2 : Int32), (.int i341)), ((1 : Int32), (.int i339)), ((0 : Int32), (.int i337))] [((2 : Int32), (.int ld)), ((2 : Int32), (.int (0 : Int32))), ((1 : Int32), (.int i249)), ((0 : Int32), (.int i247))] [((1 : Int32), (.int i258)), ((0 : Int32), (.int i257))] i337 i339 i341 i247 i249 ld i257 i258 h345 n0 Z345 V_b336 V_b246 V_b343 (getH_miss (by decide) (by decide) (getH_miss (by decide) (by decide) (getH_hit (by decide) (rfl)))) (getH_miss (by decide) (by decide) (getH_hit (by decide) (rfl))) (getH_hit (by decide) (rfl)) (getH_miss (by decide) (by decide) (getH_miss (by decide) (by decide) (getH_miss (by decide) (by decide) (getH_hit (by decide) (rfl))))) (getH_miss (by decide) (by decide) (getH_miss (by decide) (by decide) (getH_hit (by decide) (rfl)))) (getH_hit (by decide) (rfl)) (getH_miss (by decide) (by decide) (getH_hit (by decide) (rfl))) (getH_hit (by decide) (rfl))) (by decide) (W := 0) (Nat.le_of_eq rfl) (by decide) (by rw [hml]; rfl) (lenOf pd_3 rfl) rfl (hb hby at_336) (pc' := 339) rfl (by decide) (by decide) ?_; intro v346 T346 L346 X346 hQ346
  obtain ⟨rfl, N346q, e346⟩ := hQ346
  have N346 := Fr.app N345 N346q
  show Rn p e below (T346.setTop (mkF m 339 #[.val (.int p0), .val (.int p1), .val (.int p2), .val (.int p3), .val (.int (3 : Int32)), .val (.int (2 : Int32)), .val (.int (3 : Int32)), .val (.int ld), .val (.ref b246), .val (.ref b253), .val (.int i257), .val (.int i258), .val (.ref b336), .val (.ref b343), .val (.int (5 : Int32)), .unset, .unset, .unset, .unset, .unset, .unset, .unset, .unset, .unset] [(.int ((((i337 * i247) + (i339 * (0 : Int32))) + (i341 * (0 : Int32))) + i257))])) G
  generalize hi347 : ((((i337 * i247) + (i339 * (0 : Int32))) + (i341 * (0 : Int32))) + i257) = i347
  refine R.istore X346 hx (hb hby at_339) (L' := #[.val (.int p0), .val (.int p1), .val (.int p2), .val (.int p3), .val (.int (3 : Int32)), .val (.int (2 : Int32)), .val (.int (3 : Int32)), .val (.int ld), .val (.ref b246), .val (.ref b253), .val (.int i257), .val (.int i258), .val (.ref b336), .val (.ref b343), .val (.int (5 : Int32)), .val (.int i347), .unset, .unset, .unset, .unset, .unset, .unset, .unset, .unset]) rfl (pc' := 341) rfl ?_
  refine R.aload X346 hx (hb hby at_341) rfl rfl (pc' := 343) rfl ?_
  refine R.aload X346 hx (hb hby at_343) rfl rfl (pc' := 345) rfl ?_
  refine R.aload X346 hx (hb hby at_345) rfl rfl (pc' := 347) rfl ?_
  refine R.iconst X346 hx (hb hby at_347) (v := (1 : Int32)) (by decide) (pc' := 348) rfl ?_
  refine R.callS X346 hx hZ (y := mY3) hown w_10 w_11 w_8 w_12 (by decide) e346 (rmcf1 l Z aZ hw [] b336 b246 b343 k336 k246 k343 [((2 : Int32), (.int i341)), ((1 : Int32), (.int i339)), ((0 : Int32), (.int i337))] [((2 : Int32), (.int ld)), ((2 : Int32), (.int (0 : Int32))), ((1 : Int32), (.int i249)), ((0 : Int32), (.int i247))] [((1 : Int32), (.int i258)), ((0 : Int32), (.int i257))] i337 i339 i341 i247 i249 ld i257 i258 h345 n0 Z345 V_b336 V_b246 V_b343 (getH_miss (by decide) (by decide) (getH_miss (by decide) (by decide) (getH_hit (by decide) (rfl)))) (getH_miss (by decide) (by decide) (getH_hit (by decide) (rfl))) (getH_hit (by decide) (rfl)) (getH_miss (by decide) (by decide) (getH_miss (by decide) (by decide) (getH_miss (by decide) (by decide) (getH_hit (by decide) (rfl))))) (getH_miss (by decide) (by decide) (getH_miss (by decide) (by decide) (getH_hit (by decide) (rfl)))) (getH_hit (by decide) (rfl)) (getH_miss (by decide) (by decide) (getH_hit (by decide) (rfl))) (getH_hit (by decide) (rfl))) (by decide) (W := 0) (Nat.le_of_eq rfl) (by decide) (by rw [hml]; rfl) (lenOf pd_3 rfl) rfl (hb hby at_348) (pc' := 351) rfl (by decide) (by decide) ?_; intro v348 T348 L348 X348 hQ348
  obtain ⟨rfl, N348q, e348⟩ := hQ348
  have N348 := Fr.app N346 N348q
  show Rn p e below (T348.setTop (mkF m 351 #[.val (.int p0), .val (.int p1), .val (.int p2), .val (.int p3), .val (.int (3 : Int32)), .val (.int (2 : Int32)), .val (.int (3 : Int32)), .val (.int ld), .val (.ref b246), .val (.ref b253), .val (.int i257), .val (.int i258), .val (.ref b336), .val (.ref b343), .val (.int (5 : Int32)), .val (.int i347), .unset, .unset, .unset, .unset, .unset, .unset, .unset, .unset] [(.int ((((i337 * i249) + (i339 * i247)) + (i341 * (0 : Int32))) + i258))])) G
  generalize hi349 : ((((i337 * i249) + (i339 * i247)) + (i341 * (0 : Int32))) + i258) = i349
  refine R.istore X348 hx (hb hby at_351) (L' := #[.val (.int p0), .val (.int p1), .val (.int p2), .val (.int p3), .val (.int (3 : Int32)), .val (.int (2 : Int32)), .val (.int (3 : Int32)), .val (.int ld), .val (.ref b246), .val (.ref b253), .val (.int i257), .val (.int i258), .val (.ref b336), .val (.ref b343), .val (.int (5 : Int32)), .val (.int i347), .val (.int i349), .unset, .unset, .unset, .unset, .unset, .unset, .unset]) rfl (pc' := 353) rfl ?_
  refine R.aload X348 hx (hb hby at_353) rfl rfl (pc' := 355) rfl ?_
  refine R.aload X348 hx (hb hby at_355) rfl rfl (pc' := 357) rfl ?_
  refine R.aload X348 hx (hb hby at_357) rfl rfl (pc' := 359) rfl ?_
  refine R.iconst X348 hx (hb hby at_359) (v := (2 : Int32)) (by decide) (pc' := 360) rfl ?_
  refine R.callS X348 hx hZ (y := mY3) hown w_10 w_11 w_8 w_12 (by decide) e348 (rmcf2 l Z aZ hw [] b336 b246 b343 k336 k246 k343 [((2 : Int32), (.int i341)), ((1 : Int32), (.int i339)), ((0 : Int32), (.int i337))] [((2 : Int32), (.int ld)), ((2 : Int32), (.int (0 : Int32))), ((1 : Int32), (.int i249)), ((0 : Int32), (.int i247))] [((1 : Int32), (.int i258)), ((0 : Int32), (.int i257))] i337 i339 i341 i247 i249 ld i257 i258 h345 n0 Z345 V_b336 V_b246 V_b343 (getH_miss (by decide) (by decide) (getH_miss (by decide) (by decide) (getH_hit (by decide) (rfl)))) (getH_miss (by decide) (by decide) (getH_hit (by decide) (rfl))) (getH_hit (by decide) (rfl)) (getH_miss (by decide) (by decide) (getH_miss (by decide) (by decide) (getH_miss (by decide) (by decide) (getH_hit (by decide) (rfl))))) (getH_miss (by decide) (by decide) (getH_miss (by decide) (by decide) (getH_hit (by decide) (rfl)))) (getH_hit (by decide) (rfl)) (getH_miss (by decide) (by decide) (getH_hit (by decide) (rfl))) (getH_hit (by decide) (rfl))) (by decide) (W := 0) (Nat.le_of_eq rfl) (by decide) (by rw [hml]; rfl) (lenOf pd_3 rfl) rfl (hb hby at_360) (pc' := 363) rfl (by decide) (by decide) ?_; intro v350 T350 L350 X350 hQ350
  obtain ⟨rfl, N350q, e350⟩ := hQ350
  have N350 := Fr.app N348 N350q
  show Rn p e below (T350.setTop (mkF m 363 #[.val (.int p0), .val (.int p1), .val (.int p2), .val (.int p3), .val (.int (3 : Int32)), .val (.int (2 : Int32)), .val (.int (3 : Int32)), .val (.int ld), .val (.ref b246), .val (.ref b253), .val (.int i257), .val (.int i258), .val (.ref b336), .val (.ref b343), .val (.int (5 : Int32)), .val (.int i347), .val (.int i349), .unset, .unset, .unset, .unset, .unset, .unset, .unset] [(.int ((((i337 * ld) + (i339 * i249)) + (i341 * i247)) + (0 : Int32)))])) G
  generalize hi351 : ((((i337 * ld) + (i339 * i249)) + (i341 * i247)) + (0 : Int32)) = i351
  refine R.istore X350 hx (hb hby at_363) (L' := #[.val (.int p0), .val (.int p1), .val (.int p2), .val (.int p3), .val (.int (3 : Int32)), .val (.int (2 : Int32)), .val (.int (3 : Int32)), .val (.int ld), .val (.ref b246), .val (.ref b253), .val (.int i257), .val (.int i258), .val (.ref b336), .val (.ref b343), .val (.int (5 : Int32)), .val (.int i347), .val (.int i349), .val (.int i351), .unset, .unset, .unset, .unset, .unset, .unset]) rfl (pc' := 365) rfl ?_
  refine R.aload X350 hx (hb hby at_365) rfl rfl (pc' := 367) rfl ?_
  refine R.aload X350 hx (hb hby at_367) rfl rfl (pc' := 369) rfl ?_
  refine R.aload X350 hx (hb hby at_369) rfl rfl (pc' := 371) rfl ?_
  refine R.iconst X350 hx (hb hby at_371) (v := (3 : Int32)) (by decide) (pc' := 372) rfl ?_
  refine R.callS X350 hx hZ (y := mY3) hown w_10 w_11 w_8 w_12 (by decide) e350 (rmcf3 l Z aZ hw [] b336 b246 b343 k336 k246 k343 [((2 : Int32), (.int i341)), ((1 : Int32), (.int i339)), ((0 : Int32), (.int i337))] [((2 : Int32), (.int ld)), ((2 : Int32), (.int (0 : Int32))), ((1 : Int32), (.int i249)), ((0 : Int32), (.int i247))] [((1 : Int32), (.int i258)), ((0 : Int32), (.int i257))] i337 i339 i341 i247 i249 ld i257 i258 h345 n0 Z345 V_b336 V_b246 V_b343 (getH_miss (by decide) (by decide) (getH_miss (by decide) (by decide) (getH_hit (by decide) (rfl)))) (getH_miss (by decide) (by decide) (getH_hit (by decide) (rfl))) (getH_hit (by decide) (rfl)) (getH_miss (by decide) (by decide) (getH_miss (by decide) (by decide) (getH_miss (by decide) (by decide) (getH_hit (by decide) (rfl))))) (getH_miss (by decide) (by decide) (getH_miss (by decide) (by decide) (getH_hit (by decide) (rfl)))) (getH_hit (by decide) (rfl)) (getH_miss (by decide) (by decide) (getH_hit (by decide) (rfl))) (getH_hit (by decide) (rfl))) (by decide) (W := 0) (Nat.le_of_eq rfl) (by decide) (by rw [hml]; rfl) (lenOf pd_3 rfl) rfl (hb hby at_372) (pc' := 375) rfl (by decide) (by decide) ?_; intro v352 T352 L352 X352 hQ352
  obtain ⟨rfl, N352q, e352⟩ := hQ352
  have N352 := Fr.app N350 N352q
  show Rn p e below (T352.setTop (mkF m 375 #[.val (.int p0), .val (.int p1), .val (.int p2), .val (.int p3), .val (.int (3 : Int32)), .val (.int (2 : Int32)), .val (.int (3 : Int32)), .val (.int ld), .val (.ref b246), .val (.ref b253), .val (.int i257), .val (.int i258), .val (.ref b336), .val (.ref b343), .val (.int (5 : Int32)), .val (.int i347), .val (.int i349), .val (.int i351), .unset, .unset, .unset, .unset, .unset, .unset] [(.int ((((i337 * (0 : Int32)) + (i339 * ld)) + (i341 * i249)) + (0 : Int32)))])) G
  generalize hi353 : ((((i337 * (0 : Int32)) + (i339 * ld)) + (i341 * i249)) + (0 : Int32)) = i353
  refine R.istore X352 hx (hb hby at_375) (L' := #[.val (.int p0), .val (.int p1), .val (.int p2), .val (.int p3), .val (.int (3 : Int32)), .val (.int (2 : Int32)), .val (.int (3 : Int32)), .val (.int ld), .val (.ref b246), .val (.ref b253), .val (.int i257), .val (.int i258), .val (.ref b336), .val (.ref b343), .val (.int (5 : Int32)), .val (.int i347), .val (.int i349), .val (.int i351), .val (.int i353), .unset, .unset, .unset, .unset, .unset]) rfl (pc' := 377) rfl ?_
  refine R.aload X352 hx (hb hby at_377) rfl rfl (pc' := 379) rfl ?_
  refine R.aload X352 hx (hb hby at_379) rfl rfl (pc' := 381) rfl ?_
  refine R.aload X352 hx (hb hby at_381) rfl rfl (pc' := 383) rfl ?_
  refine R.iconst X352 hx (hb hby at_383) (v := (4 : Int32)) (by decide) (pc' := 384) rfl ?_
  refine R.callS X352 hx hZ (y := mY3) hown w_10 w_11 w_8 w_12 (by decide) e352 (rmcf4 l Z aZ hw [] b336 b246 b343 k336 k246 k343 [((2 : Int32), (.int i341)), ((1 : Int32), (.int i339)), ((0 : Int32), (.int i337))] [((2 : Int32), (.int ld)), ((2 : Int32), (.int (0 : Int32))), ((1 : Int32), (.int i249)), ((0 : Int32), (.int i247))] [((1 : Int32), (.int i258)), ((0 : Int32), (.int i257))] i337 i339 i341 i247 i249 ld i257 i258 h345 n0 Z345 V_b336 V_b246 V_b343 (getH_miss (by decide) (by decide) (getH_miss (by decide) (by decide) (getH_hit (by decide) (rfl)))) (getH_miss (by decide) (by decide) (getH_hit (by decide) (rfl))) (getH_hit (by decide) (rfl)) (getH_miss (by decide) (by decide) (getH_miss (by decide) (by decide) (getH_miss (by decide) (by decide) (getH_hit (by decide) (rfl))))) (getH_miss (by decide) (by decide) (getH_miss (by decide) (by decide) (getH_hit (by decide) (rfl)))) (getH_hit (by decide) (rfl)) (getH_miss (by decide) (by decide) (getH_hit (by decide) (rfl))) (getH_hit (by decide) (rfl))) (by decide) (W := 0) (Nat.le_of_eq rfl) (by decide) (by rw [hml]; rfl) (lenOf pd_3 rfl) rfl (hb hby at_384) (pc' := 387) rfl (by decide) (by decide) ?_; intro v354 T354 L354 X354 hQ354
  obtain ⟨rfl, N354q, e354⟩ := hQ354
  have N354 := Fr.app N352 N354q
  show Rn p e below (T354.setTop (mkF m 387 #[.val (.int p0), .val (.int p1), .val (.int p2), .val (.int p3), .val (.int (3 : Int32)), .val (.int (2 : Int32)), .val (.int (3 : Int32)), .val (.int ld), .val (.ref b246), .val (.ref b253), .val (.int i257), .val (.int i258), .val (.ref b336), .val (.ref b343), .val (.int (5 : Int32)), .val (.int i347), .val (.int i349), .val (.int i351), .val (.int i353), .unset, .unset, .unset, .unset, .unset] [(.int ((((i337 * (0 : Int32)) + (i339 * (0 : Int32))) + (i341 * ld)) + (0 : Int32)))])) G
  generalize hi355 : ((((i337 * (0 : Int32)) + (i339 * (0 : Int32))) + (i341 * ld)) + (0 : Int32)) = i355
  refine R.istore X354 hx (hb hby at_387) (L' := #[.val (.int p0), .val (.int p1), .val (.int p2), .val (.int p3), .val (.int (3 : Int32)), .val (.int (2 : Int32)), .val (.int (3 : Int32)), .val (.int ld), .val (.ref b246), .val (.ref b253), .val (.int i257), .val (.int i258), .val (.ref b336), .val (.ref b343), .val (.int (5 : Int32)), .val (.int i347), .val (.int i349), .val (.int i351), .val (.int i353), .val (.int i355), .unset, .unset, .unset, .unset]) rfl (pc' := 389) rfl ?_
  have tc0 := own_cf (b_i337 : i337.toInt.natAbs ≤ 128) (b_i247 : i247.toInt.natAbs ≤ 128) (b_i339 : i339.toInt.natAbs ≤ 128) (own_z0 : (0 : Int32).toInt.natAbs ≤ 128) (b_i341 : i341.toInt.natAbs ≤ 128) (own_z0 : (0 : Int32).toInt.natAbs ≤ 128) (b_i257 : i257.toInt.natAbs ≤ 128) hi347
  simp only [own_zi, Int.zero_mul, Int.mul_zero, Int.add_zero, Int.zero_add] at tc0
  have tc1 := own_cf (b_i337 : i337.toInt.natAbs ≤ 128) (b_i249 : i249.toInt.natAbs ≤ 128) (b_i339 : i339.toInt.natAbs ≤ 128) (b_i247 : i247.toInt.natAbs ≤ 128) (b_i341 : i341.toInt.natAbs ≤ 128) (own_z0 : (0 : Int32).toInt.natAbs ≤ 128) (b_i258 : i258.toInt.natAbs ≤ 128) hi349
  simp only [own_zi, Int.zero_mul, Int.mul_zero, Int.add_zero, Int.zero_add] at tc1
  have tc2 := own_cf (b_i337 : i337.toInt.natAbs ≤ 128) (bl : ld.toInt.natAbs ≤ 128) (b_i339 : i339.toInt.natAbs ≤ 128) (b_i249 : i249.toInt.natAbs ≤ 128) (b_i341 : i341.toInt.natAbs ≤ 128) (b_i247 : i247.toInt.natAbs ≤ 128) (own_z0 : (0 : Int32).toInt.natAbs ≤ 128) hi351
  simp only [own_zi, Int.zero_mul, Int.mul_zero, Int.add_zero, Int.zero_add] at tc2
  have tc3 := own_cf (b_i337 : i337.toInt.natAbs ≤ 128) (own_z0 : (0 : Int32).toInt.natAbs ≤ 128) (b_i339 : i339.toInt.natAbs ≤ 128) (bl : ld.toInt.natAbs ≤ 128) (b_i341 : i341.toInt.natAbs ≤ 128) (b_i249 : i249.toInt.natAbs ≤ 128) (own_z0 : (0 : Int32).toInt.natAbs ≤ 128) hi353
  simp only [own_zi, Int.zero_mul, Int.mul_zero, Int.add_zero, Int.zero_add] at tc3
  have tc4 := own_cf (b_i337 : i337.toInt.natAbs ≤ 128) (own_z0 : (0 : Int32).toInt.natAbs ≤ 128) (b_i339 : i339.toInt.natAbs ≤ 128) (own_z0 : (0 : Int32).toInt.natAbs ≤ 128) (b_i341 : i341.toInt.natAbs ≤ 128) (bl : ld.toInt.natAbs ≤ 128) (own_z0 : (0 : Int32).toInt.natAbs ≤ 128) hi355
  simp only [own_zi, Int.zero_mul, Int.mul_zero, Int.add_zero, Int.zero_add] at tc4
  refine R.iload X354 hx (hb hby at_389) rfl (pc' := 391) rfl ?_
  refine R.newP X354 hx hZ (ty := .double) rfl w_1 e354 (by decide) (cap := 5) (by decide) (by decide) (ad := "[D") (by decide) (hb hby at_391) (pc' := 393) rfl (by decide) (by decide) ?_; intro T356 h356 b356 k356 g356 X356 e356 E356 EE356 AA356
  have g_b356 : n0 ≤ b356 := Nat.le_trans Z345 (Nat.le_of_eq g356.symm)
  have sz_b356 : h0.size ≤ b356 := Nat.le_trans K345.1 (Nat.le_of_eq g356.symm)
  have ne_b246_b356 : b246 ≠ b356 := Nat.ne_of_lt (Nat.lt_of_lt_of_le V_b246.lt (Nat.le_of_eq g356.symm))
  have ne_b253_b356 : b253 ≠ b356 := Nat.ne_of_lt (Nat.lt_of_lt_of_le V_b253.lt (Nat.le_of_eq g356.symm))
  have ne_b336_b356 : b336 ≠ b356 := Nat.ne_of_lt (Nat.lt_of_lt_of_le V_b336.lt (Nat.le_of_eq g356.symm))
  have ne_b343_b356 : b343 ≠ b356 := Nat.ne_of_lt (Nat.lt_of_lt_of_le V_b343.lt (Nat.le_of_eq g356.symm))
  have K356 : Keep h0 h356 [] := K345.ext E356
  have Z356 : n0 ≤ h356.size := Nat.le_trans Z345 E356.1
  have V_b246 := V_b246.ext E356
  have V_b253 := V_b253.ext E356
  have V_b336 := V_b336.ext E356
  have V_b343 := V_b343.ext E356
  have E_b356 : Exa Z h356 b356 "[D" := EE356
  have V_b356 : Arh Z h356 b356 k356 .double (5 : Int32) [] [] (.double (0 : UInt64)) := AA356
  refine R.astore X356 hx (hb hby at_393) rfl (L' := #[.val (.int p0), .val (.int p1), .val (.int p2), .val (.int p3), .val (.int (3 : Int32)), .val (.int (2 : Int32)), .val (.int (3 : Int32)), .val (.int ld), .val (.ref b246), .val (.ref b253), .val (.int i257), .val (.int i258), .val (.ref b336), .val (.ref b343), .val (.int (5 : Int32)), .val (.int i347), .val (.int i349), .val (.int i351), .val (.int i353), .val (.int i355), .val (.ref b356), .unset, .unset, .unset]) rfl (pc' := 395) rfl ?_
  refine R.iload X356 hx (hb hby at_395) rfl (pc' := 397) rfl ?_
  refine R.ifNo X356 hx (hb hby at_397) (tlt (by decide : (0 : Int32) < (5 : Int32))).2.2.2 (pc' := 400) rfl ?_
  refine R.aload X356 hx (hb hby at_400) rfl rfl (pc' := 402) rfl ?_
  refine R.iconst X356 hx (hb hby at_402) (v := (0 : Int32)) (by decide) (pc' := 403) rfl ?_
  refine R.iload X356 hx (hb hby at_403) rfl (pc' := 405) rfl ?_
  refine R.i2d X356 hx (hb hby at_405) (pc' := 406) rfl ?_
  refine R.dastore X356 hx hZ e356 V_b356 (⟨by decide, by decide⟩ : ¬ (0 : Int32) < 0 ∧ (0 : Int32) < (5 : Int32)) (hb hby at_406) (pc' := 407) rfl ?_; intro T357 h357 X357 e357 W357 V357
  have V_b246 := V_b246.other W357 ne_b246_b356
  have V_b253 := V_b253.other W357 ne_b253_b356
  have V_b336 := V_b336.other W357 ne_b336_b356
  have V_b343 := V_b343.other W357 ne_b343_b356
  have E_b356 := E_b356.wr W357
  have V_b356 : Arh Z h357 b356 k356 .double (5 : Int32) [((0 : Int32), (.double (FP.i2d i347)))] [] (.double (0 : UInt64)) := V357
  have N357 := Fr.snoc X357 N354 g_b356
  have K357 : Keep h0 h357 [] := K356.wr W357 (Or.inr sz_b356)
  have Z357 : n0 ≤ h357.size := Nat.le_trans Z356 (Keep.of_wr W357).1
  refine R.iload X357 hx (hb hby at_407) rfl (pc' := 409) rfl ?_
  refine R.iconst X357 hx (hb hby at_409) (v := (1 : Int32)) (by decide) (pc' := 410) rfl ?_
  refine R.icmpNo X357 hx (hb hby at_410) (tlt (by decide : (1 : Int32) < (5 : Int32))).2.2.2 (pc' := 413) rfl ?_
  refine R.aload X357 hx (hb hby at_413) rfl rfl (pc' := 415) rfl ?_
  refine R.iconst X357 hx (hb hby at_415) (v := (1 : Int32)) (by decide) (pc' := 416) rfl ?_
  refine R.iload X357 hx (hb hby at_416) rfl (pc' := 418) rfl ?_
  refine R.i2d X357 hx (hb hby at_418) (pc' := 419) rfl ?_
  refine R.dastore X357 hx hZ e357 V_b356 (⟨by decide, by decide⟩ : ¬ (1 : Int32) < 0 ∧ (1 : Int32) < (5 : Int32)) (hb hby at_419) (pc' := 420) rfl ?_; intro T358 h358 X358 e358 W358 V358
  have V_b246 := V_b246.other W358 ne_b246_b356
  have V_b253 := V_b253.other W358 ne_b253_b356
  have V_b336 := V_b336.other W358 ne_b336_b356
  have V_b343 := V_b343.other W358 ne_b343_b356
  have E_b356 := E_b356.wr W358
  have V_b356 : Arh Z h358 b356 k356 .double (5 : Int32) [((1 : Int32), (.double (FP.i2d i349))), ((0 : Int32), (.double (FP.i2d i347)))] [] (.double (0 : UInt64)) := V358
  have N358 := Fr.snoc X358 N357 g_b356
  have K358 : Keep h0 h358 [] := K357.wr W358 (Or.inr sz_b356)
  have Z358 : n0 ≤ h358.size := Nat.le_trans Z357 (Keep.of_wr W358).1
  refine R.iload X358 hx (hb hby at_420) rfl (pc' := 422) rfl ?_
  refine R.iconst X358 hx (hb hby at_422) (v := (2 : Int32)) (by decide) (pc' := 423) rfl ?_
  refine R.icmpNo X358 hx (hb hby at_423) (tlt (by decide : (2 : Int32) < (5 : Int32))).2.2.2 (pc' := 426) rfl ?_
  refine R.aload X358 hx (hb hby at_426) rfl rfl (pc' := 428) rfl ?_
  refine R.iconst X358 hx (hb hby at_428) (v := (2 : Int32)) (by decide) (pc' := 429) rfl ?_
  refine R.iload X358 hx (hb hby at_429) rfl (pc' := 431) rfl ?_
  refine R.i2d X358 hx (hb hby at_431) (pc' := 432) rfl ?_
  refine R.dastore X358 hx hZ e358 V_b356 (⟨by decide, by decide⟩ : ¬ (2 : Int32) < 0 ∧ (2 : Int32) < (5 : Int32)) (hb hby at_432) (pc' := 433) rfl ?_; intro T359 h359 X359 e359 W359 V359
  have V_b246 := V_b246.other W359 ne_b246_b356
  have V_b253 := V_b253.other W359 ne_b253_b356
  have V_b336 := V_b336.other W359 ne_b336_b356
  have V_b343 := V_b343.other W359 ne_b343_b356
  have E_b356 := E_b356.wr W359
  have V_b356 : Arh Z h359 b356 k356 .double (5 : Int32) [((2 : Int32), (.double (FP.i2d i351))), ((1 : Int32), (.double (FP.i2d i349))), ((0 : Int32), (.double (FP.i2d i347)))] [] (.double (0 : UInt64)) := V359
  have N359 := Fr.snoc X359 N358 g_b356
  have K359 : Keep h0 h359 [] := K358.wr W359 (Or.inr sz_b356)
  have Z359 : n0 ≤ h359.size := Nat.le_trans Z358 (Keep.of_wr W359).1
  refine R.iload X359 hx (hb hby at_433) rfl (pc' := 435) rfl ?_
  refine R.iconst X359 hx (hb hby at_435) (v := (3 : Int32)) (by decide) (pc' := 436) rfl ?_
  refine R.icmpNo X359 hx (hb hby at_436) (tlt (by decide : (3 : Int32) < (5 : Int32))).2.2.2 (pc' := 439) rfl ?_
  refine R.aload X359 hx (hb hby at_439) rfl rfl (pc' := 441) rfl ?_
  refine R.iconst X359 hx (hb hby at_441) (v := (3 : Int32)) (by decide) (pc' := 442) rfl ?_
  refine R.iload X359 hx (hb hby at_442) rfl (pc' := 444) rfl ?_
  refine R.i2d X359 hx (hb hby at_444) (pc' := 445) rfl ?_
  refine R.dastore X359 hx hZ e359 V_b356 (⟨by decide, by decide⟩ : ¬ (3 : Int32) < 0 ∧ (3 : Int32) < (5 : Int32)) (hb hby at_445) (pc' := 446) rfl ?_; intro T360 h360 X360 e360 W360 V360
  have V_b246 := V_b246.other W360 ne_b246_b356
  have V_b253 := V_b253.other W360 ne_b253_b356
  have V_b336 := V_b336.other W360 ne_b336_b356
  have V_b343 := V_b343.other W360 ne_b343_b356
  have E_b356 := E_b356.wr W360
  have V_b356 : Arh Z h360 b356 k356 .double (5 : Int32) [((3 : Int32), (.double (FP.i2d i353))), ((2 : Int32), (.double (FP.i2d i351))), ((1 : Int32), (.double (FP.i2d i349))), ((0 : Int32), (.double (FP.i2d i347)))] [] (.double (0 : UInt64)) := V360
  have N360 := Fr.snoc X360 N359 g_b356
  have K360 : Keep h0 h360 [] := K359.wr W360 (Or.inr sz_b356)
  have Z360 : n0 ≤ h360.size := Nat.le_trans Z359 (Keep.of_wr W360).1
  refine R.iload X360 hx (hb hby at_446) rfl (pc' := 448) rfl ?_
  refine R.iconst X360 hx (hb hby at_448) (v := (4 : Int32)) (by decide) (pc' := 449) rfl ?_
  refine R.icmpNo X360 hx (hb hby at_449) (tlt (by decide : (4 : Int32) < (5 : Int32))).2.2.2 (pc' := 452) rfl ?_
  refine R.aload X360 hx (hb hby at_452) rfl rfl (pc' := 454) rfl ?_
  refine R.iconst X360 hx (hb hby at_454) (v := (4 : Int32)) (by decide) (pc' := 455) rfl ?_
  refine R.iload X360 hx (hb hby at_455) rfl (pc' := 457) rfl ?_
  refine R.i2d X360 hx (hb hby at_457) (pc' := 458) rfl ?_
  refine R.dastore X360 hx hZ e360 V_b356 (⟨by decide, by decide⟩ : ¬ (4 : Int32) < 0 ∧ (4 : Int32) < (5 : Int32)) (hb hby at_458) (pc' := 459) rfl ?_; intro T361 h361 X361 e361 W361 V361
  have V_b246 := V_b246.other W361 ne_b246_b356
  have V_b253 := V_b253.other W361 ne_b253_b356
  have V_b336 := V_b336.other W361 ne_b336_b356
  have V_b343 := V_b343.other W361 ne_b343_b356
  have E_b356 := E_b356.wr W361
  have V_b356 : Arh Z h361 b356 k356 .double (5 : Int32) [((4 : Int32), (.double (FP.i2d i355))), ((3 : Int32), (.double (FP.i2d i353))), ((2 : Int32), (.double (FP.i2d i351))), ((1 : Int32), (.double (FP.i2d i349))), ((0 : Int32), (.double (FP.i2d i347)))] [] (.double (0 : UInt64)) := V361
  have N361 := Fr.snoc X361 N360 g_b356
  have K361 : Keep h0 h361 [] := K360.wr W361 (Or.inr sz_b356)
  have Z361 : n0 ≤ h361.size := Nat.le_trans Z360 (Keep.of_wr W361).1
  refine R.aload X361 hx (hb hby at_459) rfl rfl (pc' := 461) rfl ?_
  refine R.aload X361 hx (hb hby at_461) rfl rfl (pc' := 463) rfl ?_
  refine R.callS X361 hx hZ (y := mY1) hown w_2 w_3 w_4 w_5 (by decide) e361 (rmqq33 l Z aZ hw [] b356 b253 k356 k253 [((4 : Int32), (.double (FP.i2d i355))), ((3 : Int32), (.double (FP.i2d i353))), ((2 : Int32), (.double (FP.i2d i351))), ((1 : Int32), (.double (FP.i2d i349))), ((0 : Int32), (.double (FP.i2d i347)))] [((2 : Int32), (.double (FP.i2d ld))), ((1 : Int32), (.double (FP.i2d i249))), ((0 : Int32), (.double (FP.i2d i247)))] (FP.i2d i347) (FP.i2d i349) (FP.i2d i351) (FP.i2d i353) (FP.i2d i355) (FP.i2d i247) (FP.i2d i249) (FP.i2d ld) i347.toInt i349.toInt i351.toInt i353.toInt i355.toInt i247.toInt i249.toInt ld.toInt i337.toInt i339.toInt i341.toInt i257.toInt i258.toInt h361 n0 Z361 V_b356 E_b356 V_b253 (getH_miss (by decide) (by decide) (getH_miss (by decide) (by decide) (getH_miss (by decide) (by decide) (getH_miss (by decide) (by decide) (getH_hit (by decide) (rfl)))))) (Dy.i2d _) (getH_miss (by decide) (by decide) (getH_miss (by decide) (by decide) (getH_miss (by decide) (by decide) (getH_hit (by decide) (rfl))))) (Dy.i2d _) (getH_miss (by decide) (by decide) (getH_miss (by decide) (by decide) (getH_hit (by decide) (rfl)))) (Dy.i2d _) (getH_miss (by decide) (by decide) (getH_hit (by decide) (rfl))) (Dy.i2d _) (getH_hit (by decide) (rfl)) (Dy.i2d _) (getH_miss (by decide) (by decide) (getH_miss (by decide) (by decide) (getH_hit (by decide) (rfl)))) (Dy.i2d _) (getH_miss (by decide) (by decide) (getH_hit (by decide) (rfl))) (Dy.i2d _) (getH_hit (by decide) (rfl)) (Dy.i2d _) (tc0) (tc1) (tc2) (tc3) (tc4) (nl) (b_i247) (b_i249) (bl) (b_i337) (b_i339) (b_i341) (b_i257) (b_i258)) (by decide) (W := 0) (Nat.le_of_eq rfl) (by decide) (by rw [hml]; rfl) (lenOf pd_1 rfl) rfl (hb hby at_463) (pc' := 466) rfl (by decide) (by decide) ?_; intro v362 T362 L362 X362 hQ362
  obtain ⟨r_362, kr_362, hr_362, rfl, N362q, Kc362, P362_0, P362_1, P362_2, P362_3, P362_4⟩ := hQ362
  have N362 := Fr.app N361 N362q
  generalize e362 : T362.heap = h362 at Kc362 P362_0 P362_1 P362_2 P362_3 P362_4
  have K362 : Keep h0 h362 [] := K361.trans Kc362 (all0)
  have Z362 : n0 ≤ h362.size := Nat.le_trans Z361 Kc362.1
  have ne_b246_r_362 : b246 ≠ r_362 := Nat.ne_of_lt (Nat.lt_of_lt_of_le V_b246.lt P362_0)
  have ne_b253_r_362 : b253 ≠ r_362 := Nat.ne_of_lt (Nat.lt_of_lt_of_le V_b253.lt P362_0)
  have ne_b336_r_362 : b336 ≠ r_362 := Nat.ne_of_lt (Nat.lt_of_lt_of_le V_b336.lt P362_0)
  have ne_b343_r_362 : b343 ≠ r_362 := Nat.ne_of_lt (Nat.lt_of_lt_of_le V_b343.lt P362_0)
  have ne_b356_r_362 : b356 ≠ r_362 := Nat.ne_of_lt (Nat.lt_of_lt_of_le E_b356.lt P362_0)
  have g_r_362 : n0 ≤ r_362 := Nat.le_trans Z361 P362_0
  have sz_r_362 : h0.size ≤ r_362 := Nat.le_trans K361.1 P362_0
  have V_b246 := V_b246.keep Kc362 nin0
  have V_b253 := V_b253.keep Kc362 nin0
  have V_b336 := V_b336.keep Kc362 nin0
  have V_b343 := V_b343.keep Kc362 nin0
  have E_b356 := E_b356.keep Kc362
  have V_b356 := V_b356.keep Kc362 nin0
  have fresh_362 := P362_0
  have V_r_362 : Arh Z h362 r_362 kr_362 .double (3 : Int32) hr_362 [] (.double (0 : UInt64)) := P362_1
  have V_r_362 : Arh Z h362 r_362 kr_362 .double (3 : Int32) hr_362 [] (.double (0 : UInt64)) := V_r_362
  have c0_362 := P362_2
  have c1_362 := P362_3
  have c2_362 := P362_4
  refine R.astore X362 hx (hb hby at_466) rfl (L' := #[.val (.int p0), .val (.int p1), .val (.int p2), .val (.int p3), .val (.int (3 : Int32)), .val (.int (2 : Int32)), .val (.int (3 : Int32)), .val (.int ld), .val (.ref b246), .val (.ref b253), .val (.int i257), .val (.int i258), .val (.ref b336), .val (.ref b343), .val (.int (5 : Int32)), .val (.int i347), .val (.int i349), .val (.int i351), .val (.int i353), .val (.int i355), .val (.ref b356), .val (.ref r_362), .unset, .unset]) rfl (pc' := 468) rfl ?_
  refine R.aload X362 hx (hb hby at_468) rfl rfl (pc' := 470) rfl ?_
  refine R.alen X362 hx hZ e362 V_r_362 (hb hby at_470) (pc' := 471) rfl ?_
  refine R.iload X362 hx (hb hby at_471) rfl (pc' := 473) rfl ?_
  refine R.icmpNo X362 hx (hb hby at_473) (teq (by decide : (3 : Int32) = (3 : Int32))).2 (pc' := 476) rfl ?_
  refine R.aload X362 hx (hb hby at_476) rfl rfl (pc' := 478) rfl ?_
  refine R.iconst X362 hx (hb hby at_478) (v := (0 : Int32)) (by decide) (pc' := 479) rfl ?_
  refine R.aload X362 hx (hb hby at_479) rfl rfl (pc' := 481) rfl ?_
  refine R.callS X362 hx hZ (y := mY4) hown w_25 w_26 w_8 w_27 (by decide) e362 (rm5 l Z aZ hw [] r_362 (0 : Int32) b336 kr_362 (3 : Int32) hr_362 k336 [((2 : Int32), (.int i341)), ((1 : Int32), (.int i339)), ((0 : Int32), (.int i337))] i337 h362 n0 Z362 V_r_362 V_b336 (by decide) (getH_miss (by decide) (by decide) (getH_miss (by decide) (by decide) (getH_hit (by decide) (rfl)))) (fun _ => c0_362)) (by decide) (W := 0) (Nat.le_of_eq rfl) (by decide) (by rw [hml]; rfl) (lenOf pd_4 rfl) rfl (hb hby at_481) (pc' := 484) rfl (by decide) (by decide) ?_; intro v363 T363 L363 X363 hQ363
  obtain ⟨rfl, N363q, e363⟩ := hQ363
  have N363 := Fr.app N362 N363q
  refine R.ifNo X363 hx (hb hby at_484) (feq (by decide : ¬ ((1 : Int32) = (0 : Int32)))).1 (pc' := 487) rfl ?_
  refine R.aload X363 hx (hb hby at_487) rfl rfl (pc' := 489) rfl ?_
  refine R.iconst X363 hx (hb hby at_489) (v := (1 : Int32)) (by decide) (pc' := 490) rfl ?_
  refine R.aload X363 hx (hb hby at_490) rfl rfl (pc' := 492) rfl ?_
  refine R.callS X363 hx hZ (y := mY4) hown w_25 w_26 w_8 w_27 (by decide) e363 (rm5 l Z aZ hw [] r_362 (1 : Int32) b336 kr_362 (3 : Int32) hr_362 k336 [((2 : Int32), (.int i341)), ((1 : Int32), (.int i339)), ((0 : Int32), (.int i337))] i339 h362 n0 Z362 V_r_362 V_b336 (by decide) (getH_miss (by decide) (by decide) (getH_hit (by decide) (rfl))) (fun _ => c1_362)) (by decide) (W := 0) (Nat.le_of_eq rfl) (by decide) (by rw [hml]; rfl) (lenOf pd_4 rfl) rfl (hb hby at_492) (pc' := 495) rfl (by decide) (by decide) ?_; intro v364 T364 L364 X364 hQ364
  obtain ⟨rfl, N364q, e364⟩ := hQ364
  have N364 := Fr.app N363 N364q
  refine R.ifNo X364 hx (hb hby at_495) (feq (by decide : ¬ ((1 : Int32) = (0 : Int32)))).1 (pc' := 498) rfl ?_
  refine R.aload X364 hx (hb hby at_498) rfl rfl (pc' := 500) rfl ?_
  refine R.iconst X364 hx (hb hby at_500) (v := (2 : Int32)) (by decide) (pc' := 501) rfl ?_
  refine R.aload X364 hx (hb hby at_501) rfl rfl (pc' := 503) rfl ?_
  refine R.callS X364 hx hZ (y := mY4) hown w_25 w_26 w_8 w_27 (by decide) e364 (rm5 l Z aZ hw [] r_362 (2 : Int32) b336 kr_362 (3 : Int32) hr_362 k336 [((2 : Int32), (.int i341)), ((1 : Int32), (.int i339)), ((0 : Int32), (.int i337))] i341 h362 n0 Z362 V_r_362 V_b336 (by decide) (getH_hit (by decide) (rfl)) (fun _ => c2_362)) (by decide) (W := 0) (Nat.le_of_eq rfl) (by decide) (by rw [hml]; rfl) (lenOf pd_4 rfl) rfl (hb hby at_503) (pc' := 506) rfl (by decide) (by decide) ?_; intro v365 T365 L365 X365 hQ365
  obtain ⟨rfl, N365q, e365⟩ := hQ365
  have N365 := Fr.app N364 N365q
  refine R.ifNo X365 hx (hb hby at_506) (feq (by decide : ¬ ((1 : Int32) = (0 : Int32)))).1 (pc' := 509) rfl ?_
  refine R.iconst X365 hx (hb hby at_509) (v := (1 : Int32)) (by decide) (pc' := 510) rfl ?_
  refine R.goto X365 hx (hb hby at_510) (by decide) (pc' := 514) (by decide) ?_
  refine R.istore X365 hx (hb hby at_514) (L' := #[.val (.int p0), .val (.int p1), .val (.int p2), .val (.int p3), .val (.int (3 : Int32)), .val (.int (2 : Int32)), .val (.int (3 : Int32)), .val (.int ld), .val (.ref b246), .val (.ref b253), .val (.int i257), .val (.int i258), .val (.ref b336), .val (.ref b343), .val (.int (5 : Int32)), .val (.int i347), .val (.int i349), .val (.int i351), .val (.int i353), .val (.int i355), .val (.ref b356), .val (.ref r_362), .val (.int (1 : Int32)), .unset]) rfl (pc' := 516) rfl ?_
  refine R.aload X365 hx (hb hby at_516) rfl rfl (pc' := 518) rfl ?_
  refine R.iconst X365 hx (hb hby at_518) (v := (0 : Int32)) (by decide) (pc' := 519) rfl ?_
  refine R.iload X365 hx (hb hby at_519) rfl (pc' := 521) rfl ?_
  refine R.callS X365 hx hZ (y := mY2) hown w_6 w_7 w_8 w_9 (by decide) e365 (rm2 l Z aZ hw [] b356 (0 : Int32) i347 k356 (5 : Int32) [((4 : Int32), (.double (FP.i2d i355))), ((3 : Int32), (.double (FP.i2d i353))), ((2 : Int32), (.double (FP.i2d i351))), ((1 : Int32), (.double (FP.i2d i349))), ((0 : Int32), (.double (FP.i2d i347)))] h362 n0 Z362 V_b356 (by decide) (fun _ => getH_miss (by decide) (by decide) (getH_miss (by decide) (by decide) (getH_miss (by decide) (by decide) (getH_miss (by decide) (by decide) (getH_hit (by decide) (rfl))))))) (by decide) (W := 0) (Nat.le_of_eq rfl) (by decide) (by rw [hml]; rfl) (lenOf pd_2 rfl) rfl (hb hby at_521) (pc' := 524) rfl (by decide) (by decide) ?_; intro v366 T366 L366 X366 hQ366
  obtain ⟨rfl, N366q, e366⟩ := hQ366
  have N366 := Fr.app N365 N366q
  refine R.ifNo X366 hx (hb hby at_524) (feq (by decide : ¬ ((1 : Int32) = (0 : Int32)))).1 (pc' := 527) rfl ?_
  refine R.aload X366 hx (hb hby at_527) rfl rfl (pc' := 529) rfl ?_
  refine R.iconst X366 hx (hb hby at_529) (v := (1 : Int32)) (by decide) (pc' := 530) rfl ?_
  refine R.iload X366 hx (hb hby at_530) rfl (pc' := 532) rfl ?_
  refine R.callS X366 hx hZ (y := mY2) hown w_6 w_7 w_8 w_9 (by decide) e366 (rm2 l Z aZ hw [] b356 (1 : Int32) i349 k356 (5 : Int32) [((4 : Int32), (.double (FP.i2d i355))), ((3 : Int32), (.double (FP.i2d i353))), ((2 : Int32), (.double (FP.i2d i351))), ((1 : Int32), (.double (FP.i2d i349))), ((0 : Int32), (.double (FP.i2d i347)))] h362 n0 Z362 V_b356 (by decide) (fun _ => getH_miss (by decide) (by decide) (getH_miss (by decide) (by decide) (getH_miss (by decide) (by decide) (getH_hit (by decide) (rfl)))))) (by decide) (W := 0) (Nat.le_of_eq rfl) (by decide) (by rw [hml]; rfl) (lenOf pd_2 rfl) rfl (hb hby at_532) (pc' := 535) rfl (by decide) (by decide) ?_; intro v367 T367 L367 X367 hQ367
  obtain ⟨rfl, N367q, e367⟩ := hQ367
  have N367 := Fr.app N366 N367q
  refine R.ifNo X367 hx (hb hby at_535) (feq (by decide : ¬ ((1 : Int32) = (0 : Int32)))).1 (pc' := 538) rfl ?_
  refine R.aload X367 hx (hb hby at_538) rfl rfl (pc' := 540) rfl ?_
  refine R.iconst X367 hx (hb hby at_540) (v := (2 : Int32)) (by decide) (pc' := 541) rfl ?_
  refine R.iload X367 hx (hb hby at_541) rfl (pc' := 543) rfl ?_
  refine R.callS X367 hx hZ (y := mY2) hown w_6 w_7 w_8 w_9 (by decide) e367 (rm2 l Z aZ hw [] b356 (2 : Int32) i351 k356 (5 : Int32) [((4 : Int32), (.double (FP.i2d i355))), ((3 : Int32), (.double (FP.i2d i353))), ((2 : Int32), (.double (FP.i2d i351))), ((1 : Int32), (.double (FP.i2d i349))), ((0 : Int32), (.double (FP.i2d i347)))] h362 n0 Z362 V_b356 (by decide) (fun _ => getH_miss (by decide) (by decide) (getH_miss (by decide) (by decide) (getH_hit (by decide) (rfl))))) (by decide) (W := 0) (Nat.le_of_eq rfl) (by decide) (by rw [hml]; rfl) (lenOf pd_2 rfl) rfl (hb hby at_543) (pc' := 546) rfl (by decide) (by decide) ?_; intro v368 T368 L368 X368 hQ368
  obtain ⟨rfl, N368q, e368⟩ := hQ368
  have N368 := Fr.app N367 N368q
  refine R.ifNo X368 hx (hb hby at_546) (feq (by decide : ¬ ((1 : Int32) = (0 : Int32)))).1 (pc' := 549) rfl ?_
  refine R.aload X368 hx (hb hby at_549) rfl rfl (pc' := 551) rfl ?_
  refine R.iconst X368 hx (hb hby at_551) (v := (3 : Int32)) (by decide) (pc' := 552) rfl ?_
  refine R.iload X368 hx (hb hby at_552) rfl (pc' := 554) rfl ?_
  refine R.callS X368 hx hZ (y := mY2) hown w_6 w_7 w_8 w_9 (by decide) e368 (rm2 l Z aZ hw [] b356 (3 : Int32) i353 k356 (5 : Int32) [((4 : Int32), (.double (FP.i2d i355))), ((3 : Int32), (.double (FP.i2d i353))), ((2 : Int32), (.double (FP.i2d i351))), ((1 : Int32), (.double (FP.i2d i349))), ((0 : Int32), (.double (FP.i2d i347)))] h362 n0 Z362 V_b356 (by decide) (fun _ => getH_miss (by decide) (by decide) (getH_hit (by decide) (rfl)))) (by decide) (W := 0) (Nat.le_of_eq rfl) (by decide) (by rw [hml]; rfl) (lenOf pd_2 rfl) rfl (hb hby at_554) (pc' := 557) rfl (by decide) (by decide) ?_; intro v369 T369 L369 X369 hQ369
  obtain ⟨rfl, N369q, e369⟩ := hQ369
  have N369 := Fr.app N368 N369q
  refine R.ifNo X369 hx (hb hby at_557) (feq (by decide : ¬ ((1 : Int32) = (0 : Int32)))).1 (pc' := 560) rfl ?_
  refine R.aload X369 hx (hb hby at_560) rfl rfl (pc' := 562) rfl ?_
  refine R.iconst X369 hx (hb hby at_562) (v := (4 : Int32)) (by decide) (pc' := 563) rfl ?_
  refine R.iload X369 hx (hb hby at_563) rfl (pc' := 565) rfl ?_
  refine R.callS X369 hx hZ (y := mY2) hown w_6 w_7 w_8 w_9 (by decide) e369 (rm2 l Z aZ hw [] b356 (4 : Int32) i355 k356 (5 : Int32) [((4 : Int32), (.double (FP.i2d i355))), ((3 : Int32), (.double (FP.i2d i353))), ((2 : Int32), (.double (FP.i2d i351))), ((1 : Int32), (.double (FP.i2d i349))), ((0 : Int32), (.double (FP.i2d i347)))] h362 n0 Z362 V_b356 (by decide) (fun _ => getH_hit (by decide) (rfl))) (by decide) (W := 0) (Nat.le_of_eq rfl) (by decide) (by rw [hml]; rfl) (lenOf pd_2 rfl) rfl (hb hby at_565) (pc' := 568) rfl (by decide) (by decide) ?_; intro v370 T370 L370 X370 hQ370
  obtain ⟨rfl, N370q, e370⟩ := hQ370
  have N370 := Fr.app N369 N370q
  refine R.ifNo X370 hx (hb hby at_568) (feq (by decide : ¬ ((1 : Int32) = (0 : Int32)))).1 (pc' := 571) rfl ?_
  refine R.iconst X370 hx (hb hby at_571) (v := (1 : Int32)) (by decide) (pc' := 572) rfl ?_
  refine R.goto X370 hx (hb hby at_572) (by decide) (pc' := 576) (by decide) ?_
  refine R.istore X370 hx (hb hby at_576) (L' := #[.val (.int p0), .val (.int p1), .val (.int p2), .val (.int p3), .val (.int (3 : Int32)), .val (.int (2 : Int32)), .val (.int (3 : Int32)), .val (.int ld), .val (.ref b246), .val (.ref b253), .val (.int i257), .val (.int i258), .val (.ref b336), .val (.ref b343), .val (.int (5 : Int32)), .val (.int i347), .val (.int i349), .val (.int i351), .val (.int i353), .val (.int i355), .val (.ref b356), .val (.ref r_362), .val (.int (1 : Int32)), .val (.int (1 : Int32))]) rfl (pc' := 578) rfl ?_
  refine R.iload X370 hx (hb hby at_578) rfl (pc' := 580) rfl ?_
  refine R.ifNo X370 hx (hb hby at_580) (feq (by decide : ¬ ((1 : Int32) = (0 : Int32)))).1 (pc' := 583) rfl ?_
  refine R.iload X370 hx (hb hby at_583) rfl (pc' := 585) rfl ?_
  refine R.ifNo X370 hx (hb hby at_585) (feq (by decide : ¬ ((1 : Int32) = (0 : Int32)))).1 (pc' := 588) rfl ?_
  refine R.iconst X370 hx (hb hby at_588) (v := (1 : Int32)) (by decide) (pc' := 589) rfl ?_
  refine R.goto X370 hx (hb hby at_589) (by decide) (pc' := 593) (by decide) ?_
  rw [← hG]
  exact Rn.ret X370 (BodyLoose.notSynchronized Bd) (v := some (.int (1 : Int32))) (fun h => by rw [Bd.returns] at h; cases h) (Q := Q0 Z p0 p1 p2 p3 h0 n0) e370 (fun fs hr => retN X370 hx (t := .boolean) Bd.returns (by simp) (hb hby at_593) hr) ⟨rfl, N370⟩ (by decide) (by decide)
set_option maxRecDepth 65536 in
set_option maxHeartbeats 40000000 in
theorem rm0 (l : Launch) (Z : State) (aZ : Array Value) (hw : ∀ d ∈ tables_1, d.before aZ Z = true) (ws : List Jvm.Cond) (p0 : Int32) (p1 : Int32) (p2 : Int32) (p3 : Int32) (h0 : Heap) (n0 : Nat) (Z0 : n0 ≤ h0.size) :
    MetFree l x (head1 (Jvm.Cond.code x code maxLocals ret :: ws) room_1) (fun aQ UQ => aQ = #[(.int p0), (.int p1), (.int p2), (.int p3)] ∧ Z.Warmed39 UQ.vm ∧ UQ.heap = h0) (fun _ _ _ _ _ => True) (fun _ UQ oQ UR => ∃ vQ LQ, oQ = .returned vQ ∧ Q0 Z p0 p1 p2 p3 h0 n0 vQ UR.heap LQ ∧ FrameEnd UQ oQ UR LQ room_1.cells room_1.slots) := by
  refine MetFree.of_bodySF (plainFor_of_name pn_0) hisR ?_
  intro p e s m args below meth c s₁ Bd hml0 hP hK
  obtain ⟨rfl, hZ, hh⟩ := hP
  have hx := Bd.exec
  have hby := Bd.bytes
  have hml : c.maxLocals = 24 := hml0
  have hown : s.vm.findClass "com/example/deseason/deseason/arima/PolynomialsQuotientPinLaw" = some m.cls := findClass_of_methodNamed Bd.named
  have hnm := (name_of_methodNamed Bd.named Bd.method).1
  have X0 : Stand p l e room_1 s m #[(.int p0), (.int p1), (.int p2), (.int p3)] below meth c s₁ [] 0 0 := Stand.of_body Bd
  have e0 : s₁.heap = h0 := by rw [← hh, Bd.state]; rfl
  have N0 := Fr.nil n0
  have K0 : Keep h0 h0 [] := Keep.refl _ _
  have w_0 := hw _ (List.mem_of_getElem? (i := 0) rfl)
  have w_1 := hw _ (List.mem_of_getElem? (i := 1) rfl)
  have first_ : Rn p e below (s₁.setTop (mkF m 0 #[.val (.int p0), .val (.int p1), .val (.int p2), .val (.int p3), .unset, .unset, .unset, .unset, .unset, .unset, .unset, .unset, .unset, .unset, .unset, .unset, .unset, .unset, .unset, .unset, .unset, .unset, .unset, .unset] [])) (Fn0 Z p0 p1 p2 p3 h0 n0 s) := by
    generalize hG : (Fn0 Z p0 p1 p2 p3 h0 n0 s) = G
    refine R.iloadN X0 hx (hb hby at_0) rfl (pc' := 1) rfl ?_
    refine R.sipush X0 hx (hb hby at_1) (v := (255 : Int32)) (by decide) (pc' := 4) rfl ?_
    refine R.iand X0 hx (hb hby at_4) rfl (pc' := 5) rfl ?_
    refine R.iconst X0 hx (hb hby at_5) (v := (3 : Int32)) (by decide) (pc' := 6) rfl ?_
    refine R.irem X0 hx (hb hby at_6) (by decide : (3 : Int32) ≠ (0 : Int32)) (pc' := 7) rfl ?_
    refine R.iconst X0 hx (hb hby at_7) (v := (1 : Int32)) (by decide) (pc' := 8) rfl ?_
    refine R.iadd X0 hx (hb hby at_8) rfl (pc' := 9) rfl ?_
    generalize hi1 : (((p0 &&& (255 : Int32)) % (3 : Int32)) + (1 : Int32)) = i1
    refine R.istore X0 hx (hb hby at_9) (L' := #[.val (.int p0), .val (.int p1), .val (.int p2), .val (.int p3), .val (.int i1), .unset, .unset, .unset, .unset, .unset, .unset, .unset, .unset, .unset, .unset, .unset, .unset, .unset, .unset, .unset, .unset, .unset, .unset, .unset]) rfl (pc' := 11) rfl ?_
    have hdl := own_dl hi1
    rcases hdl with rfl | rfl | rfl
    · refine R.iload X0 hx (hb hby at_11) rfl (pc' := 13) rfl ?_
      refine R.iconst X0 hx (hb hby at_13) (v := (1 : Int32)) (by decide) (pc' := 14) rfl ?_
      refine R.isub X0 hx (hb hby at_14) (v := (0 : Int32)) (by decide) (pc' := 15) rfl ?_
      refine R.istore X0 hx (hb hby at_15) (L' := #[.val (.int p0), .val (.int p1), .val (.int p2), .val (.int p3), .val (.int (1 : Int32)), .val (.int (0 : Int32)), .unset, .unset, .unset, .unset, .unset, .unset, .unset, .unset, .unset, .unset, .unset, .unset, .unset, .unset, .unset, .unset, .unset, .unset]) rfl (pc' := 17) rfl ?_
      refine R.iloadN X0 hx (hb hby at_17) rfl (pc' := 18) rfl ?_
      refine R.bipush X0 hx (hb hby at_18) (v := (8 : Int32)) (by decide) (pc' := 20) rfl ?_
      refine R.ishr X0 hx (hb hby at_20) (pc' := 21) rfl ?_
      refine R.iconst X0 hx (hb hby at_21) (v := (3 : Int32)) (by decide) (pc' := 22) rfl ?_
      refine R.iand X0 hx (hb hby at_22) rfl (pc' := 23) rfl ?_
      generalize hi2 : ((p0 >>> ((8 : Int32) &&& 31)) &&& (3 : Int32)) = i2
      refine R.istore X0 hx (hb hby at_23) (L' := #[.val (.int p0), .val (.int p1), .val (.int p2), .val (.int p3), .val (.int (1 : Int32)), .val (.int (0 : Int32)), .val (.int i2), .unset, .unset, .unset, .unset, .unset, .unset, .unset, .unset, .unset, .unset, .unset, .unset, .unset, .unset, .unset, .unset, .unset]) rfl (pc' := 25) rfl ?_
      refine R.iconst X0 hx (hb hby at_25) (v := (1 : Int32)) (by decide) (pc' := 26) rfl ?_
      refine R.iloadN X0 hx (hb hby at_26) rfl (pc' := 27) rfl ?_
      refine R.bipush X0 hx (hb hby at_27) (v := (16 : Int32)) (by decide) (pc' := 29) rfl ?_
      refine R.ishr X0 hx (hb hby at_29) (pc' := 30) rfl ?_
      refine R.iconst X0 hx (hb hby at_30) (v := (3 : Int32)) (by decide) (pc' := 31) rfl ?_
      refine R.iand X0 hx (hb hby at_31) rfl (pc' := 32) rfl ?_
      refine R.ishl X0 hx (hb hby at_32) (pc' := 33) rfl ?_
      generalize hi3 : ((1 : Int32) <<< (((p0 >>> ((16 : Int32) &&& 31)) &&& (3 : Int32)) &&& 31)) = i3
      refine R.istore X0 hx (hb hby at_33) (L' := #[.val (.int p0), .val (.int p1), .val (.int p2), .val (.int p3), .val (.int (1 : Int32)), .val (.int (0 : Int32)), .val (.int i2), .val (.int i3), .unset, .unset, .unset, .unset, .unset, .unset, .unset, .unset, .unset, .unset, .unset, .unset, .unset, .unset, .unset, .unset]) rfl (pc' := 35) rfl ?_
      have hl7 := own_lead hi3
      refine R.iloadN X0 hx (hb hby at_35) rfl (pc' := 36) rfl ?_
      refine R.bipush X0 hx (hb hby at_36) (v := (18 : Int32)) (by decide) (pc' := 38) rfl ?_
      refine R.ishr X0 hx (hb hby at_38) (pc' := 39) rfl ?_
      have J49 : ∀ (ld : Int32) (nl : ld.toInt ≠ 0) (bl : ld.toInt.natAbs ≤ 128), Rn p e below (s₁.setTop (mkF m 49 #[.val (.int p0), .val (.int p1), .val (.int p2), .val (.int p3), .val (.int (1 : Int32)), .val (.int (0 : Int32)), .val (.int i2), .val (.int ld), .unset, .unset, .unset, .unset, .unset, .unset, .unset, .unset, .unset, .unset, .unset, .unset, .unset, .unset, .unset, .unset] [])) G := by
        intro ld nl bl
        refine R.iconst X0 hx (hb hby at_49) (v := (3 : Int32)) (by decide) (pc' := 50) rfl ?_
        refine R.newP X0 hx hZ (ty := .int) rfl w_0 e0 (by decide) (cap := 3) (by decide) (by decide) (ad := "[I") (by decide) (hb hby at_50) (pc' := 52) rfl (by decide) (by decide) ?_; intro T4 h4 b4 k4 g4 X4 e4 E4 EE4 AA4
        have g_b4 : n0 ≤ b4 := Nat.le_trans Z0 (Nat.le_of_eq g4.symm)
        have sz_b4 : h0.size ≤ b4 := Nat.le_trans K0.1 (Nat.le_of_eq g4.symm)
        have K4 : Keep h0 h4 [] := K0.ext E4
        have Z4 : n0 ≤ h4.size := Nat.le_trans Z0 E4.1
        have V_b4 : Arh Z h4 b4 k4 .int (3 : Int32) [] [] (.int (0 : Int32)) := AA4
        refine R.astore X4 hx (hb hby at_52) rfl (L' := #[.val (.int p0), .val (.int p1), .val (.int p2), .val (.int p3), .val (.int (1 : Int32)), .val (.int (0 : Int32)), .val (.int i2), .val (.int ld), .val (.ref b4), .unset, .unset, .unset, .unset, .unset, .unset, .unset, .unset, .unset, .unset, .unset, .unset, .unset, .unset, .unset]) rfl (pc' := 54) rfl ?_
        refine R.aload X4 hx (hb hby at_54) rfl rfl (pc' := 56) rfl ?_
        refine R.iconst X4 hx (hb hby at_56) (v := (0 : Int32)) (by decide) (pc' := 57) rfl ?_
        refine R.iloadN X4 hx (hb hby at_57) rfl (pc' := 58) rfl ?_
        refine R.i2b X4 hx (hb hby at_58) (pc' := 59) rfl ?_
        show Rn p e below (T4.setTop (mkF m 59 #[.val (.int p0), .val (.int p1), .val (.int p2), .val (.int p3), .val (.int (1 : Int32)), .val (.int (0 : Int32)), .val (.int i2), .val (.int ld), .val (.ref b4), .unset, .unset, .unset, .unset, .unset, .unset, .unset, .unset, .unset, .unset, .unset, .unset, .unset, .unset, .unset] [(.int (p1.toInt8.toInt32)), (.int (0 : Int32)), (.ref b4)])) G
        generalize hi5 : (p1.toInt8.toInt32) = i5
        have b_i5 := own_byte hi5
        refine R.iastore X4 hx hZ e4 V_b4 (⟨by decide, by decide⟩ : ¬ (0 : Int32) < 0 ∧ (0 : Int32) < (3 : Int32)) (hb hby at_59) (pc' := 60) rfl ?_; intro T6 h6 X6 e6 W6 V6
        have V_b4 : Arh Z h6 b4 k4 .int (3 : Int32) [((0 : Int32), (.int i5))] [] (.int (0 : Int32)) := V6
        have N6 := Fr.snoc X6 N0 g_b4
        have K6 : Keep h0 h6 [] := K4.wr W6 (Or.inr sz_b4)
        have Z6 : n0 ≤ h6.size := Nat.le_trans Z4 (Keep.of_wr W6).1
        refine R.aload X6 hx (hb hby at_60) rfl rfl (pc' := 62) rfl ?_
        refine R.iconst X6 hx (hb hby at_62) (v := (1 : Int32)) (by decide) (pc' := 63) rfl ?_
        refine R.iload X6 hx (hb hby at_63) rfl (pc' := 65) rfl ?_
        refine R.iconst X6 hx (hb hby at_65) (v := (2 : Int32)) (by decide) (pc' := 66) rfl ?_
        refine R.icmpYes X6 hx (hb hby at_66) (tlt (by decide : (0 : Int32) < (2 : Int32))).1 (by decide) (pc' := 77) (by decide) ?_
        refine R.iconst X6 hx (hb hby at_77) (v := (0 : Int32)) (by decide) (pc' := 78) rfl ?_
        refine R.iastore X6 hx hZ e6 V_b4 (⟨by decide, by decide⟩ : ¬ (1 : Int32) < 0 ∧ (1 : Int32) < (3 : Int32)) (hb hby at_78) (pc' := 79) rfl ?_; intro T7 h7 X7 e7 W7 V7
        have V_b4 : Arh Z h7 b4 k4 .int (3 : Int32) [((1 : Int32), (.int (0 : Int32))), ((0 : Int32), (.int i5))] [] (.int (0 : Int32)) := V7
        have N7 := Fr.snoc X7 N6 g_b4
        have K7 : Keep h0 h7 [] := K6.wr W7 (Or.inr sz_b4)
        have Z7 : n0 ≤ h7.size := Nat.le_trans Z6 (Keep.of_wr W7).1
        refine R.aload X7 hx (hb hby at_79) rfl rfl (pc' := 81) rfl ?_
        refine R.iconst X7 hx (hb hby at_81) (v := (2 : Int32)) (by decide) (pc' := 82) rfl ?_
        refine R.iconst X7 hx (hb hby at_82) (v := (0 : Int32)) (by decide) (pc' := 83) rfl ?_
        refine R.iastore X7 hx hZ e7 V_b4 (⟨by decide, by decide⟩ : ¬ (2 : Int32) < 0 ∧ (2 : Int32) < (3 : Int32)) (hb hby at_83) (pc' := 84) rfl ?_; intro T8 h8 X8 e8 W8 V8
        have V_b4 : Arh Z h8 b4 k4 .int (3 : Int32) [((2 : Int32), (.int (0 : Int32))), ((1 : Int32), (.int (0 : Int32))), ((0 : Int32), (.int i5))] [] (.int (0 : Int32)) := V8
        have N8 := Fr.snoc X8 N7 g_b4
        have K8 : Keep h0 h8 [] := K7.wr W8 (Or.inr sz_b4)
        have Z8 : n0 ≤ h8.size := Nat.le_trans Z7 (Keep.of_wr W8).1
        refine R.aload X8 hx (hb hby at_84) rfl rfl (pc' := 86) rfl ?_
        refine R.iload X8 hx (hb hby at_86) rfl (pc' := 88) rfl ?_
        refine R.iload X8 hx (hb hby at_88) rfl (pc' := 90) rfl ?_
        refine R.iastore X8 hx hZ e8 V_b4 (⟨by decide, by decide⟩ : ¬ (0 : Int32) < 0 ∧ (0 : Int32) < (3 : Int32)) (hb hby at_90) (pc' := 91) rfl ?_; intro T9 h9 X9 e9 W9 V9
        have V_b4 : Arh Z h9 b4 k4 .int (3 : Int32) [((0 : Int32), (.int ld)), ((2 : Int32), (.int (0 : Int32))), ((1 : Int32), (.int (0 : Int32))), ((0 : Int32), (.int i5))] [] (.int (0 : Int32)) := V9
        have N9 := Fr.snoc X9 N8 g_b4
        have K9 : Keep h0 h9 [] := K8.wr W9 (Or.inr sz_b4)
        have Z9 : n0 ≤ h9.size := Nat.le_trans Z8 (Keep.of_wr W9).1
        refine R.iload X9 hx (hb hby at_91) rfl (pc' := 93) rfl ?_
        refine R.newP X9 hx hZ (ty := .double) rfl w_1 e9 (by decide) (cap := 1) (by decide) (by decide) (ad := "[D") (by decide) (hb hby at_93) (pc' := 95) rfl (by decide) (by decide) ?_; intro T10 h10 b10 k10 g10 X10 e10 E10 EE10 AA10
        have g_b10 : n0 ≤ b10 := Nat.le_trans Z9 (Nat.le_of_eq g10.symm)
        have sz_b10 : h0.size ≤ b10 := Nat.le_trans K9.1 (Nat.le_of_eq g10.symm)
        have ne_b4_b10 : b4 ≠ b10 := Nat.ne_of_lt (Nat.lt_of_lt_of_le V_b4.lt (Nat.le_of_eq g10.symm))
        have K10 : Keep h0 h10 [] := K9.ext E10
        have Z10 : n0 ≤ h10.size := Nat.le_trans Z9 E10.1
        have V_b4 := V_b4.ext E10
        have V_b10 : Arh Z h10 b10 k10 .double (1 : Int32) [] [] (.double (0 : UInt64)) := AA10
        refine R.astore X10 hx (hb hby at_95) rfl (L' := #[.val (.int p0), .val (.int p1), .val (.int p2), .val (.int p3), .val (.int (1 : Int32)), .val (.int (0 : Int32)), .val (.int i2), .val (.int ld), .val (.ref b4), .val (.ref b10), .unset, .unset, .unset, .unset, .unset, .unset, .unset, .unset, .unset, .unset, .unset, .unset, .unset, .unset]) rfl (pc' := 97) rfl ?_
        refine R.aload X10 hx (hb hby at_97) rfl rfl (pc' := 99) rfl ?_
        refine R.iconst X10 hx (hb hby at_99) (v := (0 : Int32)) (by decide) (pc' := 100) rfl ?_
        refine R.aload X10 hx (hb hby at_100) rfl rfl (pc' := 102) rfl ?_
        refine R.iconst X10 hx (hb hby at_102) (v := (0 : Int32)) (by decide) (pc' := 103) rfl ?_
        refine R.iaload X10 hx hZ e10 V_b4 (⟨by decide, by decide⟩ : ¬ (0 : Int32) < 0 ∧ (0 : Int32) < (3 : Int32)) (v := (.int ld)) (getH_hit ((⟨by decide, by decide⟩ : ¬ (0 : Int32) < 0 ∧ (0 : Int32) < (3 : Int32))).1 (rfl)) (hb hby at_103) (pc' := 104) rfl ?_
        refine R.i2d X10 hx (hb hby at_104) (pc' := 105) rfl ?_
        refine R.dastore X10 hx hZ e10 V_b10 (⟨by decide, by decide⟩ : ¬ (0 : Int32) < 0 ∧ (0 : Int32) < (1 : Int32)) (hb hby at_105) (pc' := 106) rfl ?_; intro T11 h11 X11 e11 W11 V11
        have V_b4 := V_b4.other W11 ne_b4_b10
        have V_b10 : Arh Z h11 b10 k10 .double (1 : Int32) [((0 : Int32), (.double (FP.i2d ld)))] [] (.double (0 : UInt64)) := V11
        have N11 := Fr.snoc X11 N9 g_b10
        have K11 : Keep h0 h11 [] := K10.wr W11 (Or.inr sz_b10)
        have Z11 : n0 ≤ h11.size := Nat.le_trans Z10 (Keep.of_wr W11).1
        refine R.iload X11 hx (hb hby at_106) rfl (pc' := 108) rfl ?_
        refine R.iconst X11 hx (hb hby at_108) (v := (1 : Int32)) (by decide) (pc' := 109) rfl ?_
        refine R.icmpYes X11 hx (hb hby at_109) (flt (by decide : ¬ ((1 : Int32) < (1 : Int32)))).2.2.2 (by decide) (pc' := 121) (by decide) ?_
        refine R.iload X11 hx (hb hby at_121) rfl (pc' := 123) rfl ?_
        refine R.iconst X11 hx (hb hby at_123) (v := (2 : Int32)) (by decide) (pc' := 124) rfl ?_
        refine R.icmpYes X11 hx (hb hby at_124) (flt (by decide : ¬ ((2 : Int32) < (1 : Int32)))).2.2.2 (by decide) (pc' := 136) (by decide) ?_
        refine R.iloadN X11 hx (hb hby at_136) rfl (pc' := 137) rfl ?_
        refine R.i2b X11 hx (hb hby at_137) (pc' := 138) rfl ?_
        generalize hi12 : (p3.toInt8.toInt32) = i12
        refine R.istore X11 hx (hb hby at_138) (L' := #[.val (.int p0), .val (.int p1), .val (.int p2), .val (.int p3), .val (.int (1 : Int32)), .val (.int (0 : Int32)), .val (.int i2), .val (.int ld), .val (.ref b4), .val (.ref b10), .val (.int i12), .unset, .unset, .unset, .unset, .unset, .unset, .unset, .unset, .unset, .unset, .unset, .unset, .unset]) rfl (pc' := 140) rfl ?_
        refine R.iloadN X11 hx (hb hby at_140) rfl (pc' := 141) rfl ?_
        refine R.bipush X11 hx (hb hby at_141) (v := (8 : Int32)) (by decide) (pc' := 143) rfl ?_
        refine R.ishr X11 hx (hb hby at_143) (pc' := 144) rfl ?_
        refine R.i2b X11 hx (hb hby at_144) (pc' := 145) rfl ?_
        generalize hi13 : ((p3 >>> ((8 : Int32) &&& 31)).toInt8.toInt32) = i13
        refine R.istore X11 hx (hb hby at_145) (L' := #[.val (.int p0), .val (.int p1), .val (.int p2), .val (.int p3), .val (.int (1 : Int32)), .val (.int (0 : Int32)), .val (.int i2), .val (.int ld), .val (.ref b4), .val (.ref b10), .val (.int i12), .val (.int i13), .unset, .unset, .unset, .unset, .unset, .unset, .unset, .unset, .unset, .unset, .unset, .unset]) rfl (pc' := 147) rfl ?_
        have b_i12 := own_byte hi12
        have b_i13 := own_byte hi13
        have hq6 := own_03 hi2
        rcases hq6 with rfl | rfl | rfl | rfl
        · exact rm0_10 l Z aZ hw ws p0 p1 p2 p3 h0 n0 Bd hml hZ X11 e11 N11 K11 Z11 ld b10 b4 i12 i13 i5 k10 k4 hG V_b4 V_b10 ne_b4_b10 g_b4 g_b10 sz_b4 sz_b10 nl bl b_i12 b_i13 b_i5
        · exact rm0_11 l Z aZ hw ws p0 p1 p2 p3 h0 n0 Bd hml hZ X11 e11 N11 K11 Z11 ld b10 b4 i12 i13 i5 k10 k4 hG V_b4 V_b10 ne_b4_b10 g_b4 g_b10 sz_b4 sz_b10 nl bl b_i12 b_i13 b_i5
        · exact rm0_12 l Z aZ hw ws p0 p1 p2 p3 h0 n0 Bd hml hZ X11 e11 N11 K11 Z11 ld b10 b4 i12 i13 i5 k10 k4 hG V_b4 V_b10 ne_b4_b10 g_b4 g_b10 sz_b4 sz_b10 nl bl b_i12 b_i13 b_i5
        · exact rm0_13 l Z aZ hw ws p0 p1 p2 p3 h0 n0 Bd hml hZ X11 e11 N11 K11 Z11 ld b10 b4 i12 i13 i5 k10 k4 hG V_b4 V_b10 ne_b4_b10 g_b4 g_b10 sz_b4 sz_b10 nl bl b_i12 b_i13 b_i5
      refine R.iconst X0 hx (hb hby at_39) (v := (1 : Int32)) (by decide) (pc' := 40) rfl ?_
      refine R.iand X0 hx (hb hby at_40) rfl (pc' := 41) rfl ?_
      by_cases hc41 : ((p0 >>> ((18 : Int32) &&& 31)) &&& (1 : Int32)) = (0 : Int32)
      · refine R.ifYes X0 hx (hb hby at_41) (teq hc41).1 (by decide) (pc' := 49) (by decide) ?_
        exact J49 i3 (by omega) (by omega)
      · refine R.ifNo X0 hx (hb hby at_41) (feq hc41).1 (pc' := 44) rfl ?_
        refine R.iload X0 hx (hb hby at_44) rfl (pc' := 46) rfl ?_
        refine R.ineg X0 hx (hb hby at_46) (pc' := 47) rfl ?_
        generalize hi120 : (-i3) = i120
        refine R.istore X0 hx (hb hby at_47) (L' := #[.val (.int p0), .val (.int p1), .val (.int p2), .val (.int p3), .val (.int (1 : Int32)), .val (.int (0 : Int32)), .val (.int i2), .val (.int i120), .unset, .unset, .unset, .unset, .unset, .unset, .unset, .unset, .unset, .unset, .unset, .unset, .unset, .unset, .unset, .unset]) rfl (pc' := 49) rfl ?_
        exact J49 i120 (by have q := own_leadn hl7; rw [hi120] at q; omega) (by have q := own_leadn hl7; rw [hi120] at q; omega)
    · refine R.iload X0 hx (hb hby at_11) rfl (pc' := 13) rfl ?_
      refine R.iconst X0 hx (hb hby at_13) (v := (1 : Int32)) (by decide) (pc' := 14) rfl ?_
      refine R.isub X0 hx (hb hby at_14) (v := (1 : Int32)) (by decide) (pc' := 15) rfl ?_
      refine R.istore X0 hx (hb hby at_15) (L' := #[.val (.int p0), .val (.int p1), .val (.int p2), .val (.int p3), .val (.int (2 : Int32)), .val (.int (1 : Int32)), .unset, .unset, .unset, .unset, .unset, .unset, .unset, .unset, .unset, .unset, .unset, .unset, .unset, .unset, .unset, .unset, .unset, .unset]) rfl (pc' := 17) rfl ?_
      refine R.iloadN X0 hx (hb hby at_17) rfl (pc' := 18) rfl ?_
      refine R.bipush X0 hx (hb hby at_18) (v := (8 : Int32)) (by decide) (pc' := 20) rfl ?_
      refine R.ishr X0 hx (hb hby at_20) (pc' := 21) rfl ?_
      refine R.iconst X0 hx (hb hby at_21) (v := (3 : Int32)) (by decide) (pc' := 22) rfl ?_
      refine R.iand X0 hx (hb hby at_22) rfl (pc' := 23) rfl ?_
      generalize hi121 : ((p0 >>> ((8 : Int32) &&& 31)) &&& (3 : Int32)) = i121
      refine R.istore X0 hx (hb hby at_23) (L' := #[.val (.int p0), .val (.int p1), .val (.int p2), .val (.int p3), .val (.int (2 : Int32)), .val (.int (1 : Int32)), .val (.int i121), .unset, .unset, .unset, .unset, .unset, .unset, .unset, .unset, .unset, .unset, .unset, .unset, .unset, .unset, .unset, .unset, .unset]) rfl (pc' := 25) rfl ?_
      refine R.iconst X0 hx (hb hby at_25) (v := (1 : Int32)) (by decide) (pc' := 26) rfl ?_
      refine R.iloadN X0 hx (hb hby at_26) rfl (pc' := 27) rfl ?_
      refine R.bipush X0 hx (hb hby at_27) (v := (16 : Int32)) (by decide) (pc' := 29) rfl ?_
      refine R.ishr X0 hx (hb hby at_29) (pc' := 30) rfl ?_
      refine R.iconst X0 hx (hb hby at_30) (v := (3 : Int32)) (by decide) (pc' := 31) rfl ?_
      refine R.iand X0 hx (hb hby at_31) rfl (pc' := 32) rfl ?_
      refine R.ishl X0 hx (hb hby at_32) (pc' := 33) rfl ?_
      generalize hi122 : ((1 : Int32) <<< (((p0 >>> ((16 : Int32) &&& 31)) &&& (3 : Int32)) &&& 31)) = i122
      refine R.istore X0 hx (hb hby at_33) (L' := #[.val (.int p0), .val (.int p1), .val (.int p2), .val (.int p3), .val (.int (2 : Int32)), .val (.int (1 : Int32)), .val (.int i121), .val (.int i122), .unset, .unset, .unset, .unset, .unset, .unset, .unset, .unset, .unset, .unset, .unset, .unset, .unset, .unset, .unset, .unset]) rfl (pc' := 35) rfl ?_
      have hl7 := own_lead hi122
      refine R.iloadN X0 hx (hb hby at_35) rfl (pc' := 36) rfl ?_
      refine R.bipush X0 hx (hb hby at_36) (v := (18 : Int32)) (by decide) (pc' := 38) rfl ?_
      refine R.ishr X0 hx (hb hby at_38) (pc' := 39) rfl ?_
      have J49 : ∀ (ld : Int32) (nl : ld.toInt ≠ 0) (bl : ld.toInt.natAbs ≤ 128), Rn p e below (s₁.setTop (mkF m 49 #[.val (.int p0), .val (.int p1), .val (.int p2), .val (.int p3), .val (.int (2 : Int32)), .val (.int (1 : Int32)), .val (.int i121), .val (.int ld), .unset, .unset, .unset, .unset, .unset, .unset, .unset, .unset, .unset, .unset, .unset, .unset, .unset, .unset, .unset, .unset] [])) G := by
        intro ld nl bl
        refine R.iconst X0 hx (hb hby at_49) (v := (3 : Int32)) (by decide) (pc' := 50) rfl ?_
        refine R.newP X0 hx hZ (ty := .int) rfl w_0 e0 (by decide) (cap := 3) (by decide) (by decide) (ad := "[I") (by decide) (hb hby at_50) (pc' := 52) rfl (by decide) (by decide) ?_; intro T123 h123 b123 k123 g123 X123 e123 E123 EE123 AA123
        have g_b123 : n0 ≤ b123 := Nat.le_trans Z0 (Nat.le_of_eq g123.symm)
        have sz_b123 : h0.size ≤ b123 := Nat.le_trans K0.1 (Nat.le_of_eq g123.symm)
        have K123 : Keep h0 h123 [] := K0.ext E123
        have Z123 : n0 ≤ h123.size := Nat.le_trans Z0 E123.1
        have V_b123 : Arh Z h123 b123 k123 .int (3 : Int32) [] [] (.int (0 : Int32)) := AA123
        refine R.astore X123 hx (hb hby at_52) rfl (L' := #[.val (.int p0), .val (.int p1), .val (.int p2), .val (.int p3), .val (.int (2 : Int32)), .val (.int (1 : Int32)), .val (.int i121), .val (.int ld), .val (.ref b123), .unset, .unset, .unset, .unset, .unset, .unset, .unset, .unset, .unset, .unset, .unset, .unset, .unset, .unset, .unset]) rfl (pc' := 54) rfl ?_
        refine R.aload X123 hx (hb hby at_54) rfl rfl (pc' := 56) rfl ?_
        refine R.iconst X123 hx (hb hby at_56) (v := (0 : Int32)) (by decide) (pc' := 57) rfl ?_
        refine R.iloadN X123 hx (hb hby at_57) rfl (pc' := 58) rfl ?_
        refine R.i2b X123 hx (hb hby at_58) (pc' := 59) rfl ?_
        show Rn p e below (T123.setTop (mkF m 59 #[.val (.int p0), .val (.int p1), .val (.int p2), .val (.int p3), .val (.int (2 : Int32)), .val (.int (1 : Int32)), .val (.int i121), .val (.int ld), .val (.ref b123), .unset, .unset, .unset, .unset, .unset, .unset, .unset, .unset, .unset, .unset, .unset, .unset, .unset, .unset, .unset] [(.int (p1.toInt8.toInt32)), (.int (0 : Int32)), (.ref b123)])) G
        generalize hi124 : (p1.toInt8.toInt32) = i124
        have b_i124 := own_byte hi124
        refine R.iastore X123 hx hZ e123 V_b123 (⟨by decide, by decide⟩ : ¬ (0 : Int32) < 0 ∧ (0 : Int32) < (3 : Int32)) (hb hby at_59) (pc' := 60) rfl ?_; intro T125 h125 X125 e125 W125 V125
        have V_b123 : Arh Z h125 b123 k123 .int (3 : Int32) [((0 : Int32), (.int i124))] [] (.int (0 : Int32)) := V125
        have N125 := Fr.snoc X125 N0 g_b123
        have K125 : Keep h0 h125 [] := K123.wr W125 (Or.inr sz_b123)
        have Z125 : n0 ≤ h125.size := Nat.le_trans Z123 (Keep.of_wr W125).1
        refine R.aload X125 hx (hb hby at_60) rfl rfl (pc' := 62) rfl ?_
        refine R.iconst X125 hx (hb hby at_62) (v := (1 : Int32)) (by decide) (pc' := 63) rfl ?_
        refine R.iload X125 hx (hb hby at_63) rfl (pc' := 65) rfl ?_
        refine R.iconst X125 hx (hb hby at_65) (v := (2 : Int32)) (by decide) (pc' := 66) rfl ?_
        refine R.icmpYes X125 hx (hb hby at_66) (tlt (by decide : (1 : Int32) < (2 : Int32))).1 (by decide) (pc' := 77) (by decide) ?_
        refine R.iconst X125 hx (hb hby at_77) (v := (0 : Int32)) (by decide) (pc' := 78) rfl ?_
        refine R.iastore X125 hx hZ e125 V_b123 (⟨by decide, by decide⟩ : ¬ (1 : Int32) < 0 ∧ (1 : Int32) < (3 : Int32)) (hb hby at_78) (pc' := 79) rfl ?_; intro T126 h126 X126 e126 W126 V126
        have V_b123 : Arh Z h126 b123 k123 .int (3 : Int32) [((1 : Int32), (.int (0 : Int32))), ((0 : Int32), (.int i124))] [] (.int (0 : Int32)) := V126
        have N126 := Fr.snoc X126 N125 g_b123
        have K126 : Keep h0 h126 [] := K125.wr W126 (Or.inr sz_b123)
        have Z126 : n0 ≤ h126.size := Nat.le_trans Z125 (Keep.of_wr W126).1
        refine R.aload X126 hx (hb hby at_79) rfl rfl (pc' := 81) rfl ?_
        refine R.iconst X126 hx (hb hby at_81) (v := (2 : Int32)) (by decide) (pc' := 82) rfl ?_
        refine R.iconst X126 hx (hb hby at_82) (v := (0 : Int32)) (by decide) (pc' := 83) rfl ?_
        refine R.iastore X126 hx hZ e126 V_b123 (⟨by decide, by decide⟩ : ¬ (2 : Int32) < 0 ∧ (2 : Int32) < (3 : Int32)) (hb hby at_83) (pc' := 84) rfl ?_; intro T127 h127 X127 e127 W127 V127
        have V_b123 : Arh Z h127 b123 k123 .int (3 : Int32) [((2 : Int32), (.int (0 : Int32))), ((1 : Int32), (.int (0 : Int32))), ((0 : Int32), (.int i124))] [] (.int (0 : Int32)) := V127
        have N127 := Fr.snoc X127 N126 g_b123
        have K127 : Keep h0 h127 [] := K126.wr W127 (Or.inr sz_b123)
        have Z127 : n0 ≤ h127.size := Nat.le_trans Z126 (Keep.of_wr W127).1
        refine R.aload X127 hx (hb hby at_84) rfl rfl (pc' := 86) rfl ?_
        refine R.iload X127 hx (hb hby at_86) rfl (pc' := 88) rfl ?_
        refine R.iload X127 hx (hb hby at_88) rfl (pc' := 90) rfl ?_
        refine R.iastore X127 hx hZ e127 V_b123 (⟨by decide, by decide⟩ : ¬ (1 : Int32) < 0 ∧ (1 : Int32) < (3 : Int32)) (hb hby at_90) (pc' := 91) rfl ?_; intro T128 h128 X128 e128 W128 V128
        have V_b123 : Arh Z h128 b123 k123 .int (3 : Int32) [((1 : Int32), (.int ld)), ((2 : Int32), (.int (0 : Int32))), ((1 : Int32), (.int (0 : Int32))), ((0 : Int32), (.int i124))] [] (.int (0 : Int32)) := V128
        have N128 := Fr.snoc X128 N127 g_b123
        have K128 : Keep h0 h128 [] := K127.wr W128 (Or.inr sz_b123)
        have Z128 : n0 ≤ h128.size := Nat.le_trans Z127 (Keep.of_wr W128).1
        refine R.iload X128 hx (hb hby at_91) rfl (pc' := 93) rfl ?_
        refine R.newP X128 hx hZ (ty := .double) rfl w_1 e128 (by decide) (cap := 2) (by decide) (by decide) (ad := "[D") (by decide) (hb hby at_93) (pc' := 95) rfl (by decide) (by decide) ?_; intro T129 h129 b129 k129 g129 X129 e129 E129 EE129 AA129
        have g_b129 : n0 ≤ b129 := Nat.le_trans Z128 (Nat.le_of_eq g129.symm)
        have sz_b129 : h0.size ≤ b129 := Nat.le_trans K128.1 (Nat.le_of_eq g129.symm)
        have ne_b123_b129 : b123 ≠ b129 := Nat.ne_of_lt (Nat.lt_of_lt_of_le V_b123.lt (Nat.le_of_eq g129.symm))
        have K129 : Keep h0 h129 [] := K128.ext E129
        have Z129 : n0 ≤ h129.size := Nat.le_trans Z128 E129.1
        have V_b123 := V_b123.ext E129
        have V_b129 : Arh Z h129 b129 k129 .double (2 : Int32) [] [] (.double (0 : UInt64)) := AA129
        refine R.astore X129 hx (hb hby at_95) rfl (L' := #[.val (.int p0), .val (.int p1), .val (.int p2), .val (.int p3), .val (.int (2 : Int32)), .val (.int (1 : Int32)), .val (.int i121), .val (.int ld), .val (.ref b123), .val (.ref b129), .unset, .unset, .unset, .unset, .unset, .unset, .unset, .unset, .unset, .unset, .unset, .unset, .unset, .unset]) rfl (pc' := 97) rfl ?_
        refine R.aload X129 hx (hb hby at_97) rfl rfl (pc' := 99) rfl ?_
        refine R.iconst X129 hx (hb hby at_99) (v := (0 : Int32)) (by decide) (pc' := 100) rfl ?_
        refine R.aload X129 hx (hb hby at_100) rfl rfl (pc' := 102) rfl ?_
        refine R.iconst X129 hx (hb hby at_102) (v := (0 : Int32)) (by decide) (pc' := 103) rfl ?_
        refine R.iaload X129 hx hZ e129 V_b123 (⟨by decide, by decide⟩ : ¬ (0 : Int32) < 0 ∧ (0 : Int32) < (3 : Int32)) (v := (.int i124)) (getH_miss ((⟨by decide, by decide⟩ : ¬ (0 : Int32) < 0 ∧ (0 : Int32) < (3 : Int32))).1 (by decide) (getH_miss ((⟨by decide, by decide⟩ : ¬ (0 : Int32) < 0 ∧ (0 : Int32) < (3 : Int32))).1 (by decide) (getH_miss ((⟨by decide, by decide⟩ : ¬ (0 : Int32) < 0 ∧ (0 : Int32) < (3 : Int32))).1 (by decide) (getH_hit ((⟨by decide, by decide⟩ : ¬ (0 : Int32) < 0 ∧ (0 : Int32) < (3 : Int32))).1 (rfl))))) (hb hby at_103) (pc' := 104) rfl ?_
        refine R.i2d X129 hx (hb hby at_104) (pc' := 105) rfl ?_
        refine R.dastore X129 hx hZ e129 V_b129 (⟨by decide, by decide⟩ : ¬ (0 : Int32) < 0 ∧ (0 : Int32) < (2 : Int32)) (hb hby at_105) (pc' := 106) rfl ?_; intro T130 h130 X130 e130 W130 V130
        have V_b123 := V_b123.other W130 ne_b123_b129
        have V_b129 : Arh Z h130 b129 k129 .double (2 : Int32) [((0 : Int32), (.double (FP.i2d i124)))] [] (.double (0 : UInt64)) := V130
        have N130 := Fr.snoc X130 N128 g_b129
        have K130 : Keep h0 h130 [] := K129.wr W130 (Or.inr sz_b129)
        have Z130 : n0 ≤ h130.size := Nat.le_trans Z129 (Keep.of_wr W130).1
        refine R.iload X130 hx (hb hby at_106) rfl (pc' := 108) rfl ?_
        refine R.iconst X130 hx (hb hby at_108) (v := (1 : Int32)) (by decide) (pc' := 109) rfl ?_
        refine R.icmpNo X130 hx (hb hby at_109) (tlt (by decide : (1 : Int32) < (2 : Int32))).2.2.2 (pc' := 112) rfl ?_
        refine R.aload X130 hx (hb hby at_112) rfl rfl (pc' := 114) rfl ?_
        refine R.iconst X130 hx (hb hby at_114) (v := (1 : Int32)) (by decide) (pc' := 115) rfl ?_
        refine R.aload X130 hx (hb hby at_115) rfl rfl (pc' := 117) rfl ?_
        refine R.iconst X130 hx (hb hby at_117) (v := (1 : Int32)) (by decide) (pc' := 118) rfl ?_
        refine R.iaload X130 hx hZ e130 V_b123 (⟨by decide, by decide⟩ : ¬ (1 : Int32) < 0 ∧ (1 : Int32) < (3 : Int32)) (v := (.int ld)) (getH_hit ((⟨by decide, by decide⟩ : ¬ (1 : Int32) < 0 ∧ (1 : Int32) < (3 : Int32))).1 (rfl)) (hb hby at_118) (pc' := 119) rfl ?_
        refine R.i2d X130 hx (hb hby at_119) (pc' := 120) rfl ?_
        refine R.dastore X130 hx hZ e130 V_b129 (⟨by decide, by decide⟩ : ¬ (1 : Int32) < 0 ∧ (1 : Int32) < (2 : Int32)) (hb hby at_120) (pc' := 121) rfl ?_; intro T131 h131 X131 e131 W131 V131
        have V_b123 := V_b123.other W131 ne_b123_b129
        have V_b129 : Arh Z h131 b129 k129 .double (2 : Int32) [((1 : Int32), (.double (FP.i2d ld))), ((0 : Int32), (.double (FP.i2d i124)))] [] (.double (0 : UInt64)) := V131
        have N131 := Fr.snoc X131 N130 g_b129
        have K131 : Keep h0 h131 [] := K130.wr W131 (Or.inr sz_b129)
        have Z131 : n0 ≤ h131.size := Nat.le_trans Z130 (Keep.of_wr W131).1
        refine R.iload X131 hx (hb hby at_121) rfl (pc' := 123) rfl ?_
        refine R.iconst X131 hx (hb hby at_123) (v := (2 : Int32)) (by decide) (pc' := 124) rfl ?_
        refine R.icmpYes X131 hx (hb hby at_124) (flt (by decide : ¬ ((2 : Int32) < (2 : Int32)))).2.2.2 (by decide) (pc' := 136) (by decide) ?_
        refine R.iloadN X131 hx (hb hby at_136) rfl (pc' := 137) rfl ?_
        refine R.i2b X131 hx (hb hby at_137) (pc' := 138) rfl ?_
        generalize hi132 : (p3.toInt8.toInt32) = i132
        refine R.istore X131 hx (hb hby at_138) (L' := #[.val (.int p0), .val (.int p1), .val (.int p2), .val (.int p3), .val (.int (2 : Int32)), .val (.int (1 : Int32)), .val (.int i121), .val (.int ld), .val (.ref b123), .val (.ref b129), .val (.int i132), .unset, .unset, .unset, .unset, .unset, .unset, .unset, .unset, .unset, .unset, .unset, .unset, .unset]) rfl (pc' := 140) rfl ?_
        refine R.iloadN X131 hx (hb hby at_140) rfl (pc' := 141) rfl ?_
        refine R.bipush X131 hx (hb hby at_141) (v := (8 : Int32)) (by decide) (pc' := 143) rfl ?_
        refine R.ishr X131 hx (hb hby at_143) (pc' := 144) rfl ?_
        refine R.i2b X131 hx (hb hby at_144) (pc' := 145) rfl ?_
        generalize hi133 : ((p3 >>> ((8 : Int32) &&& 31)).toInt8.toInt32) = i133
        refine R.istore X131 hx (hb hby at_145) (L' := #[.val (.int p0), .val (.int p1), .val (.int p2), .val (.int p3), .val (.int (2 : Int32)), .val (.int (1 : Int32)), .val (.int i121), .val (.int ld), .val (.ref b123), .val (.ref b129), .val (.int i132), .val (.int i133), .unset, .unset, .unset, .unset, .unset, .unset, .unset, .unset, .unset, .unset, .unset, .unset]) rfl (pc' := 147) rfl ?_
        have b_i132 := own_byte hi132
        have b_i133 := own_byte hi133
        have hq6 := own_03 hi121
        rcases hq6 with rfl | rfl | rfl | rfl
        · exact rm0_20 l Z aZ hw ws p0 p1 p2 p3 h0 n0 Bd hml hZ X131 e131 N131 K131 Z131 ld b123 b129 i124 i132 i133 k123 k129 hG V_b123 V_b129 ne_b123_b129 g_b123 g_b129 sz_b123 sz_b129 nl bl b_i132 b_i133 b_i124
        · exact rm0_21 l Z aZ hw ws p0 p1 p2 p3 h0 n0 Bd hml hZ X131 e131 N131 K131 Z131 ld b123 b129 i124 i132 i133 k123 k129 hG V_b123 V_b129 ne_b123_b129 g_b123 g_b129 sz_b123 sz_b129 nl bl b_i132 b_i133 b_i124
        · exact rm0_22 l Z aZ hw ws p0 p1 p2 p3 h0 n0 Bd hml hZ X131 e131 N131 K131 Z131 ld b123 b129 i124 i132 i133 k123 k129 hG V_b123 V_b129 ne_b123_b129 g_b123 g_b129 sz_b123 sz_b129 nl bl b_i132 b_i133 b_i124
        · exact rm0_23 l Z aZ hw ws p0 p1 p2 p3 h0 n0 Bd hml hZ X131 e131 N131 K131 Z131 ld b123 b129 i124 i132 i133 k123 k129 hG V_b123 V_b129 ne_b123_b129 g_b123 g_b129 sz_b123 sz_b129 nl bl b_i132 b_i133 b_i124
      refine R.iconst X0 hx (hb hby at_39) (v := (1 : Int32)) (by decide) (pc' := 40) rfl ?_
      refine R.iand X0 hx (hb hby at_40) rfl (pc' := 41) rfl ?_
      by_cases hc41 : ((p0 >>> ((18 : Int32) &&& 31)) &&& (1 : Int32)) = (0 : Int32)
      · refine R.ifYes X0 hx (hb hby at_41) (teq hc41).1 (by decide) (pc' := 49) (by decide) ?_
        exact J49 i122 (by omega) (by omega)
      · refine R.ifNo X0 hx (hb hby at_41) (feq hc41).1 (pc' := 44) rfl ?_
        refine R.iload X0 hx (hb hby at_44) rfl (pc' := 46) rfl ?_
        refine R.ineg X0 hx (hb hby at_46) (pc' := 47) rfl ?_
        generalize hi243 : (-i122) = i243
        refine R.istore X0 hx (hb hby at_47) (L' := #[.val (.int p0), .val (.int p1), .val (.int p2), .val (.int p3), .val (.int (2 : Int32)), .val (.int (1 : Int32)), .val (.int i121), .val (.int i243), .unset, .unset, .unset, .unset, .unset, .unset, .unset, .unset, .unset, .unset, .unset, .unset, .unset, .unset, .unset, .unset]) rfl (pc' := 49) rfl ?_
        exact J49 i243 (by have q := own_leadn hl7; rw [hi243] at q; omega) (by have q := own_leadn hl7; rw [hi243] at q; omega)
    · refine R.iload X0 hx (hb hby at_11) rfl (pc' := 13) rfl ?_
      refine R.iconst X0 hx (hb hby at_13) (v := (1 : Int32)) (by decide) (pc' := 14) rfl ?_
      refine R.isub X0 hx (hb hby at_14) (v := (2 : Int32)) (by decide) (pc' := 15) rfl ?_
      refine R.istore X0 hx (hb hby at_15) (L' := #[.val (.int p0), .val (.int p1), .val (.int p2), .val (.int p3), .val (.int (3 : Int32)), .val (.int (2 : Int32)), .unset, .unset, .unset, .unset, .unset, .unset, .unset, .unset, .unset, .unset, .unset, .unset, .unset, .unset, .unset, .unset, .unset, .unset]) rfl (pc' := 17) rfl ?_
      refine R.iloadN X0 hx (hb hby at_17) rfl (pc' := 18) rfl ?_
      refine R.bipush X0 hx (hb hby at_18) (v := (8 : Int32)) (by decide) (pc' := 20) rfl ?_
      refine R.ishr X0 hx (hb hby at_20) (pc' := 21) rfl ?_
      refine R.iconst X0 hx (hb hby at_21) (v := (3 : Int32)) (by decide) (pc' := 22) rfl ?_
      refine R.iand X0 hx (hb hby at_22) rfl (pc' := 23) rfl ?_
      generalize hi244 : ((p0 >>> ((8 : Int32) &&& 31)) &&& (3 : Int32)) = i244
      refine R.istore X0 hx (hb hby at_23) (L' := #[.val (.int p0), .val (.int p1), .val (.int p2), .val (.int p3), .val (.int (3 : Int32)), .val (.int (2 : Int32)), .val (.int i244), .unset, .unset, .unset, .unset, .unset, .unset, .unset, .unset, .unset, .unset, .unset, .unset, .unset, .unset, .unset, .unset, .unset]) rfl (pc' := 25) rfl ?_
      refine R.iconst X0 hx (hb hby at_25) (v := (1 : Int32)) (by decide) (pc' := 26) rfl ?_
      refine R.iloadN X0 hx (hb hby at_26) rfl (pc' := 27) rfl ?_
      refine R.bipush X0 hx (hb hby at_27) (v := (16 : Int32)) (by decide) (pc' := 29) rfl ?_
      refine R.ishr X0 hx (hb hby at_29) (pc' := 30) rfl ?_
      refine R.iconst X0 hx (hb hby at_30) (v := (3 : Int32)) (by decide) (pc' := 31) rfl ?_
      refine R.iand X0 hx (hb hby at_31) rfl (pc' := 32) rfl ?_
      refine R.ishl X0 hx (hb hby at_32) (pc' := 33) rfl ?_
      generalize hi245 : ((1 : Int32) <<< (((p0 >>> ((16 : Int32) &&& 31)) &&& (3 : Int32)) &&& 31)) = i245
      refine R.istore X0 hx (hb hby at_33) (L' := #[.val (.int p0), .val (.int p1), .val (.int p2), .val (.int p3), .val (.int (3 : Int32)), .val (.int (2 : Int32)), .val (.int i244), .val (.int i245), .unset, .unset, .unset, .unset, .unset, .unset, .unset, .unset, .unset, .unset, .unset, .unset, .unset, .unset, .unset, .unset]) rfl (pc' := 35) rfl ?_
      have hl7 := own_lead hi245
      refine R.iloadN X0 hx (hb hby at_35) rfl (pc' := 36) rfl ?_
      refine R.bipush X0 hx (hb hby at_36) (v := (18 : Int32)) (by decide) (pc' := 38) rfl ?_
      refine R.ishr X0 hx (hb hby at_38) (pc' := 39) rfl ?_
      have J49 : ∀ (ld : Int32) (nl : ld.toInt ≠ 0) (bl : ld.toInt.natAbs ≤ 128), Rn p e below (s₁.setTop (mkF m 49 #[.val (.int p0), .val (.int p1), .val (.int p2), .val (.int p3), .val (.int (3 : Int32)), .val (.int (2 : Int32)), .val (.int i244), .val (.int ld), .unset, .unset, .unset, .unset, .unset, .unset, .unset, .unset, .unset, .unset, .unset, .unset, .unset, .unset, .unset, .unset] [])) G := by
        intro ld nl bl
        refine R.iconst X0 hx (hb hby at_49) (v := (3 : Int32)) (by decide) (pc' := 50) rfl ?_
        refine R.newP X0 hx hZ (ty := .int) rfl w_0 e0 (by decide) (cap := 3) (by decide) (by decide) (ad := "[I") (by decide) (hb hby at_50) (pc' := 52) rfl (by decide) (by decide) ?_; intro T246 h246 b246 k246 g246 X246 e246 E246 EE246 AA246
        have g_b246 : n0 ≤ b246 := Nat.le_trans Z0 (Nat.le_of_eq g246.symm)
        have sz_b246 : h0.size ≤ b246 := Nat.le_trans K0.1 (Nat.le_of_eq g246.symm)
        have K246 : Keep h0 h246 [] := K0.ext E246
        have Z246 : n0 ≤ h246.size := Nat.le_trans Z0 E246.1
        have V_b246 : Arh Z h246 b246 k246 .int (3 : Int32) [] [] (.int (0 : Int32)) := AA246
        refine R.astore X246 hx (hb hby at_52) rfl (L' := #[.val (.int p0), .val (.int p1), .val (.int p2), .val (.int p3), .val (.int (3 : Int32)), .val (.int (2 : Int32)), .val (.int i244), .val (.int ld), .val (.ref b246), .unset, .unset, .unset, .unset, .unset, .unset, .unset, .unset, .unset, .unset, .unset, .unset, .unset, .unset, .unset]) rfl (pc' := 54) rfl ?_
        refine R.aload X246 hx (hb hby at_54) rfl rfl (pc' := 56) rfl ?_
        refine R.iconst X246 hx (hb hby at_56) (v := (0 : Int32)) (by decide) (pc' := 57) rfl ?_
        refine R.iloadN X246 hx (hb hby at_57) rfl (pc' := 58) rfl ?_
        refine R.i2b X246 hx (hb hby at_58) (pc' := 59) rfl ?_
        show Rn p e below (T246.setTop (mkF m 59 #[.val (.int p0), .val (.int p1), .val (.int p2), .val (.int p3), .val (.int (3 : Int32)), .val (.int (2 : Int32)), .val (.int i244), .val (.int ld), .val (.ref b246), .unset, .unset, .unset, .unset, .unset, .unset, .unset, .unset, .unset, .unset, .unset, .unset, .unset, .unset, .unset] [(.int (p1.toInt8.toInt32)), (.int (0 : Int32)), (.ref b246)])) G
        generalize hi247 : (p1.toInt8.toInt32) = i247
        have b_i247 := own_byte hi247
        refine R.iastore X246 hx hZ e246 V_b246 (⟨by decide, by decide⟩ : ¬ (0 : Int32) < 0 ∧ (0 : Int32) < (3 : Int32)) (hb hby at_59) (pc' := 60) rfl ?_; intro T248 h248 X248 e248 W248 V248
        have V_b246 : Arh Z h248 b246 k246 .int (3 : Int32) [((0 : Int32), (.int i247))] [] (.int (0 : Int32)) := V248
        have N248 := Fr.snoc X248 N0 g_b246
        have K248 : Keep h0 h248 [] := K246.wr W248 (Or.inr sz_b246)
        have Z248 : n0 ≤ h248.size := Nat.le_trans Z246 (Keep.of_wr W248).1
        refine R.aload X248 hx (hb hby at_60) rfl rfl (pc' := 62) rfl ?_
        refine R.iconst X248 hx (hb hby at_62) (v := (1 : Int32)) (by decide) (pc' := 63) rfl ?_
        refine R.iload X248 hx (hb hby at_63) rfl (pc' := 65) rfl ?_
        refine R.iconst X248 hx (hb hby at_65) (v := (2 : Int32)) (by decide) (pc' := 66) rfl ?_
        refine R.icmpNo X248 hx (hb hby at_66) (flt (by decide : ¬ ((2 : Int32) < (2 : Int32)))).1 (pc' := 69) rfl ?_
        refine R.iloadN X248 hx (hb hby at_69) rfl (pc' := 70) rfl ?_
        refine R.bipush X248 hx (hb hby at_70) (v := (8 : Int32)) (by decide) (pc' := 72) rfl ?_
        refine R.ishr X248 hx (hb hby at_72) (pc' := 73) rfl ?_
        refine R.i2b X248 hx (hb hby at_73) (pc' := 74) rfl ?_
        show Rn p e below (T248.setTop (mkF m 74 #[.val (.int p0), .val (.int p1), .val (.int p2), .val (.int p3), .val (.int (3 : Int32)), .val (.int (2 : Int32)), .val (.int i244), .val (.int ld), .val (.ref b246), .unset, .unset, .unset, .unset, .unset, .unset, .unset, .unset, .unset, .unset, .unset, .unset, .unset, .unset, .unset] [(.int ((p1 >>> ((8 : Int32) &&& 31)).toInt8.toInt32)), (.int (1 : Int32)), (.ref b246)])) G
        generalize hi249 : ((p1 >>> ((8 : Int32) &&& 31)).toInt8.toInt32) = i249
        have b_i249 := own_byte hi249
        refine R.goto X248 hx (hb hby at_74) (by decide) (pc' := 78) (by decide) ?_
        refine R.iastore X248 hx hZ e248 V_b246 (⟨by decide, by decide⟩ : ¬ (1 : Int32) < 0 ∧ (1 : Int32) < (3 : Int32)) (hb hby at_78) (pc' := 79) rfl ?_; intro T250 h250 X250 e250 W250 V250
        have V_b246 : Arh Z h250 b246 k246 .int (3 : Int32) [((1 : Int32), (.int i249)), ((0 : Int32), (.int i247))] [] (.int (0 : Int32)) := V250
        have N250 := Fr.snoc X250 N248 g_b246
        have K250 : Keep h0 h250 [] := K248.wr W250 (Or.inr sz_b246)
        have Z250 : n0 ≤ h250.size := Nat.le_trans Z248 (Keep.of_wr W250).1
        refine R.aload X250 hx (hb hby at_79) rfl rfl (pc' := 81) rfl ?_
        refine R.iconst X250 hx (hb hby at_81) (v := (2 : Int32)) (by decide) (pc' := 82) rfl ?_
        refine R.iconst X250 hx (hb hby at_82) (v := (0 : Int32)) (by decide) (pc' := 83) rfl ?_
        refine R.iastore X250 hx hZ e250 V_b246 (⟨by decide, by decide⟩ : ¬ (2 : Int32) < 0 ∧ (2 : Int32) < (3 : Int32)) (hb hby at_83) (pc' := 84) rfl ?_; intro T251 h251 X251 e251 W251 V251
        have V_b246 : Arh Z h251 b246 k246 .int (3 : Int32) [((2 : Int32), (.int (0 : Int32))), ((1 : Int32), (.int i249)), ((0 : Int32), (.int i247))] [] (.int (0 : Int32)) := V251
        have N251 := Fr.snoc X251 N250 g_b246
        have K251 : Keep h0 h251 [] := K250.wr W251 (Or.inr sz_b246)
        have Z251 : n0 ≤ h251.size := Nat.le_trans Z250 (Keep.of_wr W251).1
        refine R.aload X251 hx (hb hby at_84) rfl rfl (pc' := 86) rfl ?_
        refine R.iload X251 hx (hb hby at_86) rfl (pc' := 88) rfl ?_
        refine R.iload X251 hx (hb hby at_88) rfl (pc' := 90) rfl ?_
        refine R.iastore X251 hx hZ e251 V_b246 (⟨by decide, by decide⟩ : ¬ (2 : Int32) < 0 ∧ (2 : Int32) < (3 : Int32)) (hb hby at_90) (pc' := 91) rfl ?_; intro T252 h252 X252 e252 W252 V252
        have V_b246 : Arh Z h252 b246 k246 .int (3 : Int32) [((2 : Int32), (.int ld)), ((2 : Int32), (.int (0 : Int32))), ((1 : Int32), (.int i249)), ((0 : Int32), (.int i247))] [] (.int (0 : Int32)) := V252
        have N252 := Fr.snoc X252 N251 g_b246
        have K252 : Keep h0 h252 [] := K251.wr W252 (Or.inr sz_b246)
        have Z252 : n0 ≤ h252.size := Nat.le_trans Z251 (Keep.of_wr W252).1
        refine R.iload X252 hx (hb hby at_91) rfl (pc' := 93) rfl ?_
        refine R.newP X252 hx hZ (ty := .double) rfl w_1 e252 (by decide) (cap := 3) (by decide) (by decide) (ad := "[D") (by decide) (hb hby at_93) (pc' := 95) rfl (by decide) (by decide) ?_; intro T253 h253 b253 k253 g253 X253 e253 E253 EE253 AA253
        have g_b253 : n0 ≤ b253 := Nat.le_trans Z252 (Nat.le_of_eq g253.symm)
        have sz_b253 : h0.size ≤ b253 := Nat.le_trans K252.1 (Nat.le_of_eq g253.symm)
        have ne_b246_b253 : b246 ≠ b253 := Nat.ne_of_lt (Nat.lt_of_lt_of_le V_b246.lt (Nat.le_of_eq g253.symm))
        have K253 : Keep h0 h253 [] := K252.ext E253
        have Z253 : n0 ≤ h253.size := Nat.le_trans Z252 E253.1
        have V_b246 := V_b246.ext E253
        have V_b253 : Arh Z h253 b253 k253 .double (3 : Int32) [] [] (.double (0 : UInt64)) := AA253
        refine R.astore X253 hx (hb hby at_95) rfl (L' := #[.val (.int p0), .val (.int p1), .val (.int p2), .val (.int p3), .val (.int (3 : Int32)), .val (.int (2 : Int32)), .val (.int i244), .val (.int ld), .val (.ref b246), .val (.ref b253), .unset, .unset, .unset, .unset, .unset, .unset, .unset, .unset, .unset, .unset, .unset, .unset, .unset, .unset]) rfl (pc' := 97) rfl ?_
        refine R.aload X253 hx (hb hby at_97) rfl rfl (pc' := 99) rfl ?_
        refine R.iconst X253 hx (hb hby at_99) (v := (0 : Int32)) (by decide) (pc' := 100) rfl ?_
        refine R.aload X253 hx (hb hby at_100) rfl rfl (pc' := 102) rfl ?_
        refine R.iconst X253 hx (hb hby at_102) (v := (0 : Int32)) (by decide) (pc' := 103) rfl ?_
        refine R.iaload X253 hx hZ e253 V_b246 (⟨by decide, by decide⟩ : ¬ (0 : Int32) < 0 ∧ (0 : Int32) < (3 : Int32)) (v := (.int i247)) (getH_miss ((⟨by decide, by decide⟩ : ¬ (0 : Int32) < 0 ∧ (0 : Int32) < (3 : Int32))).1 (by decide) (getH_miss ((⟨by decide, by decide⟩ : ¬ (0 : Int32) < 0 ∧ (0 : Int32) < (3 : Int32))).1 (by decide) (getH_miss ((⟨by decide, by decide⟩ : ¬ (0 : Int32) < 0 ∧ (0 : Int32) < (3 : Int32))).1 (by decide) (getH_hit ((⟨by decide, by decide⟩ : ¬ (0 : Int32) < 0 ∧ (0 : Int32) < (3 : Int32))).1 (rfl))))) (hb hby at_103) (pc' := 104) rfl ?_
        refine R.i2d X253 hx (hb hby at_104) (pc' := 105) rfl ?_
        refine R.dastore X253 hx hZ e253 V_b253 (⟨by decide, by decide⟩ : ¬ (0 : Int32) < 0 ∧ (0 : Int32) < (3 : Int32)) (hb hby at_105) (pc' := 106) rfl ?_; intro T254 h254 X254 e254 W254 V254
        have V_b246 := V_b246.other W254 ne_b246_b253
        have V_b253 : Arh Z h254 b253 k253 .double (3 : Int32) [((0 : Int32), (.double (FP.i2d i247)))] [] (.double (0 : UInt64)) := V254
        have N254 := Fr.snoc X254 N252 g_b253
        have K254 : Keep h0 h254 [] := K253.wr W254 (Or.inr sz_b253)
        have Z254 : n0 ≤ h254.size := Nat.le_trans Z253 (Keep.of_wr W254).1
        refine R.iload X254 hx (hb hby at_106) rfl (pc' := 108) rfl ?_
        refine R.iconst X254 hx (hb hby at_108) (v := (1 : Int32)) (by decide) (pc' := 109) rfl ?_
        refine R.icmpNo X254 hx (hb hby at_109) (tlt (by decide : (1 : Int32) < (3 : Int32))).2.2.2 (pc' := 112) rfl ?_
        refine R.aload X254 hx (hb hby at_112) rfl rfl (pc' := 114) rfl ?_
        refine R.iconst X254 hx (hb hby at_114) (v := (1 : Int32)) (by decide) (pc' := 115) rfl ?_
        refine R.aload X254 hx (hb hby at_115) rfl rfl (pc' := 117) rfl ?_
        refine R.iconst X254 hx (hb hby at_117) (v := (1 : Int32)) (by decide) (pc' := 118) rfl ?_
        refine R.iaload X254 hx hZ e254 V_b246 (⟨by decide, by decide⟩ : ¬ (1 : Int32) < 0 ∧ (1 : Int32) < (3 : Int32)) (v := (.int i249)) (getH_miss ((⟨by decide, by decide⟩ : ¬ (1 : Int32) < 0 ∧ (1 : Int32) < (3 : Int32))).1 (by decide) (getH_miss ((⟨by decide, by decide⟩ : ¬ (1 : Int32) < 0 ∧ (1 : Int32) < (3 : Int32))).1 (by decide) (getH_hit ((⟨by decide, by decide⟩ : ¬ (1 : Int32) < 0 ∧ (1 : Int32) < (3 : Int32))).1 (rfl)))) (hb hby at_118) (pc' := 119) rfl ?_
        refine R.i2d X254 hx (hb hby at_119) (pc' := 120) rfl ?_
        refine R.dastore X254 hx hZ e254 V_b253 (⟨by decide, by decide⟩ : ¬ (1 : Int32) < 0 ∧ (1 : Int32) < (3 : Int32)) (hb hby at_120) (pc' := 121) rfl ?_; intro T255 h255 X255 e255 W255 V255
        have V_b246 := V_b246.other W255 ne_b246_b253
        have V_b253 : Arh Z h255 b253 k253 .double (3 : Int32) [((1 : Int32), (.double (FP.i2d i249))), ((0 : Int32), (.double (FP.i2d i247)))] [] (.double (0 : UInt64)) := V255
        have N255 := Fr.snoc X255 N254 g_b253
        have K255 : Keep h0 h255 [] := K254.wr W255 (Or.inr sz_b253)
        have Z255 : n0 ≤ h255.size := Nat.le_trans Z254 (Keep.of_wr W255).1
        refine R.iload X255 hx (hb hby at_121) rfl (pc' := 123) rfl ?_
        refine R.iconst X255 hx (hb hby at_123) (v := (2 : Int32)) (by decide) (pc' := 124) rfl ?_
        refine R.icmpNo X255 hx (hb hby at_124) (tlt (by decide : (2 : Int32) < (3 : Int32))).2.2.2 (pc' := 127) rfl ?_
        refine R.aload X255 hx (hb hby at_127) rfl rfl (pc' := 129) rfl ?_
        refine R.iconst X255 hx (hb hby at_129) (v := (2 : Int32)) (by decide) (pc' := 130) rfl ?_
        refine R.aload X255 hx (hb hby at_130) rfl rfl (pc' := 132) rfl ?_
        refine R.iconst X255 hx (hb hby at_132) (v := (2 : Int32)) (by decide) (pc' := 133) rfl ?_
        refine R.iaload X255 hx hZ e255 V_b246 (⟨by decide, by decide⟩ : ¬ (2 : Int32) < 0 ∧ (2 : Int32) < (3 : Int32)) (v := (.int ld)) (getH_hit ((⟨by decide, by decide⟩ : ¬ (2 : Int32) < 0 ∧ (2 : Int32) < (3 : Int32))).1 (rfl)) (hb hby at_133) (pc' := 134) rfl ?_
        refine R.i2d X255 hx (hb hby at_134) (pc' := 135) rfl ?_
        refine R.dastore X255 hx hZ e255 V_b253 (⟨by decide, by decide⟩ : ¬ (2 : Int32) < 0 ∧ (2 : Int32) < (3 : Int32)) (hb hby at_135) (pc' := 136) rfl ?_; intro T256 h256 X256 e256 W256 V256
        have V_b246 := V_b246.other W256 ne_b246_b253
        have V_b253 : Arh Z h256 b253 k253 .double (3 : Int32) [((2 : Int32), (.double (FP.i2d ld))), ((1 : Int32), (.double (FP.i2d i249))), ((0 : Int32), (.double (FP.i2d i247)))] [] (.double (0 : UInt64)) := V256
        have N256 := Fr.snoc X256 N255 g_b253
        have K256 : Keep h0 h256 [] := K255.wr W256 (Or.inr sz_b253)
        have Z256 : n0 ≤ h256.size := Nat.le_trans Z255 (Keep.of_wr W256).1
        refine R.iloadN X256 hx (hb hby at_136) rfl (pc' := 137) rfl ?_
        refine R.i2b X256 hx (hb hby at_137) (pc' := 138) rfl ?_
        generalize hi257 : (p3.toInt8.toInt32) = i257
        refine R.istore X256 hx (hb hby at_138) (L' := #[.val (.int p0), .val (.int p1), .val (.int p2), .val (.int p3), .val (.int (3 : Int32)), .val (.int (2 : Int32)), .val (.int i244), .val (.int ld), .val (.ref b246), .val (.ref b253), .val (.int i257), .unset, .unset, .unset, .unset, .unset, .unset, .unset, .unset, .unset, .unset, .unset, .unset, .unset]) rfl (pc' := 140) rfl ?_
        refine R.iloadN X256 hx (hb hby at_140) rfl (pc' := 141) rfl ?_
        refine R.bipush X256 hx (hb hby at_141) (v := (8 : Int32)) (by decide) (pc' := 143) rfl ?_
        refine R.ishr X256 hx (hb hby at_143) (pc' := 144) rfl ?_
        refine R.i2b X256 hx (hb hby at_144) (pc' := 145) rfl ?_
        generalize hi258 : ((p3 >>> ((8 : Int32) &&& 31)).toInt8.toInt32) = i258
        refine R.istore X256 hx (hb hby at_145) (L' := #[.val (.int p0), .val (.int p1), .val (.int p2), .val (.int p3), .val (.int (3 : Int32)), .val (.int (2 : Int32)), .val (.int i244), .val (.int ld), .val (.ref b246), .val (.ref b253), .val (.int i257), .val (.int i258), .unset, .unset, .unset, .unset, .unset, .unset, .unset, .unset, .unset, .unset, .unset, .unset]) rfl (pc' := 147) rfl ?_
        have b_i257 := own_byte hi257
        have b_i258 := own_byte hi258
        have hq6 := own_03 hi244
        rcases hq6 with rfl | rfl | rfl | rfl
        · exact rm0_30 l Z aZ hw ws p0 p1 p2 p3 h0 n0 Bd hml hZ X256 e256 N256 K256 Z256 ld b246 b253 i247 i249 i257 i258 k246 k253 hG V_b246 V_b253 ne_b246_b253 g_b246 g_b253 sz_b246 sz_b253 nl bl b_i257 b_i258 b_i249 b_i247
        · exact rm0_31 l Z aZ hw ws p0 p1 p2 p3 h0 n0 Bd hml hZ X256 e256 N256 K256 Z256 ld b246 b253 i247 i249 i257 i258 k246 k253 hG V_b246 V_b253 ne_b246_b253 g_b246 g_b253 sz_b246 sz_b253 nl bl b_i257 b_i258 b_i249 b_i247
        · exact rm0_32 l Z aZ hw ws p0 p1 p2 p3 h0 n0 Bd hml hZ X256 e256 N256 K256 Z256 ld b246 b253 i247 i249 i257 i258 k246 k253 hG V_b246 V_b253 ne_b246_b253 g_b246 g_b253 sz_b246 sz_b253 nl bl b_i257 b_i258 b_i249 b_i247
        · exact rm0_33 l Z aZ hw ws p0 p1 p2 p3 h0 n0 Bd hml hZ X256 e256 N256 K256 Z256 ld b246 b253 i247 i249 i257 i258 k246 k253 hG V_b246 V_b253 ne_b246_b253 g_b246 g_b253 sz_b246 sz_b253 nl bl b_i257 b_i258 b_i249 b_i247
      refine R.iconst X0 hx (hb hby at_39) (v := (1 : Int32)) (by decide) (pc' := 40) rfl ?_
      refine R.iand X0 hx (hb hby at_40) rfl (pc' := 41) rfl ?_
      by_cases hc41 : ((p0 >>> ((18 : Int32) &&& 31)) &&& (1 : Int32)) = (0 : Int32)
      · refine R.ifYes X0 hx (hb hby at_41) (teq hc41).1 (by decide) (pc' := 49) (by decide) ?_
        exact J49 i245 (by omega) (by omega)
      · refine R.ifNo X0 hx (hb hby at_41) (feq hc41).1 (pc' := 44) rfl ?_
        refine R.iload X0 hx (hb hby at_44) rfl (pc' := 46) rfl ?_
        refine R.ineg X0 hx (hb hby at_46) (pc' := 47) rfl ?_
        generalize hi371 : (-i245) = i371
        refine R.istore X0 hx (hb hby at_47) (L' := #[.val (.int p0), .val (.int p1), .val (.int p2), .val (.int p3), .val (.int (3 : Int32)), .val (.int (2 : Int32)), .val (.int i244), .val (.int i371), .unset, .unset, .unset, .unset, .unset, .unset, .unset, .unset, .unset, .unset, .unset, .unset, .unset, .unset, .unset, .unset]) rfl (pc' := 49) rfl ?_
        exact J49 i371 (by have q := own_leadn hl7; rw [hi371] at q; omega) (by have q := own_leadn hl7; rw [hi371] at q; omega)
  exact (Rn.st (fun t k => castTop (ef_0 m p0 p1 p2 p3) k) first_ : Rn p e below (s₁.setTop (entryFrame m #[(.int p0), (.int p1), (.int p2), (.int p3)] maxLocals)) (Fn0 Z p0 p1 p2 p3 h0 n0 s))
set_option maxRecDepth 65536 in
set_option maxHeartbeats 40000000 in
theorem comes_1 {Post : Tables → Env → Array Value → State → Outcome → State → Prop} (hpost : ∀ tb e args s v u, (limb_1_1.after args s (.returned v) u = true ∧ limb_1_2.after args s (.returned v) u = true ∧ True) → FrameEnd s (.returned v) u (Jvm.fieldLocs frame_1_writes args s ++ Jvm.arrayLocs frame_1_arrays args s ++ Jvm.staticLocs frame_1_statics s) 24 128 → Post tb e args s (.returned v) u) :
    ArmFor flags0 classFile x code maxLocals ret World_1 tables_1 room_1 Calls_1 rest_1 Pre_1 Post := by
  intro l hfl _ _ p e ha hc hk s m args below hf hA hF happ hP
  obtain ⟨hcalls, hrest, hpre⟩ := hP
  obtain ⟨-, -, -, hnamed, -, -, -, hat⟩ := (Spec.applies_iff hf).mp happ
  obtain ⟨hg, hn⟩ := and_e (Cond.before_iff.mp (show (Jvm.Cond.and given_1 narrow_1).before args s = true from hpre))
  obtain ⟨g1, g2⟩ := and_e hg
  obtain ⟨g3, g4⟩ := and_e g2
  obtain ⟨g5, g6⟩ := and_e g4
  obtain ⟨g7, g8⟩ := and_e g6
  obtain ⟨w0, w1, w2, w3, rfl⟩ : ∃ w0 w1 w2 w3 : Value, args = #[w0, w1, w2, w3] := by
    have hs : args.size = 4 := by simpa [Cond.value, given_1] using g1
    obtain ⟨L⟩ := args
    match L, hs with
    | [w0, w1, w2, w3], _ => exact ⟨w0, w1, w2, w3, rfl⟩
  have hw := fun d (hd : d ∈ tables_1) => atoms_spec (ws := Jvm.Cond.code x code maxLocals ret :: tables_1) hat d (List.mem_cons_of_mem _ hd)
  obtain ⟨i0, ei0⟩ := is_v g3
  obtain rfl : w0 = (.int i0) := Option.some.inj ei0
  obtain ⟨i1, ei1⟩ := is_v g5
  obtain rfl : w1 = (.int i1) := Option.some.inj ei1
  obtain ⟨i2, ei2⟩ := is_v g7
  obtain rfl : w2 = (.int i2) := Option.some.inj ei2
  obtain ⟨i3, ei3⟩ := is_v g8
  obtain rfl : w3 = (.int i3) := Option.some.inj ei3
  obtain ⟨n, o, h1, h2, h3, _, L, rfl, ⟨rfl, N⟩, hq⟩ := rm0 l s _ hw tables_1 i0 i1 i2 i3 s.heap s.heap.size (Nat.le_refl _) p e ha hc hk s m _ below hf ((Spec.applies_iff_loose hf).mp happ).1 ⟨rfl, State.Warmed39.refl s, rfl⟩ trivial
  refine ⟨n, _, h1, h2, h3, hpost _ _ _ _ _ _ ⟨Cond.after_iff.mpr rfl, Cond.after_iff.mpr (eq_i res_at (Term.int_eval (1)) rfl), trivial⟩ ⟨hq.1, hq.2.1, (hq.2.2.sift fun y hy => Or.inr (N y hy)).mono (by decide) (by decide)⟩⟩
theorem main_1_1 : Claimed_1_1 := comes_1 fun _ _ _ _ _ _ h hF => ⟨h.1, hF⟩
theorem main_1_2 : Claimed_1_2 := comes_1 fun _ _ _ _ _ _ h hF => ⟨h.2.1, hF⟩
end Jvm.Pilot.@@N@@
namespace Jvm.Pilot.@@N@@
open Jvm Jvm.ClassFile Sem Op Lib Jvm.Free Jvm.Stand Jvm.Pilot.@@N@@.Jvm.D
/-! MADE BY PROGRAM (witnessworld.py) out of the Statement's table words and the real class files: 11 classes; the members and pool entries that the words name. The judged class is class 1, her method 1. -/
namespace start1
open Jvm.ClassFile
def u (s : String) : CpInfo := .utf8 (stringToUtf16 s)
/-- a pool by its gaps: so many unusable entries, then the entry; so many at the end -/
def gap : Nat → List CpInfo → List CpInfo
  | 0, r => r
  | n + 1, r => .unusable :: gap n r
def poolList (es : List (Nat × CpInfo)) (last : Nat) : List CpInfo := es.foldr (fun e r => gap e.1 (e.2 :: r)) (gap last [])
def pool (es : List (Nat × CpInfo)) (last : Nat) : Array CpInfo := ⟨poolList es last⟩
def fileOf (pool : Array CpInfo) (this : Nat) (attrs : Array Attribute := #[]) (ms : Array MethodInfo := #[]) (fl : Nat := 33) (sup : Nat := 0) (ifs : Array Nat := #[]) (fds : Array FieldInfo := #[]) : ClassFile where
  minorVersion := 0
  majorVersion := 65
  constantPool := pool
  accessFlags := fl
  thisClass := this
  superClass := sup
  interfaces := ifs
  fields := fds
  methods := ms
  attributes := attrs
def plain (name : String) (sup : Option ClassId) : Class where
  name := name
  kind := .ordinary
  loader := none
  accessFlags := 33
  super := sup
  interfaces := #[]
  cf := none
  fields := #[]
  methods := #[]
  instanceTypes := #[]
  staticTypes := #[]
  resolved := #[]
  callSites := []
  init := .initialized
  statics := none
  mirror := none

def pool0 : Array CpInfo := pool [(5, u "<init>"), (0, u "()V"), (1, .class_ 10), (1, u "java/lang/Object"), (85, u "clone"), (0, u "()Ljava/lang/Object;")] 26

def k0m0 : Method := { name := "<init>", desc := "()V", sig := { parameters := [], returnType := none }, accessFlags := 1, code := none }
def k0m1 : Method := { name := "clone", desc := "()Ljava/lang/Object;", sig := { parameters := [], returnType := some (.object "java/lang/Object") }, accessFlags := 260, code := none }
/-- java/lang/Object -/
def k0 : Class := { plain "java/lang/Object" none with
  accessFlags := 33
  interfaces := #[]
  cf := some (fileOf pool0 8 #[] #[{ accessFlags := 1, nameIndex := 5, descriptorIndex := 6, attributes := #[] }, { accessFlags := 260, nameIndex := 96, descriptorIndex := 97, attributes := #[] }] 33 0 #[] #[])
  fields := #[]
  methods := #[k0m0, k0m1]
  instanceTypes := #[]
  staticTypes := #[]
  resolved := Array.replicate 124 none
  statics := none }

def pool1 : Array CpInfo := pool [(2, .class_ 4), (1, u "java/lang/Object"), (0, u "<init>"), (0, u "()V"), (0, .methodref 8 9), (0, .class_ 10), (0, .nameAndType 11 12), (0, u "com/example/deseason/deseason/arima/Polynomials"), (0, u "quotient"), (0, u "([D[D)[D"), (0, .methodref 14 15), (0, .class_ 16), (0, .nameAndType 17 18), (0, u "com/example/deseason/deseason/arima/PolynomialsQuotientPinLaw"), (0, u "keptAt"), (0, u "([DII)Z"), (0, .methodref 14 20), (0, .nameAndType 21 22), (0, u "coef"), (0, u "([I[I[II)I"), (0, .methodref 14 24), (0, .nameAndType 25 26), (0, u "qAt"), (0, u "([DI[I)Z"), (0, .methodref 14 28), (0, .nameAndType 29 30), (0, u "at"), (0, u "([II)I"), (2, u "law"), (0, u "(IIII)Z")] 7

def k1m0 : Method := { name := "<init>", desc := "()V", sig := { parameters := [], returnType := none }, accessFlags := 2, code := none }
def k1c1 : Code := { maxStack := 4, maxLocals := 24, code := code, exceptionTable := #[], attributes := #[] }
def k1m1 : Method := { name := "law", desc := "(IIII)Z", sig := { parameters := [.int, .int, .int, .int], returnType := some .boolean }, accessFlags := 9, code := some k1c1 }
def k1c2 : Code := { maxStack := 2, maxLocals := 2, code := method_3_code, exceptionTable := #[], attributes := #[] }
def k1m2 : Method := { name := "at", desc := "([II)I", sig := { parameters := [(.array .int), .int], returnType := some .int }, accessFlags := 10, code := some k1c2 }
def k1c3 : Code := { maxStack := 5, maxLocals := 4, code := method_4_code, exceptionTable := #[], attributes := #[] }
def k1m3 : Method := { name := "coef", desc := "([I[I[II)I", sig := { parameters := [(.array .int), (.array .int), (.array .int), .int], returnType := some .int }, accessFlags := 10, code := some k1c3 }
def k1c4 : Code := { maxStack := 4, maxLocals := 3, code := method_5_code, exceptionTable := #[], attributes := #[] }
def k1m4 : Method := { name := "qAt", desc := "([DI[I)Z", sig := { parameters := [(.array .double), .int, (.array .int)], returnType := some .boolean }, accessFlags := 10, code := some k1c4 }
def k1c5 : Code := { maxStack := 4, maxLocals := 3, code := method_6_code, exceptionTable := #[], attributes := #[] }
def k1m5 : Method := { name := "keptAt", desc := "([DII)Z", sig := { parameters := [(.array .double), .int, .int], returnType := some .boolean }, accessFlags := 10, code := some k1c5 }
/-- com/example/deseason/deseason/arima/PolynomialsQuotientPinLaw -/
def k1 : Class := { plain "com/example/deseason/deseason/arima/PolynomialsQuotientPinLaw" (some 0) with
  accessFlags := 49
  interfaces := #[]
  cf := some (fileOf pool1 14 #[] #[{ accessFlags := 2, nameIndex := 5, descriptorIndex := 6, attributes := #[] }, { accessFlags := 9, nameIndex := 33, descriptorIndex := 34, attributes := #[] }, { accessFlags := 10, nameIndex := 29, descriptorIndex := 30, attributes := #[] }, { accessFlags := 10, nameIndex := 21, descriptorIndex := 22, attributes := #[] }, { accessFlags := 10, nameIndex := 25, descriptorIndex := 26, attributes := #[] }, { accessFlags := 10, nameIndex := 17, descriptorIndex := 18, attributes := #[] }] 49 2 #[] #[])
  fields := #[]
  methods := #[k1m0, k1m1, k1m2, k1m3, k1m4, k1m5]
  instanceTypes := #[]
  staticTypes := #[]
  resolved := Array.replicate 42 none
  statics := none }

def pool2 : Array CpInfo := pool [(2, .class_ 4), (1, u "java/lang/Object"), (0, u "<init>"), (0, u "()V"), (6, .methodref 14 15), (0, .class_ 16), (0, .nameAndType 17 18), (0, u "[D"), (0, u "clone"), (0, u "()Ljava/lang/Object;"), (6, .class_ 27), (1, u "com/example/deseason/deseason/arima/Polynomials"), (1, u "([D[D)[D"), (28, u "quotient")] 33

def k2m0 : Method := { name := "<init>", desc := "()V", sig := { parameters := [], returnType := none }, accessFlags := 2, code := none }
def k2c1 : Code := { maxStack := 8, maxLocals := 7, code := prog_10_method_6_code, exceptionTable := #[], attributes := #[] }
def k2m1 : Method := { name := "quotient", desc := "([D[D)[D", sig := { parameters := [(.array .double), (.array .double)], returnType := some (.array .double) }, accessFlags := 9, code := some k2c1 }
/-- com/example/deseason/deseason/arima/Polynomials -/
def k2 : Class := { plain "com/example/deseason/deseason/arima/Polynomials" (some 0) with
  accessFlags := 49
  interfaces := #[]
  cf := some (fileOf pool2 25 #[] #[{ accessFlags := 2, nameIndex := 5, descriptorIndex := 6, attributes := #[] }, { accessFlags := 9, nameIndex := 58, descriptorIndex := 29, attributes := #[] }] 49 2 #[] #[])
  fields := #[]
  methods := #[k2m0, k2m1]
  instanceTypes := #[]
  staticTypes := #[]
  resolved := Array.replicate 92 none
  statics := none }

def pool3 : Array CpInfo := pool [(1, .class_ 2), (0, u "java/lang/Cloneable"), (0, .class_ 4), (0, u "java/lang/Object")] 2

/-- java/lang/Cloneable -/
def k3 : Class := { plain "java/lang/Cloneable" (some 0) with
  accessFlags := 1537
  interfaces := #[]
  cf := some (fileOf pool3 1 #[] #[] 1537 3 #[] #[])
  fields := #[]
  methods := #[]
  instanceTypes := #[]
  staticTypes := #[]
  resolved := Array.replicate 7 none
  statics := none }

def pool4 : Array CpInfo := pool [(1, u "java/io/Serializable"), (0, .class_ 1), (0, u "java/lang/Object"), (0, .class_ 3)] 3

/-- java/io/Serializable -/
def k4 : Class := { plain "java/io/Serializable" (some 0) with
  accessFlags := 1537
  interfaces := #[]
  cf := some (fileOf pool4 2 #[] #[] 1537 4 #[] #[])
  fields := #[]
  methods := #[]
  instanceTypes := #[]
  staticTypes := #[]
  resolved := Array.replicate 8 none
  statics := none }

/-- the primitive byte -/
def k5 : Class := { plain "byte" none with kind := .primitive 'B', accessFlags := 0x411 }
/-- [B -/
def k6 : Class := { plain "[B" (some 0) with kind := .array 5 .byte, interfaces := #[3, 4], accessFlags := 1041 }

/-- the primitive double -/
def k7 : Class := { plain "double" none with kind := .primitive 'D', accessFlags := 0x411 }
/-- [D -/
def k8 : Class := { plain "[D" (some 0) with kind := .array 7 .double, interfaces := #[3, 4], accessFlags := 1041 }

/-- the primitive int -/
def k9 : Class := { plain "int" none with kind := .primitive 'I', accessFlags := 0x411 }
/-- [I -/
def k10 : Class := { plain "[I" (some 0) with kind := .array 9 .int, interfaces := #[3, 4], accessFlags := 1041 }

def heap : Heap := #[]
def classes : Array Class := #[k0, k1, k2, k3, k4, k5, k6, k7, k8, k9, k10]
def interned : List (Array UInt16 × Addr) := []
def slotsUsed : Nat := 0
def theMethod : MethodId := ⟨1, 1⟩
def args0 : Array Value := #[.int 5, .int 5, .int 5, .int 5]
def aboutOver (below : List Frame) : State where
  vm := { classes := classes, interned := interned.toArray }
  heap := heap
  slotsUsed := slotsUsed
  threads := #[{ frames := .invoking theMethod args0 :: below }]
def below0 : List Frame := [.native { method := ⟨0, 0⟩, args := #[] }]
def about1 : State := aboutOver below0
def p0 : Program := .bare "" "" ""
def e0 : Env := launch0.env 0 0 0
theorem w_frames : about1.frames = Frame.invoking theMethod args0 :: below0 := rfl
set_option maxRecDepth 65536 in
theorem w_args : argsFit about1.vm theMethod args0 = true := by decide +kernel
set_option maxRecDepth 65536 in
theorem w_heap : heapFits about1 = true := by decide +kernel
set_option maxRecDepth 65536 in
theorem w_runnable : about1.curStatus? = some .runnable := by decide +kernel
set_option maxRecDepth 65536 in
theorem w_alone : about1.alone = true := by decide +kernel
set_option maxRecDepth 65536 in
theorem w_named : about1.methodNamed? x = some theMethod := by decide +kernel
set_option maxRecDepth 65536 in
theorem w_hears : about1.hears theMethod below0 = true := by decide +kernel
set_option maxRecDepth 65536 in
theorem w_ripe : about1.ripe theMethod args0 below0 = true := by decide +kernel
theorem w_running : about1.status = .running := rfl
set_option maxRecDepth 65536 in
theorem w_room : about1.hasRoom e0.platform room_1 = true :=
  launch0.hasRoom_least _ room_1 (by decide +kernel) (by decide +kernel) (by decide +kernel) (by decide +kernel) (by decide +kernel) (by decide +kernel)
theorem allAtoms_all (ts : List Jvm.Cond) (a : Array Jvm.Value) (st : Jvm.State) : (allAtoms ts).before a st = ts.all (fun c => c.before a st) := by
  induction ts with
  | nil => rfl
  | cons c t ih =>
    show (Jvm.Cond.and c (allAtoms t)).before a st = _
    rw [Jvm.Cond.before_and, ih, List.all_cons]
def words1 : List Jvm.Cond := Jvm.Cond.code x code maxLocals ret :: tables_1
/-- a 'code' word, met by the world's own term for the bytes: nothing is compared byte by byte -/
theorem code_word {y : MethodName} {bytes : ByteArray} {mx : Nat} {rt : Option FieldType} {a : Array Value} {s : State} {m : MethodId} {meth : Method} {c : Code} (h1 : s.methodNamed? y = some m) (h2 : s.vm.method? m = some meth) (h3 : meth.code = some c) (h4 : c.code = bytes)
    (h5 : (c.maxLocals == mx && c.exceptionTable.isEmpty && decide (c.maxStack ≤ mostOperands) && decide (meth.sig.returnType = rt) && !meth.locks && decide (parseMethodDescriptor y.desc = some meth.sig)) = true) : (Jvm.Cond.code y bytes mx rt).before a s = true := by
  simp only [Bool.and_eq_true, beq_iff_eq, Bool.not_eq_true', decide_eq_true_eq] at h5
  obtain ⟨⟨⟨⟨⟨g1, g2⟩, g3⟩, g4⟩, g5⟩, g6⟩ := h5
  simp [Cond.before, Cond.holds, Cond.value, h1, h2, h3, h4, g1, g2, g3, g4, g5, g6]
def isCode : Jvm.Cond → Bool
  | .code _ _ _ _ => true
  | _ => false
theorem all_split {L : List Jvm.Cond} {P : Jvm.Cond → Bool} (h1 : L.all (fun c => isCode c || P c) = true) (h2 : ∀ c ∈ L.filter isCode, P c = true) : L.all P = true := by
  refine List.all_eq_true.mpr fun c hc => ?_
  have h := List.all_eq_true.mp h1 c hc
  rcases Bool.eq_false_or_eq_true (isCode c) with hi | hi
  · exact h2 c (List.mem_filter.mpr ⟨hc, hi⟩)
  · simpa [hi] using h
set_option maxRecDepth 65536 in
theorem w_c0 : (Jvm.Cond.code x code maxLocals ret).before args0 about1 = true := code_word (m := ⟨1, 1⟩) (meth := k1m1) (c := k1c1) (by decide +kernel) rfl rfl rfl (by decide +kernel)
set_option maxRecDepth 65536 in
theorem w_c1 : (Jvm.Cond.code ({ cls := "com/example/deseason/deseason/arima/Polynomials", name := "quotient", desc := "([D[D)[D" } : Jvm.MethodName) prog_10_method_6_code (7 : Nat) (Option.some (Jvm.ClassFile.FieldType.array Jvm.ClassFile.FieldType.double))).before args0 about1 = true := code_word (m := ⟨2, 1⟩) (meth := k2m1) (c := k2c1) (by decide +kernel) rfl rfl rfl (by decide +kernel)
set_option maxRecDepth 65536 in
theorem w_c2 : (Jvm.Cond.code ({ cls := "com/example/deseason/deseason/arima/PolynomialsQuotientPinLaw", name := "keptAt", desc := "([DII)Z" } : Jvm.MethodName) method_6_code (3 : Nat) (Option.some Jvm.ClassFile.FieldType.boolean)).before args0 about1 = true := code_word (m := ⟨1, 5⟩) (meth := k1m5) (c := k1c5) (by decide +kernel) rfl rfl rfl (by decide +kernel)
set_option maxRecDepth 65536 in
theorem w_c3 : (Jvm.Cond.code ({ cls := "com/example/deseason/deseason/arima/PolynomialsQuotientPinLaw", name := "coef", desc := "([I[I[II)I" } : Jvm.MethodName) method_4_code (4 : Nat) (Option.some Jvm.ClassFile.FieldType.int)).before args0 about1 = true := code_word (m := ⟨1, 3⟩) (meth := k1m3) (c := k1c3) (by decide +kernel) rfl rfl rfl (by decide +kernel)
set_option maxRecDepth 65536 in
theorem w_c4 : (Jvm.Cond.code ({ cls := "com/example/deseason/deseason/arima/PolynomialsQuotientPinLaw", name := "at", desc := "([II)I" } : Jvm.MethodName) method_3_code (2 : Nat) (Option.some Jvm.ClassFile.FieldType.int)).before args0 about1 = true := code_word (m := ⟨1, 2⟩) (meth := k1m2) (c := k1c2) (by decide +kernel) rfl rfl rfl (by decide +kernel)
set_option maxRecDepth 65536 in
theorem w_c5 : (Jvm.Cond.code ({ cls := "com/example/deseason/deseason/arima/PolynomialsQuotientPinLaw", name := "qAt", desc := "([DI[I)Z" } : Jvm.MethodName) method_5_code (3 : Nat) (Option.some Jvm.ClassFile.FieldType.boolean)).before args0 about1 = true := code_word (m := ⟨1, 4⟩) (meth := k1m4) (c := k1c4) (by decide +kernel) rfl rfl rfl (by decide +kernel)
def codes1 : List Jvm.Cond := [Jvm.Cond.code x code maxLocals ret, Jvm.Cond.code ({ cls := "com/example/deseason/deseason/arima/Polynomials", name := "quotient", desc := "([D[D)[D" } : Jvm.MethodName) prog_10_method_6_code (7 : Nat) (Option.some (Jvm.ClassFile.FieldType.array Jvm.ClassFile.FieldType.double)), Jvm.Cond.code ({ cls := "com/example/deseason/deseason/arima/PolynomialsQuotientPinLaw", name := "keptAt", desc := "([DII)Z" } : Jvm.MethodName) method_6_code (3 : Nat) (Option.some Jvm.ClassFile.FieldType.boolean), Jvm.Cond.code ({ cls := "com/example/deseason/deseason/arima/PolynomialsQuotientPinLaw", name := "coef", desc := "([I[I[II)I" } : Jvm.MethodName) method_4_code (4 : Nat) (Option.some Jvm.ClassFile.FieldType.int), Jvm.Cond.code ({ cls := "com/example/deseason/deseason/arima/PolynomialsQuotientPinLaw", name := "at", desc := "([II)I" } : Jvm.MethodName) method_3_code (2 : Nat) (Option.some Jvm.ClassFile.FieldType.int), Jvm.Cond.code ({ cls := "com/example/deseason/deseason/arima/PolynomialsQuotientPinLaw", name := "qAt", desc := "([DI[I)Z" } : Jvm.MethodName) method_5_code (3 : Nat) (Option.some Jvm.ClassFile.FieldType.boolean)]
set_option maxRecDepth 65536 in
theorem codes_eq : words1.filter isCode = codes1 := rfl
theorem w_codes : ∀ c ∈ words1.filter isCode, c.before args0 about1 = true := by
  rw [codes_eq]
  intro c hc
  simp only [codes1, List.mem_cons, List.not_mem_nil, or_false] at hc
  rcases hc with rfl | rfl | rfl | rfl | rfl | rfl
  · exact w_c0
  · exact w_c1
  · exact w_c2
  · exact w_c3
  · exact w_c4
  · exact w_c5
set_option maxRecDepth 65536 in
theorem w_t1 : (words1.take 24).all (fun c => isCode c || c.before args0 about1) = true := by decide +kernel
set_option maxRecDepth 65536 in
theorem w_t2 : (words1.drop 24).all (fun c => isCode c || c.before args0 about1) = true := by decide +kernel
theorem w_tables : (allAtoms (Jvm.Cond.code x code maxLocals ret :: tables_1)).before args0 about1 = true := by
  rw [allAtoms_all]
  show words1.all (fun c => c.before args0 about1) = true
  refine all_split ?_ w_codes
  rw [← List.take_append_drop 24 words1, List.all_append, w_t1, w_t2]
  rfl
set_option maxRecDepth 65536 in
theorem w_case : (Jvm.Cond.and given_1 narrow_1).before args0 about1 = true := by decide +kernel
theorem w_applies : (headSpec (Jvm.Cond.code x code maxLocals ret :: tables_1) room_1).applies x e0.platform about1 = true :=
  (Spec.applies_iff w_frames).mpr ⟨w_running, w_runnable, w_alone, w_named, w_hears, w_ripe, w_room, w_tables⟩
theorem atStart : AtStart classFile x code maxLocals ret World_1 tables_1 room_1 Calls_1 rest_1 Pre_1 launch0 p0 e0 about1 theMethod args0 below0 :=
  ⟨lists_1, trivial, launch0.admits_env _ _ _, launch0.least_env, fairChoices_fair.cas, fairChoices_fair.clock, w_frames, w_args, w_heap, w_applies, trivial, trivial, w_case⟩
end start1
theorem witness_1 : WitnessClaimed_1 := ⟨start1.p0, start1.e0, start1.about1, start1.theMethod, start1.args0, start1.below0, start1.atStart⟩
end Jvm.Pilot.@@N@@
